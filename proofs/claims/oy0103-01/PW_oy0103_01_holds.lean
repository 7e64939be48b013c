import PyProof.Rows.All
import Wide.All
import OpenK.AllK
import Wide.FinOn
import PySem.Challenge.RW_oy0103_01
open PySem PySem.W PySem.Calls PyProof.Rows
set_option Elab.async false
set_option maxRecDepth 100000
set_option maxHeartbeats 8000000
namespace Mine
set_option synthInstance.maxSize 1 in
open_top hd for PySem.Challenge.rw_oy0103_01
local macro_rules | `(tactic| walk_at $s:str) => `(tactic| k_extra $s)
theorem off_R1 : True := by
  k_with_none
  w_top off
  exact True.intro
set_option maxHeartbeats 4000000
noncomputable abbrev KK (w : World) : Frag := hd.heap_39 w.params

def Keeps (S : List Addr) (h h' : Heap) : Prop := ∀ b o, b ∉ S → h.get? b = some o → h'.get? b = some o

theorem enter {prog : Program} {w : World} {A : Around} {s : Shared} {K : Frag} {p : Program} {loose : List Str} {mg mb : Str → Option Value} {news : List (Addr × Obj)}
    {R : Result → Shared → Prop} {name qual : Str} {params : Arguments} {body : List Stmt} {scope : Scope} {dV kV doc pm cdv ct oc : Value} {an od : Option Addr} {osl : Array (Option Value)} {f : Addr} {args : Args} {binds : List (Str × Value)}
    {g : Heap} (hg : g = hideAll s.heap (news.map (·.1))) (X : K.In g) (T : TopRead p loose mg mb g) (hn : ∀ q ∈ news, s.heap.get? q.1 = some q.2)
    (ho : K.lookup f = some ⟨oc, od, .func (fnOf name qual params body scope dV kV doc pm an cdv ct), osl⟩) (hcd : codeIn K cdv qual = true) (hroom : A.depth < recursionLimit)
    (hbind : BindsTo s (fnOf name qual params body scope dV kV doc pm an cdv ct) args binds) (hloc : ∀ y ∈ binds, scope.names.lookup y.1 = some .local)
    (h : ∀ L h₁ tk, Fr g L h₁ (fun y => binds.reverse.lookup y) → News g L h₁ news → (∀ q ∈ news, q.1 < L) →
      wpAny (model prog w) (A.deeper (envOf qual scope L f cdv)) (execs body (envOf qual scope L f cdv))
        (fun fl s' => R (.ok (.ret (match fl with | .ret v => v | _ => .none))) s') (fun _ _ => False)
        { s with heap := h₁, toks := tk })
    (hco : scope.isCoroutine = false := by rfl) (hgen : scope.isGenerator = false := by rfl) (hk : scope.kind = .function := by rfl)
    (hcell : ∀ x ∈ scope.names, x.2 ≠ .cell := by decide) : codeAny (model prog w) A (.call (.ref f) args) R s := by
  subst hg
  have X' : K.In s.heap := X.keeps fun b o e => of_hideAll _ e
  refine codeAny_call_def (fd := fnOf name qual params body scope dV kV doc pm an cdv ct) (body := body) (binds := binds) hroom (X' _ _ ho) rfl (T.nolimit.keeps fun b o e => of_hideAll _ e) (codeRec_of X' hcd) rfl hbind hcell hloc (fun h₁ hns hk₁ => ?_) hco hgen hk
  exact wpAny_mono (h s.heap.objs.size h₁ _ ⟨hns, fun b o e => hk₁ b o (of_hideAll _ e), Nat.le_of_eq (hideAll_size _ _)⟩
    (fun q hq => ⟨hk₁ _ _ (hn q hq), Nat.ne_of_lt (Heap.lt_size (hn q hq)), hideAll_none _ (List.mem_map_of_mem hq)⟩) fun q hq => Heap.lt_size (hn q hq)) (fun _ _ x => x) fun _ _ x => x.elim

/-- what < of two values gives, wherever the heap g is kept -/
def LtIs (prog : Program) (w : World) (g : Heap) (v1 v2 : Value) (b : Bool) : Prop :=
  ∀ (A : Around) (E : Value → Shared → Prop) (Q : Value → Shared → Prop) (s : Shared), (∀ b o, g.get? b = some o → s.heap.get? b = some o) → A.units < 200 →
    (∀ tk, Q (.bool b) { s with toks := tk }) → wpAny (model prog w) A (compareOp .Lt v1 v2) Q E s
theorem dpt {a b c : Nat} (h : a < b) (hc : b + 1 ≤ c) : a + 1 < c := Nat.lt_of_lt_of_le (Nat.succ_lt_succ h) hc
theorem unt {a b c : Nat} (h : a < b) (hc : b + 3 ≤ c) : a + 3 < c := Nat.lt_of_lt_of_le (Nat.add_lt_add_right h 3) hc
theorem all_gt {a b : Addr} {o : Obj} {l : List (Addr × Obj)} (h : ∀ q ∈ l, q.1 < b) (m : (a, o) ∈ l) : b ≠ a := Nat.ne_of_gt (h _ m)
theorem all_lt {a b : Addr} {o : Obj} {l : List (Addr × Obj)} (h : ∀ q ∈ l, q.1 < b) (m : (a, o) ∈ l) : a ≠ b := Nat.ne_of_lt (h _ m)
theorem ent_lt {d x : Addr} {l : List (Addr × Obj)} (h : ∀ q ∈ l, q.1 < d) (hx : d < x) : ∀ q ∈ (d, W.listOf #[] 0) :: l, q.1 < x := fun q hq => by
  rcases List.mem_cons.mp hq with rfl | hq
  · exact hx
  · exact Nat.lt_trans (h q hq) hx
/-- a while whose turn's ends stand under names -/
theorem While_q {prog : Program} {w : World} {A : Around} {E : Value → Shared → Prop} {Q : Flow → Shared → Prop} {s : Shared} {env : Env} {g : Heap} {L : Addr} {test : PySem.Expr} {body : List Stmt} {pos : Pos} {m : Str → Option Value} {news : List (Addr × Obj)} (J : Nat → (Str → Option Value) → List (Addr × Obj) → Prop) {n₀ : Nat}
    (F : Fr g L s.heap m) (N : News g L s.heap news) (hJ : J n₀ m news)
    (turn : ∀ n m₁ news₁ h₁ tk₁ (Q1 : Flow → Shared → Prop) (Q2 : Shared → Prop), Fr g L h₁ m₁ → News g L h₁ news₁ → J n m₁ news₁ →
      (∀ f h' tk m₂ news₂ n', f = .next ∨ f = .cont → Fr g L h' m₂ → News g L h' news₂ → n' < n → J n' m₂ news₂ → Q1 f { s with heap := h', toks := tk }) → (∀ s₃, Q .next s₃ → Q1 .brk s₃) → (∀ v s₃, Q (.ret v) s₃ → Q1 (.ret v) s₃) → (∀ s₃, Q .next s₃ → Q2 s₃) →
      wpAny (model prog w) A (isTrue test env (eval test env)) (fun b s₂ => if b = true then wpAny (model prog w) A (execs body env) Q1 E s₂ else Q2 s₂) E { s with heap := h₁, toks := tk₁ })
    (hE : PassesOwn (model prog w) A env E := by passes_own) :
    wpAny (model prog w) A (exec (.While test body [] pos) env) Q E s :=
  While_inv2 J F N hJ (fun n m₁ news₁ h₁ tk₁ F₁ N₁ J₁ => turn n m₁ news₁ h₁ tk₁ (WhileStep2 g L s J Q n) (Q .next) F₁ N₁ J₁
    (fun f h' tk m₂ news₂ n' hf a b c d => by rcases hf with rfl | rfl <;> exact ⟨h', tk, m₂, news₂, n', rfl, a, b, c, d⟩) (fun _ h => h) (fun _ _ h => h) fun _ h => h) hE
section
variable {prog : Program} {w : World} {A : Around} {E : Value → Shared → Prop} {s : Shared}
theorem item_get {value slice : PySem.Expr} {l : Addr} {vs : List Value} {k : Int} {u : Tok} {Q : Value → Shared → Prop}
    (hl : s.heap.IsList l vs.toArray) (h0 : 0 ≤ k) (hk : k < vs.length) (hsz : vs.length ≤ 100000) (h : Q (vs.getD k.toNat .none) s)
    (hs : subscripted slice false (.ref l) (.int k u) = operate [.ref l, .int k u] (getItem (.ref l) (.int k u)) := by with_unfolding_all rfl) :
    wpAny (model prog w) A (subscriptTail value slice (.ref l) (.int k u)) Q E s :=
  tail_any hl.typeIs slot_list_getitem.lookup (wpAny_getItem_list hl h0 (by (first | lia | omega)) (by
    rw [List.getElem?_toArray, List.getD_eq_getElem?_getD, List.getElem?_eq_getElem (by (first | lia | omega))]; rfl) h) hs
theorem item_set {h₀ : Heap} {L D : Addr} {m : Str → Option Value} {news news' : List (Addr × Obj)} {vs : List Value} {n : Nat} {k : Int} {t : Tok} {x : Value} {Q : Unit → Shared → Prop}
    (F : Fr h₀ L s.heap m) (N : News h₀ L s.heap news) (U : Upd D (W.listOf vs.toArray n) (W.listOf (vs.set k.toNat x).toArray n) news news') (h0 : 0 ≤ k) (h1 : k < vs.length) (hsz : vs.length ≤ 100000)
    (h : ∀ h', Fr h₀ L h' m → News h₀ L h' news' → Q () { s with heap := h' }) :
    wpAny (model prog w) A (setItem (.ref D) (.int k t) x) Q E s := by
  obtain ⟨pre, post, rfl, rfl, a, b⟩ := U.split
  have z := N (D, W.listOf vs.toArray n) (List.mem_append.mpr (.inr (.head _)))
  have hs : vs.toArray.size = vs.length := List.size_toArray ..
  refine ki_setAt z.1 h0 (by (first | lia | omega)) (by (first | lia | omega)) (h _ (F.change (Heap.SameBut.update ..) z.2.1 z.2.2) (ki_turn _ N a b ?_ ?_))
  · show vs.toArray.setIfInBounds k.toNat x = (vs.set k.toNat x).toArray
    apply Array.toList_inj.mp
    simp
  · simp
theorem len_L {l : Addr} {vs : List Value} {Q : Value → Shared → Prop} (hl : s.heap.IsList l vs.toArray) (hsz : vs.length ≤ 100000)
    (h : Q (.int vs.length (s.toks + 1)) { s with toks := s.toks + 1 + 1 }) : wpAny (model prog w) A (call (.builtin "len") [.ref l]) Q E s := by
  have e : vs.toArray.size = vs.length := List.size_toArray ..
  exact Calls.call_len_list hl (by rw [e]; (first | lia | omega)) (by rw [e]; exact h)
theorem lt_use {g : Heap} {v1 v2 : Value} {b : Bool} {Q : Value → Shared → Prop} (hl : LtIs prog w g v1 v2 b) (hk : ∀ b o, g.get? b = some o → s.heap.get? b = some o) (hu : A.units < 200) (h : ∀ tk, Q (.bool b) { s with toks := tk }) :
    wpAny (model prog w) A (compareOp .Lt v1 v2) Q E s := hl A E Q s hk hu h
end
theorem upd_eq {m : Str → Option Value} {y : Str} {v : Option Value} : (fun z => if z = y then v else m z) y = v := if_pos rfl
theorem upd_ne {m : Str → Option Value} {x y : Str} {v w : Option Value} (h : m x = v) (hne : x ≠ y) : (fun z => if z = y then w else m z) x = v := (if_neg hne).trans h
local macro_rules | `(tactic| k_lt $h:ident) => `(tactic| (have hAll9 := $h; replace $h := allLt_of $h; dsimp only [AllLt] at $h:ident))
local macro_rules | `(tactic| k_ne) => `(tactic| first | with_reducible assumption | (with_reducible refine Ne.symm ?_; with_reducible assumption) | (refine' all_gt ?h9 ?m9; (case h9 => with_reducible assumption); (case m9 => k_mem)) | (refine' all_lt ?h9 ?m9; (case h9 => with_reducible assumption); (case m9 => k_mem)) | (refine neN ?_; (try dsimp only); omega))
theorem lay_S1 : True := by
  k_with_none
  w_top off
  k_with "m_look" => first | with_reducible assumption | exact rfl | exact upd_eq | (refine upd_ne ?_ (by decide); walk_at "m_look")
  k_with "eval Name" => (k_here; k_dflt (refine' ld ?k1 ?k2 ?_; (case k1 => k_asm); (case k2 => walk_at "m_look"); k_whole))
  k_with "subscriptTail" => (k_here; (with_reducible show wpAny _ _ (subscriptTail _ _ (Value.ref _) (Value.int _ _)) _ _ _); k_dflt (refine' item_get ?k1 ?k2 ?k3 ?k4 ?_; (case k1 => exact News.isList (by k_asm) (by k_mem)); (case k2 => omega); (case k3 => omega); (case k4 => omega); k_whole))
  k_with "setItem ref int" => (k_here; k_dflt (refine' item_set ?k1 ?k2 ?k3 ?k4 ?k5 ?k6 ?_; (case k1 => k_asm); (case k2 => k_asm); (case k3 => k_upd); (case k4 => omega); (case k5 => omega); (case k6 => omega); k_whole); intro hZz FZz NZz; (try k_sweep))
  k_with "binaryOp RShift int int" => (k_here; k_dflt (refine' wpAny_rshift1_int ?k1 ?_; (case k1 => omega); k_whole))
  k_with "no loop" => ((fail_if_success (with_reducible show wpAny _ _ (exec (Stmt.While _ _ _ _) _) _ _ _)); (fail_if_success (with_reducible show wpAny _ _ (exec (Stmt.For _ _ _ _ _) _) _ _ _)))
  k_with "go" => repeat' (first | ((with_reducible show wpAny _ _ (execs (_ :: _) _) _ _ _); (try dsimp only); walk1) | (walk_at "no loop"; walk1) | (walk_at "no loop"; dsimp only; walk1))
  exact True.intro

theorem keeps_of {h h' : Heap} {L : Addr} {m : Str → Option Value} {S : List Addr} {g : Heap} (hg : g = hideAll h S) (F : Fr g L h' m) : Keeps S h h' := fun b o hb e => F.keep b o (hg ▸ hideAll_get _ e hb)

def sd (lt : Value → Value → Bool) (x : Value) (st : Nat) (pos : Nat) (vs : List Value) : List Value :=
  if h : st < pos then
    if lt x (vs.getD ((pos - 1) / 2) .none) then sd lt x st ((pos - 1) / 2) (vs.set pos (vs.getD ((pos - 1) / 2) .none)) else vs.set pos x
  else vs.set pos x
termination_by pos
decreasing_by (first | lia | omega)

theorem siftdown_code {prog : Program} {w : World} {p : Program} {loose : List Str} {mg mb : Str → Option Value} {A : Around} {R : Result → Shared → Prop} {s : Shared} {a : Addr} {vs : List Value} {n : Nat} {st pos : Int} {t1 t2 : Tok} (lt : Value → Value → Bool)
  (X : (KK w).In (hideAll s.heap [a])) (T : TopRead p loose mg mb (hideAll s.heap [a])) (hroom : A.depth < 900) (hu : A.units < 150)
  (ha : s.heap.get? a = some (W.listOf vs.toArray n))
  (hlt : ∀ v1 ∈ vs, ∀ v2 ∈ vs, LtIs prog w (hideAll s.heap [a]) v1 v2 (lt v1 v2))
  (h0 : 0 ≤ st) (h1 : 0 ≤ pos) (h2 : pos < vs.length) (hs : vs.length ≤ 1000)
  (post : ∀ h' tk, Keeps [a] s.heap h' → h'.get? a = some (W.listOf (sd lt (vs.getD pos.toNat .none) st.toNat pos.toNat vs).toArray n) → R (.ok (.ret .none)) { s with heap := h', toks := tk }) :
  codeAny (model prog w) A (.call (.ref 105) ⟨[.ref a, .int st t1, .int pos t2], []⟩) R s := by
  obtain ⟨g, hg⟩ : ∃ g, g = hideAll s.heap [a] := ⟨_, rfl⟩
  rw [← hg] at X T hlt
  refine enter (news := [(a, W.listOf vs.toArray n)]) (K := KK w) hg X T ?_ rfl rfl (Nat.lt_of_lt_of_le hroom (by decide)) (BindsTo.of_eq rfl) (locs rfl) ?_
  · intro q hq; cases hq with | head => exact ha | tail _ h => cases h
  intro L h₁ tk F N lt0
  try dsimp only
  walk_at "go"
  (rename Fr _ _ _ _ => F2); (rename News _ _ _ _ => N2)
  refine While_q (fun k m news => ∃ (us : List Value) (q : Int), (q.toNat = k ∧ 0 ≤ q ∧ q < us.length ∧ us.length = vs.length) ∧ news = [(a, W.listOf us.toArray n)] ∧ m "heap" = some (.ref a) ∧ m "startpos" = some (.int st t1) ∧ (∃ tq, m "pos" = some (.int q tq)) ∧ m "newitem" = some (vs.getD pos.toNat .none) ∧
    (∀ v ∈ us, v ∈ vs) ∧ sd lt (vs.getD pos.toNat .none) st.toNat q.toNat us = sd lt (vs.getD pos.toNat .none) st.toNat pos.toNat vs) (n₀ := pos.toNat) F2 N2 ?_ ?_ ?_
  · exact ⟨vs, pos, ⟨rfl, h1, h2, rfl⟩, rfl, rfl, rfl, ⟨t2, rfl⟩, rfl, fun _ h => h, rfl⟩
  · intro k m3 news3 h3 tk3 Q1 Q2 F3 N3 hJ9 hn hbk hrt he
    clear F2 N2
    obtain ⟨us, q, ⟨e1, e2, e3, e4⟩, rfl, m1, m2, ⟨tq, m4⟩, m5, hm, hsd⟩ := hJ9
    walk_at "go"
    · (rename Fr _ _ _ _ => F4); (rename News _ _ _ _ => N4)
      have hmem : vs.getD pos.toNat .none ∈ vs := by
        rw [List.getD_eq_getElem?_getD, List.getElem?_eq_getElem (by (first | lia | omega))]; exact List.getElem_mem _
      have hmem2 : us.getD ((q - 1) / 2).toNat .none ∈ us := by
        rw [List.getD_eq_getElem?_getD, List.getElem?_eq_getElem (by (first | lia | omega))]; exact List.getElem_mem _
      refine lt_use (hlt _ hmem _ (hm _ hmem2)) F4.keep (unt (a := A.units) hu (by decide)) ?_
      intro tk5
      cases hb : lt (vs.getD pos.toNat Value.none) (us.getD ((q - 1) / 2).toNat Value.none)
      · walk_at "go"
        refine hbk _ ?_
        try dsimp only
        walk_at "go"
        (rename Fr _ _ _ _ => F6); (rename News _ _ _ _ => N6)
        refine post _ _ (keeps_of hg F6) ?_
        rw [← hsd, sd, dif_pos (by (first | lia | omega)), show (q.toNat - 1) / 2 = ((q - 1) / 2).toNat by (first | lia | omega), hb]
        exact (N6 _ (.head _)).1
      · walk_at "go"
        (rename Fr _ _ _ _ => F6); (rename News _ _ _ _ => N6)
        have hl : (us.set q.toNat (us.getD ((q - 1) / 2).toNat .none)).length = us.length := List.length_set
        refine hn _ _ _ _ _ ((q - 1) / 2).toNat (by first | exact .inl rfl | exact .inr rfl) F6 N6 (by (first | lia | omega)) ⟨us.set q.toNat (us.getD ((q - 1) / 2).toNat .none), (q - 1) / 2, ⟨rfl, by (first | lia | omega), by rw [hl]; (first | lia | omega), by rw [hl]; exact e4⟩, rfl, by walk_at "m_look", by walk_at "m_look", ⟨_, by walk_at "m_look"⟩, by walk_at "m_look", fun v hv => ?_, ?_⟩
        · rcases List.mem_or_eq_of_mem_set hv with hv | rfl
          · exact hm _ hv
          · exact hm _ hmem2
        · rw [← hsd]
          conv => rhs; rw [sd, dif_pos (show st.toNat < q.toNat by (first | lia | omega)), show (q.toNat - 1) / 2 = ((q - 1) / 2).toNat by (first | lia | omega), hb]
          rfl
    · refine he _ ?_
      try dsimp only
      walk_at "go"
      (rename Fr _ _ _ _ => F6); (rename News _ _ _ _ => N6)
      refine post _ _ (keeps_of hg F6) ?_
      rw [← hsd, sd, dif_neg (by (first | lia | omega))]
      exact (N6 _ (.head _)).1
  · exact fun _ _ x => x.elim
theorem lay_S2 : True := by
  k_with_none
  w_top off
  k_with "m_look" => first | with_reducible assumption | exact rfl | exact upd_eq | (refine upd_ne ?_ (by decide); walk_at "m_look")
  k_with "eval Name" => (k_here; (with_reducible rename Fr _ _ _ _ => kFZz); with_unfolding_all refine guard_global (by rfl) ?_; k_dflt (refine' name_B kFZz ?k1 ?k2 ?k3 ?k4 ?k5 ?_; (case k1 => k_asm); (case k2 => k_asm); (case k3 => exact rfl); (case k4 => boot_fast); (case k5 => decide); k_whole))
  k_with "eval Name" => (k_here; (with_reducible rename Fr _ _ _ _ => kFZz); with_unfolding_all refine guard_global (by rfl) ?_; k_dflt (refine' name_K kFZz ?k1 ?k2 ?k3 ?_; (case k1 => k_asm); (case k2 => k_asm); (case k3 => exact rfl); k_whole))
  k_with "callWith ref" => (k_here; k_dflt (first
      | refine' callWith_K ?k1 ?k2 ?_; (case k1 => k_asm); (case k2 => exact rfl); k_whole
      | refine' callWith_K0 ?k1 ?k2 ?_; (case k1 => k_in); (case k2 => exact rfl); k_whole))
  k_with "eval Name" => (k_here; k_dflt (refine' ld ?k1 ?k2 ?_; (case k1 => k_asm); (case k2 => walk_at "m_look"); k_whole))
  k_with "subscriptTail" => (k_here; (with_reducible show wpAny _ _ (subscriptTail _ _ (Value.ref _) (Value.int _ _)) _ _ _); k_dflt (refine' item_get ?k1 ?k2 ?k3 ?k4 ?_; (case k1 => exact News.isList (by k_asm) (by k_mem)); (case k2 => omega); (case k3 => omega); (case k4 => omega); k_whole))
  k_with "setItem ref int" => (k_here; k_dflt (refine' item_set ?k1 ?k2 ?k3 ?k4 ?k5 ?k6 ?_; (case k1 => k_asm); (case k2 => k_asm); (case k3 => k_upd); (case k4 => omega); (case k5 => omega); (case k6 => omega); k_whole); intro hZz FZz NZz; (try k_sweep))
  k_with "binaryOp RShift int int" => (k_here; k_dflt (refine' wpAny_rshift1_int ?k1 ?_; (case k1 => omega); k_whole))
  k_with "call builtin:len" => (k_here; (with_reducible show wpAny _ _ (call (Value.builtin _) [Value.ref _]) _ _ _); k_dflt (refine' len_L ?k1 ?k2 ?_; (case k1 => exact News.isList (by k_asm) (by k_mem)); (case k2 => omega); k_whole))
  k_with "no loop" => ((fail_if_success (with_reducible show wpAny _ _ (exec (Stmt.While _ _ _ _) _) _ _ _)); (fail_if_success (with_reducible show wpAny _ _ (exec (Stmt.For _ _ _ _ _) _) _ _ _)); (fail_if_success (with_reducible show wpAny _ _ (call (Value.ref _) _ _) _ _ _)))
  k_with "go" => repeat' (first | ((with_reducible show wpAny _ _ (execs (_ :: _) _) _ _ _); (try dsimp only); walk1) | (walk_at "no loop"; walk1) | (walk_at "no loop"; dsimp only; walk1))
  exact True.intro
theorem LtIs.mono {prog : Program} {w : World} {g g' : Heap} {v1 v2 : Value} {b : Bool} (h : LtIs prog w g v1 v2 b) (k : ∀ b o, g.get? b = some o → g'.get? b = some o) : LtIs prog w g' v1 v2 b :=
  fun A E Q s hk hu hq => h A E Q s (fun b o e => hk b o (k b o e)) hu hq
theorem base_in {g h : Heap} {L : Addr} {m : Str → Option Value} {S : List Addr} (F : Fr g L h m) (hS : ∀ b ∈ S, g.get? b = none) : ∀ b o, g.get? b = some o → (hideAll h S).get? b = some o :=
  fun b o e => hideAll_get _ (F.keep b o e) fun hb => by rw [hS b hb] at e; cases e
theorem fr_after {g h h' : Heap} {L : Addr} {m : Str → Option Value} {S : List Addr} (F : Fr g L h m) (k : Keeps S h h') (hS : ∀ b ∈ S, b ≠ L ∧ g.get? b = none) : Fr g L h' m := by
  obtain ⟨oL, a1, a2, hL, a3⟩ := F.ns
  exact ⟨⟨oL, a1, a2, k _ _ (fun q => (hS _ q).1 rfl) hL, a3⟩, fun b o e => k _ _ (fun q => by rw [(hS _ q).2] at e; cases e) (F.keep b o e), F.above⟩
theorem hide_none {h : Heap} {S : List Addr} {a : Addr} (ha : a ∈ S) : (hideAll h S).get? a = none := hideAll_none S ha
theorem news1 {g h : Heap} {L a : Addr} {o o' : Obj} (N : News g L h [(a, o)]) {h' : Heap} (e : h'.get? a = some o') : News g L h' [(a, o')] := by
  intro q hq
  cases hq with
  | head => exact ⟨e, (N _ (.head _)).2⟩
  | tail _ h => cases h
theorem getD_mem {vs : List Value} {i : Nat} (h : i < vs.length) : vs.getD i .none ∈ vs := by
  rw [List.getD_eq_getElem?_getD, List.getElem?_eq_getElem h]; exact List.getElem_mem _

/-- the hole goes down, the smaller child up -/
def su (lt : Value → Value → Bool) (pos : Nat) (vs : List Value) : Nat × List Value :=
  if h : 2 * pos + 1 < vs.length then
    if h2 : 2 * pos + 2 < vs.length ∧ lt (vs.getD (2 * pos + 1) .none) (vs.getD (2 * pos + 2) .none) = false
    then su lt (2 * pos + 2) (vs.set pos (vs.getD (2 * pos + 2) .none))
    else su lt (2 * pos + 1) (vs.set pos (vs.getD (2 * pos + 1) .none))
  else (pos, vs)
termination_by vs.length - pos
decreasing_by all_goals (rw [List.length_set]; (first | lia | omega))

theorem su_facts (lt : Value → Value → Bool) (pos : Nat) (vs : List Value) (h : pos < vs.length) : (su lt pos vs).2.length = vs.length ∧ (su lt pos vs).1 < vs.length ∧ ∀ v ∈ (su lt pos vs).2, v ∈ vs := by
  fun_induction su lt pos vs with
  | case1 pos vs h1 h2 ih =>
    rw [List.length_set] at ih
    obtain ⟨i1, i2, i3⟩ := ih h2.1
    refine ⟨i1, i2, fun v hv => ?_⟩
    rcases List.mem_or_eq_of_mem_set (i3 v hv) with q | rfl
    · exact q
    · exact getD_mem h2.1
  | case2 pos vs h1 h2 ih =>
    rw [List.length_set] at ih
    obtain ⟨i1, i2, i3⟩ := ih h1
    refine ⟨i1, i2, fun v hv => ?_⟩
    rcases List.mem_or_eq_of_mem_set (i3 v hv) with q | rfl
    · exact q
    · exact getD_mem h1
  | case3 pos vs h1 => exact ⟨rfl, h, fun _ hv => hv⟩

def siftup (lt : Value → Value → Bool) (pos : Nat) (vs : List Value) : List Value :=
  sd lt (vs.getD pos .none) pos (su lt pos vs).1 ((su lt pos vs).2.set (su lt pos vs).1 (vs.getD pos .none))

theorem siftup_code {prog : Program} {w : World} {p : Program} {loose : List Str} {mg mb : Str → Option Value} {A : Around} {R : Result → Shared → Prop} {s : Shared} {a : Addr} {vs : List Value} {n : Nat} {pos : Int} {t2 : Tok} (lt : Value → Value → Bool)
  (X : (KK w).In (hideAll s.heap [a])) (T : TopRead p loose mg mb (hideAll s.heap [a])) (hroom : A.depth < 890) (hu : A.units < 140)
  (ha : s.heap.get? a = some (W.listOf vs.toArray n))
  (hlt : ∀ v1 ∈ vs, ∀ v2 ∈ vs, LtIs prog w (hideAll s.heap [a]) v1 v2 (lt v1 v2))
  (h1 : 0 ≤ pos) (h2 : pos < vs.length) (hs : vs.length ≤ 1000)
  (post : ∀ h' tk, Keeps [a] s.heap h' → h'.get? a = some (W.listOf (siftup lt pos.toNat vs).toArray n) → R (.ok (.ret .none)) { s with heap := h', toks := tk }) :
  codeAny (model prog w) A (.call (.ref 112) ⟨[.ref a, .int pos t2], []⟩) R s := by
  obtain ⟨g, hg⟩ : ∃ g, g = hideAll s.heap [a] := ⟨_, rfl⟩
  rw [← hg] at X T hlt
  refine enter (news := [(a, W.listOf vs.toArray n)]) (K := KK w) hg X T ?_ rfl rfl (Nat.lt_of_lt_of_le hroom (by decide)) (BindsTo.of_eq rfl) (locs rfl) ?_
  · intro q hq; cases hq with | head => exact ha | tail _ h => cases h
  intro L h₁ tk F N lt0
  try dsimp only
  walk_at "go"
  (rename Fr _ _ _ _ => F2); (rename News _ _ _ _ => N2)
  have hsf := su_facts lt pos.toNat vs (by (first | lia | omega))
  refine While_q (fun k m news => ∃ (us : List Value) (q : Int), (us.length - q.toNat = k ∧ 0 ≤ q ∧ q < us.length ∧ us.length = vs.length) ∧ news = [(a, W.listOf us.toArray n)] ∧ m "heap" = some (.ref a) ∧ (∃ t, m "startpos" = some (.int pos t)) ∧ (∃ tq, m "pos" = some (.int q tq)) ∧ m "newitem" = some (vs.getD pos.toNat .none) ∧
    (∃ t, m "endpos" = some (.int vs.length t)) ∧ (∃ t, m "childpos" = some (.int (2 * q + 1) t)) ∧ (∀ v ∈ us, v ∈ vs) ∧ su lt q.toNat us = su lt pos.toNat vs) (n₀ := vs.length - pos.toNat) F2 N2 ?_ ?_ ?_
  · exact ⟨vs, pos, ⟨rfl, h1, h2, rfl⟩, rfl, rfl, ⟨t2, rfl⟩, ⟨t2, rfl⟩, rfl, ⟨_, rfl⟩, ⟨_, rfl⟩, fun _ h => h, rfl⟩
  · intro k m3 news3 h3 tk3 Q1 Q2 F3 N3 hJ9 hn hb hr he
    clear F2 N2
    obtain ⟨us, q, ⟨e1, e2, e3, e4⟩, rfl, m1, ⟨tst, m2⟩, ⟨tq, m4⟩, m5, ⟨te, m6⟩, ⟨tc, m7⟩, hm, hsu⟩ := hJ9
    have fin : ∀ (c : Int) h' tk m', Fr g L h' m' → News g L h' [(a, W.listOf (us.set q.toNat (us.getD c.toNat .none)).toArray n)] → m' "heap" = some (.ref a) → (∃ t, m' "startpos" = some (.int pos t)) → (∃ t, m' "pos" = some (.int c t)) → m' "newitem" = some (vs.getD pos.toNat .none) →
        (∃ t, m' "endpos" = some (.int vs.length t)) → (∃ t, m' "childpos" = some (.int (2 * c + 1) t)) → q < c ∧ c < us.length → su lt c.toNat (us.set q.toNat (us.getD c.toNat .none)) = su lt q.toNat us → Q1 .next { s with heap := h', toks := tk } := by
      intro c h' tk m' F N a1 a2 a3 a4 a5 a6 lc es
      have hl : (us.set q.toNat (us.getD c.toNat .none)).length = us.length := List.length_set
      refine hn _ h' tk m' _ _ (.inl rfl) F N ?_ ⟨_, c, ⟨rfl, by (first | lia | omega), by rw [hl]; exact lc.2, by rw [hl]; exact e4⟩, rfl, a1, a2, a3, a4, a5, a6, fun v hv => ?_, es.trans hsu⟩
      · rw [hl]; (first | lia | omega)
      · rcases List.mem_or_eq_of_mem_set hv with hv | rfl
        · exact hm _ hv
        · exact hm _ (getD_mem (by (first | lia | omega)))
    walk_at "go"
    · have hi1 : us.getD (2 * q + 1).toNat .none ∈ us := getD_mem (by (first | lia | omega))
      have hi2 : us.getD (2 * q + 1 + 1).toNat .none ∈ us := getD_mem (by (first | lia | omega))
      refine lt_use (hlt _ (hm _ hi1) _ (hm _ hi2)) (Fr.keep (by with_reducible assumption)) (unt (a := A.units) hu (by decide)) ?_
      intro tk5
      cases hb : lt (us.getD (2 * q + 1).toNat .none) (us.getD (2 * q + 1 + 1).toNat .none)
      · walk_at "go"
        refine fin (2 * q + 1 + 1) _ _ _ (by with_reducible assumption) (by with_reducible assumption) (by walk_at "m_look") ⟨_, by walk_at "m_look"⟩ ⟨_, by walk_at "m_look"⟩ (by walk_at "m_look") ⟨_, by walk_at "m_look"⟩ ⟨_, by walk_at "m_look"⟩ (by (first | lia | omega)) ?_
        conv => rhs; rw [su, dif_pos (show 2 * q.toNat + 1 < us.length by (first | lia | omega)), show 2 * q.toNat + 1 = (2 * q + 1).toNat by (first | lia | omega), show 2 * q.toNat + 2 = (2 * q + 1 + 1).toNat by (first | lia | omega), dif_pos ⟨by (first | lia | omega), hb⟩]
      · walk_at "go"
        refine fin (2 * q + 1) _ _ _ (by with_reducible assumption) (by with_reducible assumption) (by walk_at "m_look") ⟨_, by walk_at "m_look"⟩ ⟨_, by walk_at "m_look"⟩ (by walk_at "m_look") ⟨_, by walk_at "m_look"⟩ ⟨_, by walk_at "m_look"⟩ (by (first | lia | omega)) ?_
        conv => rhs; rw [su, dif_pos (show 2 * q.toNat + 1 < us.length by (first | lia | omega)), show 2 * q.toNat + 1 = (2 * q + 1).toNat by (first | lia | omega), show 2 * q.toNat + 2 = (2 * q + 1 + 1).toNat by (first | lia | omega), dif_neg (fun x => by rw [hb] at x; cases x.2)]
    · refine fin (2 * q + 1) _ _ _ (by with_reducible assumption) (by with_reducible assumption) (by walk_at "m_look") ⟨_, by walk_at "m_look"⟩ ⟨_, by walk_at "m_look"⟩ (by walk_at "m_look") ⟨_, by walk_at "m_look"⟩ ⟨_, by walk_at "m_look"⟩ (by (first | lia | omega)) ?_
      conv => rhs; rw [su, dif_pos (show 2 * q.toNat + 1 < us.length by (first | lia | omega)), dif_neg (fun x => by have := x.1; (first | lia | omega))]
      rw [show 2 * q.toNat + 1 = (2 * q + 1).toNat by (first | lia | omega)]
    · refine he _ ?_
      try dsimp only
      walk_at "go"
      (rename Fr _ _ _ _ => F4); (rename News _ _ _ _ => N4)
      have hsu2 : su lt q.toNat us = (q.toNat, us) := by rw [su, dif_neg (by (first | lia | omega))]
      have ag : g.get? a = none := (N4 _ (.head _)).2.2
      have kb := base_in (S := [a]) F4 (by intro b hb; cases hb with | head => exact ag | tail _ h => cases h)
      have hmx : ∀ v ∈ us.set q.toNat (vs.getD pos.toNat .none), v ∈ vs := fun v hv => by
        rcases List.mem_or_eq_of_mem_set hv with hv | rfl
        · exact hm _ hv
        · exact getD_mem (by (first | lia | omega))
      refine wpAny_call (siftdown_code (p := p) (loose := loose) (mg := mg) (mb := mb) (n := n) lt (X.keeps kb) (T.keeps kb) (dpt (a := A.depth) hroom (by decide)) (unt (a := A.units) hu (by decide)) (N4 _ (.head _)).1 (fun v1 q1 v2 q2 => (hlt _ (hmx _ q1) _ (hmx _ q2)).mono kb) h1 e2 (by rw [List.length_set]; (first | lia | omega)) (by rw [List.length_set]; (first | lia | omega)) ?_)
      intro h5 tk5 k5 g5
      have F5 := fr_after F4 k5 (by intro b hb; cases hb with | head => exact (N4 _ (.head _)).2 | tail _ h => cases h)
      have N5 := news1 N4 g5
      clear F4 N4
      walk_at "go"
      refine post _ _ (keeps_of hg F5) ?_
      rw [g5, siftup, ← hsu, hsu2]
      dsimp only
      rw [show (us.set q.toNat (vs.getD pos.toNat Value.none)).getD q.toNat Value.none = vs.getD pos.toNat Value.none by rw [List.getD_eq_getElem?_getD, List.getElem?_set_self (by (first | lia | omega))]; rfl]
  · exact fun _ _ x => x.elim
theorem lay_L1 : True := by
  k_with_none
  w_top off
  exact True.intro
def ForStep (g : Heap) (L : Addr) (s : Shared) (J : Nat → (Str → Option Value) → List (Addr × Obj) → Prop) (R : Result → Shared → Prop) (it : Addr) (oi : Obj) (i : Nat) (f : Flow) (s₃ : Shared) : Prop :=
  match f with
  | .next | .cont => ∃ h' tk m₂ news₂, s₃ = { s with heap := h', toks := tk } ∧ Fr g L h' m₂ ∧ News g L h' ((it, oi) :: news₂) ∧ (∀ q ∈ news₂, q.1 ≠ it) ∧ J (i + 1) m₂ news₂
  | .brk => R (.ok .next) s₃
  | .ret v => R (.ok (.ret v)) s₃

/-- an iterator: its object behind i items, the items, what it reads -/
structure Iter (prog : Program) (w : World) (it : Addr) (n : Nat) (item : Nat → Tok → Value) (ItAt : Nat → Obj → Prop) (side : Heap → Prop) : Prop where
  step : ∀ (A : Around) (E : Value → Shared → Prop) (Q : Option Value → Shared → Prop) (s : Shared) (i : Nat) (o : Obj), s.heap.get? it = some o → ItAt i o → side s.heap → i < n →
    (∀ h' o' tk t, h'.get? it = some o' → ItAt (i + 1) o' → Heap.SameBut it s.heap h' → Q (some (item i t)) { s with heap := h', toks := tk }) → wpAny (model prog w) A (pyNext (.ref it)) Q E s
  fin : ∀ (A : Around) (E : Value → Shared → Prop) (Q : Option Value → Shared → Prop) (s : Shared) (o : Obj), A.handled = none → s.heap.get? it = some o → ItAt n o → side s.heap →
    (∀ h', Heap.ExtBut it s.heap h' → Q none { s with heap := h' }) → wpAny (model prog w) A (pyNext (.ref it)) Q E s

theorem iter_list (prog : Program) (w : World) (it l : Addr) (vs : List Value) : Iter prog w it vs.length (fun i _ => vs.getD i .none) (fun i o => o.cls = .type "list_iterator" ∧ o.data = .fields #[.ref l, .int i 0]) (fun h => h.IsList l vs.toArray) where
  step A E Q s i o ho hi hl hn hq := by
    refine wpAny_pyNext_list_item (i := i) (x := vs.getD i .none) ⟨o, ho, hi⟩ hl ?_ fun h' hi' hs => ?_
    · rw [List.getElem?_toArray, List.getD_eq_getElem?_getD, List.getElem?_eq_getElem hn]; rfl
    · obtain ⟨o', ho', x⟩ := hi'
      exact hq h' o' _ 0 ho' x hs
  fin A E Q s o hh ho hi hl hq := wpAny_pyNext_list_end hh ⟨o, ho, hi⟩ hl (by rw [List.getElem?_toArray, List.getElem?_eq_none (Nat.le_refl _)]) hq

theorem iter_range (prog : Program) (w : World) (it : Addr) (a c : Int) (n : Nat) : Iter prog w it n (fun i t => .int (a + i * c) t) (fun i o => o = { cls := .type "range_iterator", dict := none, data := .fields #[rawInt (a + i * c), rawInt ((n : Int) - i), rawInt c], slots := #[] }) (fun _ => True) where
  step A E Q s i o ho hi _ hn hq := by
    subst hi
    refine wpAny_pyNext_range_item ho (by (first | lia | omega)) fun h' hi' hs => ?_
    refine hq h' _ _ _ hi' ?_ hs
    have e1 : a + (i : Int) * c + c = a + ((i + 1 : Nat) : Int) * c := by rw [Int.natCast_add, Int.add_mul]; (first | lia | omega)
    have e2 : (n : Int) - i - 1 = (n : Int) - ((i + 1 : Nat) : Int) := by (first | lia | omega)
    rw [e1, e2]
  fin A E Q s o hh ho hi _ hq := by
    subst hi
    exact wpAny_pyNext_range_end hh ho (by (first | lia | omega)) hq

theorem for_any {prog : Program} {w : World} {A : Around} {s : Shared} {R : Result → Shared → Prop} {name : Str} {scope : Scope} {L a : Addr} {cd : Value} {g : Heap} {m : Str → Option Value} {news : List (Addr × Obj)}
    {x : Str} {px : Pos} {body : List Stmt} {it : Addr} {o0 : Obj} {n : Nat} {item : Nat → Tok → Value} {ItAt : Nat → Obj → Prop} {side : Heap → Prop}
    (I : Iter prog w it n item ItAt side) (J : Nat → (Str → Option Value) → List (Addr × Obj) → Prop) (hh : A.handled = none)
    (F : Fr g L s.heap m) (N : News g L s.heap ((it, o0) :: news)) (hne : ∀ q ∈ news, q.1 ≠ it) (hi : ItAt 0 o0) (hJ : J 0 m news)
    (hside : ∀ i m₁ news₁ h₁, i ≤ n → Fr g L h₁ m₁ → News g L h₁ news₁ → J i m₁ news₁ → side h₁)
    (turn : ∀ i m₁ news₁ h₁ tk₁ t oi, i < n → Fr g L h₁ (fun y => if y = x then some (item i t) else m₁ y) → News g L h₁ ((it, oi) :: news₁) → (∀ q ∈ news₁, q.1 ≠ it) → J i m₁ news₁ →
      wpAny (model prog w) A (execs body (envOf name scope L a cd)) (ForStep g L s J R it oi i) (fun _ _ => False) { s with heap := h₁, toks := tk₁ })
    (done : ∀ m₁ news₁ h₁ tk₁, Fr g L h₁ m₁ → News g L h₁ news₁ → J n m₁ news₁ → R (.ok .next) { s with heap := h₁, toks := tk₁ })
    (hk : scope.kind = .function := by rfl) (hx : (envOf name scope L a cd).kindOf x = some .local := by rfl) :
    codeAny (model prog w) A (.forLoop (.Name x px) (.ref it) body [] (envOf name scope L a cd)) R s := by
  refine codeAny_forLoop (fun k s' => ∃ i h₁ tk₁ m₁ news₁ oi, k = n - i ∧ i ≤ n ∧ s' = { s with heap := h₁, toks := tk₁ } ∧ Fr g L h₁ m₁ ∧ News g L h₁ ((it, oi) :: news₁) ∧ (∀ q ∈ news₁, q.1 ≠ it) ∧ ItAt i oi ∧ J i m₁ news₁) ?_ n ⟨0, s.heap, s.toks, m, news, o0, rfl, Nat.zero_le _, rfl, F, N, hne, hi, hJ⟩
  rintro k s' ⟨i, h₁, tk₁, m₁, news₁, oi, rfl, hin, rfl, F₁, N₁, ne₁, hi₁, J₁⟩
  have hit := (N₁ _ (.head _))
  have N₁' : News g L h₁ news₁ := fun q hq => N₁ q (.tail _ hq)
  have sd := hside i m₁ news₁ h₁ hin F₁ N₁' J₁
  rcases Nat.lt_or_ge i n with lt | ge
  · refine I.step A _ _ _ i oi hit.1 hi₁ sd lt fun h' o' tk t ho' hi' hs => ?_
    refine wpAny_assign_Name ?_
    have F₂ : Fr g L h' m₁ := F₁.change hs hit.2.1 hit.2.2
    have N₂ : News g L h' ((it, o') :: news₁) := by
      intro q hq
      rcases List.mem_cons.mp hq with rfl | hq
      · exact ⟨ho', hit.2⟩
      · exact ⟨(hs.2 q.1 (ne₁ q hq)).trans (N₁' q hq).1, (N₁' q hq).2⟩
    refine stN F₂ N₂ (fun h2 F3 N3 => ?_) hk hx
    refine wpAny_mono (turn i m₁ news₁ h2 _ t o' lt F3 N3 ne₁ J₁) (fun f s3 hf => ?_) fun _ _ x => x.elim
    cases f with
    | next =>
      obtain ⟨h4, tk4, m4, news4, rfl, F4, N4, ne4, J4⟩ := hf
      exact ⟨n - (i + 1), by (first | lia | omega), i + 1, h4, tk4, m4, news4, o', rfl, lt, rfl, F4, N4, ne4, hi', J4⟩
    | cont =>
      obtain ⟨h4, tk4, m4, news4, rfl, F4, N4, ne4, J4⟩ := hf
      exact ⟨n - (i + 1), by (first | lia | omega), i + 1, h4, tk4, m4, news4, o', rfl, lt, rfl, F4, N4, ne4, hi', J4⟩
    | brk => exact hf
    | ret v => exact hf
  · have e : i = n := by (first | lia | omega)
    subst e
    refine I.fin A _ _ _ oi hh hit.1 hi₁ sd fun h' hs => ?_
    refine wpAny_execs_nil ?_
    obtain ⟨oL, a1, a2, hL, a3⟩ := F₁.ns
    exact done m₁ news₁ h' _ ⟨⟨oL, a1, a2, hs _ _ hit.2.1.symm hL, a3⟩, fun b o e => hs b o (fun q => by rw [q, hit.2.2] at e; cases e) (F₁.keep b o e), F₁.above⟩
      (fun q hq => ⟨hs _ _ (ne₁ q hq) (N₁' q hq).1, (N₁' q hq).2⟩) J₁

section
variable {prog : Program} {w : World} {A : Around} {E : Value → Shared → Prop} {s : Shared} {h₀ : Heap} {L D : Addr} {m : Str → Option Value} {news news' : List (Addr × Obj)}
theorem append_L {vs : List Value} {n : Nat} {x : Value} {Q : Value → Shared → Prop} (F : Fr h₀ L s.heap m) (N : News h₀ L s.heap news) (U : Upd D (W.listOf vs.toArray n) (W.listOf (vs ++ [x]).toArray (n + 1)) news news')
    (hsz : vs.length ≤ 100000) (h : ∀ h', Fr h₀ L h' m → News h₀ L h' news' → Q .none { s with heap := h' }) : wpAny (model prog w) A (call (.builtin "list.append") [.ref D, x]) Q E s := by
  have e : (vs ++ [x]).toArray = vs.toArray.push x := by simp
  rw [e] at U
  exact append_K F N U h (by rw [List.size_toArray, sizeLine_eq]; (first | lia | omega))
theorem pop_L {p : List Value} {y : Value} {n : Nat} {Q : Value → Shared → Prop} (F : Fr h₀ L s.heap m) (N : News h₀ L s.heap news) (U : Upd D (W.listOf (p ++ [y]).toArray n) (W.listOf p.toArray (n + 1)) news news')
    (hsz : p.length ≤ 100000) (h : ∀ h', Fr h₀ L h' m → News h₀ L h' news' → Q y { s with heap := h' }) : wpAny (model prog w) A (call (.builtin "list.pop") [.ref D]) Q E s := by
  have key : ∀ p : List Value, kl_last (p ++ [y]) = some (p, y) := by
    intro p
    induction p with
    | nil => rfl
    | cons a r ih => rw [List.cons_append, kl_last, ih]
  exact kl_pop F N (key p) U (by show (p ++ [y]).length ≤ _; rw [List.length_append, sizeLine_eq]; simp; (first | lia | omega)) h
end
theorem lay_S3 : True := by
  k_with_none
  w_top off
  k_with "m_look" => first | with_reducible assumption | exact rfl | exact upd_eq | (refine upd_ne ?_ (by decide); walk_at "m_look")
  k_with "eval Name" => (k_here; (with_reducible rename Fr _ _ _ _ => kFZz); with_unfolding_all refine guard_global (by rfl) ?_; k_dflt (refine' name_B kFZz ?k1 ?k2 ?k3 ?k4 ?k5 ?_; (case k1 => k_asm); (case k2 => k_asm); (case k3 => exact rfl); (case k4 => boot_fast); (case k5 => decide); k_whole))
  k_with "eval Name" => (k_here; (with_reducible rename Fr _ _ _ _ => kFZz); with_unfolding_all refine guard_global (by rfl) ?_; k_dflt (refine' name_K kFZz ?k1 ?k2 ?k3 ?_; (case k1 => k_asm); (case k2 => k_asm); (case k3 => exact rfl); k_whole))
  k_with "callWith ref" => (k_here; k_dflt (first
      | refine' callWith_K ?k1 ?k2 ?_; (case k1 => k_asm); (case k2 => exact rfl); k_whole
      | refine' callWith_K0 ?k1 ?k2 ?_; (case k1 => k_in); (case k2 => exact rfl); k_whole))
  k_with "eval Name" => (k_here; k_dflt (refine' ld ?k1 ?k2 ?_; (case k1 => k_asm); (case k2 => walk_at "m_look"); k_whole))
  k_with "subscriptTail" => (k_here; (with_reducible show wpAny _ _ (subscriptTail _ _ (Value.ref _) (Value.int _ _)) _ _ _); k_dflt (refine' item_get ?k1 ?k2 ?k3 ?k4 ?_; (case k1 => exact News.isList (by k_asm) (by k_mem)); (case k2 => omega); (case k3 => omega); (case k4 => omega); k_whole))
  k_with "setItem ref int" => (k_here; k_dflt (refine' item_set ?k1 ?k2 ?k3 ?k4 ?k5 ?k6 ?_; (case k1 => k_asm); (case k2 => k_asm); (case k3 => k_upd); (case k4 => omega); (case k5 => omega); (case k6 => omega); k_whole); intro hZz FZz NZz; (try k_sweep))
  k_with "binaryOp RShift int int" => (k_here; k_dflt (refine' wpAny_rshift1_int ?k1 ?_; (case k1 => omega); k_whole))
  k_with "call builtin:len" => (k_here; (with_reducible show wpAny _ _ (call (Value.builtin _) [Value.ref _]) _ _ _); k_dflt (refine' len_L ?k1 ?k2 ?_; (case k1 => exact News.isList (by k_asm) (by k_mem)); (case k2 => ((try simp only [List.length_append, List.length_cons, List.length_nil]); omega)); k_whole))
  k_with "call builtin:list.append" => (k_here; (with_reducible show wpAny _ _ (call (Value.builtin _) [Value.ref _, _]) _ _ _); k_dflt (refine' append_L ?k1 ?k2 ?k3 ?k4 ?_; (case k1 => k_asm); (case k2 => k_asm); (case k3 => k_upd); (case k4 => ((try simp only [List.length_append, List.length_cons, List.length_nil]); omega)); k_whole); intro hZz FZz NZz; (try k_sweep))
  k_with "call builtin:list.pop" => (k_here; (with_reducible show wpAny _ _ (call (Value.builtin _) [Value.ref _]) _ _ _); k_dflt (refine' pop_L ?k1 ?k2 ?k3 ?k4 ?_; (case k1 => k_asm); (case k2 => k_asm); (case k3 => k_upd); (case k4 => omega); k_whole); intro hZz FZz NZz; (try k_sweep))
  k_with "assign Tuple" => (k_here; (with_reducible show wpAny _ _ (assign (Expr.Tuple _ _ _) _ (Value.ref _)) _ _ _); k_dflt (refine' unpackN_ ?F ?N ?T ?k1 ?k2 ?k3 ?_; (case F => k_asm); (case N => k_asm); (case T => first | with_reducible assumption | (refine News.isTup (by k_asm) (by k_mem))); (case k1 => assumption); (case k2 => exact rfl); (case k3 => exact rfl)); intro hZz FZz NZz; (try k_sweep))
  k_with "no loop" => ((fail_if_success (with_reducible show wpAny _ _ (exec (Stmt.While _ _ _ _) _) _ _ _)); (fail_if_success (with_reducible show wpAny _ _ (exec (Stmt.For _ _ _ _ _) _) _ _ _)); (fail_if_success (with_reducible show wpAny _ _ (call (Value.ref _) _ _) _ _ _)))
  k_with "go" => repeat' (first | ((with_reducible show wpAny _ _ (execs (_ :: _) _) _ _ _); (try dsimp only); walk1) | (walk_at "no loop"; walk1) | (walk_at "no loop"; dsimp only; walk1))
  exact True.intro
theorem news_after {g h h' : Heap} {L a : Addr} {o o' : Obj} {news news' : List (Addr × Obj)} (N : News g L h news) (U : Upd a o o' news news') (k : Keeps [a] h h') (e : h'.get? a = some o') : News g L h' news' := by
  obtain ⟨pre, post, rfl, rfl, h1, h2⟩ := U.split
  intro q hq
  rcases List.mem_append.mp hq with hq | hq
  · have z := N q (List.mem_append_left _ hq)
    exact ⟨k _ _ (by simpa using h1 q hq) z.1, z.2⟩
  · rcases List.mem_cons.mp hq with rfl | hq
    · have z := N (a, o) (List.mem_append_right _ (.head _))
      exact ⟨e, z.2⟩
    · have z := N q (List.mem_append_right _ (.tail _ hq))
      exact ⟨k _ _ (by simpa using h2 q hq) z.1, z.2⟩
theorem upd_mem {a : Addr} {o o' : Obj} {news news' : List (Addr × Obj)} (U : Upd a o o' news news') : (a, o) ∈ news := by
  obtain ⟨pre, post, rfl, rfl, h1, h2⟩ := U.split
  exact List.mem_append_right _ (.head _)

section
variable {prog : Program} {w : World} {p : Program} {loose : List Str} {mg mb : Str → Option Value} {A : Around} {E : Value → Shared → Prop} {s : Shared} {g : Heap} {L a : Addr} {m : Str → Option Value} {news news' : List (Addr × Obj)} {us : List Value} {n : Nat} {Q : Value → Shared → Prop}

theorem siftdown_in {st pos : Int} {t1 t2 : Tok} (lt : Value → Value → Bool) (F : Fr g L s.heap m) (N : News g L s.heap news) (X : (KK w).In g) (T : TopRead p loose mg mb g)
    (U : Upd a (W.listOf us.toArray n) (W.listOf (sd lt (us.getD pos.toNat .none) st.toNat pos.toNat us).toArray n) news news') (hroom : A.depth < 900) (hu : A.units < 150)
    (hlt : ∀ v1 ∈ us, ∀ v2 ∈ us, LtIs prog w g v1 v2 (lt v1 v2)) (h0 : 0 ≤ st) (h1 : 0 ≤ pos) (h2 : pos < us.length) (hs : us.length ≤ 1000)
    (h : ∀ h' tk, Fr g L h' m → News g L h' news' → Q .none { s with heap := h', toks := tk }) :
    wpAny (model prog w) A (call (.ref 105) [.ref a, .int st t1, .int pos t2]) Q E s := by
  have z := N _ (upd_mem U)
  have kb := base_in (S := [a]) F (by intro b hb; cases hb with | head => exact z.2.2 | tail _ h => cases h)
  refine wpAny_call (siftdown_code (p := p) (loose := loose) (mg := mg) (mb := mb) (n := n) lt (X.keeps kb) (T.keeps kb) hroom hu z.1 (fun v1 q1 v2 q2 => (hlt _ q1 _ q2).mono kb) h0 h1 h2 hs ?_)
  intro h5 tk5 k5 g5
  exact h _ _ (fr_after F k5 (by intro b hb; cases hb with | head => exact z.2 | tail _ h => cases h)) (news_after N U k5 g5)

theorem siftup_in {pos : Int} {t2 : Tok} (lt : Value → Value → Bool) (F : Fr g L s.heap m) (N : News g L s.heap news) (X : (KK w).In g) (T : TopRead p loose mg mb g)
    (U : Upd a (W.listOf us.toArray n) (W.listOf (siftup lt pos.toNat us).toArray n) news news') (hroom : A.depth < 890) (hu : A.units < 140)
    (hlt : ∀ v1 ∈ us, ∀ v2 ∈ us, LtIs prog w g v1 v2 (lt v1 v2)) (h1 : 0 ≤ pos) (h2 : pos < us.length) (hs : us.length ≤ 1000)
    (h : ∀ h' tk, Fr g L h' m → News g L h' news' → Q .none { s with heap := h', toks := tk }) :
    wpAny (model prog w) A (call (.ref 112) [.ref a, .int pos t2]) Q E s := by
  have z := N _ (upd_mem U)
  have kb := base_in (S := [a]) F (by intro b hb; cases hb with | head => exact z.2.2 | tail _ h => cases h)
  refine wpAny_call (siftup_code (p := p) (loose := loose) (mg := mg) (mb := mb) (n := n) lt (X.keeps kb) (T.keeps kb) hroom hu z.1 (fun v1 q1 v2 q2 => (hlt _ q1 _ q2).mono kb) h1 h2 hs ?_)
  intro h5 tk5 k5 g5
  exact h _ _ (fr_after F k5 (by intro b hb; cases hb with | head => exact z.2 | tail _ h => cases h)) (news_after N U k5 g5)
end

def hpush (lt : Value → Value → Bool) (vs : List Value) (x : Value) : List Value := sd lt x 0 vs.length (vs ++ [x])

theorem heappush_code {prog : Program} {w : World} {p : Program} {loose : List Str} {mg mb : Str → Option Value} {A : Around} {R : Result → Shared → Prop} {s : Shared} {a : Addr} {vs : List Value} {n : Nat} {x : Value} (lt : Value → Value → Bool)
  (X : (KK w).In (hideAll s.heap [a])) (T : TopRead p loose mg mb (hideAll s.heap [a])) (hroom : A.depth < 880) (hu : A.units < 130)
  (ha : s.heap.get? a = some (W.listOf vs.toArray n))
  (hlt : ∀ v1 ∈ vs ++ [x], ∀ v2 ∈ vs ++ [x], LtIs prog w (hideAll s.heap [a]) v1 v2 (lt v1 v2)) (hs : vs.length ≤ 900)
  (post : ∀ h' tk, Keeps [a] s.heap h' → h'.get? a = some (W.listOf (hpush lt vs x).toArray (n + 1)) → R (.ok (.ret .none)) { s with heap := h', toks := tk }) :
  codeAny (model prog w) A (.call (.ref 70) ⟨[.ref a, x], []⟩) R s := by
  obtain ⟨g, hg⟩ : ∃ g, g = hideAll s.heap [a] := ⟨_, rfl⟩
  rw [← hg] at X T hlt
  refine enter (news := [(a, W.listOf vs.toArray n)]) (K := KK w) hg X T ?_ rfl rfl (Nat.lt_of_lt_of_le hroom (by decide)) (BindsTo.of_eq rfl) (locs rfl) ?_
  · intro q hq; cases hq with | head => exact ha | tail _ h => cases h
  intro L h₁ tk F N lt0
  try dsimp only
  walk_at "go"
  have hl : (vs ++ [x]).length = vs.length + 1 := by simp
  refine siftdown_in lt (by with_reducible assumption) (by with_reducible assumption) X T (.head (List.forall_mem_nil _)) (dpt (a := A.depth) hroom (by decide)) (unt (a := A.units) hu (by decide)) hlt (by (first | lia | omega)) (by (first | lia | omega)) (by (first | lia | omega)) (by (first | lia | omega)) ?_
  intro h' tk' F' N'
  walk_at "go"
  refine post _ _ (keeps_of hg F') ?_
  rw [(N' _ (.head _)).1, hl]
  have e : ((vs.length + 1 : Nat) - 1 : Int).toNat = vs.length := by (first | lia | omega)
  rw [hpush, e]
  simp

/-- the least and the rest -/
def hpop (lt : Value → Value → Bool) (p : List Value) (y : Value) : Value × List Value := match p with
  | [] => (y, [])
  | x :: r => (x, siftup lt 0 (y :: r))

theorem heappop_code {prog : Program} {w : World} {p : Program} {loose : List Str} {mg mb : Str → Option Value} {A : Around} {R : Result → Shared → Prop} {s : Shared} {a : Addr} {vs : List Value} {n : Nat} {y : Value} (lt : Value → Value → Bool)
  (X : (KK w).In (hideAll s.heap [a])) (T : TopRead p loose mg mb (hideAll s.heap [a])) (hroom : A.depth < 880) (hu : A.units < 130)
  (ha : s.heap.get? a = some (W.listOf (vs ++ [y]).toArray n))
  (hlt : ∀ v1 ∈ vs ++ [y], ∀ v2 ∈ vs ++ [y], LtIs prog w (hideAll s.heap [a]) v1 v2 (lt v1 v2)) (hs : vs.length ≤ 900)
  (post : ∀ h' tk, Keeps [a] s.heap h' → h'.get? a = some (W.listOf (hpop lt vs y).2.toArray (n + 1)) → R (.ok (.ret (hpop lt vs y).1)) { s with heap := h', toks := tk }) :
  codeAny (model prog w) A (.call (.ref 77) ⟨[.ref a], []⟩) R s := by
  obtain ⟨g, hg⟩ : ∃ g, g = hideAll s.heap [a] := ⟨_, rfl⟩
  rw [← hg] at X T hlt
  refine enter (news := [(a, W.listOf (vs ++ [y]).toArray n)]) (K := KK w) hg X T ?_ rfl rfl (Nat.lt_of_lt_of_le hroom (by decide)) (BindsTo.of_eq rfl) (locs rfl) ?_
  · intro q hq; cases hq with | head => exact ha | tail _ h => cases h
  intro L h₁ tk F N lt0
  try dsimp only
  cases vs with
  | nil =>
    walk_at "go"
    (rename Fr _ _ _ _ => F'); (rename News _ _ _ _ => N')
    exact post _ _ (keeps_of hg F') (N' _ (.head _)).1
  | cons x r =>
    have hl : (x :: r).length = r.length + 1 := rfl
    walk_at "go"
    refine siftup_in lt (by with_reducible assumption) (by with_reducible assumption) X T (.head (List.forall_mem_nil _)) (dpt (a := A.depth) hroom (by decide)) (unt (a := A.units) hu (by decide)) ?_ (by (first | lia | omega)) (by rw [List.length_set]; (first | lia | omega)) (by rw [List.length_set]; (first | lia | omega)) ?_
    · have hmm : ∀ v ∈ (x :: r).set (Int.toNat 0) y, v ∈ (x :: r) ++ [y] := fun v hv => by
        rcases List.mem_or_eq_of_mem_set hv with hv | rfl
        · exact List.mem_append_left _ hv
        · exact List.mem_append_right _ (.head _)
      exact fun v1 q1 v2 q2 => hlt _ (hmm _ q1) _ (hmm _ q2)
    intro h' tk' F' N'
    walk_at "go"
    exact post _ _ (keeps_of hg F') (N' _ (.head _)).1

theorem heapreplace_code {prog : Program} {w : World} {p : Program} {loose : List Str} {mg mb : Str → Option Value} {A : Around} {R : Result → Shared → Prop} {s : Shared} {a : Addr} {vs : List Value} {n : Nat} {x y : Value} (lt : Value → Value → Bool)
  (X : (KK w).In (hideAll s.heap [a])) (T : TopRead p loose mg mb (hideAll s.heap [a])) (hroom : A.depth < 880) (hu : A.units < 130)
  (ha : s.heap.get? a = some (W.listOf (x :: vs).toArray n))
  (hlt : ∀ v1 ∈ y :: vs, ∀ v2 ∈ y :: vs, LtIs prog w (hideAll s.heap [a]) v1 v2 (lt v1 v2)) (hs : vs.length ≤ 900)
  (post : ∀ h' tk, Keeps [a] s.heap h' → h'.get? a = some (W.listOf (siftup lt 0 (y :: vs)).toArray n) → R (.ok (.ret x)) { s with heap := h', toks := tk }) :
  codeAny (model prog w) A (.call (.ref 84) ⟨[.ref a, y], []⟩) R s := by
  obtain ⟨g, hg⟩ : ∃ g, g = hideAll s.heap [a] := ⟨_, rfl⟩
  rw [← hg] at X T hlt
  refine enter (news := [(a, W.listOf (x :: vs).toArray n)]) (K := KK w) hg X T ?_ rfl rfl (Nat.lt_of_lt_of_le hroom (by decide)) (BindsTo.of_eq rfl) (locs rfl) ?_
  · intro q hq; cases hq with | head => exact ha | tail _ h => cases h
  intro L h₁ tk F N lt0
  have hl : (x :: vs).length = vs.length + 1 := rfl
  try dsimp only
  walk_at "go"
  refine siftup_in lt (by with_reducible assumption) (by with_reducible assumption) X T (.head (List.forall_mem_nil _)) (dpt (a := A.depth) hroom (by decide)) (unt (a := A.units) hu (by decide)) ?_ (by (first | lia | omega)) (by rw [List.length_set]; (first | lia | omega)) (by rw [List.length_set]; (first | lia | omega)) ?_
  · exact hlt
  intro h' tk' F' N'
  walk_at "go"
  exact post _ _ (keeps_of hg F') (N' _ (.head _)).1

def hpushpop (lt : Value → Value → Bool) (vs : List Value) (y : Value) : Value × List Value := match vs with
  | [] => (y, [])
  | x :: r => if lt x y then (x, siftup lt 0 (y :: r)) else (y, x :: r)

theorem heappushpop_code {prog : Program} {w : World} {p : Program} {loose : List Str} {mg mb : Str → Option Value} {A : Around} {R : Result → Shared → Prop} {s : Shared} {a : Addr} {vs : List Value} {n : Nat} {y : Value} (lt : Value → Value → Bool)
  (X : (KK w).In (hideAll s.heap [a])) (T : TopRead p loose mg mb (hideAll s.heap [a])) (hroom : A.depth < 880) (hu : A.units < 130) (hh : A.handled = none)
  (ha : s.heap.get? a = some (W.listOf vs.toArray n))
  (hlt : ∀ v1 ∈ y :: vs, ∀ v2 ∈ y :: vs, LtIs prog w (hideAll s.heap [a]) v1 v2 (lt v1 v2)) (hs : vs.length ≤ 900)
  (post : ∀ h' tk, Keeps [a] s.heap h' → h'.get? a = some (W.listOf (hpushpop lt vs y).2.toArray n) → R (.ok (.ret (hpushpop lt vs y).1)) { s with heap := h', toks := tk }) :
  codeAny (model prog w) A (.call (.ref 91) ⟨[.ref a, y], []⟩) R s := by
  obtain ⟨g, hg⟩ : ∃ g, g = hideAll s.heap [a] := ⟨_, rfl⟩
  rw [← hg] at X T hlt
  refine enter (news := [(a, W.listOf vs.toArray n)]) (K := KK w) hg X T ?_ rfl rfl (Nat.lt_of_lt_of_le hroom (by decide)) (BindsTo.of_eq rfl) (locs rfl) ?_
  · intro q hq; cases hq with | head => exact ha | tail _ h => cases h
  intro L h₁ tk F N lt0
  try dsimp only
  cases vs with
  | nil =>
    walk_at "go"
    (rename Fr _ _ _ _ => F'); (rename News _ _ _ _ => N')
    exact post _ _ (keeps_of hg F') (N' _ (.head _)).1
  | cons x r =>
    have hl : (x :: r).length = r.length + 1 := rfl
    walk_at "go"
    refine lt_use (hlt x (.tail _ (.head _)) y (.head _)) (Fr.keep (by with_reducible assumption)) (unt (a := A.units) hu (by decide)) ?_
    intro tk5
    cases hb : lt x y
    · walk_at "go"
      (rename Fr _ _ _ _ => F'); (rename News _ _ _ _ => N')
      rw [hpushpop, hb] at post
      exact post _ _ (keeps_of hg F') (N' _ (.head _)).1
    · walk_at "go"
      refine siftup_in lt (by with_reducible assumption) (by with_reducible assumption) X T (by k_upd) (dpt (a := A.depth) hroom (by decide)) (unt (a := A.units) hu (by decide)) ?_ (by (first | lia | omega)) (by rw [List.length_set]; (first | lia | omega)) (by rw [List.length_set]; (first | lia | omega)) ?_
      · have hmm : ∀ v ∈ (x :: r).set (Int.toNat 0) y, v ∈ y :: x :: r := fun v hv => by
          rcases List.mem_cons.mp (show v ∈ y :: r from hv) with rfl | hv
          · exact .head _
          · exact .tail _ (.tail _ hv)
        exact fun v1 q1 v2 q2 => hlt _ (hmm _ q1) _ (hmm _ q2)
      intro h' tk' F' N'
      walk_at "go"
      rw [hpushpop, hb] at post
      exact post _ _ (keeps_of hg F') (N' _ (.tail _ (.head _))).1
theorem lay_L2 : True := by
  k_with_none
  w_top off
  exact True.intro
section
variable {prog : Program} {w : World} {A : Around} {E : Value → Shared → Prop} {s : Shared}
theorem sub_ri_reversed : isSubtype (.type "range_iterator") (.type "reversed") = pure false := by rw [isSubtype_type]; kernel_rfl
abbrev rangeIt (x left step : Int) : Obj := { cls := .type "range_iterator", dict := none, data := .fields #[rawInt x, rawInt left, rawInt step], slots := #[] }

theorem rf_rule {r : Addr} {a b c : Int} {t u v : Tok} {Q : Int × Int × Int → Shared → Prop} (hr : IsRange s.heap r a b c t u v) (h : Q (a, b, c) s) : wpAny (model prog w) A (Builtin.Range.rangeFields (.ref r)) Q E s := by
  unfold Builtin.Range.rangeFields
  refine wpAny_bind (wpAny_field hr rfl (x := .int a t) rfl ?_)
  refine wpAny_bind (wpAny_of_eq (a := some a) rfl ?_)
  refine wpAny_bind (wpAny_field hr rfl (x := .int b u) rfl ?_)
  refine wpAny_bind (wpAny_of_eq (a := some b) rfl ?_)
  refine wpAny_bind (wpAny_field hr rfl (x := .int c v) rfl ?_)
  refine wpAny_bind (wpAny_of_eq (a := some c) rfl ?_)
  exact wpAny_pure h
theorem range_reversed {r : Addr} {b : Int} {t u v : Tok} {Q : Value → Shared → Prop} (hr : IsRange s.heap r 0 b 1 t u v) (h0 : 0 ≤ b) (hb : b < 100000)
    (h : Q (.ref s.heap.objs.size) { s with heap := s.heap.push (rangeIt (b - 1) b (-1)) }) : wpAny (model prog w) A (call (.builtin "range.__reversed__") [.ref r]) Q E s := by
  have hT : s.TypeIs (.ref r) "range" := ⟨_, hr, rfl⟩
  refine wpAny_call_entry F.slot_range_reversed hT F.entry_range_reversed ?_ (F.args_range_reversed_1 _)
  unfold Builtin.«range.__reversed__»
  refine wpAny_bind (wpAny_of_eq (a := Value.ref r) rfl ?_)
  refine wpAny_bind (rf_rule hr ?_)
  dsimp only
  have hn : Builtin.Range.rangeSize 0 b 1 = b := by
    unfold Builtin.Range.rangeSize
    rw [if_pos (by decide)]
    by_cases hb0 : (0 : Int) < b
    · rw [if_pos hb0]; (first | lia | omega)
    · rw [if_neg hb0]; (first | lia | omega)
  have hf : ∀ i : Int, -5 ≤ i → i ≤ 100000 → Builtin.Range.rangeFitsLong i = true := fun i h1 h2 => by
    unfold Builtin.Range.rangeFitsLong
    simp only [Bool.and_eq_true, decide_eq_true_eq]
    (first | lia | omega)
  rw [hn, hf 0 (by decide) (by decide), hf b (by (first | lia | omega)) (by (first | lia | omega)), hf 1 (by decide) (by decide), hf (-1) (by decide) (by decide), hf (0 - 1) (by decide) (by decide)]
  simp only [Bool.and_self, Bool.not_true, Bool.false_eq_true, if_false, if_true]
  refine wpAny_bind (wpAny_newObj_type (wpAny_pure ⟨_, rfl, ?_⟩))
  have e : (0 : Int) + (b - 1) * 1 = b - 1 := by (first | lia | omega)
  rw [e]
  exact h

theorem code_reversed_range {r : Addr} {b : Int} {t u v : Tok} {Q₁ : Value → Shared → Prop} (hr : IsRange s.heap r 0 b 1 t u v) (h0 : 0 ≤ b) (hb : b < 100000)
    (h : Q₁ (.ref s.heap.objs.size) { s with heap := s.heap.push (rangeIt (b - 1) b (-1)) }) :
    codeAny (model prog w) A (.call (.builtin "reversed.__new__") ⟨[.type "reversed", .ref r], []⟩) (wants Q₁ E) s := by
  have hT : s.TypeIs (.ref r) "range" := ⟨_, hr, rfl⟩
  refine codeAny_of_tree ?_
  show wpAny _ A.in1 (do checkBuiltinCall "reversed.__new__" ⟨[.type "reversed", .ref r], []⟩; again (.builtin "reversed.__new__" ⟨[.type "reversed", .ref r], []⟩)) _ _ s
  refine wpAny_bind (wpAny_of_eq (F.newCall_reversed_1 _) (wpAny_pure ⟨plainId_quiet F.plain_reversed_new _, codeAny_builtin F.entry_reversed_new ?_⟩))
  rw [Around.under_plainId F.plain_reversed_new _]
  unfold Builtin.«reversed.__new__»
  refine wpAny_bind (wpAny_of_eq (newClass_reversed _) ?_)
  try dsimp only
  refine wpAny_bind (wpAny_of_eq (a := ()) (by first | rfl | kernel_rfl) ?_)
  refine wpAny_bind (wpAny_of_eq (a := ()) (by first | rfl | kernel_rfl) ?_)
  try dsimp only
  refine wpAny_bind (wpAny_specialOf hT F.slot_range_reversed.lookup ?_)
  try dsimp only
  refine wpAny_bind (wpAny_of_eq (F.slot_range_reversed.bind _) ?_)
  try dsimp only
  first
  | rw [if_neg (show ¬ ((Value.builtin "range.__reversed__" == Value.none) = true) from Bool.false_ne_true)]
  | (show wpAny _ _ (if (Value.builtin "range.__reversed__" == Value.none) = true then _ else _) _ _ _; rw [if_neg (show ¬ ((Value.builtin "range.__reversed__" == Value.none) = true) from Bool.false_ne_true)])
  refine wpAny_bind (wpAny_rule ?_)
  refine wpAny_bind (m := runValue (.call (.builtin "range.__reversed__") ⟨[.ref r], []⟩)) (show wpAny _ _ (call (.builtin "range.__reversed__") [.ref r]) _ _ _ from range_reversed hr h0 hb ?_)
  first
  | exact wpAny_pure h
  | exact wpAny_bind (wpAny_pure (wpAny_pure h))

theorem call_reversed_range {r : Addr} {b : Int} {t u v : Tok} {Q : Value → Shared → Prop} (hr : IsRange s.heap r 0 b 1 t u v) (h0 : 0 ≤ b) (hb : b < 100000)
    (h : Q (.ref s.heap.objs.size) { s with heap := s.heap.push (rangeIt (b - 1) b (-1)) }) : wpAny (model prog w) A (call (.type "reversed") [.ref r]) Q E s := by
  refine callType_other (U := "range_iterator") (Q₁ := fun obj s₁ => obj = .ref s.heap.objs.size ∧ s₁ = { s with heap := s.heap.push (rangeIt (b - 1) b (-1)) }) (by decide +kernel) F.create_reversed ⟨_, _, F.mro_reversed⟩ F.made_reversed sub_ri_reversed (F.typeCall_reversed_1 _) (code_reversed_range hr h0 hb ⟨rfl, rfl⟩) ?_
  rintro obj s₁ ⟨rfl, rfl⟩
  exact ⟨⟨_, Heap.get?_push_size _ rfl, rfl⟩, h⟩
end

section
variable {prog : Program} {w : World} {A : Around} {E : Value → Shared → Prop} {s : Shared} {h₀ : Heap} {L D : Addr} {m : Str → Option Value} {news news' : List (Addr × Obj)}
abbrev rangeObj (a b c : Int) (t u v : Tok) : Obj := { cls := .type "range", dict := none, data := .fields #[.int a t, .int b u, .int c v], slots := #[] }
theorem range_L {k : Int} {t : Tok} {Q : Value → Shared → Prop} (F : Fr h₀ L s.heap m) (N : News h₀ L s.heap news)
    (h : ∀ r h' u v, Fr h₀ L h' m → News h₀ L h' ((r, rangeObj 0 k 1 u t v) :: news) → (∀ p ∈ news, p.1 < r) → Q (.ref r) { s with heap := h', toks := s.toks + 1 + 1 }) : wpAny (model prog w) A (call (.type "range") [.int k t]) Q E s :=
  call_range_1 (h _ _ _ _ (F.push _) (N.push F _) fun p hp => Heap.lt_size (N p hp).1)
theorem reversed_L {r : Addr} {k : Int} {t u v : Tok} {Q : Value → Shared → Prop} (F : Fr h₀ L s.heap m) (N : News h₀ L s.heap news) (hr : (r, rangeObj 0 k 1 u t v) ∈ news) (h0 : 0 ≤ k) (h1 : k < 100000)
    (h : ∀ it h', Fr h₀ L h' m → News h₀ L h' ((it, rangeIt (k - 1) k (-1)) :: news) → (∀ p ∈ news, p.1 < it) → Q (.ref it) { s with heap := h' }) : wpAny (model prog w) A (call (.type "reversed") [.ref r]) Q E s :=
  call_reversed_range (N _ hr).1 h0 h1 (h _ _ (F.push _) (N.push F _) fun p hp => Heap.lt_size (N p hp).1)
end

theorem fdiv_pos {prog : Program} {w : World} {A : Around} {E : Value → Shared → Prop} {s : Shared} {a b : Int} {t u : Tok} {Q : Value → Shared → Prop} (hb : 0 < b) (hp : Builtin.divisionGoesByPylong a b = false) (h : Q (.int (a / b) s.toks) { s with toks := s.toks + 1 }) :
    wpAny (model prog w) A (binaryOp .FloorDiv (.int a t) (.int b u)) Q E s :=
  floordiv_int (by (first | lia | omega)) (by rw [Int.fdiv_eq_ediv_of_nonneg _ (by (first | lia | omega))]; exact h) (.inl hp)
theorem fmod_pos {prog : Program} {w : World} {A : Around} {E : Value → Shared → Prop} {s : Shared} {a b : Int} {t u : Tok} {Q : Value → Shared → Prop} (hb : 0 < b) (h : Q (.int (a % b) s.toks) { s with toks := s.toks + 1 }) :
    wpAny (model prog w) A (binaryOp .Mod (.int a t) (.int b u)) Q E s :=
  mod_int' (by (first | lia | omega)) (by rw [Int.fmod_eq_emod_of_nonneg _ (by (first | lia | omega))]; exact h)

theorem sd_facts (lt : Value → Value → Bool) (x : Value) (st pos : Nat) (vs : List Value) : (sd lt x st pos vs).length = vs.length ∧ ∀ v ∈ sd lt x st pos vs, v = x ∨ v ∈ vs := by
  fun_induction sd lt x st pos vs with
  | case1 pos vs h hlt ih =>
    rw [List.length_set] at ih
    refine ⟨ih.1, fun v hv => ?_⟩
    rcases ih.2 v hv with q | q
    · exact .inl q
    · rcases List.mem_or_eq_of_mem_set q with q | rfl
      · exact .inr q
      · by_cases hl : (pos - 1) / 2 < vs.length
        · exact .inr (getD_mem hl)
        · rw [List.set_eq_of_length_le (by (first | lia | omega))] at q
          exact .inr q
  | case2 pos vs h hlt => exact ⟨List.length_set .., fun v hv => (List.mem_or_eq_of_mem_set hv).symm⟩
  | case3 pos vs h => exact ⟨List.length_set .., fun v hv => (List.mem_or_eq_of_mem_set hv).symm⟩

theorem siftup_facts (lt : Value → Value → Bool) (pos : Nat) (vs : List Value) (h : pos < vs.length) : (siftup lt pos vs).length = vs.length ∧ ∀ v ∈ siftup lt pos vs, v ∈ vs := by
  obtain ⟨h1, h2, h3⟩ := su_facts lt pos vs h
  unfold siftup
  have := sd_facts lt (vs.getD pos .none) pos (su lt pos vs).1 ((su lt pos vs).2.set (su lt pos vs).1 (vs.getD pos .none))
  rw [List.length_set] at this
  refine ⟨this.1.trans h1, fun v hv => ?_⟩
  rcases this.2 v hv with rfl | q
  · exact getD_mem h
  · rcases List.mem_or_eq_of_mem_set q with q | rfl
    · exact h3 _ q
    · exact getD_mem h

def hfy (lt : Value → Value → Bool) : Nat → List Value → List Value
  | 0, vs => vs
  | k + 1, vs => hfy lt k (siftup lt k vs)
theorem lay_S4 : True := by
  k_with_none
  w_top off
  k_with "m_look" => first | with_reducible assumption | exact rfl | exact upd_eq | (refine upd_ne ?_ (by decide); walk_at "m_look")
  k_with "eval Name" => (k_here; (with_reducible rename Fr _ _ _ _ => kFZz); with_unfolding_all refine guard_global (by rfl) ?_; k_dflt (refine' name_B kFZz ?k1 ?k2 ?k3 ?k4 ?k5 ?_; (case k1 => k_asm); (case k2 => k_asm); (case k3 => exact rfl); (case k4 => boot_fast); (case k5 => decide); k_whole))
  k_with "eval Name" => (k_here; (with_reducible rename Fr _ _ _ _ => kFZz); with_unfolding_all refine guard_global (by rfl) ?_; k_dflt (refine' name_K kFZz ?k1 ?k2 ?k3 ?_; (case k1 => k_asm); (case k2 => k_asm); (case k3 => exact rfl); k_whole))
  k_with "callWith ref" => (k_here; k_dflt (first
      | refine' callWith_K ?k1 ?k2 ?_; (case k1 => k_asm); (case k2 => exact rfl); k_whole
      | refine' callWith_K0 ?k1 ?k2 ?_; (case k1 => k_in); (case k2 => exact rfl); k_whole))
  k_with "eval Name" => (k_here; k_dflt (refine' ld ?k1 ?k2 ?_; (case k1 => k_asm); (case k2 => walk_at "m_look"); k_whole))
  k_with "subscriptTail" => (k_here; (with_reducible show wpAny _ _ (subscriptTail _ _ (Value.ref _) (Value.int _ _)) _ _ _); k_dflt (refine' item_get ?k1 ?k2 ?k3 ?k4 ?_; (case k1 => exact News.isList (by k_asm) (by k_mem)); (case k2 => omega); (case k3 => omega); (case k4 => omega); k_whole))
  k_with "setItem ref int" => (k_here; k_dflt (refine' item_set ?k1 ?k2 ?k3 ?k4 ?k5 ?k6 ?_; (case k1 => k_asm); (case k2 => k_asm); (case k3 => k_upd); (case k4 => omega); (case k5 => omega); (case k6 => omega); k_whole); intro hZz FZz NZz; (try k_sweep))
  k_with "binaryOp RShift int int" => (k_here; k_dflt (refine' wpAny_rshift1_int ?k1 ?_; (case k1 => omega); k_whole))
  k_with "call builtin:len" => (k_here; (with_reducible show wpAny _ _ (call (Value.builtin _) [Value.ref _]) _ _ _); k_dflt (refine' len_L ?k1 ?k2 ?_; (case k1 => exact News.isList (by k_asm) (by k_mem)); (case k2 => ((try simp only [List.length_append, List.length_cons, List.length_nil]); omega)); k_whole))
  k_with "call builtin:list.append" => (k_here; (with_reducible show wpAny _ _ (call (Value.builtin _) [Value.ref _, _]) _ _ _); k_dflt (refine' append_L ?k1 ?k2 ?k3 ?k4 ?_; (case k1 => k_asm); (case k2 => k_asm); (case k3 => k_upd); (case k4 => ((try simp only [List.length_append, List.length_cons, List.length_nil]); omega)); k_whole); intro hZz FZz NZz; (try k_sweep))
  k_with "call builtin:list.pop" => (k_here; (with_reducible show wpAny _ _ (call (Value.builtin _) [Value.ref _]) _ _ _); k_dflt (refine' pop_L ?k1 ?k2 ?k3 ?k4 ?_; (case k1 => k_asm); (case k2 => k_asm); (case k3 => k_upd); (case k4 => omega); k_whole); intro hZz FZz NZz; (try k_sweep))
  k_with "assign Tuple" => (k_here; (with_reducible show wpAny _ _ (assign (Expr.Tuple _ _ _) _ (Value.ref _)) _ _ _); k_dflt (refine' unpackN_ ?F ?N ?T ?k1 ?k2 ?k3 ?_; (case F => k_asm); (case N => k_asm); (case T => first | with_reducible assumption | (refine News.isTup (by k_asm) (by k_mem))); (case k1 => assumption); (case k2 => exact rfl); (case k3 => exact rfl)); intro hZz FZz NZz; (try k_sweep))
  k_with "call type:range" => (k_here; (with_reducible show wpAny _ _ (call _ [Value.int _ _]) _ _ _); k_dflt (refine' range_L ?k1 ?k2 ?_; (case k1 => k_asm); (case k2 => k_asm); k_whole); intro rZz hZz uZz vZz FZz NZz l1Zz; (try k_lt l1Zz); (try k_sweep))
  k_with "call type:reversed" => (k_here; k_dflt (refine' reversed_L ?k1 ?k2 ?k3 ?k4 ?k5 ?_; (case k1 => k_asm); (case k2 => k_asm); (case k3 => k_mem); (case k4 => omega); (case k5 => omega); k_whole); intro iZz hZz FZz NZz l1Zz; (try k_lt l1Zz); (try k_sweep))
  k_with "binaryOp FloorDiv int int" => (k_here; k_dflt (refine' fdiv_pos ?k1 ?k2 ?_; (case k1 => decide); (case k2 => exact PyProof.noPylong_of_log2 (by decide +kernel)); k_whole))
  k_with "binaryOp Mod int int" => (k_here; k_dflt (refine' fmod_pos ?k1 ?_; (case k1 => decide); k_whole))
  k_with "no loop" => ((fail_if_success (with_reducible show wpAny _ _ (exec (Stmt.While _ _ _ _) _) _ _ _)); (fail_if_success (with_reducible show wpAny _ _ (exec (Stmt.For _ _ _ _ _) _) _ _ _)); (fail_if_success (with_reducible show wpAny _ _ (call (Value.ref _) _ _) _ _ _)); (fail_if_success (with_reducible show wpAny _ _ (pyIter _) _ _ _)))
  k_with "go" => repeat' (first | ((with_reducible show wpAny _ _ (execs (_ :: _) _) _ _ _); (try dsimp only); walk1) | (walk_at "no loop"; walk1) | (walk_at "no loop"; dsimp only; walk1))
  exact True.intro

theorem heapify_code {prog : Program} {w : World} {p : Program} {loose : List Str} {mg mb : Str → Option Value} {A : Around} {R : Result → Shared → Prop} {s : Shared} {a : Addr} {vs : List Value} {n : Nat} (lt : Value → Value → Bool)
  (X : (KK w).In (hideAll s.heap [a])) (T : TopRead p loose mg mb (hideAll s.heap [a])) (hroom : A.depth < 880) (hu : A.units < 130) (hh : A.handled = none)
  (ha : s.heap.get? a = some (W.listOf vs.toArray n))
  (hlt : ∀ v1 ∈ vs, ∀ v2 ∈ vs, LtIs prog w (hideAll s.heap [a]) v1 v2 (lt v1 v2)) (hs : vs.length ≤ 900)
  (post : ∀ h' tk, Keeps [a] s.heap h' → h'.get? a = some (W.listOf (hfy lt (vs.length / 2) vs).toArray n) → R (.ok (.ret .none)) { s with heap := h', toks := tk }) :
  codeAny (model prog w) A (.call (.ref 98) ⟨[.ref a], []⟩) R s := by
  obtain ⟨g, hg⟩ : ∃ g, g = hideAll s.heap [a] := ⟨_, rfl⟩
  rw [← hg] at X T hlt
  refine enter (news := [(a, W.listOf vs.toArray n)]) (K := KK w) hg X T ?_ rfl rfl (Nat.lt_of_lt_of_le hroom (by decide)) (BindsTo.of_eq rfl) (locs rfl) ?_
  · intro q hq; cases hq with | head => exact ha | tail _ h => cases h
  intro L h₁ tk F N lt0
  try dsimp only
  walk_at "go"
  refine wpAny_For ?_ (by intro _; rfl)
  walk_at "go"
  (rename Fr _ _ _ _ => F2); (rename News _ _ _ _ => N2)
  refine wpAny_pyIter_rangeiter (N2 _ (.head _)).1 ?_
  refine for_any (item := fun i t => .int ((vs.length : Int) / 2 - 1 + i * (-1)) t) (iter_range prog w _ ((vs.length : Int) / 2 - 1) (-1) (vs.length / 2)) (fun i m news => ∃ us ro, news = [ro, (a, W.listOf us.toArray n)] ∧ ro.1 ≠ a ∧ m "x" = some (.ref a) ∧ us.length = vs.length ∧ (∀ v ∈ us, v ∈ vs) ∧ hfy lt (vs.length / 2 - i) us = hfy lt (vs.length / 2) vs) hh F2 N2 ?_ ?_ ?_ (fun _ _ _ _ _ _ _ _ => trivial) ?_ ?_
  · refine List.forall_mem_cons.mpr ⟨by k_ne, List.forall_mem_cons.mpr ⟨by k_ne, List.forall_mem_nil _⟩⟩
  · show rangeIt _ _ _ = _
    have e1 : ((vs.length : Int) / 2 - 1 + ((0 : Nat) : Int) * (-1)) = (vs.length : Int) / 2 - 1 := by (first | lia | omega)
    have e2 : ((vs.length / 2 : Nat) : Int) - ((0 : Nat) : Int) = (vs.length : Int) / 2 := by (first | lia | omega)
    rw [e1, e2]
  · exact ⟨vs, _, rfl, by k_ne, by walk_at "m_look", rfl, fun _ h => h, rfl⟩
  · rintro i m3 news3 h3 tk3 t3 oi hi F3 N3 ne3 ⟨us, ro, rfl, nro, mx, hul, hm, hf⟩
    clear F2 N2
    walk_at "go"
    have hii : ((vs.length : Int) / 2 - 1 + (i : Int) * -1).toNat = vs.length / 2 - 1 - i := by (first | lia | omega)
    have sf := siftup_facts lt (vs.length / 2 - 1 - i) us (by (first | lia | omega))
    have itn : (a : Nat) ≠ _ := ne3 _ (.tail _ (.head _))
    (rename Fr _ _ _ _ => F4); (rename News _ _ _ _ => N4)
    refine siftup_in lt F4 N4 X T (.tail (Ne.symm itn) (.tail nro (.head (List.forall_mem_nil _)))) (dpt (a := A.depth) hroom (by decide)) (unt (a := A.units) hu (by decide)) (fun v1 q1 v2 q2 => hlt _ (hm _ q1) _ (hm _ q2)) (by (first | lia | omega)) (by (first | lia | omega)) (by (first | lia | omega)) ?_
    intro h' tk' F' N'
    walk_at "go"
    refine ⟨_, _, _, _, rfl, F', N', List.forall_mem_cons.mpr ⟨ne3 _ (.head _), List.forall_mem_cons.mpr ⟨itn, List.forall_mem_nil _⟩⟩, _, _, rfl, nro, by walk_at "m_look", ?_, ?_, ?_⟩
    · rw [hii, sf.1]; exact hul
    · rw [hii]; exact fun v hv => hm _ (sf.2 v hv)
    · rw [hii, ← hf]
      obtain ⟨k, hk⟩ : ∃ k, vs.length / 2 - i = k + 1 := ⟨vs.length / 2 - i - 1, by (first | lia | omega)⟩
      rw [hk, show vs.length / 2 - (i + 1) = k by (first | lia | omega), show vs.length / 2 - 1 - i = k by (first | lia | omega)]
      rfl
  · rintro m3 news3 h3 tk3 F3 N3 ⟨us, ro, rfl, nro, mx, hul, hm, hf⟩
    walk_at "go"
    refine post _ _ (keeps_of hg F3) ?_
    rw [(N3 _ (.tail _ (.head _))).1, ← hf, Nat.sub_self]
    rfl
theorem lay_C1 : True := by
  k_with_none
  w_top off
  exact True.intro
def lexB {α : Type} [DecidableEq α] (lt : α → α → Bool) : List α → List α → Bool
  | [], [] => false
  | [], _ :: _ => true
  | _ :: _, [] => false
  | a :: r, b :: q => if a = b then lexB lt r q else lt a b
abbrev klt : List Int → List Int → Bool := lexB fun a b => decide (a < b)
abbrev kllt : List (List Int) → List (List Int) → Bool := lexB klt

def KeyAt (h : Heap) (v : Value) (k : List Int) : Prop := ∃ t o vs n, v = .ref t ∧ h.get? t = some o ∧ o.cls = .type "tuple" ∧ o.data = .seq vs.toArray n ∧ IntsAre vs k

theorem KeyAt.keeps {h h' : Heap} {v : Value} {k : List Int} (x : KeyAt h v k) (hk : ∀ b o, h.get? b = some o → h'.get? b = some o) : KeyAt h' v k :=
  let ⟨t, o, vs, n, e, ho, r⟩ := x; ⟨t, o, vs, n, e, hk _ _ ho, r⟩

theorem KeyAt.tuple {h : Heap} {t : Addr} {k : List Int} {prog : Program} {w : World} (x : KeyAt h (.ref t) k) : IsTupleKey (intKind prog w) h k t := by
  obtain ⟨t', o, vs, n, e, ho, hc, hd, hi⟩ := x
  cases e
  refine ⟨o, vs.toArray, n, ho, hc, hd, ?_⟩
  show PySem.ItemsAre _ _ vs
  clear hd
  induction hi with
  | nil => exact .nil
  | cons i t _ ih => exact .cons (by show (i == i) = true; simp) ih

section
variable {prog : Program} {w : World} {A : Around} {E : Value → Shared → Prop} {s : Shared}
theorem tuple_lt_tree {x y : List Int} {a b : Addr} {P : Fin → Shared → Prop} (hx : KeyAt s.heap (.ref a) x) (hy : KeyAt s.heap (.ref b) y) (h : P (.done (.ret (.bool (klt x y)))) s) :
    wpAny (model prog w) A (Builtin.«tuple.__lt__» ⟨[.ref a, .ref b], []⟩) P E s := by
  have hTb := (hy.tuple (prog := prog) (w := w)).typeIs
  obtain ⟨a', oa, xs, na, ea, hoa, _, hda, hia⟩ := hx
  obtain ⟨b', ob, ys, nb, eb, hob, _, hdb, hib⟩ := hy
  cases ea
  cases eb
  show wpAny _ _ (isInstance (.ref b) (.type "tuple") >>= _) _ _ s
  refine wpAny_bind (wpAny_isInstance hTb isSubtype_tuple_tuple ?_)
  simp only [Bool.not_true, Bool.false_eq_true, if_false]
  refine wpAny_bind (wpAny_tupleItemsOf hoa hda ?_)
  refine wpAny_bind (wpAny_tupleItemsOf hob hdb ?_)
  refine wpAny_bind ?_
  refine wpAny_forIn_list _
    (fun rest r s' => r.1 = none ∧ s' = s ∧ ∃ x' y' xs' ys', rest = List.zip xs' ys' ∧ IntsAre xs' x' ∧ IntsAre ys' y' ∧ klt x' y' = klt x y ∧ decide (xs'.length < ys'.length) = decide (xs.length < ys.length))
    _ ?_ ?_ _ _ ⟨rfl, rfl, x, y, xs, ys, rfl, hia, hib, rfl, rfl⟩
  · rintro ⟨u, v⟩ rest r s' ⟨hr, rfl, x', y', xs', ys', hz, hx', hy', hdec, hlen⟩
    cases hx' with
    | nil => simp at hz
    | @cons k1 t1 xs'' x'' hx'' =>
      cases hy' with
      | nil => simp at hz
      | @cons k2 t2 ys'' y'' hy'' =>
        simp only [List.zip_cons_cons, List.cons.injEq, Prod.mk.injEq] at hz
        obtain ⟨⟨rfl, rfl⟩, rfl⟩ := hz
        refine wpAny_bind (wpAny_eqBool_int ?_)
        have hdec : (if k1 = k2 then klt x'' y'' else decide (k1 < k2)) = klt x y := hdec
        by_cases hk : k1 = k2
        · subst hk
          simp only [beq_self_eq_true, Bool.not_true, Bool.false_eq_true, if_false]
          rw [if_pos rfl] at hdec
          exact wpAny_pure ⟨rfl, rfl, x'', y'', xs'', ys'', rfl, hx'', hy'', hdec, by simpa using hlen⟩
        · rw [if_neg hk] at hdec
          simp only [beq_eq_false_iff_ne.mpr hk, Bool.not_false, if_true]
          refine wpAny_bind (wpAny_rule (wpAny_bind (show wpAny _ _ (compareOp .Lt (.int k1 t1) (.int k2 t2)) _ _ _ from wpAny_lt_int ?_)))
          rw [hdec]
          exact wpAny_bind (wpAny_pure (wpAny_pure (wpAny_pure h)))
  · rintro ⟨r1, r2⟩ s' ⟨hr, rfl, x', y', xs', ys', hz, hx', hy', hdec, hlen⟩
    simp only at hr
    subst hr
    refine wpAny_pure ?_
    have hfin : decide (xs.toArray.size < ys.toArray.size) = klt x y := by
      rw [← hdec, List.size_toArray, List.size_toArray, ← hlen]
      cases hx' with
      | nil =>
        cases hy' with
        | nil => simp [lexB]
        | cons _ _ => simp [lexB]
      | cons _ _ =>
        cases hy' with
        | nil => simp [lexB]
        | cons _ _ => simp at hz
    show P (.done (.ret (.bool (decide (xs.toArray.size < ys.toArray.size))))) s'
    rw [hfin]; exact h

theorem tuple_lt_rule {v1 v2 : Value} {x y : List Int} {Q : Value → Shared → Prop} (hx : KeyAt s.heap v1 x) (hy : KeyAt s.heap v2 y) (hu : A.units < cLine) (h : Q (.bool (klt x y)) s) : wpAny (model prog w) A (richCompare .Lt v1 v2) Q E s := by
  have hx' := hx
  have hy' := hy
  obtain ⟨a, _, _, _, rfl, _⟩ := hx
  obtain ⟨b, _, _, _, rfl, _⟩ := hy
  have Ta := (hx'.tuple (prog := prog) (w := w)).typeIs
  have Tb := (hy'.tuple (prog := prog) (w := w)).typeIs
  exact wpAny_richCompare_same_or (op := .Lt) Ta Tb F.slot_tuple_lt (wpAny_call_entry F.slot_tuple_lt Ta F.entry_tuple_lt (tuple_lt_tree hx' hy' ⟨_, rfl, (fun e => nomatch e), h⟩) (F.args_tuple_lt_2 _ _)) (.inr hu)
theorem tuple_eq_rule {v1 v2 : Value} {x y : List Int} {Q : Bool → Shared → Prop} (hx : KeyAt s.heap v1 x) (hy : KeyAt s.heap v2 y) (hu : A.units < cLine) (h : Q (decide (x = y)) s) : wpAny (model prog w) A (eqBool v1 v2) Q E s := by
  have hx' := hx
  have hy' := hy
  obtain ⟨a, _, _, _, rfl, _⟩ := hx
  obtain ⟨b, _, _, _, rfl, _⟩ := hy
  exact wpAny_eqBool_tuple hu hx'.tuple hy'.tuple h
end

theorem lt_key {prog : Program} {w : World} {g : Heap} {v1 v2 : Value} {x y : List Int} (hx : KeyAt g v1 x) (hy : KeyAt g v2 y) : LtIs prog w g v1 v2 (klt x y) := by
  intro A E Q s hk hu hq
  exact tuple_lt_rule (hx.keeps hk) (hy.keeps hk) (by show _ < 9900; (first | lia | omega)) (hq s.toks)

/-- a list's items are keys -/
inductive KeysAt (h : Heap) : List Value → List (List Int) → Prop
  | nil : KeysAt h [] []
  | cons {v : Value} {k : List Int} {vs : List Value} {ks : List (List Int)} : KeyAt h v k → KeysAt h vs ks → KeysAt h (v :: vs) (k :: ks)
theorem KeysAt.keeps {h h' : Heap} {vs : List Value} {ks : List (List Int)} (x : KeysAt h vs ks) (hk : ∀ b o, h.get? b = some o → h'.get? b = some o) : KeysAt h' vs ks := by
  induction x with
  | nil => exact .nil
  | cons a _ ih => exact .cons (a.keeps hk) ih
theorem KeysAt.length {h : Heap} {vs : List Value} {ks : List (List Int)} (x : KeysAt h vs ks) : vs.length = ks.length := by
  induction x with
  | nil => rfl
  | cons a _ ih => simp [ih]
theorem KeysAt.get {h : Heap} {vs : List Value} {ks : List (List Int)} (x : KeysAt h vs ks) : ∀ {i : Nat} (h1 : i < vs.length) (h2 : i < ks.length), KeyAt h vs[i] ks[i] := by
  induction x with
  | nil => intro i h1; exact absurd h1 (Nat.not_lt_zero _)
  | cons a _ ih =>
    intro i h1 h2
    cases i with
    | zero => exact a
    | succ i => exact ih _ _

theorem lt_loop (l b : Addr) (vs us : List Value) (n n2 : Nat) (xs ys : List (List Int)) (k : Nat) :
    ∀ i : Nat, vs.length - i = k → Meets (Builtin.«list.__eq__.loop» ⟨[.ref l, .ref b, rawInt i, rawInt 0], []⟩)
      (fun A R s => s.heap.get? l = some (W.listOf vs.toArray n) ∧ s.heap.get? b = some (W.listOf us.toArray n2) ∧ KeysAt s.heap vs xs ∧ KeysAt s.heap us ys ∧ A.units + 1 < cLine ∧ i ≤ vs.length ∧ i ≤ us.length ∧
        R (.ok (.ret (.bool (kllt (xs.drop i) (ys.drop i))))) s) := by
  have ends : ∀ i : Nat, (vs.length ≤ i ∨ us.length ≤ i) → Meets (Builtin.«list.__eq__.loop» ⟨[.ref l, .ref b, rawInt i, rawInt 0], []⟩)
      (fun A R s => s.heap.get? l = some (W.listOf vs.toArray n) ∧ s.heap.get? b = some (W.listOf us.toArray n2) ∧ KeysAt s.heap vs xs ∧ KeysAt s.heap us ys ∧ A.units + 1 < cLine ∧ i ≤ vs.length ∧ i ≤ us.length ∧
        R (.ok (.ret (.bool (kllt (xs.drop i) (ys.drop i))))) s) := by
    intro i hor prog w A R s h
    obtain ⟨hp, g, d, tk, os⟩ := s; obtain ⟨hl, hb, hx, hy, hu, hi1, hi2, h⟩ := h
    have e1 := hx.length
    have e2 := hy.length
    have hfin : kllt (xs.drop i) (ys.drop i) = decide (vs.length < us.length) := by
      by_cases q1 : vs.length ≤ i
      · rw [List.drop_eq_nil_of_le (as := xs) (by (first | lia | omega))]
        by_cases q2 : us.length ≤ i
        · rw [List.drop_eq_nil_of_le (as := ys) (by (first | lia | omega))]
          exact (decide_eq_false (by (first | lia | omega))).symm
        · rw [List.drop_eq_getElem_cons (l := ys) (by (first | lia | omega))]
          exact (decide_eq_true (by (first | lia | omega))).symm
      · rw [List.drop_eq_getElem_cons (l := xs) (by (first | lia | omega)), List.drop_eq_nil_of_le (as := ys) (by (first | lia | omega))]
        exact (decide_eq_false (by (first | lia | omega))).symm
    rw [hfin] at h
    wp_walk using wpAny_loadPart' hl, wpAny_loadPart' hb
    have hs1 : vs.toArray.size = vs.length := List.size_toArray ..
    have hs2 : us.toArray.size = us.length := List.size_toArray ..
    by_cases q1 : vs.length ≤ i
    · have z1 : vs.toArray[((i : Nat) : Int).toNat]? = none := by simp; (first | lia | omega)
      rw [z1]
      wp_walk using wpAny_loadPart' hl, wpAny_loadPart' hb
      show R (.ok (.ret (.bool (decide (vs.toArray.size < us.toArray.size))))) _
      rw [hs1, hs2]; exact h
    · have z1 : vs.toArray[((i : Nat) : Int).toNat]? = some vs[i] := by simp
      have z2 : us.toArray[((i : Nat) : Int).toNat]? = none := by simp; (first | lia | omega)
      rw [z1, z2]
      wp_walk using wpAny_loadPart' hl, wpAny_loadPart' hb
      show R (.ok (.ret (.bool (decide (vs.toArray.size < us.toArray.size))))) _
      rw [hs1, hs2]; exact h
  induction k with
  | zero => intro i hk; exact ends i (.inl (by omega))
  | succ k ih =>
    intro i hk prog w A R s h
    by_cases hor : us.length ≤ i
    · exact ends i (.inr hor) prog w A R s h
    obtain ⟨hp, g, d, tk, os⟩ := s; obtain ⟨hl, hb, hx, hy, hu, hi1, hi2, h⟩ := h
    wp_walk using wpAny_loadPart' hl, wpAny_loadPart' hb
    have e1 := hx.length
    have e2 := hy.length
    have hlt : i < vs.length := by (first | lia | omega)
    have hlt2 : i < us.length := by (first | lia | omega)
    have z1 : vs.toArray[((i : Nat) : Int).toNat]? = some vs[i] := by simp
    have z2 : us.toArray[((i : Nat) : Int).toNat]? = some us[i] := by simp
    have hc : ((i : Int) + 1) = ((i + 1 : Nat) : Int) := by push_cast; rfl
    rw [z1, z2]
    rw [List.drop_eq_getElem_cons (l := xs) (by (first | lia | omega)), List.drop_eq_getElem_cons (l := ys) (by (first | lia | omega))] at h
    have h : R (.ok (.ret (.bool (if xs[i] = ys[i] then kllt (xs.drop (i + 1)) (ys.drop (i + 1)) else klt xs[i] ys[i])))) _ := h
    have hk1 := hx.get hlt (by (first | lia | omega))
    have hk2 := hy.get hlt2 (by (first | lia | omega))
    refine wpAny_bind (tuple_eq_rule hk1 hk2 hu ?_)
    by_cases hq : xs[i] = ys[i]
    · rw [if_pos hq] at h
      rw [decide_eq_true hq]
      wp_walk
      rw [hc]
      exact ⟨plainId_quiet MeetsSeq3.plain_eq_loop _, codeAny_builtin MeetsSeq3.entry_eq_loop (by
        rw [Around.under_plainId MeetsSeq3.plain_eq_loop _]
        exact ih (i + 1) (by (first | lia | omega)) prog w A R _ ⟨hl, hb, hx, hy, hu, by (first | lia | omega), by (first | lia | omega), h⟩)⟩
    · rw [if_neg hq] at h
      rw [decide_eq_false hq]
      wp_walk using wpAny_loadPart' hl, wpAny_loadPart' hb
      rw [z1, z2]
      dsimp only
      refine wpAny_bind (tuple_lt_rule hk1 hk2 hu ?_)
      exact wpAny_pure h

theorem list_lt (l b : Addr) (vs us : List Value) (n n2 : Nat) (xs ys : List (List Int)) :
    Meets (Builtin.«list.__lt__» ⟨[.ref l, .ref b], []⟩)
      (fun A R s => s.heap.get? l = some (W.listOf vs.toArray n) ∧ s.heap.get? b = some (W.listOf us.toArray n2) ∧ KeysAt s.heap vs xs ∧ KeysAt s.heap us ys ∧ A.units + 1 < cLine ∧
        R (.ok (.ret (.bool (kllt xs ys)))) s) := by
  intro prog w A R s h
  obtain ⟨hp, g, d, tk, os⟩ := s; obtain ⟨hl, hb, hx, hy, hu, h⟩ := h
  have f3 := AutoSeq1.sub_list_list
  wp_walk using wpAny_loadPart' hl, wpAny_loadPart' hb
  exact ⟨plainId_quiet MeetsSeq3.plain_eq_loop _, codeAny_builtin MeetsSeq3.entry_eq_loop (by
    rw [Around.under_plainId MeetsSeq3.plain_eq_loop _]
    exact lt_loop l b vs us n n2 xs ys _ 0 rfl prog w A R _ ⟨hl, hb, hx, hy, hu, Nat.zero_le _, Nat.zero_le _, h⟩)⟩

theorem lt_list {prog : Program} {w : World} {g : Heap} {l b : Addr} {vs us : List Value} {n n2 : Nat} {xs ys : List (List Int)} (hl : g.get? l = some (W.listOf vs.toArray n)) (hb : g.get? b = some (W.listOf us.toArray n2))
    (hx : KeysAt g vs xs) (hy : KeysAt g us ys) : LtIs prog w g (.ref l) (.ref b) (kllt xs ys) := by
  intro A E Q s hk hu hq
  have hl' := hk _ _ hl
  have hb' := hk _ _ hb
  show wpAny _ _ (richCompare .Lt _ _) Q E s
  have Ta : s.TypeIs (.ref l) "list" := ⟨_, hl', rfl⟩
  have Tb : s.TypeIs (.ref b) "list" := ⟨_, hb', rfl⟩
  refine wpAny_richCompare_same_or (op := .Lt) Ta Tb F.slot_list_lt (call_meets F.slot_list_lt Ta F.entry_list_lt (F.args_list_lt_2 _ _) (list_lt l b vs us n n2 xs ys) ⟨hl', hb', hx.keeps hk, hy.keeps hk, by show A.units + 1 < 9900; (first | lia | omega), (fun e => nomatch e), hq s.toks⟩) (.inr (by show _ < 9900; (first | lia | omega)))
theorem lay_E0 : True := by
  k_with_none
  w_top off
  exact True.intro
theorem isList_keep {g h : Heap} {L a : Addr} {m : Str → Option Value} {vs : List Value} {n : Nat} (F : Fr g L h m) (e : g.get? a = some (W.listOf vs.toArray n)) : h.IsList a vs.toArray := ⟨_, F.keep _ _ e, rfl, n, rfl⟩
theorem item_getv {prog : Program} {w : World} {A : Around} {E : Value → Shared → Prop} {s : Shared} {value slice : PySem.Expr} {l : Addr} {vs : List Value} {k : Int} {u : Tok} {v : Value} {Q : Value → Shared → Prop}
    (hl : s.heap.IsList l vs.toArray) (h0 : 0 ≤ k) (hk : k < vs.length) (hsz : vs.length ≤ 100000) (hv : vs.getD k.toNat .none = v) (h : Q v s)
    (hs : subscripted slice false (.ref l) (.int k u) = operate [.ref l, .int k u] (getItem (.ref l) (.int k u)) := by with_unfolding_all rfl) :
    wpAny (model prog w) A (subscriptTail value slice (.ref l) (.int k u)) Q E s := item_get hl h0 hk hsz (hv ▸ h) hs

/-- the entries of an object's own dict: names and values -/
inductive EntsAre (w : World) : List DictEntry → List (Str × Value) → Prop
  | nil : EntsAre w [] []
  | cons {x : Str} {v : Value} {t : Tok} {es : List DictEntry} {l : List (Str × Value)} : EntsAre w es l → EntsAre w (⟨PyData.keyHash w.params x, .str x t, v⟩ :: es) ((x, v) :: l)

def putA (x : Str) (v : Value) : List (Str × Value) → List (Str × Value)
  | [] => [(x, v)]
  | q :: r => if q.1 = x then (x, v) :: r else q :: putA x v r

theorem isStr_iff {x y : Str} {t : Tok} : (Value.str x t).isStr y = decide (x = y) := by
  show (x == y) = _
  rw [Bool.eq_iff_iff]; simp

theorem EntsAre.getL {w : World} {es : List DictEntry} {l : List (Str × Value)} (h : EntsAre w es l) (x : Str) : W.getL x es = some (l.lookup x) := by
  induction h with
  | nil => rfl
  | @cons y v t es l _ ih =>
    unfold W.getL at ih ⊢
    rw [List.find?_cons, List.lookup_cons]
    have hb : (DictEntry.mk (PyData.keyHash w.params y) (.str y t) v).key.isStr x = decide (y = x) := isStr_iff
    rw [hb]
    by_cases hxy : y = x
    · subst hxy
      rw [decide_eq_true rfl, beq_self_eq_true]
    · rw [decide_eq_false hxy, beq_eq_false_iff_ne.mpr (fun e => hxy e.symm)]
      simp only [List.any_cons]
      exact ih
theorem EntsAre.putL {w : World} {es : List DictEntry} {l : List (Str × Value)} (h : EntsAre w es l) (x : Str) (v : Value) (t : Tok) : EntsAre w (W.putL x (PyData.keyHash w.params x) (.str x t) v es) (putA x v l) := by
  induction h with
  | nil => exact .cons .nil
  | @cons y u ty es l hr ih =>
    unfold W.putL putA
    show EntsAre w (if (Value.str y ty).isStr x = true then _ else _) _
    rw [isStr_iff]
    by_cases hxy : y = x
    · subst hxy
      simp only [decide_true, if_true]
      exact .cons hr
    · simp only [hxy, decide_false, Bool.false_eq_true, if_false]
      exact .cons ih
theorem EntsAre.length {w : World} {es : List DictEntry} {l : List (Str × Value)} (h : EntsAre w es l) : es.length = l.length := by
  induction h with
  | nil => rfl
  | cons _ ih => simp [ih]

def getOf (K : Frag) : Option Value → Option (Option Value)
  | some a => specialIn K a "__get__"
  | none => some none
def dataOf (K : Frag) : Option Value → Option Value → Option Bool
  | some a, some _ => takesIn K a
  | _, _ => some false
theorem fo {K : Frag} {C : Addr} {cd : ClassData} {attr get : Option Value} {name : Str} {es : List DictEntry} {n : Nat} {v : Value} (hc : clsIn K C = some cd) (hdict : cd.hasDict = true) (ha : findIn K (.ref C) name = some attr)
    (hg : getOf K attr = some get) (ht : dataOf K attr get = some false)
    (hl : W.getL name es = some (some v)) : findObj K C (some (dictOf es n)) name = some (.value v) := by
  have ho : W.ownOf cd (some (dictOf es n)) name = some (some v) := by unfold W.ownOf; rw [if_pos hdict]; exact hl
  unfold findObj
  rw [hc, Option.bind_some, ha, Option.bind_some]
  cases attr with
  | none =>
    simp only [Option.bind_some]
    rw [ho]; rfl
  | some a =>
    have hg' : specialIn K a "__get__" = some get := hg
    simp only [hg', Option.bind_some]
    cases get with
    | none => simp only [Option.bind_some]; rw [ho]; rfl
    | some q =>
      have ht' : takesIn K a = some false := ht
      simp only [ht', Option.bind_some]
      rw [ho]; rfl

/-- an object of Entry: its dict, the names and values in it -/
structure EntAt (w : World) (h : Heap) (x d : Addr) (l : List (Str × Value)) : Prop where
  inst : h.get? x = some (instObj 52 d)
  dict : ∃ es n, h.get? d = some (dictOf es n) ∧ EntsAre w es l

theorem EntAt.keeps {w : World} {h h' : Heap} {x d : Addr} {l : List (Str × Value)} (e : EntAt w h x d l) (k : ∀ b o, h.get? b = some o → h'.get? b = some o) : EntAt w h' x d l :=
  ⟨k _ _ e.inst, let ⟨es, n, hd, r⟩ := e.dict; ⟨es, n, k _ _ hd, r⟩⟩

section
variable {prog : Program} {w : World} {A : Around} {E : Value → Shared → Prop} {s : Shared}
theorem ent_get {x d : Addr} {l : List (Str × Value)} {name : Str} {v : Value} {expr : Bool} {Q : Value → Shared → Prop} {attr get : Option Value} {cd : ClassData} (X : (KK w).In s.heap) (I : EntAt w s.heap x d l) (hl : l.lookup name = some v) (hv : handedIn v = true)
    (h : Q v { s with toks := s.toks + 1 }) (hc : clsIn (KK w) 52 = some cd) (hdict : cd.hasDict = true) (ha : findIn (KK w) (.ref 52) name = some attr)
    (hg : getOf (KK w) attr = some get) (ht : dataOf (KK w) attr get = some false) :
    wpAny (model prog w) A (getAttr (.ref x) name expr) Q E s := by
  obtain ⟨es, n, hd, he⟩ := I.dict
  exact get_value X (⟨I.inst, rfl, rfl, hd⟩ : InstAt s.heap x (instObj 52 d) 52 (some (dictOf es n))) rfl (fo hc hdict ha hg ht ((he.getL name).trans (by rw [hl]))) hv h

theorem ent_meth {x d f : Addr} {l : List (Str × Value)} {name : Str} {v : Value} {pl : Sem Bool} {Q : Value × List Value → Shared → Prop} {get : Option Value} {cd : ClassData} (X : (KK w).In s.heap) (I : EntAt w s.heap x d l) (hl : l.lookup name = some v) (hv : handedIn v = true)
    (h : Q (v, []) { s with toks := s.toks + 1 }) (hc : clsIn (KK w) 52 = some cd) (hdict : cd.hasDict = true) (ha : findIn (KK w) (.ref 52) name = some (some (.ref f))) (hf : typeIn (KK w) (.ref f) = some (.type "function"))
    (hg : getOf (KK w) (some (.ref f)) = some get) (ht : dataOf (KK w) (some (.ref f)) get = some false) :
    wpAny (model prog w) A (getMethod (.ref x) name pl) Q E s := by
  have hget : wpAny (model prog w) A (getAttr (.ref x) name) (fun v => Q (v, [])) E s := ent_get X I hl hv h hc hdict ha hg ht
  have u : wpAny (model prog w) A (do return (← getAttr (.ref x) name, ([] : List Value))) Q E s := wpAny_bind (wpAny_mono hget (fun _ _ z => wpAny_pure z) fun _ _ z => z)
  obtain ⟨es, n, hd, he⟩ := I.dict
  have I' : InstAt s.heap x (instObj 52 d) 52 (some (dictOf es n)) := ⟨I.inst, rfl, rfl, hd⟩
  have hcan := PySem.F.canon_object_ga
  unfold getMethod specialOf
  refine wpAny_bind (wpAny_bind (I'.type.here ((looks_findIn X (r := some (.builtin "object.__getattribute__")) rfl).here ?_)))
  dsimp only
  rw [hcan, if_neg (by decide)]
  refine wpAny_bind (wpAny_bind (I'.type.here ((looks_findIn X (r := none) rfl).here ?_)))
  refine wpAny_bind (wpAny_bind (I'.type.here ((looks_findIn X ha).here (wpAny_bind ((looks_typeIn X hf).here ?_)))))
  rw [if_neg (by decide +kernel)]
  refine wpAny_bind (wpAny_loadPart I'.at_ ?_)
  dsimp only
  refine wpAny_bind (wpAny_bind (wpAny_loadPart hd ?_))
  rw [nsLook_of (show lookIn name (dictOf es n) = some (some v) from (he.getL name).trans (by rw [hl]))]
  exact wpAny_pure u

theorem putA_length (x : Str) (v : Value) : ∀ l : List (Str × Value), (putA x v l).length ≤ l.length + 1
  | [] => by simp [putA]
  | q :: r => by
    unfold putA
    split
    · simp
    · have := putA_length x v r
      simp; (first | lia | omega)

theorem newList_L {h₀ : Heap} {L : Addr} {m : Str → Option Value} {news : List (Addr × Obj)} {vs : List Value} {Q : Value → Shared → Prop} (F : Fr h₀ L s.heap m) (N : News h₀ L s.heap news)
    (h : ∀ l h', Fr h₀ L h' m → News h₀ L h' ((l, W.listOf vs.toArray 0) :: news) → (∀ p ∈ news, p.1 < l) → L < l → Q (.ref l) { s with heap := h' }) (hsz : vs.length ≤ 100000) : wpAny (model prog w) A (newList vs) Q E s :=
  newList_N F N (fun h' F' N' => h _ h' F' N' (fun p hp => Heap.lt_size (N p hp).1) F.ns.lt) (by rw [sizeLine_eq]; (first | lia | omega))

theorem ent_set {h₀ : Heap} {L x d : Addr} {m : Str → Option Value} {news : List (Addr × Obj)} {u : Obj → List (Addr × Obj)} {es : List DictEntry} {n : Nat} {l : List (Str × Value)} {name : Str} {v : Value} {Q : Unit → Shared → Prop}
    (F : Fr h₀ L s.heap m) (N : News h₀ L s.heap news) (X : (KK w).In h₀) (hx : s.heap.get? x = some (instObj 52 d)) (U : UpdF d (dictOf es n) news u) (he : EntsAre w es l) (hz : l.length ≤ 100)
    (h : ∀ h' es' n', Fr h₀ L h' m → News h₀ L h' (u (dictOf es' n')) → EntsAre w es' (putA name v l) → Q () { s with heap := h', toks := s.toks + 2 }) (ht : takerIn (KK w) 52 name = some none) :
    wpAny (model prog w) A (setAttr (.ref x) name v) Q E s := by
  obtain ⟨pre, post, rfl, hu, a, b⟩ := U.split
  have hd := N (d, dictOf es n) (List.mem_append_right _ (.head _))
  have he' := he.putL name v (s.toks + 1)
  refine set_plain (X.keeps F.keep) (⟨hx, rfl, rfl, hd.1⟩ : InstAt s.heap x (instObj 52 d) 52 (some (dictOf es n))) rfl (osa_dict (s := { s with toks := s.toks + 1 }) (od := dictOf es n) F N (X.keeps F.keep) ⟨hx, rfl, rfl, hd.1⟩ rfl rfl ht rfl (by rw [lookIn_dict, he.getL]; rfl) a b (by rw [putName_dict]) rfl ?_ fun h' F' N' => h h' _ _ F' (by rw [hu]; exact N') he')
  rw [he'.length]
  have := putA_length name v l
  (first | lia | omega)
end
theorem lay_E1 : True := by
  k_with_none
  w_top off
  k_with "m_look" => first | with_reducible assumption | exact rfl | exact upd_eq | (refine upd_ne ?_ (by decide); walk_at "m_look")
  k_with "eval Name" => (k_here; (with_reducible rename Fr _ _ _ _ => kFZz); with_unfolding_all refine guard_global (by rfl) ?_; k_dflt (refine' name_B kFZz ?k1 ?k2 ?k3 ?k4 ?k5 ?_; (case k1 => k_asm); (case k2 => k_asm); (case k3 => exact rfl); (case k4 => boot_fast); (case k5 => decide); k_whole))
  k_with "eval Name" => (k_here; (with_reducible rename Fr _ _ _ _ => kFZz); with_unfolding_all refine guard_global (by rfl) ?_; k_dflt (refine' name_K kFZz ?k1 ?k2 ?k3 ?_; (case k1 => k_asm); (case k2 => k_asm); (case k3 => exact rfl); k_whole))
  k_with "callWith ref" => (k_here; k_dflt (first
      | refine' callWith_K ?k1 ?k2 ?_; (case k1 => k_asm); (case k2 => exact rfl); k_whole
      | refine' callWith_K0 ?k1 ?k2 ?_; (case k1 => k_in); (case k2 => exact rfl); k_whole))
  k_with "eval Name" => (k_here; k_dflt (refine' ld ?k1 ?k2 ?_; (case k1 => k_asm); (case k2 => walk_at "m_look"); k_whole))
  k_with "subscriptTail" => (k_here; (with_reducible show wpAny _ _ (subscriptTail _ _ (Value.ref _) (Value.int _ _)) _ _ _); k_dflt (refine' item_get ?k1 ?k2 ?k3 ?k4 ?_; (case k1 => exact News.isList (by k_asm) (by k_mem)); (case k2 => omega); (case k3 => omega); (case k4 => omega); k_whole))
  k_with "setItem ref int" => (k_here; k_dflt (refine' item_set ?k1 ?k2 ?k3 ?k4 ?k5 ?k6 ?_; (case k1 => k_asm); (case k2 => k_asm); (case k3 => k_upd); (case k4 => omega); (case k5 => omega); (case k6 => omega); k_whole); intro hZz FZz NZz; (try k_sweep))
  k_with "binaryOp RShift int int" => (k_here; k_dflt (refine' wpAny_rshift1_int ?k1 ?_; (case k1 => omega); k_whole))
  k_with "call builtin:len" => (k_here; (with_reducible show wpAny _ _ (call (Value.builtin _) [Value.ref _]) _ _ _); k_dflt (refine' len_L ?k1 ?k2 ?_; (case k1 => exact News.isList (by k_asm) (by k_mem)); (case k2 => ((try simp only [List.length_append, List.length_cons, List.length_nil]); omega)); k_whole))
  k_with "call builtin:list.append" => (k_here; (with_reducible show wpAny _ _ (call (Value.builtin _) [Value.ref _, _]) _ _ _); k_dflt (refine' append_L ?k1 ?k2 ?k3 ?k4 ?_; (case k1 => k_asm); (case k2 => k_asm); (case k3 => k_upd); (case k4 => ((try simp only [List.length_append, List.length_cons, List.length_nil]); omega)); k_whole); intro hZz FZz NZz; (try k_sweep))
  k_with "call builtin:list.pop" => (k_here; (with_reducible show wpAny _ _ (call (Value.builtin _) [Value.ref _]) _ _ _); k_dflt (refine' pop_L ?k1 ?k2 ?k3 ?k4 ?_; (case k1 => k_asm); (case k2 => k_asm); (case k3 => k_upd); (case k4 => omega); k_whole); intro hZz FZz NZz; (try k_sweep))
  k_with "assign Tuple" => (k_here; (with_reducible show wpAny _ _ (assign (Expr.Tuple _ _ _) _ (Value.ref _)) _ _ _); k_dflt (refine' unpackN_ ?F ?N ?T ?k1 ?k2 ?k3 ?_; (case F => k_asm); (case N => k_asm); (case T => first | with_reducible assumption | (refine News.isTup (by k_asm) (by k_mem))); (case k1 => assumption); (case k2 => exact rfl); (case k3 => exact rfl)); intro hZz FZz NZz; (try k_sweep))
  k_with "call type:range" => (k_here; (with_reducible show wpAny _ _ (call _ [Value.int _ _]) _ _ _); k_dflt (refine' range_L ?k1 ?k2 ?_; (case k1 => k_asm); (case k2 => k_asm); k_whole); intro rZz hZz uZz vZz FZz NZz l1Zz; (try k_lt l1Zz); (try k_sweep))
  k_with "call type:reversed" => (k_here; k_dflt (refine' reversed_L ?k1 ?k2 ?k3 ?k4 ?k5 ?_; (case k1 => k_asm); (case k2 => k_asm); (case k3 => k_mem); (case k4 => omega); (case k5 => omega); k_whole); intro iZz hZz FZz NZz l1Zz; (try k_lt l1Zz); (try k_sweep))
  k_with "binaryOp FloorDiv int int" => (k_here; k_dflt (refine' fdiv_pos ?k1 ?k2 ?_; (case k1 => decide); (case k2 => exact PyProof.noPylong_of_log2 (by decide +kernel)); k_whole))
  k_with "binaryOp Mod int int" => (k_here; k_dflt (refine' fmod_pos ?k1 ?_; (case k1 => decide); k_whole))
  k_with "ent inst" => first | exact Fr.keep (by k_asm) _ _ (by assumption) | exact News.get (by k_asm) (by k_mem)
  k_with "setAttr ref" => (k_here; k_dflt (refine' ent_set ?k1 ?k2 ?k3 ?k4 ?k5 ?k6 ?k7 ?_ ?k8; (case k8 => exact rfl); (case k1 => k_asm); (case k2 => k_asm); (case k3 => k_asm); (case k4 => walk_at "ent inst"); (case k5 => k_updF); (case k6 => assumption); (case k7 => exact Nat.le_of_ble_eq_true rfl); k_whole); intro hZz eZz nZz FZz NZz EZz; (try dsimp only at NZz); (try k_sweep))
  k_with "newList" => (k_here; k_dflt (refine' newList_L ?k1 ?k2 ?_ ?k3; (case k1 => k_asm); (case k2 => k_asm); (case k3 => first | exact Nat.le_of_ble_eq_true rfl | omega); k_whole); intro lZz hZz FZz NZz l1Zz l2Zz; (try k_lt l1Zz); (try k_lt2 l2Zz); (try k_sweep))
  k_with "is cells" => first | (with_reducible show wpAny _ _ (eval (Expr.Name _ _) (envOfC _ _ _ _ _)) _ _ _) | (with_reducible show wpAny _ _ (eval (Expr.Name _ _) (envX _ _ _ _ _ _)) _ _ _) | (with_reducible show wpAny _ _ (storeName (envOfC _ _ _ _ _) _ _) _ _ _)
  k_with "eval Name" => (k_here; walk_at "is cells"; k_dflt (first
      | (refine' nameX_L ?F ?v ?_ ?a ?b; (case F => k_asm); (case a => rfl); (case b => rfl); (case v => walk_at "m_look"); k_whole)
      | (refine' nameX_C ?N ?c ?m ?d ?_ ?a ?b; (case a => rfl); (case b => rfl); (case N => k_asm); (case c => rfl); (case m => k_mem); (case d => k_asm); k_whole)
      | (refine' nameX_F ?N ?c ?m ?d ?_ ?a ?b; (case a => rfl); (case b => rfl); (case N => k_asm); (case c => rfl); (case m => k_mem); (case d => k_asm); k_whole)
      | (refine' nameX_K ?F ?X ?T ?e ?_ ?a ?b; (case F => k_asm); (case X => k_asm); (case T => k_asm); (case a => rfl); (case b => rfl); (case e => exact rfl); k_whole)
      | (refine' nameX_B ?F ?X ?T ?e ?v ?n ?_ ?a ?b; (case F => k_asm); (case X => k_asm); (case T => k_asm); (case a => rfl); (case b => rfl); (case e => exact rfl); (case v => boot_fast); (case n => decide); k_whole)))
  k_with "eval Lambda" => (k_here; k_dflt (refine' kla_eval ?d0 ?_; (case d0 => exact rfl)); (first
      | (k_dflt (refine' kla_nest ?F ?N ?T ?C ?cd ?U ?t ?n ?cl ?_; (case F => k_asm); (case N => k_asm); (case T => k_asm); (case cd => exact rfl); (case C => k_asm); (case U => k_updF); (case t => kn_triples); (case n => kn_among); (case cl => exact rfl); k_whole); intro fZz cZz ocZz vsZz tZz ctZz hZz tkZz FZz NZz d1Zz d2Zz l1Zz l2Zz; (try dsimp only at NZz); (try k_lt l1Zz); (try k_lt2 l2Zz))
      | (k_dflt (refine' kla_hit ?F ?N ?T ?C ?cd ?mem ?t ?n ?cl ?_; (case F => k_asm); (case N => k_asm); (case T => k_asm); (case cd => exact rfl); (case C => k_asm); (case mem => k_mem); (case t => kn_triples); (case n => kn_among); (case cl => exact rfl); k_whole); intro fZz ctZz hZz tkZz FZz NZz l1Zz; (try k_lt l1Zz))))
  k_with "is list" => first | exact News.isList (by k_asm) (by k_mem) | exact isList_keep (by k_asm) (by assumption)
  k_with "subscriptTail" => (k_here; (with_reducible show wpAny _ _ (subscriptTail _ _ (Value.ref _) (Value.int _ _)) _ _ _); k_dflt (refine' item_getv ?k1 ?k2 ?k3 ?k4 ?k5 ?_; (case k1 => walk_at "is list"); (case k2 => omega); (case k3 => omega); (case k4 => omega); (case k5 => first | with_reducible assumption | exact rfl); k_whole))
  k_with "ent at" => first | exact EntAt.keeps (by assumption) (Fr.keep (by k_asm)) | exact ⟨News.get (by k_asm) (by k_mem), _, _, News.get (by k_asm) (by k_mem), by assumption⟩
  k_with "getAttr ref" => (k_here; k_dflt (refine' ent_get ?k1 ?k2 ?k3 ?k4 ?_ ?k5 ?k6 ?k7 ?k8 ?k9; (case k5 => exact rfl); (case k6 => exact rfl); (case k7 => exact rfl); (case k8 => exact rfl); (case k9 => exact rfl); (case k1 => exact Frag.In.keeps (by k_asm) (Fr.keep (by k_asm))); (case k2 => walk_at "ent at"); (case k3 => first | assumption | exact rfl); (case k4 => exact rfl); k_whole))
  k_with "no loop" => ((fail_if_success (with_reducible show wpAny _ _ (exec (Stmt.While _ _ _ _) _) _ _ _)); (fail_if_success (with_reducible show wpAny _ _ (exec (Stmt.For _ _ _ _ _) _) _ _ _)); (fail_if_success (with_reducible show wpAny _ _ (call (Value.ref _) _ _) _ _ _)); (fail_if_success (with_reducible show wpAny _ _ (pyIter _) _ _ _)))
  k_with "go" => repeat' (first | (walk_at "no loop"; walk1; try dsimp only) | (walk_at "no loop"; dsimp only; walk1))
  exact True.intro
theorem enterC {prog : Program} {w : World} {A : Around} {s : Shared} {K : Frag} {p : Program} {loose : List Str} {mg mb : Str → Option Value} {news : List (Addr × Obj)}
    {R : Result → Shared → Prop} {name qual : Str} {params : Arguments} {body : List Stmt} {scope : Scope} {dV kV doc pm cdv ct oc : Value} {an od : Option Addr} {osl : Array (Option Value)} {f : Addr} {args : Args} {binds : List (Str × Value)}
    {g : Heap} (hg : g = hideAll s.heap (news.map (·.1))) (X : K.In g) (T : TopRead p loose mg mb g) (hn : ∀ q ∈ news, s.heap.get? q.1 = some q.2)
    (ho : K.lookup f = some ⟨oc, od, .func (fnOf name qual params body scope dV kV doc pm an cdv ct), osl⟩) (hcd : codeIn K cdv qual = true) (hroom : A.depth < recursionLimit)
    (hbind : BindsTo s (fnOf name qual params body scope dV kV doc pm an cdv ct) args binds) (hkind : (binds.all fun y => scope.names.lookup y.1 == some .local || scope.names.lookup y.1 == some .cell) = true)
    (hnd : ((cellsFrom 0 scope.names []).map (·.1)).Nodup)
    (h : ∀ L h₁ tk cells, Fr g L h₁ (bindL (envOfC qual scope L f cdv).kindOf binds fun _ => none) → News g L h₁ (cells ++ news) →
      CellsAre (bindC (envOfC qual scope L f cdv).kindOf binds fun _ => none) (cellsFrom (L + 1) scope.names []) cells → (∀ q ∈ news, q.1 < L) →
      wpAny (model prog w) (A.deeper (envOfC qual scope L f cdv)) (execs body (envOfC qual scope L f cdv))
        (fun fl s' => R (.ok (.ret (match fl with | .ret v => v | _ => .none))) s') (fun _ _ => False)
        { s with heap := h₁, toks := tk })
    (hco : scope.isCoroutine = false := by rfl) (hgen : scope.isGenerator = false := by rfl) (hk : scope.kind = .function := by rfl) : codeAny (model prog w) A (.call (.ref f) args) R s := by
  subst hg
  have X' : K.In s.heap := X.keeps fun b o e => of_hideAll _ e
  have hlim : s.heap.NoLimit := T.nolimit.keeps fun b o e => of_hideAll _ e
  refine codeAny_call_function (fd := fnOf name qual params body scope dV kV doc pm an cdv ct) hroom (X' _ _ ho) rfl hco hgen rfl (codeRec_of X' hcd) (hbind _ _ _ _ ?_)
  refine wpAny_newFunctionEnv_cells hk (kindsX hkind _) fun env' he s' x => ?_
  subst he
  refine ⟨hlim.keeps x.toInCall.keep, codeAny_func ?_⟩
  obtain ⟨h₁, tk, rfl, _⟩ := x.done
  have hk₁ := x.toInCall.keep
  obtain ⟨cells, NC, Y⟩ := Cl.news (h₀ := s.heap) (Nat.le_refl _) fun n c hm => ⟨x.cell n c (lookup_of_mem_nodup (cellsFrom_names scope.names 0 (s.heap.objs.size + 1) [] [] rfl ▸ hnd) hm), x.above n c hm⟩
  refine wpAny_mono (h s.heap.objs.size h₁ tk cells ⟨x.toInCall.ns, fun b o e => hk₁ b o (of_hideAll _ e), Nat.le_of_eq (hideAll_size _ _)⟩ (fun p hp => ?_) Y (fun q hq => Heap.lt_size (hn q hq))) (fun _ _ y => y) fun _ _ y => y.elim
  rcases List.mem_append.mp hp with hp | hp
  · refine ⟨(NC p hp).1, (NC p hp).2.1, ?_⟩
    cases q : (hideAll s.heap (news.map (·.1))).get? p.1 with
    | none => rfl
    | some o => have := of_hideAll _ q; rw [(NC p hp).2.2] at this; cases this
  · exact ⟨hk₁ _ _ (hn p hp), Nat.ne_of_lt (Heap.lt_size (hn p hp)), hideAll_none _ (List.mem_map_of_mem hp)⟩

theorem init_code {prog : Program} {w : World} {p : Program} {loose : List Str} {mg mb : Str → Option Value} {A : Around} {R : Result → Shared → Prop} {s : Shared} {x d : Addr}
  (X : (KK w).In (hideAll s.heap [d])) (T : TopRead p loose mg mb (hideAll s.heap [d])) (hroom : A.depth < 900) (hx : s.heap.get? x = some (instObj 52 d)) (hd : s.heap.get? d = some (dictOf [] 0)) (hxd : x ≠ d)
  (post : ∀ h' tk u l es n, Keeps [d] s.heap h' → h'.get? d = some (dictOf es n) → EntsAre w es [("useragents", .ref u), ("rulelines", .ref l), ("delay", .none), ("req_rate", .none)] →
    h'.get? u = some (W.listOf #[] 0) → h'.get? l = some (W.listOf #[] 0) → s.heap.objs.size ≤ u → u < l → R (.ok (.ret .none)) { s with heap := h', toks := tk }) :
  codeAny (model prog w) A (.call (.ref 28) ⟨[.ref x], []⟩) R s := by
  obtain ⟨g, hg⟩ : ∃ g, g = hideAll s.heap [d] := ⟨_, rfl⟩
  have hxg : g.get? x = some (instObj 52 d) := hg ▸ hideAll_get _ hx (by simpa using hxd)
  rw [← hg] at X T
  refine enter (news := [(d, dictOf [] 0)]) (K := KK w) hg X T ?_ rfl rfl (Nat.lt_of_lt_of_le hroom (by decide)) (BindsTo.of_eq rfl) (locs rfl) ?_
  · intro q hq; cases hq with | head => exact hd | tail _ h => cases h
  intro L h₁ tk F N lt0
  k_lt lt0
  have hents : EntsAre w [] [] := .nil
  try dsimp only
  walk_at "go"
  (rename Fr _ _ _ _ => F'); (rename News _ _ _ _ => N'); (rename EntsAre _ _ _ => E')
  refine post _ _ _ _ _ _ (keeps_of hg F') (N' _ (.tail _ (.tail _ (.head _)))).1 E' (N' _ (.tail _ (.head _))).1 (N' _ (.head _)).1 ?_ ?_
  · have := F'.above
    rw [hg, hideAll_size] at this
    omega
  · exact ltN (by omega)

/-- Entry() -/
theorem entry_new {prog : Program} {w : World} {p : Program} {loose : List Str} {mg mb : Str → Option Value} {A : Around} {E : Value → Shared → Prop} {s : Shared} {g : Heap} {L : Addr} {m : Str → Option Value} {news : List (Addr × Obj)} {Q : Value → Shared → Prop}
    (F : Fr g L s.heap m) (N : News g L s.heap news) (X : (KK w).In g) (T : TopRead p loose mg mb g) (hroom : A.depth < 890)
    (h : ∀ (x d u l : Nat) es n h' tk, Fr g L h' m → News g L h' ((l, W.listOf #[] 0) :: (u, W.listOf #[] 0) :: (x, instObj 52 d) :: (d, dictOf es n) :: news) → EntsAre w es [("useragents", .ref u), ("rulelines", .ref l), ("delay", .none), ("req_rate", .none)] →
      (∀ q ∈ news, q.1 < d) → d < x → x < u → u < l → L < u → Q (.ref x) { s with heap := h', toks := tk }) :
    wpAny (model prog w) A (call (.ref 52) []) Q E s := by
  have hLs := F.ns.lt
  refine call_cls (K := KK w) (fI := 28) F X N rfl rfl rfl fun x d h1 F1 N1 l1 l2 => ?_
  have hd := N1 _ (.tail _ (.head _))
  have hx := N1 _ (.head _)
  have kb := base_in (S := [d]) F1 (by intro b hb; cases hb with | head => exact hd.2.2 | tail _ h => cases h)
  refine init_code (p := p) (loose := loose) (mg := mg) (mb := mb) (x := x) (d := d) (X.keeps kb) (T.keeps kb) (by rw [depth_under_make]; omega) hx.1 hd.1 (Nat.ne_of_gt l2) ?_
  intro h2 tk u l es n k2 e2 he eu el szu ul
  refine ⟨rfl, ?_⟩
  have F2 := fr_after F1 k2 (by intro b hb; cases hb with | head => exact hd.2 | tail _ h => cases h)
  have hxs := Heap.lt_size hx.1
  have fr : ∀ b : Nat, L < b → g.get? b = none := fun b hb => Heap.get?_none_of_le (Nat.le_trans F.above (Nat.le_of_lt hb))
  have hL1 : (L : Nat) < u := Nat.lt_of_lt_of_le F1.ns.lt szu
  have hL2 : (L : Nat) < l := Nat.lt_trans hL1 ul
  have xu : (x : Nat) < u := Nat.lt_of_lt_of_le hxs szu
  refine h x d u l es n h2 tk F2 ?_ he l1 l2 xu ul hL1
  intro q hq
  rcases List.mem_cons.mp hq with rfl | hq
  · exact ⟨el, Nat.ne_of_gt hL2, fr _ hL2⟩
  rcases List.mem_cons.mp hq with rfl | hq
  · exact ⟨eu, Nat.ne_of_gt hL1, fr _ hL1⟩
  rcases List.mem_cons.mp hq with rfl | hq
  · exact ⟨k2 _ _ (by simpa using Nat.ne_of_gt l2) hx.1, hx.2⟩
  rcases List.mem_cons.mp hq with rfl | hq
  · exact ⟨e2, hd.2⟩
  · have z := N1 q (.tail _ (.tail _ hq))
    exact ⟨k2 _ _ (by simpa using Nat.ne_of_lt (l1 q hq)) z.1, z.2⟩
theorem lay_E15 : True := by
  k_with_none
  w_top off
  exact True.intro
noncomputable def lamParts (w : World) : Option (Arguments × PySem.Expr × Scope) := match (KK w).lookup 119 with
  | some o => match o.data with
    | .func fd => match fd.body with
      | .stmts b => match (b : List PySem.Stmt)[3]? with
        | some (PySem.Stmt.Assign _ (PySem.Expr.Lambda p e s _) _) => some (p, e, s)
        | _ => none
      | _ => none
    | _ => none
  | none => none

def rch (name : Str) (a b : Int) : Int := if name = Str.ofString "" then a else b

/-- the dict of a rule's reaches -/
def ReachAt (prog : Program) (w : World) (h : Heap) (rd : Addr) (a b : Int) : Prop := ∃ t1 t2, h.DictOf (PySem.strKind prog w) rd [(Str.ofString "", .int a t1), (Str.ofString "/A%41", .int b t2)]

/-- a rule: its number, its verdict's list, whether it allows, its reaches at the two names; c' the code of its lambda -/
def RuleAt (prog : Program) (w : World) (h : Heap) (c' : Addr) (v : Value) (i : Nat) (al : Addr) (ok : Bool) (a b : Int) : Prop :=
  ∃ x d u l f c rd ti t3 pm ctv oc P B S, v = .ref x ∧
    EntAt w h x d [(Str.ofString "useragents", .ref u), (Str.ofString "rulelines", .ref l), (Str.ofString "delay", .int i ti), (Str.ofString "req_rate", .none), (Str.ofString "applies_to", .ref f), (Str.ofString "allowance", .ref al)] ∧
    h.get? al = some (W.listOf (if ok = true then [Value.int (i : Int) t3] else []).toArray 0) ∧ lamParts w = some (P, B, S) ∧ h.get? f = some (kla_obj "<lambda>" "_law_come.<locals>.<lambda>" P B S [(Str.ofString "reaches", c)] pm c' ctv) ∧
    h.get? c = some oc ∧ oc.data = .cell (some (.ref rd)) ∧ ReachAt prog w h rd a b

theorem ReachAt.keeps {prog : Program} {w : World} {h h' : Heap} {rd : Addr} {a b : Int} (x : ReachAt prog w h rd a b) (k : ∀ b o, h.get? b = some o → h'.get? b = some o) : ReachAt prog w h' rd a b :=
  let ⟨t1, t2, e⟩ := x; ⟨t1, t2, e.keep k⟩
theorem RuleAt.keeps {prog : Program} {w : World} {h h' : Heap} {c' : Addr} {v : Value} {i : Nat} {al : Addr} {ok : Bool} {a b : Int} (x : RuleAt prog w h c' v i al ok a b) (k : ∀ b o, h.get? b = some o → h'.get? b = some o) : RuleAt prog w h' c' v i al ok a b := by
  obtain ⟨x, d, u, l, f, c, rd, ti, t3, pm, ctv, oc, P, B, S, e1, e2, e3, e4, e5, e6, e7, e8⟩ := x
  exact ⟨x, d, u, l, f, c, rd, ti, t3, pm, ctv, oc, P, B, S, e1, e2.keeps k, k _ _ e3, e4, k _ _ e5, k _ _ e6, e7, e8.keeps k⟩

section
variable {prog : Program} {w : World} {A : Around} {E : Value → Shared → Prop} {s : Shared}
theorem reach_item {value slice : PySem.Expr} {rd : Addr} {a b : Int} {name : Str} {t : Tok} {Q : Value → Shared → Prop} (D : ReachAt prog w s.heap rd a b) (hn : name = Str.ofString "" ∨ name = Str.ofString "/A%41")
    (h : ∀ t', Q (.int (rch name a b) t') { s with toks := s.toks + 1 })
    (hs : subscripted slice false (.ref rd) (.str name t) = operate [.ref rd, .str name t] (getItem (.ref rd) (.str name t)) := by with_unfolding_all rfl) :
    wpAny (model prog w) A (subscriptTail value slice (.ref rd) (.str name t)) Q E s := by
  obtain ⟨t1, t2, D⟩ := D
  have hm := D.mapOf
  refine tail_any D.typeIs slot_dict_getitem.lookup ?_ hs
  rcases hn with rfl | rfl
  · exact wpAny_getItem_of (k := Str.ofString "") (v := .int a t1) (by first | rfl | decide) hm (by first | rfl | decide) (h t1)
  · exact wpAny_getItem_of (k := Str.ofString "/A%41") (v := .int b t2) (by first | rfl | decide) hm (by first | rfl | decide) (h t2)
end
def tabOf : Option Addr → Obj
  | none => tabObj #[]
  | some c => tabObj #[rawInt 113, rawInt 22, .ref c]
/-- a lambda, whether its code stands in the table or not; z is the new code, or the lambda once more -/
theorem kla_any {prog : Program} {w : World} {p : Program} {loose : List Str} {mean : ExcName → Option Value} {mg mb : Str → Option Value} {A : Around} {E : Value → Shared → Prop} {s : Shared} {g : Heap} {L c P a : Addr} {m : Str → Option Value} {news : List (Addr × Obj)} {u : Obj → List (Addr × Obj)}
    {name cn qual : Str} {params : Arguments} {body : PySem.Expr} {scope cs : Scope} {ccd : Value} {cl clos : List (Str × Addr)} {pos : Pos} {firstLine : Nat} {Q : Value → Shared → Prop} {tf : Option Addr → Obj} {tab : Option Addr}
    (F : Fr g L s.heap m) (N : News g L s.heap news) (T : Top p loose mean mg mb g) (C : CodeHd g c P) (hcd : ccd = .ref c) (U : UpdF P (tf tab) news u) (h0 : tf none = tabObj #[]) (h1 : ∀ x, tf (some x) = tabObj #[rawInt pos.line, rawInt pos.col, .ref x])
    (ht : ∀ x, TriplesOk [rawInt pos.line, rawInt pos.col, .ref x]) (hf : ∀ x, codeAmong pos [rawInt pos.line, rawInt pos.col, .ref x] = some (.ref x))
    (hcl : closureFor scope (envX cn cs L a ccd cl) = pure clos)
    (h : ∀ f z oz c' ctv h' tk, Fr g L h' m → News g L h' ((f, kla_obj name qual params body scope clos ((mg "__name__").getD .none) c' ctv) :: (z, oz) :: u (tf (some c'))) → (∀ x, tab = some x → c' = x) →
      (tab = none → ∀ h2 : Heap, h2.get? z = some oz → h2.CodeRec (.ref c') qual) → (∀ q ∈ news, q.1 < z) → (∀ q ∈ news, q.1 < f) → Q (.ref f) { s with heap := h', toks := tk }) :
    wpAny (model prog w) A (makeFunction name qual params (.expr body) scope (envX cn cs L a ccd cl) [] [] [] pos firstLine) Q E s := by
  cases tab with
  | none =>
    rw [h0] at U
    refine kla_nest F N T C hcd U (by kn_triples) rfl hcl ?_
    intro f c' oc vs t ctv h' tk F' N' d1 d2 l1 l2
    refine h f c' oc c' ctv h' tk F' (fun q hq => N' q ?_) (fun _ e => nomatch e) (fun _ h2 k => ⟨c', oc, vs, t, rfl, k, d1, d2⟩) l1 fun q hq => Nat.lt_trans (l1 q hq) l2
    rw [h1] at hq
    exact hq
  | some x =>
    rw [h1] at U
    obtain ⟨pre, post, hn, hu, -, -⟩ := U.split
    have hm : (P, tabObj #[rawInt pos.line, rawInt pos.col, .ref x]) ∈ news := by rw [hn]; exact List.mem_append_right _ (.head _)
    refine kla_hit F N T C hcd hm (ht x) (hf x) hcl ?_
    intro f ctv h' tk F' N' l1
    refine h f f (kla_obj name qual params body scope clos ((mg "__name__").getD .none) x ctv) x ctv h' tk F' (fun q hq => N' q ?_) (fun _ e => Option.some.inj e) (fun e => nomatch e) l1 l1
    rw [h1, hu, ← hn] at hq
    rcases List.mem_cons.mp hq with rfl | hq
    · exact .head _
    · exact hq
theorem lay_E2 : True := by
  k_with_none
  w_top off
  k_with "m_look" => first | with_reducible assumption | exact rfl | exact upd_eq | (refine upd_ne ?_ (by decide); walk_at "m_look")
  k_with "eval Name" => (k_here; (with_reducible rename Fr _ _ _ _ => kFZz); with_unfolding_all refine guard_global (by rfl) ?_; k_dflt (refine' name_B kFZz ?k1 ?k2 ?k3 ?k4 ?k5 ?_; (case k1 => k_asm); (case k2 => k_asm); (case k3 => exact rfl); (case k4 => boot_fast); (case k5 => decide); k_whole))
  k_with "eval Name" => (k_here; (with_reducible rename Fr _ _ _ _ => kFZz); with_unfolding_all refine guard_global (by rfl) ?_; k_dflt (refine' name_K kFZz ?k1 ?k2 ?k3 ?_; (case k1 => k_asm); (case k2 => k_asm); (case k3 => exact rfl); k_whole))
  k_with "callWith ref" => (k_here; k_dflt (first
      | refine' callWith_K ?k1 ?k2 ?_; (case k1 => k_asm); (case k2 => exact rfl); k_whole
      | refine' callWith_K0 ?k1 ?k2 ?_; (case k1 => k_in); (case k2 => exact rfl); k_whole))
  k_with "eval Name" => (k_here; k_dflt (refine' ld ?k1 ?k2 ?_; (case k1 => k_asm); (case k2 => walk_at "m_look"); k_whole))
  k_with "subscriptTail" => (k_here; (with_reducible show wpAny _ _ (subscriptTail _ _ (Value.ref _) (Value.int _ _)) _ _ _); k_dflt (refine' item_get ?k1 ?k2 ?k3 ?k4 ?_; (case k1 => exact News.isList (by k_asm) (by k_mem)); (case k2 => omega); (case k3 => omega); (case k4 => omega); k_whole))
  k_with "setItem ref int" => (k_here; k_dflt (refine' item_set ?k1 ?k2 ?k3 ?k4 ?k5 ?k6 ?_; (case k1 => k_asm); (case k2 => k_asm); (case k3 => k_upd); (case k4 => omega); (case k5 => omega); (case k6 => omega); k_whole); intro hZz FZz NZz; (try k_sweep))
  k_with "binaryOp RShift int int" => (k_here; k_dflt (refine' wpAny_rshift1_int ?k1 ?_; (case k1 => omega); k_whole))
  k_with "call builtin:len" => (k_here; (with_reducible show wpAny _ _ (call (Value.builtin _) [Value.ref _]) _ _ _); k_dflt (refine' len_L ?k1 ?k2 ?_; (case k1 => exact News.isList (by k_asm) (by k_mem)); (case k2 => ((try simp only [List.length_append, List.length_cons, List.length_nil]); omega)); k_whole))
  k_with "call builtin:list.append" => (k_here; (with_reducible show wpAny _ _ (call (Value.builtin _) [Value.ref _, _]) _ _ _); k_dflt (refine' append_L ?k1 ?k2 ?k3 ?k4 ?_; (case k1 => k_asm); (case k2 => k_asm); (case k3 => k_upd); (case k4 => ((try simp only [List.length_append, List.length_cons, List.length_nil]); omega)); k_whole); intro hZz FZz NZz; (try k_sweep))
  k_with "call builtin:list.pop" => (k_here; (with_reducible show wpAny _ _ (call (Value.builtin _) [Value.ref _]) _ _ _); k_dflt (refine' pop_L ?k1 ?k2 ?k3 ?k4 ?_; (case k1 => k_asm); (case k2 => k_asm); (case k3 => k_upd); (case k4 => omega); k_whole); intro hZz FZz NZz; (try k_sweep))
  k_with "assign Tuple" => (k_here; (with_reducible show wpAny _ _ (assign (Expr.Tuple _ _ _) _ (Value.ref _)) _ _ _); k_dflt (refine' unpackN_ ?F ?N ?T ?k1 ?k2 ?k3 ?_; (case F => k_asm); (case N => k_asm); (case T => first | with_reducible assumption | (refine News.isTup (by k_asm) (by k_mem))); (case k1 => assumption); (case k2 => exact rfl); (case k3 => exact rfl)); intro hZz FZz NZz; (try k_sweep))
  k_with "call type:range" => (k_here; (with_reducible show wpAny _ _ (call _ [Value.int _ _]) _ _ _); k_dflt (refine' range_L ?k1 ?k2 ?_; (case k1 => k_asm); (case k2 => k_asm); k_whole); intro rZz hZz uZz vZz FZz NZz l1Zz; (try k_lt l1Zz); (try k_sweep))
  k_with "call type:reversed" => (k_here; k_dflt (refine' reversed_L ?k1 ?k2 ?k3 ?k4 ?k5 ?_; (case k1 => k_asm); (case k2 => k_asm); (case k3 => k_mem); (case k4 => omega); (case k5 => omega); k_whole); intro iZz hZz FZz NZz l1Zz; (try k_lt l1Zz); (try k_sweep))
  k_with "binaryOp FloorDiv int int" => (k_here; k_dflt (refine' fdiv_pos ?k1 ?k2 ?_; (case k1 => decide); (case k2 => exact PyProof.noPylong_of_log2 (by decide +kernel)); k_whole))
  k_with "binaryOp Mod int int" => (k_here; k_dflt (refine' fmod_pos ?k1 ?_; (case k1 => decide); k_whole))
  k_with "ent inst" => first | exact Fr.keep (by k_asm) _ _ (by assumption) | exact News.get (by k_asm) (by k_mem)
  k_with "setAttr ref" => (k_here; k_dflt (refine' ent_set ?k1 ?k2 ?k3 ?k4 ?k5 ?k6 ?k7 ?_ ?k8; (case k8 => exact rfl); (case k1 => k_asm); (case k2 => k_asm); (case k3 => k_asm); (case k4 => walk_at "ent inst"); (case k5 => k_updF); (case k6 => assumption); (case k7 => exact Nat.le_of_ble_eq_true rfl); k_whole); intro hZz eZz nZz FZz NZz EZz; (try dsimp only at NZz); (try k_sweep))
  k_with "newList" => (k_here; k_dflt (refine' newList_L ?k1 ?k2 ?_ ?k3; (case k1 => k_asm); (case k2 => k_asm); (case k3 => first | exact Nat.le_of_ble_eq_true rfl | omega); k_whole); intro lZz hZz FZz NZz l1Zz l2Zz; (try k_lt l1Zz); (try k_lt2 l2Zz); (try k_sweep))
  k_with "is cells" => first | (with_reducible show wpAny _ _ (eval (Expr.Name _ _) (envOfC _ _ _ _ _)) _ _ _) | (with_reducible show wpAny _ _ (eval (Expr.Name _ _) (envX _ _ _ _ _ _)) _ _ _) | (with_reducible show wpAny _ _ (storeName (envOfC _ _ _ _ _) _ _) _ _ _)
  k_with "eval Name" => (k_here; walk_at "is cells"; k_dflt (first
      | (refine' nameX_L ?F ?v ?_ ?a ?b; (case F => k_asm); (case a => rfl); (case b => rfl); (case v => walk_at "m_look"); k_whole)
      | (refine' nameX_C ?N ?c ?m ?d ?_ ?a ?b; (case a => rfl); (case b => rfl); (case N => k_asm); (case c => rfl); (case m => k_mem); (case d => k_asm); k_whole)
      | (refine' nameX_F ?N ?c ?m ?d ?_ ?a ?b; (case a => rfl); (case b => rfl); (case N => k_asm); (case c => rfl); (case m => k_mem); (case d => k_asm); k_whole)
      | (refine' nameX_K ?F ?X ?T ?e ?_ ?a ?b; (case F => k_asm); (case X => k_asm); (case T => k_asm); (case a => rfl); (case b => rfl); (case e => exact rfl); k_whole)
      | (refine' nameX_B ?F ?X ?T ?e ?v ?n ?_ ?a ?b; (case F => k_asm); (case X => k_asm); (case T => k_asm); (case a => rfl); (case b => rfl); (case e => exact rfl); (case v => boot_fast); (case n => decide); k_whole)))
  k_with "eval Lambda" => (k_here; k_dflt (refine' kla_eval ?d0 ?_; (case d0 => exact rfl)); k_dflt (refine' kla_any (tf := tabOf) ?F ?N ?T ?C ?cd ?U ?h0 ?h1 ?t ?n ?cl ?_; (case F => k_asm); (case N => k_asm); (case T => k_asm); (case cd => exact rfl); (case C => k_asm); (case U => k_updF); (case h0 => exact rfl); (case h1 => exact fun _ => rfl); (case t => intro _; kn_triples); (case n => exact fun _ => rfl); (case cl => exact rfl); k_whole); intro fZz cZz ocZz vsZz tZz hZz tkZz FZz NZz d1Zz d2Zz l1Zz l2Zz; (try dsimp only at NZz); (try k_lt l1Zz); (try k_lt l2Zz))
  k_with "is list" => first | exact News.isList (by k_asm) (by k_mem) | exact isList_keep (by k_asm) (by assumption)
  k_with "subscriptTail" => (k_here; (with_reducible show wpAny _ _ (subscriptTail _ _ (Value.ref _) (Value.int _ _)) _ _ _); k_dflt (refine' item_getv ?k1 ?k2 ?k3 ?k4 ?k5 ?_; (case k1 => walk_at "is list"); (case k2 => omega); (case k3 => omega); (case k4 => omega); (case k5 => first | with_reducible assumption | exact rfl); k_whole))
  k_with "ent at" => first | exact EntAt.keeps (by assumption) (Fr.keep (by k_asm)) | exact ⟨News.get (by k_asm) (by k_mem), _, _, News.get (by k_asm) (by k_mem), by assumption⟩
  k_with "getAttr ref" => (k_here; k_dflt (refine' ent_get ?k1 ?k2 ?k3 ?k4 ?_ ?k5 ?k6 ?k7 ?k8 ?k9; (case k5 => exact rfl); (case k6 => exact rfl); (case k7 => exact rfl); (case k8 => exact rfl); (case k9 => exact rfl); (case k1 => exact Frag.In.keeps (by k_asm) (Fr.keep (by k_asm))); (case k2 => walk_at "ent at"); (case k3 => first | assumption | exact rfl); (case k4 => exact rfl); k_whole))
  k_with "subscriptTail" => (k_here; (with_reducible show wpAny _ _ (subscriptTail _ _ (Value.ref _) (Value.str _ _)) _ _ _); k_dflt (refine' reach_item ?k1 ?k2 ?_; (case k1 => first | exact ReachAt.keeps (by assumption) (Fr.keep (by k_asm)) | exact ⟨_, _, Heap.dictOf_iff.mpr ⟨_, News.get (by k_asm) (by k_mem), by assumption⟩⟩); (case k2 => assumption); k_whole); intro _)
  k_with "no loop" => ((fail_if_success (with_reducible show wpAny _ _ (exec (Stmt.While _ _ _ _) _) _ _ _)); (fail_if_success (with_reducible show wpAny _ _ (exec (Stmt.For _ _ _ _ _) _) _ _ _)); (fail_if_success (with_reducible show wpAny _ _ (call (Value.ref _) _ _) _ _ _)); (fail_if_success (with_reducible show wpAny _ _ (pyIter _) _ _ _)))
  k_with "go" => repeat' (first | (walk_at "no loop"; walk1; try dsimp only) | (walk_at "no loop"; dsimp only; walk1))
  exact True.intro
theorem fresh_get {g h h' : Heap} {L a : Addr} {o : Obj} {news : List (Addr × Obj)} (hs : h.objs.size ≤ L) (N : News g L h' news) (hm : (a, o) ∈ news) (hL : L < a) : (hideAll h' (List.range h.objs.size)).get? a = some o :=
  hideAll_get _ (N.get hm) fun q => Nat.lt_irrefl _ (Nat.lt_trans (Nat.lt_of_lt_of_le (List.mem_range.mp q) hs) hL)

theorem come_any {prog : Program} {w : World} {p : Program} {loose : List Str} {mean : ExcName → Option Value} {mg mb : Str → Option Value} {A : Around} {R : Result → Shared → Prop} {s : Shared} {ra ru lj ej dj : Addr} {es us ls : List Value} {n0 n1 n2 : Nat} {lst : List (Str × Value)} {j r : Int} {tj tr tn : Tok} {name : Str} {tab : Option Addr}
  (X : (KK w).In (hideAll s.heap [ru, lj, 114])) (T : Top p loose mean mg mb (hideAll s.heap [ru, lj, 114])) (C : CodeHd (hideAll s.heap [ru, lj, 114]) 118 114) (hroom : A.depth < 880) (hu : A.units < 130)
  (hru : s.heap.get? ru = some (W.listOf us.toArray n1)) (hlj : s.heap.get? lj = some (W.listOf ls.toArray n2)) (htab : s.heap.get? 114 = some (tabOf tab))
  (hra : (hideAll s.heap [ru, lj, 114]).get? ra = some (W.listOf es.toArray n0)) (hj : es.getD j.toNat .none = .ref ej) (hj0 : 0 ≤ j) (hj3 : j < es.length) (hel : es.length ≤ 10)
  (hej : EntAt w (hideAll s.heap [ru, lj, 114]) ej dj lst) (hrl : lst.lookup (Str.ofString "rulelines") = some (.ref lj)) (hne : ru ≠ lj ∧ ru ≠ 114 ∧ lj ≠ 114) (hul : us.length ≤ 1000) (hll : ls.length ≤ 1000)
  (hname : name = Str.ofString "" ∨ name = Str.ofString "/A%41")
  (post : ∀ h' tk (x al t : Addr) c', Keeps [ru, lj, 114] s.heap h' → h'.get? ru = some (W.listOf (us ++ [Value.ref x]).toArray (n1 + 1)) → h'.get? lj = some (W.listOf (ls ++ [Value.ref x]).toArray (n2 + 1)) →
    h'.get? 114 = some (tabOf (some c')) → (∀ x, tab = some x → c' = x) → (tab = none → (hideAll h' (List.range s.heap.objs.size)).CodeRec (.ref c') "_law_come.<locals>.<lambda>") →
    RuleAt prog w (hideAll h' (List.range s.heap.objs.size)) c' (.ref x) us.length al (decide (r % 2 = 1)) (r / 2 % 4) (r / 2) →
    KeyAt (hideAll h' (List.range s.heap.objs.size)) (.ref t) (if r % 2 = 1 then [-(rch name (r / 2 % 4) (r / 2)), 0, j, us.length] else [-(rch name (r / 2 % 4) (r / 2)), 1, -j, -(us.length : Int)]) →
    R (.ok (.ret (.ref t))) { s with heap := h', toks := tk }) :
  codeAny (model prog w) A (.call (.ref 119) ⟨[.ref ra, .ref ru, .int j tj, .int r tr, .str name tn], []⟩) R s := by
  obtain ⟨g, hg⟩ : ∃ g, g = hideAll s.heap [ru, lj, 114] := ⟨_, rfl⟩
  rw [← hg] at X T C hra hej
  refine enterC (news := [(ru, W.listOf us.toArray n1), (lj, W.listOf ls.toArray n2), (114, tabOf tab)]) (K := KK w) hg X (topRead_of T) ?_ rfl rfl (Nat.lt_of_lt_of_le hroom (by decide)) (BindsTo.of_eq rfl) rfl (by decide +kernel) ?_
  · intro q hq
    rcases List.mem_cons.mp hq with rfl | hq
    · exact hru
    rcases List.mem_cons.mp hq with rfl | hq
    · exact hlj
    rcases List.mem_cons.mp hq with rfl | hq
    · exact htab
    · cases hq
  intro L h₁ tk cells F N Y lt0
  k_lt lt0
  have q1 := neN hne.1
  have q2 := neN hne.2.1
  have q3 := neN hne.2.2
  have hsL : s.heap.objs.size ≤ L := by have := F.above; rw [hg, hideAll_size] at this; exact this
  k_cells Y
  simp only [List.cons_append, List.nil_append] at N
  try dsimp only
  walk_at "go"
  refine entry_new (p := p) (loose := loose) (mg := mg) (mb := mb) (by with_reducible assumption) (by with_reducible assumption) X (topRead_of T) (dpt (a := A.depth) hroom (by decide)) ?_
  intro x d u l es4 n4 h4 tk4 F4 N4 E4 l41 l42 l43 l44 l45
  have l46 := ent_lt l41 l42
  have l47 := ent_lt l46 l43
  have l48 := ent_lt l47 l44
  k_lt l41
  walk_at "go"
  all_goals (
    (rename Fr _ _ _ _ => F9); (rename News _ _ _ _ => N9); (rename EntsAre _ _ _ => E9)
    rcases Classical.em (r % 2 = 1) with hr | hr
    all_goals first
      | (exfalso; (first | lia | omega))
      | (rw [decide_eq_true hr, if_pos hr] at post
         refine post _ _ x _ _ _ (keeps_of hg F9) (N9.get (by k_mem)) (N9.get (by k_mem)) (N9.get (by k_mem)) (by assumption) (fun e => (by assumption : tab = none → ∀ h2 : Heap, h2.get? _ = some _ → h2.CodeRec _ _) e _ (fresh_get hsL N9 (by k_mem) (ltN (by (first | lia | omega)))))
           ⟨x, d, u, l, _, _, _, _, _, _, _, _, _, _, _, rfl, ⟨fresh_get hsL N9 (by k_mem) (ltN (by (first | lia | omega))), _, _, fresh_get hsL N9 (by k_mem) (ltN (by (first | lia | omega))), E9⟩, fresh_get hsL N9 (by k_mem) (ltN (by (first | lia | omega))), rfl, fresh_get hsL N9 (by k_mem) (ltN (by (first | lia | omega))), fresh_get hsL N9 (by k_mem) (ltN (by (first | lia | omega))), by assumption, _, _, Heap.dictOf_iff.mpr ⟨_, fresh_get hsL N9 (by k_mem) (ltN (by (first | lia | omega))), by assumption⟩⟩
           ⟨_, _, _, _, rfl, fresh_get hsL N9 (by k_mem) (ltN (by (first | lia | omega))), rfl, rfl, .cons _ _ (.cons _ _ (.cons _ _ (.cons _ _ .nil)))⟩)
      | (rw [decide_eq_false hr, if_neg hr] at post
         refine post _ _ x _ _ _ (keeps_of hg F9) (N9.get (by k_mem)) (N9.get (by k_mem)) (N9.get (by k_mem)) (by assumption) (fun e => (by assumption : tab = none → ∀ h2 : Heap, h2.get? _ = some _ → h2.CodeRec _ _) e _ (fresh_get hsL N9 (by k_mem) (ltN (by (first | lia | omega)))))
           ⟨x, d, u, l, _, _, _, _, 0, _, _, _, _, _, _, rfl, ⟨fresh_get hsL N9 (by k_mem) (ltN (by (first | lia | omega))), _, _, fresh_get hsL N9 (by k_mem) (ltN (by (first | lia | omega))), E9⟩, fresh_get hsL N9 (by k_mem) (ltN (by (first | lia | omega))), rfl, fresh_get hsL N9 (by k_mem) (ltN (by (first | lia | omega))), fresh_get hsL N9 (by k_mem) (ltN (by (first | lia | omega))), by assumption, _, _, Heap.dictOf_iff.mpr ⟨_, fresh_get hsL N9 (by k_mem) (ltN (by (first | lia | omega))), by assumption⟩⟩
           ⟨_, _, _, _, rfl, fresh_get hsL N9 (by k_mem) (ltN (by (first | lia | omega))), rfl, rfl, .cons _ _ (.cons _ _ (.cons _ _ (.cons _ _ .nil)))⟩))
theorem lay_E4 : True := by
  k_with_none
  w_top off
  k_with "m_look" => first | with_reducible assumption | exact rfl | exact upd_eq | (refine upd_ne ?_ (by decide); walk_at "m_look")
  k_with "eval Name" => (k_here; (with_reducible rename Fr _ _ _ _ => kFZz); with_unfolding_all refine guard_global (by rfl) ?_; k_dflt (refine' name_B kFZz ?k1 ?k2 ?k3 ?k4 ?k5 ?_; (case k1 => k_asm); (case k2 => k_asm); (case k3 => exact rfl); (case k4 => boot_fast); (case k5 => decide); k_whole))
  k_with "eval Name" => (k_here; (with_reducible rename Fr _ _ _ _ => kFZz); with_unfolding_all refine guard_global (by rfl) ?_; k_dflt (refine' name_K kFZz ?k1 ?k2 ?k3 ?_; (case k1 => k_asm); (case k2 => k_asm); (case k3 => exact rfl); k_whole))
  k_with "callWith ref" => (k_here; k_dflt (first
      | refine' callWith_K ?k1 ?k2 ?_; (case k1 => k_asm); (case k2 => exact rfl); k_whole
      | refine' callWith_K0 ?k1 ?k2 ?_; (case k1 => k_in); (case k2 => exact rfl); k_whole))
  k_with "eval Name" => (k_here; k_dflt (refine' ld ?k1 ?k2 ?_; (case k1 => k_asm); (case k2 => walk_at "m_look"); k_whole))
  k_with "subscriptTail" => (k_here; (with_reducible show wpAny _ _ (subscriptTail _ _ (Value.ref _) (Value.int _ _)) _ _ _); k_dflt (refine' item_get ?k1 ?k2 ?k3 ?k4 ?_; (case k1 => exact News.isList (by k_asm) (by k_mem)); (case k2 => omega); (case k3 => omega); (case k4 => omega); k_whole))
  k_with "setItem ref int" => (k_here; k_dflt (refine' item_set ?k1 ?k2 ?k3 ?k4 ?k5 ?k6 ?_; (case k1 => k_asm); (case k2 => k_asm); (case k3 => k_upd); (case k4 => omega); (case k5 => omega); (case k6 => omega); k_whole); intro hZz FZz NZz; (try k_sweep))
  k_with "binaryOp RShift int int" => (k_here; k_dflt (refine' wpAny_rshift1_int ?k1 ?_; (case k1 => omega); k_whole))
  k_with "call builtin:len" => (k_here; (with_reducible show wpAny _ _ (call (Value.builtin _) [Value.ref _]) _ _ _); k_dflt (refine' len_L ?k1 ?k2 ?_; (case k1 => exact News.isList (by k_asm) (by k_mem)); (case k2 => ((try simp only [List.length_append, List.length_cons, List.length_nil]); omega)); k_whole))
  k_with "call builtin:list.append" => (k_here; (with_reducible show wpAny _ _ (call (Value.builtin _) [Value.ref _, _]) _ _ _); k_dflt (refine' append_L ?k1 ?k2 ?k3 ?k4 ?_; (case k1 => k_asm); (case k2 => k_asm); (case k3 => k_upd); (case k4 => ((try simp only [List.length_append, List.length_cons, List.length_nil]); omega)); k_whole); intro hZz FZz NZz; (try k_sweep))
  k_with "call builtin:list.pop" => (k_here; (with_reducible show wpAny _ _ (call (Value.builtin _) [Value.ref _]) _ _ _); k_dflt (refine' pop_L ?k1 ?k2 ?k3 ?k4 ?_; (case k1 => k_asm); (case k2 => k_asm); (case k3 => k_upd); (case k4 => omega); k_whole); intro hZz FZz NZz; (try k_sweep))
  k_with "assign Tuple" => (k_here; (with_reducible show wpAny _ _ (assign (Expr.Tuple _ _ _) _ (Value.ref _)) _ _ _); k_dflt (refine' unpackN_ ?F ?N ?T ?k1 ?k2 ?k3 ?_; (case F => k_asm); (case N => k_asm); (case T => first | with_reducible assumption | (refine News.isTup (by k_asm) (by k_mem))); (case k1 => assumption); (case k2 => exact rfl); (case k3 => exact rfl)); intro hZz FZz NZz; (try k_sweep))
  k_with "call type:range" => (k_here; (with_reducible show wpAny _ _ (call _ [Value.int _ _]) _ _ _); k_dflt (refine' range_L ?k1 ?k2 ?_; (case k1 => k_asm); (case k2 => k_asm); k_whole); intro rZz hZz uZz vZz FZz NZz l1Zz; (try k_lt l1Zz); (try k_sweep))
  k_with "call type:reversed" => (k_here; k_dflt (refine' reversed_L ?k1 ?k2 ?k3 ?k4 ?k5 ?_; (case k1 => k_asm); (case k2 => k_asm); (case k3 => k_mem); (case k4 => omega); (case k5 => omega); k_whole); intro iZz hZz FZz NZz l1Zz; (try k_lt l1Zz); (try k_sweep))
  k_with "binaryOp FloorDiv int int" => (k_here; k_dflt (refine' fdiv_pos ?k1 ?k2 ?_; (case k1 => decide); (case k2 => exact PyProof.noPylong_of_log2 (by decide +kernel)); k_whole))
  k_with "binaryOp Mod int int" => (k_here; k_dflt (refine' fmod_pos ?k1 ?_; (case k1 => decide); k_whole))
  k_with "ent inst" => first | exact Fr.keep (by k_asm) _ _ (by assumption) | exact News.get (by k_asm) (by k_mem)
  k_with "setAttr ref" => (k_here; k_dflt (refine' ent_set ?k1 ?k2 ?k3 ?k4 ?k5 ?k6 ?k7 ?_ ?k8; (case k8 => exact rfl); (case k1 => k_asm); (case k2 => k_asm); (case k3 => k_asm); (case k4 => walk_at "ent inst"); (case k5 => k_updF); (case k6 => assumption); (case k7 => exact Nat.le_of_ble_eq_true rfl); k_whole); intro hZz eZz nZz FZz NZz EZz; (try dsimp only at NZz); (try k_sweep))
  k_with "newList" => (k_here; k_dflt (refine' newList_L ?k1 ?k2 ?_ ?k3; (case k1 => k_asm); (case k2 => k_asm); (case k3 => first | exact Nat.le_of_ble_eq_true rfl | omega); k_whole); intro lZz hZz FZz NZz l1Zz l2Zz; (try k_lt l1Zz); (try k_lt2 l2Zz); (try k_sweep))
  k_with "is cells" => first | (with_reducible show wpAny _ _ (eval (Expr.Name _ _) (envOfC _ _ _ _ _)) _ _ _) | (with_reducible show wpAny _ _ (eval (Expr.Name _ _) (envX _ _ _ _ _ _)) _ _ _) | (with_reducible show wpAny _ _ (storeName (envOfC _ _ _ _ _) _ _) _ _ _)
  k_with "eval Name" => (k_here; walk_at "is cells"; k_dflt (first
      | (refine' nameX_L ?F ?v ?_ ?a ?b; (case F => k_asm); (case a => rfl); (case b => rfl); (case v => walk_at "m_look"); k_whole)
      | (refine' nameX_C ?N ?c ?m ?d ?_ ?a ?b; (case a => rfl); (case b => rfl); (case N => k_asm); (case c => rfl); (case m => k_mem); (case d => k_asm); k_whole)
      | (refine' nameX_F ?N ?c ?m ?d ?_ ?a ?b; (case a => rfl); (case b => rfl); (case N => k_asm); (case c => rfl); (case m => k_mem); (case d => k_asm); k_whole)
      | (refine' nameX_K ?F ?X ?T ?e ?_ ?a ?b; (case F => k_asm); (case X => k_asm); (case T => k_asm); (case a => rfl); (case b => rfl); (case e => exact rfl); k_whole)
      | (refine' nameX_B ?F ?X ?T ?e ?v ?n ?_ ?a ?b; (case F => k_asm); (case X => k_asm); (case T => k_asm); (case a => rfl); (case b => rfl); (case e => exact rfl); (case v => boot_fast); (case n => decide); k_whole)))
  k_with "eval Lambda" => (k_here; k_dflt (refine' kla_eval ?d0 ?_; (case d0 => exact rfl)); (first
      | (k_dflt (refine' kla_nest ?F ?N ?T ?C ?cd ?U ?t ?n ?cl ?_; (case F => k_asm); (case N => k_asm); (case T => k_asm); (case cd => exact rfl); (case C => k_asm); (case U => k_updF); (case t => kn_triples); (case n => kn_among); (case cl => exact rfl); k_whole); intro fZz cZz ocZz vsZz tZz ctZz hZz tkZz FZz NZz d1Zz d2Zz l1Zz l2Zz; (try dsimp only at NZz); (try k_lt l1Zz); (try k_lt2 l2Zz))
      | (k_dflt (refine' kla_hit ?F ?N ?T ?C ?cd ?mem ?t ?n ?cl ?_; (case F => k_asm); (case N => k_asm); (case T => k_asm); (case cd => exact rfl); (case C => k_asm); (case mem => k_mem); (case t => kn_triples); (case n => kn_among); (case cl => exact rfl); k_whole); intro fZz ctZz hZz tkZz FZz NZz l1Zz; (try k_lt l1Zz))))
  k_with "is list" => first | exact News.isList (by k_asm) (by k_mem) | exact isList_keep (by k_asm) (by assumption)
  k_with "subscriptTail" => (k_here; (with_reducible show wpAny _ _ (subscriptTail _ _ (Value.ref _) (Value.int _ _)) _ _ _); k_dflt (refine' item_getv ?k1 ?k2 ?k3 ?k4 ?k5 ?_; (case k1 => walk_at "is list"); (case k2 => omega); (case k3 => omega); (case k4 => omega); (case k5 => first | with_reducible assumption | exact rfl); k_whole))
  k_with "ent at" => first | exact EntAt.keeps (by assumption) (Fr.keep (by k_asm)) | exact ⟨News.get (by k_asm) (by k_mem), _, _, News.get (by k_asm) (by k_mem), by assumption⟩
  k_with "getAttr ref" => (k_here; k_dflt (refine' ent_get ?k1 ?k2 ?k3 ?k4 ?_ ?k5 ?k6 ?k7 ?k8 ?k9; (case k5 => exact rfl); (case k6 => exact rfl); (case k7 => exact rfl); (case k8 => exact rfl); (case k9 => exact rfl); (case k1 => exact Frag.In.keeps (by k_asm) (Fr.keep (by k_asm))); (case k2 => walk_at "ent at"); (case k3 => first | assumption | exact rfl); (case k4 => exact rfl); k_whole))
  k_with "subscriptTail" => (k_here; (with_reducible show wpAny _ _ (subscriptTail _ _ (Value.ref _) (Value.str _ _)) _ _ _); k_dflt (refine' reach_item ?k1 ?k2 ?_; (case k1 => first | exact ReachAt.keeps (by assumption) (Fr.keep (by k_asm)) | exact ⟨_, _, Heap.dictOf_iff.mpr ⟨_, News.get (by k_asm) (by k_mem), by assumption⟩⟩); (case k2 => assumption); k_whole); intro _)
  k_with "no loop" => ((fail_if_success (with_reducible show wpAny _ _ (exec (Stmt.While _ _ _ _) _) _ _ _)); (fail_if_success (with_reducible show wpAny _ _ (exec (Stmt.For _ _ _ _ _) _) _ _ _)); (fail_if_success (with_reducible show wpAny _ _ (call (Value.ref _) _ _) _ _ _)); (fail_if_success (with_reducible show wpAny _ _ (pyIter _) _ _ _)))
  k_with "go" => repeat' (first | (walk_at "no loop"; walk1; try dsimp only) | (walk_at "no loop"; dsimp only; walk1))
  exact True.intro
theorem enterLam {prog : Program} {w : World} {A : Around} {s : Shared} {R : Result → Shared → Prop} {name qual : Str} {params : Arguments} {body : PySem.Expr} {scope : Scope} {cl : List (Str × Addr)} {pm ctv : Value} {c' f : Addr} {args : Args} {binds : List (Str × Value)}
    (ho : s.heap.get? f = some (kla_obj name qual params body scope cl pm c' ctv)) (hcd : s.heap.CodeRec (.ref c') qual) (hroom : A.depth < recursionLimit) (hlim : s.heap.NoLimit)
    (hbind : bindArgs (kla_fn name qual params body scope cl pm (.ref c') ctv) args = pure binds) (hloc : ∀ y ∈ binds, scope.names.lookup y.1 = some .local)
    (h : ∀ L h₁ tk, h₁.Ns L (fun y => binds.reverse.lookup y) → (∀ b o, s.heap.get? b = some o → h₁.get? b = some o) → s.heap.objs.size ≤ L →
      wpAny (model prog w) (A.deeper (envX qual scope L f (.ref c') cl)) (eval body (envX qual scope L f (.ref c') cl)) (fun v s' => R (.ok (.ret v)) s') (fun _ _ => False) { s with heap := h₁, toks := tk })
    (hcell : ∀ x ∈ scope.names, x.2 ≠ .cell) (hco : scope.isCoroutine = false := by rfl) (hgen : scope.isGenerator = false := by rfl) (hk : scope.kind = .function := by rfl) : codeAny (model prog w) A (.call (.ref f) args) R s := by
  refine kla_callFunE hroom ho rfl hco hgen rfl hcd ?_
  rw [hbind]
  refine wpAny_pure (wpAny_newFunctionEnv hcell hloc (fun h₁ hns hsb => ⟨hlim.fresh _ hsb, ?_⟩) hk)
  show codeAny _ _ (.expr body (envX qual scope s.heap.objs.size f (.ref c') cl)) _ _
  have hk₁ : ∀ b o, s.heap.get? b = some o → h₁.get? b = some o := fun b o e => hsb.extBut b o (Nat.ne_of_lt (Heap.lt_size e)) (Heap.get?_push_of_some _ e)
  exact kla_codeExpr (wpAny_mono (h s.heap.objs.size h₁ _ hns hk₁ (Nat.le_refl _)) (fun _ _ y => y) fun _ _ y => y.elim)

theorem lam_code {prog : Program} {w : World} {A : Around} {R : Result → Shared → Prop} {s : Shared} {f c rd c' : Addr} {pm ctv : Value} {oc : Obj} {P : Arguments} {B : PySem.Expr} {S : Scope} {name : Str} {t : Tok} {a b : Int}
  (hroom : A.depth < 900) (hlim : s.heap.NoLimit) (hP : lamParts w = some (P, B, S)) (hf : s.heap.get? f = some (kla_obj "<lambda>" "_law_come.<locals>.<lambda>" P B S [(Str.ofString "reaches", c)] pm c' ctv))
  (hcd : s.heap.CodeRec (.ref c') "_law_come.<locals>.<lambda>") (hc : s.heap.get? c = some oc) (hoc : oc.data = .cell (some (.ref rd))) (D : ReachAt prog w s.heap rd a b) (hname : name = Str.ofString "" ∨ name = Str.ofString "/A%41")
  (post : ∀ h' tk t', Keeps [] s.heap h' → R (.ok (.ret (.int (rch name a b) t'))) { s with heap := h', toks := tk }) :
  codeAny (model prog w) A (.call (.ref f) ⟨[.str name t], []⟩) R s := by
  cases hP
  refine enterLam hf hcd (Nat.lt_of_lt_of_le hroom (by decide)) hlim (binds := [(Str.ofString "asked", Value.str name t)]) rfl (locs rfl) ?_ (by decide)
  intro L h₁ tk hns hk _
  refine Subscript_ ?_
  refine wpAny_Name (wpAny_loadName_free rfl rfl rfl ⟨oc, hk _ _ hc, hoc⟩ ?_ rfl) (by decide)
  refine wpAny_Name (wpAny_loadName_local rfl rfl hns rfl ?_) (by decide)
  refine reach_item (D.keeps hk) hname ?_
  intro t'
  exact post _ _ _ fun b o _ e => hk _ _ e
theorem lay_E5 : True := by
  k_with_none
  w_top off
  k_with "m_look" => first | with_reducible assumption | exact rfl | exact upd_eq | (refine upd_ne ?_ (by decide); walk_at "m_look")
  k_with "eval Name" => (k_here; (with_reducible rename Fr _ _ _ _ => kFZz); with_unfolding_all refine guard_global (by rfl) ?_; k_dflt (refine' name_B kFZz ?k1 ?k2 ?k3 ?k4 ?k5 ?_; (case k1 => k_asm); (case k2 => k_asm); (case k3 => exact rfl); (case k4 => boot_fast); (case k5 => decide); k_whole))
  k_with "eval Name" => (k_here; (with_reducible rename Fr _ _ _ _ => kFZz); with_unfolding_all refine guard_global (by rfl) ?_; k_dflt (refine' name_K kFZz ?k1 ?k2 ?k3 ?_; (case k1 => k_asm); (case k2 => k_asm); (case k3 => exact rfl); k_whole))
  k_with "callWith ref" => (k_here; k_dflt (first
      | refine' callWith_K ?k1 ?k2 ?_; (case k1 => k_asm); (case k2 => exact rfl); k_whole
      | refine' callWith_K0 ?k1 ?k2 ?_; (case k1 => k_in); (case k2 => exact rfl); k_whole))
  k_with "eval Name" => (k_here; k_dflt (refine' ld ?k1 ?k2 ?_; (case k1 => k_asm); (case k2 => walk_at "m_look"); k_whole))
  k_with "subscriptTail" => (k_here; (with_reducible show wpAny _ _ (subscriptTail _ _ (Value.ref _) (Value.int _ _)) _ _ _); k_dflt (refine' item_get ?k1 ?k2 ?k3 ?k4 ?_; (case k1 => exact News.isList (by k_asm) (by k_mem)); (case k2 => omega); (case k3 => omega); (case k4 => omega); k_whole))
  k_with "setItem ref int" => (k_here; k_dflt (refine' item_set ?k1 ?k2 ?k3 ?k4 ?k5 ?k6 ?_; (case k1 => k_asm); (case k2 => k_asm); (case k3 => k_upd); (case k4 => omega); (case k5 => omega); (case k6 => omega); k_whole); intro hZz FZz NZz; (try k_sweep))
  k_with "binaryOp RShift int int" => (k_here; k_dflt (refine' wpAny_rshift1_int ?k1 ?_; (case k1 => omega); k_whole))
  k_with "call builtin:len" => (k_here; (with_reducible show wpAny _ _ (call (Value.builtin _) [Value.ref _]) _ _ _); k_dflt (refine' len_L ?k1 ?k2 ?_; (case k1 => exact News.isList (by k_asm) (by k_mem)); (case k2 => ((try simp only [List.length_append, List.length_cons, List.length_nil]); omega)); k_whole))
  k_with "call builtin:list.append" => (k_here; (with_reducible show wpAny _ _ (call (Value.builtin _) [Value.ref _, _]) _ _ _); k_dflt (refine' append_L ?k1 ?k2 ?k3 ?k4 ?_; (case k1 => k_asm); (case k2 => k_asm); (case k3 => k_upd); (case k4 => ((try simp only [List.length_append, List.length_cons, List.length_nil]); omega)); k_whole); intro hZz FZz NZz; (try k_sweep))
  k_with "call builtin:list.pop" => (k_here; (with_reducible show wpAny _ _ (call (Value.builtin _) [Value.ref _]) _ _ _); k_dflt (refine' pop_L ?k1 ?k2 ?k3 ?k4 ?_; (case k1 => k_asm); (case k2 => k_asm); (case k3 => k_upd); (case k4 => omega); k_whole); intro hZz FZz NZz; (try k_sweep))
  k_with "assign Tuple" => (k_here; (with_reducible show wpAny _ _ (assign (Expr.Tuple _ _ _) _ (Value.ref _)) _ _ _); k_dflt (refine' unpackN_ ?F ?N ?T ?k1 ?k2 ?k3 ?_; (case F => k_asm); (case N => k_asm); (case T => first | with_reducible assumption | (refine News.isTup (by k_asm) (by k_mem))); (case k1 => assumption); (case k2 => exact rfl); (case k3 => exact rfl)); intro hZz FZz NZz; (try k_sweep))
  k_with "call type:range" => (k_here; (with_reducible show wpAny _ _ (call _ [Value.int _ _]) _ _ _); k_dflt (refine' range_L ?k1 ?k2 ?_; (case k1 => k_asm); (case k2 => k_asm); k_whole); intro rZz hZz uZz vZz FZz NZz l1Zz; (try k_lt l1Zz); (try k_sweep))
  k_with "call type:reversed" => (k_here; k_dflt (refine' reversed_L ?k1 ?k2 ?k3 ?k4 ?k5 ?_; (case k1 => k_asm); (case k2 => k_asm); (case k3 => k_mem); (case k4 => omega); (case k5 => omega); k_whole); intro iZz hZz FZz NZz l1Zz; (try k_lt l1Zz); (try k_sweep))
  k_with "binaryOp FloorDiv int int" => (k_here; k_dflt (refine' fdiv_pos ?k1 ?k2 ?_; (case k1 => decide); (case k2 => exact PyProof.noPylong_of_log2 (by decide +kernel)); k_whole))
  k_with "binaryOp Mod int int" => (k_here; k_dflt (refine' fmod_pos ?k1 ?_; (case k1 => decide); k_whole))
  k_with "ent inst" => first | exact Fr.keep (by k_asm) _ _ (by assumption) | exact News.get (by k_asm) (by k_mem)
  k_with "setAttr ref" => (k_here; k_dflt (refine' ent_set ?k1 ?k2 ?k3 ?k4 ?k5 ?k6 ?k7 ?_ ?k8; (case k8 => exact rfl); (case k1 => k_asm); (case k2 => k_asm); (case k3 => k_asm); (case k4 => walk_at "ent inst"); (case k5 => k_updF); (case k6 => assumption); (case k7 => exact Nat.le_of_ble_eq_true rfl); k_whole); intro hZz eZz nZz FZz NZz EZz; (try dsimp only at NZz); (try k_sweep))
  k_with "newList" => (k_here; k_dflt (refine' newList_L ?k1 ?k2 ?_ ?k3; (case k1 => k_asm); (case k2 => k_asm); (case k3 => first | exact Nat.le_of_ble_eq_true rfl | omega); k_whole); intro lZz hZz FZz NZz l1Zz l2Zz; (try k_lt l1Zz); (try k_lt2 l2Zz); (try k_sweep))
  k_with "is cells" => first | (with_reducible show wpAny _ _ (eval (Expr.Name _ _) (envOfC _ _ _ _ _)) _ _ _) | (with_reducible show wpAny _ _ (eval (Expr.Name _ _) (envX _ _ _ _ _ _)) _ _ _) | (with_reducible show wpAny _ _ (storeName (envOfC _ _ _ _ _) _ _) _ _ _)
  k_with "eval Name" => (k_here; walk_at "is cells"; k_dflt (first
      | (refine' nameX_L ?F ?v ?_ ?a ?b; (case F => k_asm); (case a => rfl); (case b => rfl); (case v => walk_at "m_look"); k_whole)
      | (refine' nameX_C ?N ?c ?m ?d ?_ ?a ?b; (case a => rfl); (case b => rfl); (case N => k_asm); (case c => rfl); (case m => k_mem); (case d => k_asm); k_whole)
      | (refine' nameX_F ?N ?c ?m ?d ?_ ?a ?b; (case a => rfl); (case b => rfl); (case N => k_asm); (case c => rfl); (case m => k_mem); (case d => k_asm); k_whole)
      | (refine' nameX_K ?F ?X ?T ?e ?_ ?a ?b; (case F => k_asm); (case X => k_asm); (case T => k_asm); (case a => rfl); (case b => rfl); (case e => exact rfl); k_whole)
      | (refine' nameX_B ?F ?X ?T ?e ?v ?n ?_ ?a ?b; (case F => k_asm); (case X => k_asm); (case T => k_asm); (case a => rfl); (case b => rfl); (case e => exact rfl); (case v => boot_fast); (case n => decide); k_whole)))
  k_with "eval Lambda" => (k_here; k_dflt (refine' kla_eval ?d0 ?_; (case d0 => exact rfl)); (first
      | (k_dflt (refine' kla_nest ?F ?N ?T ?C ?cd ?U ?t ?n ?cl ?_; (case F => k_asm); (case N => k_asm); (case T => k_asm); (case cd => exact rfl); (case C => k_asm); (case U => k_updF); (case t => kn_triples); (case n => kn_among); (case cl => exact rfl); k_whole); intro fZz cZz ocZz vsZz tZz ctZz hZz tkZz FZz NZz d1Zz d2Zz l1Zz l2Zz; (try dsimp only at NZz); (try k_lt l1Zz); (try k_lt2 l2Zz))
      | (k_dflt (refine' kla_hit ?F ?N ?T ?C ?cd ?mem ?t ?n ?cl ?_; (case F => k_asm); (case N => k_asm); (case T => k_asm); (case cd => exact rfl); (case C => k_asm); (case mem => k_mem); (case t => kn_triples); (case n => kn_among); (case cl => exact rfl); k_whole); intro fZz ctZz hZz tkZz FZz NZz l1Zz; (try k_lt l1Zz))))
  k_with "is list" => first | exact News.isList (by k_asm) (by k_mem) | exact isList_keep (by k_asm) (by assumption)
  k_with "subscriptTail" => (k_here; (with_reducible show wpAny _ _ (subscriptTail _ _ (Value.ref _) (Value.int _ _)) _ _ _); k_dflt (refine' item_getv ?k1 ?k2 ?k3 ?k4 ?k5 ?_; (case k1 => walk_at "is list"); (case k2 => omega); (case k3 => omega); (case k4 => omega); (case k5 => first | with_reducible assumption | exact rfl); k_whole))
  k_with "ent at" => first | exact EntAt.keeps (by assumption) (Fr.keep (by k_asm)) | exact ⟨News.get (by k_asm) (by k_mem), _, _, News.get (by k_asm) (by k_mem), by assumption⟩
  k_with "getAttr ref" => (k_here; k_dflt (refine' ent_get ?k1 ?k2 ?k3 ?k4 ?_ ?k5 ?k6 ?k7 ?k8 ?k9; (case k5 => exact rfl); (case k6 => exact rfl); (case k7 => exact rfl); (case k8 => exact rfl); (case k9 => exact rfl); (case k1 => exact Frag.In.keeps (by k_asm) (Fr.keep (by k_asm))); (case k2 => walk_at "ent at"); (case k3 => first | assumption | exact rfl); (case k4 => exact rfl); k_whole))
  k_with "subscriptTail" => (k_here; (with_reducible show wpAny _ _ (subscriptTail _ _ (Value.ref _) (Value.str _ _)) _ _ _); k_dflt (refine' reach_item ?k1 ?k2 ?_; (case k1 => first | exact ReachAt.keeps (by assumption) (Fr.keep (by k_asm)) | exact ⟨_, _, Heap.dictOf_iff.mpr ⟨_, News.get (by k_asm) (by k_mem), by assumption⟩⟩); (case k2 => assumption); k_whole); intro _)
  k_with "getMethod ref" => (k_here; k_dflt (refine' ent_meth ?k1 ?k2 ?k3 ?k4 ?_ ?k5 ?k6 ?k7 ?k10 ?k8 ?k9; (case k5 => exact rfl); (case k6 => exact rfl); (case k7 => exact rfl); (case k10 => exact rfl); (case k8 => exact rfl); (case k9 => exact rfl); (case k1 => exact Frag.In.keeps (by k_asm) (Fr.keep (by k_asm))); (case k2 => walk_at "ent at"); (case k3 => first | assumption | exact rfl); (case k4 => exact rfl); k_whole))
  k_with "fn at" => exact ⟨_, _, _, _, Fr.keep (by k_asm) _ _ (by assumption)⟩
  k_with "callWith ref" => (k_here; k_dflt (refine' callWith_F ?k1 ?_; (case k1 => walk_at "fn at"); k_whole))
  k_with "And" => (k_dflt (refine And.intro ?kfn ?_; (case kfn => walk_at "fn at"); (try dsimp only [List.nil_append, List.cons_append])))
  k_with "no loop" => ((fail_if_success (with_reducible show wpAny _ _ (exec (Stmt.While _ _ _ _) _) _ _ _)); (fail_if_success (with_reducible show wpAny _ _ (exec (Stmt.For _ _ _ _ _) _) _ _ _)); (fail_if_success (with_reducible show wpAny _ _ (call (Value.ref _) _ _) _ _ _)); (fail_if_success (with_reducible show wpAny _ _ (pyIter _) _ _ _)))
  k_with "go" => repeat' (first | (walk_at "no loop"; walk1; try dsimp only) | (walk_at "no loop"; dsimp only; walk1))
  exact True.intro
theorem for_list {prog : Program} {w : World} {A : Around} {s : Shared} {E : Value → Shared → Prop} {Q : Flow → Shared → Prop} {Er : Value → Shared → Prop} {name : Str} {scope : Scope} {L a : Addr} {cd : Value} {g : Heap} {m : Str → Option Value} {news : List (Addr × Obj)}
    {x : Str} {px : Pos} {body : List Stmt} {l : Addr} {vs : List Value} (J : Nat → Nat → (Str → Option Value) → List (Addr × Obj) → Prop) (hl : s.heap.IsList l vs.toArray) (hh : A.handled = none)
    (F : Fr g L s.heap m) (N : News g L s.heap news) (hJ : ∀ it, (∀ q ∈ news, q.1 < it) → L < it → J it 0 m news)
    (hside : ∀ it i m₁ news₁ h₁, i ≤ vs.length → Fr g L h₁ m₁ → News g L h₁ news₁ → J it i m₁ news₁ → h₁.IsList l vs.toArray)
    (turn : ∀ it i m₁ news₁ h₁ tk₁ t oi, i < vs.length → Fr g L h₁ (fun y => if y = x then some ((fun i (_ : Tok) => vs.getD i .none) i t) else m₁ y) → News g L h₁ ((it, oi) :: news₁) → (∀ q ∈ news₁, q.1 ≠ it) → J it i m₁ news₁ →
      wpAny (model prog w) A (execs body (envOf name scope L a cd)) (ForStep g L { s with heap := s.heap.push { cls := .type "list_iterator", data := .fields #[.ref l, .int 0 0] } } (J it) (fun r s' => match r with | .ok f => Q f s' | .error e => Er e s') it oi i) (fun _ _ => False) { s with heap := h₁, toks := tk₁ })
    (done : ∀ it m₁ news₁ h₁ tk₁, Fr g L h₁ m₁ → News g L h₁ news₁ → J it vs.length m₁ news₁ → Q .next { s with heap := h₁, toks := tk₁ })
    (hk : scope.kind = .function := by rfl) (hx : (envOf name scope L a cd).kindOf x = some .local := by rfl) :
    wpAny (model prog w) A (pyIter (.ref l)) (fun it s₂ => codeAny (model prog w) A (.forLoop (.Name x px) it body [] (envOf name scope L a cd)) (fun r s' => match r with | .ok f => Q f s' | .error e => Er e s') s₂) E s := by
  refine wpAny_pyIter_list hl ?_
  have lt : ∀ q ∈ news, q.1 < s.heap.objs.size := fun q hq => Heap.lt_size (N q hq).1
  exact for_any (iter_list prog w s.heap.objs.size l vs) (J s.heap.objs.size) hh (F.push _) (N.push F _) (fun q hq => Nat.ne_of_lt (lt q hq)) ⟨rfl, rfl⟩ (hJ _ lt F.ns.lt) (hside _) (fun i m₁ news₁ h₁ tk₁ t oi => turn _ i m₁ news₁ h₁ tk₁ t oi) (done _) hk hx

/-- what is known of a rule -/
structure RD where
  i : Nat
  al : Addr
  ok : Bool
  a : Int
  b : Int

inductive RulesAt (prog : Program) (w : World) (h : Heap) (c' : Addr) : List Value → List RD → Prop
  | nil : RulesAt prog w h c' [] []
  | cons {v : Value} {r : RD} {vs : List Value} {rs : List RD} : RuleAt prog w h c' v r.i r.al r.ok r.a r.b → RulesAt prog w h c' vs rs → RulesAt prog w h c' (v :: vs) (r :: rs)
theorem RulesAt.keeps {prog : Program} {w : World} {h h' : Heap} {c' : Addr} {vs : List Value} {rs : List RD} (x : RulesAt prog w h c' vs rs) (k : ∀ b o, h.get? b = some o → h'.get? b = some o) : RulesAt prog w h' c' vs rs := by
  induction x with
  | nil => exact .nil
  | cons a _ ih => exact .cons (a.keeps k) ih
theorem RulesAt.length {prog : Program} {w : World} {h : Heap} {c' : Addr} {vs : List Value} {rs : List RD} (x : RulesAt prog w h c' vs rs) : vs.length = rs.length := by
  induction x with
  | nil => rfl
  | cons a _ ih => simp [ih]
theorem RulesAt.get {prog : Program} {w : World} {h : Heap} {c' : Addr} {vs : List Value} {rs : List RD} (x : RulesAt prog w h c' vs rs) : ∀ {i : Nat} (h2 : i < rs.length), RuleAt prog w h c' (vs.getD i .none) rs[i].i rs[i].al rs[i].ok rs[i].a rs[i].b := by
  induction x with
  | nil => intro i h1; exact absurd h1 (Nat.not_lt_zero _)
  | cons a _ ih =>
    intro i h2
    cases i with
    | zero => exact a
    | succ i => exact ih (by simpa using h2)

/-- the best match so far, and whose verdict stands -/
abbrev Cur := Int × Option RD
def curStep (name : Str) (c : Cur) (r : RD) : Cur :=
  let m := rch name r.a r.b
  if m = 0 then c else if c.1 < m then (m, some r) else if m = c.1 ∧ (c.2.any fun q => !q.ok) = true then (c.1, some r) else c
def curVal (c : Cur) : Value := match c.2 with | none => .bool true | some r => .ref r.al
def curOf (name : Str) (rs : List RD) : Cur := rs.foldl (curStep name) (-1, none)

theorem RulesAt.mem {prog : Program} {w : World} {h : Heap} {c' : Addr} {vs : List Value} {rs : List RD} (x : RulesAt prog w h c' vs rs) {r : RD} (hr : r ∈ rs) : ∃ v, RuleAt prog w h c' v r.i r.al r.ok r.a r.b := by
  induction x with
  | nil => cases hr
  | cons a _ ih =>
    rcases List.mem_cons.mp hr with rfl | hr
    · exact ⟨_, a⟩
    · exact ih hr
theorem cs_new {name : Str} {c : Cur} {r : RD} (h0 : rch name r.a r.b ≠ 0) (h1 : c.1 < rch name r.a r.b) : curStep name c r = (rch name r.a r.b, some r) := by
  unfold curStep; simp only []; rw [if_neg h0, if_pos h1]
theorem cs_eq {name : Str} {c : Cur} {r : RD} (h0 : rch name r.a r.b ≠ 0) (h1 : ¬ c.1 < rch name r.a r.b) (h2 : rch name r.a r.b = c.1) (h3 : (c.2.all fun q => q.ok) = false) : curStep name c r = (c.1, some r) := by
  unfold curStep; simp only []; rw [if_neg h0, if_neg h1, if_pos]
  refine ⟨h2, ?_⟩
  cases hc : c.2 with
  | none => rw [hc] at h3; cases h3
  | some q => rw [hc] at h3; simpa using h3
theorem cs_same {name : Str} {c : Cur} {r : RD} (h : rch name r.a r.b = 0 ∨ (¬ c.1 < rch name r.a r.b ∧ (rch name r.a r.b ≠ c.1 ∨ (c.2.all fun q => q.ok) = true))) : curStep name c r = c := by
  unfold curStep; simp only []
  rcases h with h | ⟨h1, h2⟩
  · rw [if_pos h]
  · by_cases h0 : rch name r.a r.b = 0
    · rw [if_pos h0]
    rw [if_neg h0, if_neg h1, if_neg]
    rintro ⟨h3, h4⟩
    rcases h2 with h2 | h2
    · exact h2 h3
    · cases hc : c.2 with
      | none => rw [hc] at h4; cases h4
      | some q => rw [hc] at h2 h4; simp at h2 h4; rw [h2] at h4; cases h4
theorem cs_mem {name : Str} {c : Cur} {r : RD} {rs : List RD} (h : ∀ q, c.2 = some q → q ∈ rs) (hr : r ∈ rs) : ∀ q, (curStep name c r).2 = some q → q ∈ rs := by
  intro q
  unfold curStep
  simp only []
  split
  · exact h q
  · split
    · rintro ⟨⟩; exact hr
    · split
      · rintro ⟨⟩; exact hr
      · exact h q
theorem truthy_cur {prog : Program} {w : World} {A : Around} {E : Value → Shared → Prop} {s : Shared} {c' : Addr} {vs : List Value} {rs : List RD} {c : Cur} {Q : Bool → Shared → Prop} (hr : RulesAt prog w s.heap c' vs rs) (hc : ∀ q, c.2 = some q → q ∈ rs)
    (h : ∀ tk, Q (c.2.all fun q => q.ok) { s with toks := tk }) : wpAny (model prog w) A (truthy (curVal c)) Q E s := by
  unfold curVal
  cases hq : c.2 with
  | none =>
    rw [hq] at h
    exact wpAny_truthy_bool (h s.toks)
  | some q =>
    rw [hq] at h
    obtain ⟨v, x, dx, ux, lx, f, cc, rd, ti, t4, pm, ctv, oc, P, B, S, e1, e2, e3, _⟩ := hr.mem (hc q hq)
    refine wpAny_truthy_list (items := (if q.ok = true then [Value.int (q.i : Int) t4] else []).toArray) ⟨_, e3, rfl, 0, rfl⟩ ?_ ?_
    · cases q.ok <;> simp
    · have := h (s.toks + 1 + 1)
      cases ho : q.ok
      · rw [Option.all_some, ho] at this; exact this
      · rw [Option.all_some, ho] at this; exact this

theorem allow_code {prog : Program} {w : World} {p : Program} {loose : List Str} {mg mb : Str → Option Value} {A : Around} {R : Result → Shared → Prop} {s : Shared} {e d l c' : Addr} {lst : List (Str × Value)} {vs : List Value} {rs : List RD} {n : Nat} {name : Str} {t : Tok}
  (X : (KK w).In s.heap) (T : TopRead p loose mg mb s.heap) (hroom : A.depth < 880) (hu : A.units < 130) (hh : A.handled = none) (he : EntAt w s.heap e d lst) (hl : lst.lookup (Str.ofString "rulelines") = some (.ref l))
  (hvs : s.heap.get? l = some (W.listOf vs.toArray n)) (hr : RulesAt prog w s.heap c' vs rs) (hcd : s.heap.CodeRec (.ref c') "_law_come.<locals>.<lambda>") (hlen : vs.length ≤ 1000)
  (hname : name = Str.ofString "" ∨ name = Str.ofString "/A%41")
  (post : ∀ h' tk, Keeps [] s.heap h' → R (.ok (.ret (curVal (curOf name rs)))) { s with heap := h', toks := tk }) :
  codeAny (model prog w) A (.call (.ref 49) ⟨[.ref e, .str name t], []⟩) R s := by
  obtain ⟨g, hg⟩ : ∃ g, g = hideAll s.heap [] := ⟨_, rfl⟩
  have hg' : s.heap = g := hg.symm
  rw [hg'] at X T he hvs hr hcd
  refine enter (news := []) (K := KK w) hg X T (fun _ h => nomatch h) rfl rfl (Nat.lt_of_lt_of_le hroom (by decide)) (BindsTo.of_eq rfl) (locs rfl) ?_
  intro L h₁ tk F N lt0
  try dsimp only
  walk_at "go"
  refine wpAny_For ?_ (by intro _; rfl)
  walk_at "go"
  (rename Fr _ _ _ _ => F2); (rename News _ _ _ _ => N2)
  refine for_list (fun it i m news => news = [] ∧ m (Str.ofString "filename") = some (.str name t) ∧ (∃ tb, m (Str.ofString "best_match") = some (.int ((rs.take i).foldl (curStep name) (-1, none)).1 tb)) ∧
    m (Str.ofString "allowance") = some (curVal ((rs.take i).foldl (curStep name) (-1, none))) ∧ ∀ q, ((rs.take i).foldl (curStep name) (-1, none)).2 = some q → q ∈ rs) (isList_keep F2 hvs) hh F2 N2 ?_ (fun _ _ _ _ _ _ F3 _ _ => isList_keep F3 hvs) ?_ ?_
  · intro it _ _
    exact ⟨rfl, by walk_at "m_look", ⟨_, by walk_at "m_look"⟩, by walk_at "m_look", fun _ h => nomatch h⟩
  · rintro it i m3 news3 h3 tk3 t3 oi hi F3 N3 ne3 ⟨rfl, mf, ⟨tb, mb'⟩, ma, hcm⟩
    clear F2 N2
    have hi2 : i < rs.length := by have := hr.length; omega
    have hri := hr.get hi2
    obtain ⟨x, dx, ux, lx, f, c, rd, ti, t4, pm, ctv, oc, P, B, S, e1, e2, e3, e4, e5, e6, e7, e8⟩ := hri
    dsimp only at F3
    rw [e1] at F3
    have hst : (rs.take (i + 1)).foldl (curStep name) (-1, none) = curStep name ((rs.take i).foldl (curStep name) (-1, none)) rs[i] := by
      rw [List.take_succ_eq_append_getElem hi2, List.foldl_append]; rfl
    generalize (rs.take i).foldl (curStep name) (-1, none) = cur at mb' ma hst hcm
    walk_at "go"
    (rename Fr _ _ _ _ => F4); (rename News _ _ _ _ => N4)
    refine wpAny_call (lam_code (dpt (a := A.depth) hroom (by decide)) (T.nolimit.keeps F4.keep) e4 (F4.keep _ _ e5) (hcd.keeps F4.keep) (F4.keep _ _ e6) e7 (e8.keeps F4.keep) hname ?_)
    intro h5 tk5 t5 k5
    have F5 := fr_after F4 k5 (fun _ h => nomatch h)
    have N5 : News g L h5 [(it, oi)] := fun q hq => ⟨k5 _ _ (fun h => nomatch h) (N4 q hq).1, (N4 q hq).2⟩
    clear F4 N4
    walk_at "go"
    all_goals try (refine truthy_cur (hr.keeps (Fr.keep (by with_reducible assumption))) hcm fun tk6 => ?_; cases hb : (cur.2.all fun q => q.ok) <;> walk_at "go")
    all_goals (
      (rename Fr _ _ _ _ => F9); (rename News _ _ _ _ => N9)
      have hcm' := cs_mem (name := name) hcm (List.getElem_mem hi2)
      refine ⟨_, _, _, _, rfl, F9, N9, fun _ h => (nomatch h), rfl, by walk_at "m_look", ?_, ?_, by rw [hst]; exact hcm'⟩
      all_goals (
        rw [hst]
        first
          | (rw [cs_new (by assumption) (by assumption)]; first | walk_at "m_look" | exact ⟨_, by walk_at "m_look"⟩)
          | (rw [cs_eq (by assumption) (by omega) (by omega) (by assumption)]; first | walk_at "m_look" | exact ⟨_, by walk_at "m_look"⟩)
          | (rw [cs_same (by first | (left; omega) | (right; refine ⟨by omega, ?_⟩; first | (left; omega) | (right; assumption)))]; first | walk_at "m_look" | exact ⟨_, by walk_at "m_look"⟩)))
  · rintro it m3 news3 h3 tk3 F3 N3 ⟨rfl, mf, ⟨tb, mb'⟩, ma, hcm⟩
    rw [List.take_of_length_le (by rw [hr.length]; exact Nat.le_refl _)] at ma
    dsimp only
    walk_at "go"
    exact post _ _ (keeps_of hg (by with_reducible assumption))
theorem lay_K1 : True := by
  k_with_none
  w_top off
  exact True.intro
abbrev Sub (g h : Heap) : Prop := ∀ b o, g.get? b = some o → h.get? b = some o
abbrev compTs (ifs : List PySem.Expr) (cenv : Env) : Sem Bool := forIn ifs true fun c r => if r = true then do let ok ← isTrue c cenv (eval c cenv); pure (ForInStep.yield ok) else pure (ForInStep.yield r)

/-- what a turn of a comprehension keeps: the frame over g, its accumulator, its iterator -/
def Kept (g : Heap) (C D I : Addr) (h h' : Heap) : Prop := ∀ m, Fr g C h m → (∃ m', Fr g C h' m') ∧ ∀ b, b = D ∨ b = I → ∀ o, h.get? b = some o → h'.get? b = some o
theorem Kept.of_sub {g : Heap} {C D I : Addr} {h h' : Heap} (k : Sub h h') : Kept g C D I h h' := fun m F => ⟨⟨m, F.ns.keeps k, fun b o e => k _ _ (F.keep b o e), F.above⟩, fun b _ o e => k _ _ e⟩

/-- an iterator is its own iterator -/
def SelfIter (prog : Program) (w : World) (I : Addr) (ItAt : Nat → Obj → Prop) : Prop :=
  ∀ (A : Around) (E : Value → Shared → Prop) (Q : Value → Shared → Prop) (s : Shared) (o : Obj), s.heap.get? I = some o → ItAt 0 o → Q (.ref I) s → wpAny (model prog w) A (pyIter (.ref I)) Q E s

theorem self_list (prog : Program) (w : World) (I l : Addr) : SelfIter prog w I (fun i o => o.cls = .type "list_iterator" ∧ o.data = .fields #[.ref l, .int i 0]) :=
  fun A E Q s o ho hi h => wpAny_pyIter_listiter (i := 0) ⟨o, ho, hi⟩ h
theorem self_range (prog : Program) (w : World) (I : Addr) (a c : Int) (n : Nat) : SelfIter prog w I (fun i o => o = { cls := .type "range_iterator", dict := none, data := .fields #[rawInt (a + i * c), rawInt ((n : Int) - i), rawInt c], slots := #[] }) :=
  fun A E Q s o ho hi h => by subst hi; exact wpAny_pyIter_rangeiter ho h

/-- a comprehension by an invariant: i items taken, ys made; J looks at the heap off the comprehension's own objects -/
structure CompU (prog : Program) (w : World) (A : Around) (E : Value → Shared → Prop) (env : Env) (scope : Scope) (cl : List (Str × Addr)) (x : Str) (ifs : List PySem.Expr) (elt : PySem.Expr) (use : Option (Value → Sem Unit)) (s₂ : Shared) (I : Addr) (n : Nat) (item : Nat → Tok → Value) (side : Heap → Prop)
    (J : Nat → List Value → Heap → Prop) (Q : Value → Shared → Prop) : Prop where
  side : ∀ h, Sub (hideAll s₂.heap [I]) h → side h
  size : n ≤ 10000
  mono : ∀ i ys g g', J i ys g → Sub g g' → J i ys g'
  start : J 0 [] (hideAll s₂.heap [I])
  few : ∀ i ys g, J i ys g → ys.length ≤ 10000
  turn : ∀ C D i ys s₃ m t E', s₂.heap.objs.size ≤ C → i < n → Fr (hideAll s₂.heap [I]) C s₃.heap m → m x = some (item i t) → Sub (hideAll s₂.heap [I]) (hideAll s₃.heap [C, D, I]) → (∀ b ∈ [C, D, I], b < s₃.heap.objs.size) → (∃ oD oI, News (hideAll s₂.heap [I]) C s₃.heap [(D, oD), (I, oI)]) → J i ys (hideAll s₃.heap [C, D, I]) →
    wpAny (model prog w) A (compTs ifs (compEnvC scope cl C env)) (fun ok s₄ => ∃ h₄ tk₄, s₄ = { s₃ with heap := h₄, toks := tk₄ } ∧ Kept (hideAll s₂.heap [I]) C D I s₃.heap h₄ ∧
      if ok = true then wpAny (model prog w) A (eval elt (compEnvC scope cl C env)) (fun y s₅ => ∃ h₅ tk₅, s₅ = { s₃ with heap := h₅, toks := tk₅ } ∧ Kept (hideAll s₂.heap [I]) C D I s₃.heap h₅ ∧ J (i + 1) (ys ++ [y]) (hideAll h₅ [C, D, I])) E' s₄
      else J (i + 1) ys (hideAll h₄ [C, D, I])) E' s₃
  done : ∀ C D h' tk ys k m', (hideAll s₂.heap [I]).get? C = none → (hideAll s₂.heap [I]).get? D = none → D ≠ C → I ≠ D → I ≠ C → s₂.heap.objs.size ≤ D → s₂.heap.objs.size ≤ C → h'.Ns C m' → h'.get? D = some (W.listOf ys.toArray k) → Sub (hideAll s₂.heap [I]) h' → J n ys (hideAll h' [C, D]) →
    compPost (model prog w) A E use Q (.ref D) C (.ok .next) { s₂ with heap := h', toks := tk }

theorem comp_gen {prog : Program} {w : World} {A : Around} {E : Value → Shared → Prop} {s : Shared} {env : Env} {elt iter : PySem.Expr} {x : Str} {px : Pos} {ifs : List PySem.Expr} {scope : Scope} {cl : List (Str × Addr)} {pos pos' : Pos} {use : Option (Value → Sem Unit)} {Q : Value → Shared → Prop}
    (hh : A.handled = none) (hclos : closureFor scope env = pure cl) (hcell : ∀ y ∈ scope.names, y.2 ≠ .cell) (hkind : scope.kind = .function)
    (hnames : ∀ y ∈ scope.names, y.2 = .local → scope.names.lookup y.1 = some .local) (hx : scope.names.lookup x = some .local)
    (h : wpAny (model prog w) A (eval iter env) (fun xv s₁ => wpAny (model prog w) A (pyIter xv) (fun it s₂ => ∃ I n item ItAt side o0 J, it = .ref I ∧ Iter prog w I n item ItAt side ∧ SelfIter prog w I ItAt ∧ s₂.heap.get? I = some o0 ∧ ItAt 0 o0 ∧ CompU prog w A E env scope cl x ifs elt use s₂ I n item side J Q) E s₁) E s)
    (hs : ∀ x, foldedSetIterable iter env x = pure x := by intro _; rfl) :
    wpAny (model prog w) A (comprehension (.ListComp elt [⟨.Name x px, iter, ifs, 0⟩] scope pos) scope env pos' (newList []) false (eval iter env) use) Q E s := by
  refine wpAny_comprehension_free rfl hs hclos hkind hnames (wpAny_mono h (fun xv s₀ h₀ => wpAny_mono h₀ (fun it s₁ h₁ => ?_) fun _ _ e => e) fun _ _ e => e)
  obtain ⟨I, n, item, ItAt, side, o0, J, rfl, IT, SI, gI0, it0, co⟩ := h₁
  refine wpAny_newObj_type (wpAny_newFunctionEnv hcell (by intro y hy; simp at hy) (fun h₁ hns₁ hsb₁ => ?_) hkind)
  dsimp only at hns₁ hsb₁ ⊢
  have hIlt : I < s₁.heap.objs.size := Heap.lt_size gI0
  generalize hH2 : s₁.heap.push { cls := .type "list", dict := none, data := .seq ([] : List Value).toArray } = H2 at hns₁ hsb₁ ⊢
  have hC : H2.objs.size = s₁.heap.objs.size + 1 := by rw [← hH2, Heap.size_push]
  generalize hDe : s₁.heap.objs.size = D at hC hIlt ⊢
  generalize hCe : H2.objs.size = C at hC hns₁ hsb₁ ⊢
  have hDI : I ≠ D := Nat.ne_of_lt hIlt
  have hDC : D ≠ C := by rw [hC]; exact Nat.ne_of_lt (Nat.lt_succ_self _)
  have hIC : I ≠ C := by rw [hC]; exact Nat.ne_of_lt (Nat.lt_succ_of_lt hIlt)
  obtain ⟨cside, csize, cmono, cstart, cfew, cturn, cdone⟩ := co
  obtain ⟨g0, hg0⟩ : ∃ g0, g0 = hideAll s₁.heap [I] := ⟨_, rfl⟩
  rw [← hg0] at cside cstart cturn cdone
  have gI : g0.get? I = none := by rw [hg0]; exact hideAll_none _ (.head _)
  have gof : ∀ b o, g0.get? b = some o → s₁.heap.get? b = some o := fun b o e => of_hideAll [I] (by rw [← hg0]; exact e)
  have off : ∀ b o, g0.get? b = some o → b ∉ [C, D, I] := fun b o e q => by
    have hb : b < D := hDe ▸ Heap.lt_size (gof b o e)
    simp only [List.mem_cons, List.not_mem_nil, or_false] at q
    rcases q with q | q | q
    · rw [q, hC] at hb; exact absurd (ltN hb) (by (first | lia | omega))
    · rw [q] at hb; exact Nat.lt_irrefl _ hb
    · rw [q, gI] at e; cases e
  have hI1 : h₁.get? I = some o0 := by
    refine hsb₁.extBut I _ hIC (Heap.get?_push_of_some _ ?_)
    rw [← hH2]
    exact Heap.get?_push_of_some _ gI0
  have gD : h₁.get? D = some (W.listOf ([] : List Value).toArray 0) := by
    refine hsb₁.extBut D _ hDC (Heap.get?_push_of_some _ ?_)
    rw [← hH2, ← hDe]
    exact Heap.get?_push_size _ rfl
  have up1 : Sub g0 h₁ := fun b o e => by
    refine hsb₁.extBut b _ (fun q => off b o e (by rw [q]; simp)) (Heap.get?_push_of_some _ ?_)
    rw [← hH2]
    exact Heap.get?_push_of_some _ (gof b o e)
  have sub1 : Sub g0 (hideAll h₁ [C, D, I]) := fun b o e => hideAll_get _ (up1 b o e) (off b o e)
  have none_of : ∀ b, b ∈ [C, D, I] → g0.get? b = none := fun b hb => by
    cases q : g0.get? b with
    | none => rfl
    | some o => exact absurd hb (off b o q)
  have hx' : (compEnvC scope cl C env).kindOf x = some .local := lookup_relabel_local hx
  have hp : ((compEnvC scope cl C env).scope.kind == .class || ((compEnvC scope cl C env).scope.kind == .module && (compEnvC scope cl C env).locals != (compEnvC scope cl C env).globals)) = false := by simp [compEnvC, relabel, hkind]
  have unhide : ∀ h' : Heap, Sub (hideAll h' [C, D, I]) h' := fun h' b o e => of_hideAll _ e
  have above : g0.objs.size ≤ C := by rw [hg0, hideAll_size, hDe, hC]; exact Nat.le_succ _
  have loop : ∀ s₃ : Shared, s₃ = { s₁ with heap := h₁, toks := s₁.toks + ([] : List (Str × Value)).length } →
      codeAny (model prog w) A (.compLoop (.ListComp elt [⟨.Name x px, iter, ifs, 0⟩] scope pos) 0 (.ref I) (.ref D) (compEnvC scope cl C env)) (compPost (model prog w) A E use Q (.ref D) C) s₃ := by
    rintro s₃ rfl
    refine codeAny_compLoop_tests (fun k s' => ∃ h' tk m' ys i nD oi, s' = { s₁ with heap := h', toks := tk } ∧ h'.get? I = some oi ∧ ItAt i oi ∧ h'.get? D = some (W.listOf ys.toArray nD) ∧ h'.Ns C m' ∧ i ≤ n ∧ k = n + 1 - i ∧
      Sub g0 (hideAll h' [C, D, I]) ∧ J i ys (hideAll h' [C, D, I])) ?_ (n + 1) ⟨h₁, _, _, [], 0, 0, o0, rfl, hI1, it0, gD, hns₁, Nat.zero_le _, rfl, sub1, cmono _ _ _ _ cstart sub1⟩
    rintro k s' ⟨h', tk, m', ys, i, nD, oi, rfl, hit, hiA, hdD, hnC, hi, rfl, hsub, hJ⟩
    have hsub' : Sub g0 h' := fun b o e => unhide _ _ _ (hsub b o e)
    by_cases hil : i < n
    · refine IT.step A _ _ _ i oi hit hiA (cside _ hsub') hil fun h2 oi2 tk2 t hit2 hiA2 hs2 => ?_
      dsimp only
      refine wpAny_assign_Name (wpAny_storeName_local hx' (hnC.extBut hs2.extBut hIC.symm) (fun h3 hn3 hs3 => ?_) hp)
      have keep3 : ∀ b o, b ≠ C → b ≠ I → h'.get? b = some o → h3.get? b = some o := fun b o q1 q2 e => hs3.extBut b o q1 (hs2.extBut b o q2 e)
      have s3 : Sub (hideAll h' [C, D, I]) (hideAll h3 [C, D, I]) := fun b o e => by
        have nb : b ∉ [C, D, I] := fun q => by rw [hideAll_none _ q] at e; cases e
        simp only [List.mem_cons, List.not_mem_nil, or_false, not_or] at nb
        exact hideAll_get _ (keep3 b o nb.1 nb.2.2 (of_hideAll _ e)) (by simp [nb])
      have it3 : h3.get? I = some oi2 := hs3.extBut _ _ hIC hit2
      have d3 : h3.get? D = some (W.listOf ys.toArray nD) := keep3 D _ hDC hDI.symm hdD
      have sub3 : Sub g0 (hideAll h3 [C, D, I]) := fun b o e => s3 _ _ (hsub b o e)
      have lt3 : ∀ b ∈ [C, D, I], b < h3.objs.size := fun b hb => by
        rcases List.mem_cons.mp hb with rfl | hb
        · exact hn3.lt
        rcases List.mem_cons.mp hb with rfl | hb
        · exact Heap.lt_size d3
        rcases List.mem_cons.mp hb with rfl | hb
        · exact Heap.lt_size it3
        · cases hb
      refine wpAny_mono (cturn C D i ys { s₁ with heap := h3, toks := _ } _ t _ (by rw [hDe, hC]; exact Nat.le_succ _) hil ⟨hn3, fun b o e => unhide _ _ _ (sub3 b o e), above⟩ upd_eq sub3 lt3 ⟨_, _, by
        intro q hq
        rcases List.mem_cons.mp hq with rfl | hq
        · exact ⟨d3, hDC, none_of D (by simp)⟩
        rcases List.mem_cons.mp hq with rfl | hq
        · exact ⟨it3, hIC, gI⟩
        · cases hq⟩ (cmono _ _ _ _ hJ s3)) (fun ok s4 h4 => ?_) fun _ _ e => e
      obtain ⟨H4, tk4, rfl, k4, h4⟩ := h4
      have F3 : Fr g0 C h3 _ := ⟨hn3, fun b o e => unhide _ _ _ (sub3 b o e), above⟩
      have fin : ∀ (H : Heap) (ys' : List Value) (nD' tkH : Nat), (∃ m', Fr g0 C H m') → H.get? I = some oi2 → H.get? D = some (W.listOf ys'.toArray nD') → J (i + 1) ys' (hideAll H [C, D, I]) →
          ∃ m, m < n + 1 - i ∧ ∃ h' tk m' ys i nD oi, ({ s₁ with heap := H, toks := tkH } : Shared) = { s₁ with heap := h', toks := tk } ∧ h'.get? I = some oi ∧ ItAt i oi ∧ h'.get? D = some (W.listOf ys.toArray nD) ∧ h'.Ns C m' ∧ i ≤ n ∧ m = n + 1 - i ∧
            Sub g0 (hideAll h' [C, D, I]) ∧ J i ys (hideAll h' [C, D, I]) := fun H ys' nD' tkH hF' hI' hD' hJ' => by
        obtain ⟨mH, FH⟩ := hF'
        exact ⟨n + 1 - (i + 1), by (first | lia | omega), H, tkH, _, ys', i + 1, nD', oi2, rfl, hI', hiA2, hD', FH.ns, hil, rfl, fun b o e => hideAll_get _ (FH.keep b o e) (off b o e), hJ'⟩
      cases ok with
      | false =>
        simp only [Bool.false_eq_true, if_false] at h4 ⊢
        exact fin H4 ys nD tk4 (k4 _ F3).1 ((k4 _ F3).2 _ (.inr rfl) _ it3) ((k4 _ F3).2 _ (.inl rfl) _ d3) h4
      | true =>
        simp only [if_true] at h4 ⊢
        refine wpAny_mono h4 (fun y s5 h5 => ?_) fun _ _ e => e
        obtain ⟨H5, tk5, rfl, k5, hJ5⟩ := h5
        have hfew := cfew _ _ _ hJ
        have k5F := k5 _ F3
        obtain ⟨m5, F5⟩ := k5F.1
        refine append_at (n := nD) (k5F.2 _ (.inl rfl) _ d3) (fun H6 hs6 g6 => ?_) (by rw [List.size_toArray, sizeLine_eq]; (first | lia | omega))
        refine fin H6 (ys ++ [y]) (nD + 1) tk5 ⟨m5, F5.change hs6 hDC (none_of D (by simp))⟩ (hs6.extBut _ _ hDI (k5F.2 _ (.inr rfl) _ it3)) ?_ (cmono _ _ _ _ hJ5 fun b o e => ?_)
        · rw [g6, show (ys ++ [y]).toArray = ys.toArray.push y by simp]
        · have nb : b ∉ [C, D, I] := fun q => by rw [hideAll_none _ q] at e; cases e
          exact hideAll_get _ (hs6.extBut b o (fun q => nb (by rw [q]; simp)) (of_hideAll _ e)) nb
    · have e : i = n := by (first | lia | omega)
      subst e
      refine IT.fin A _ _ _ oi hh hit hiA (cside _ hsub') fun h2 hs2 => ?_
      refine cdone C D h2 tk ys nD m' (none_of _ (by simp)) (none_of _ (by simp)) hDC hDI hIC (by rw [hDe]; exact Nat.le_refl _) (by rw [hDe, hC]; exact Nat.le_succ _) (hnC.extBut hs2 hIC.symm) (hs2 _ _ hDI.symm hdD) (fun b o e => hs2 b o (fun q => off b o e (by rw [q]; simp)) (hsub' b o e)) (cmono _ _ _ _ hJ fun b o e => ?_)
      have nb : b ∉ [C, D, I] := fun q => by rw [hideAll_none _ q] at e; cases e
      simp only [List.mem_cons, List.not_mem_nil, or_false, not_or] at nb
      exact hideAll_get _ (hs2 b o nb.2.2 (of_hideAll _ e)) (by simp [nb.1, nb.2.1])
  refine codeAny_compStart_list (loop _ rfl) (SI A _ _ _ o0 hI1 it0 (loop _ rfl))

/-- an element of a comprehension is made -/
def EltEnd (g : Heap) (C D I : Addr) (i : Nat) (ys : List Value) (s₃ : Shared) (J : Nat → List Value → Heap → Prop) (y : Value) (s₅ : Shared) : Prop :=
  ∃ h₅ tk₅, s₅ = { s₃ with heap := h₅, toks := tk₅ } ∧ Kept g C D I s₃.heap h₅ ∧ J (i + 1) (ys ++ [y]) (hideAll h₅ [C, D, I])
/-- the tests of a comprehension are through -/
def TestsEnd (prog : Program) (w : World) (A : Around) (elt : PySem.Expr) (cenv : Env) (E' : Value → Shared → Prop) (g : Heap) (C D I : Addr) (i : Nat) (ys : List Value) (s₃ : Shared) (J : Nat → List Value → Heap → Prop) (ok : Bool) (s₄ : Shared) : Prop :=
  ∃ h₄ tk₄, s₄ = { s₃ with heap := h₄, toks := tk₄ } ∧ Kept g C D I s₃.heap h₄ ∧
      if ok = true then wpAny (model prog w) A (eval elt cenv) (EltEnd g C D I i ys s₃ J) E' s₄
      else J (i + 1) ys (hideAll h₄ [C, D, I])

/-- the same over a list, its value handed on -/
structure CompOn (prog : Program) (w : World) (A : Around) (env : Env) (scope : Scope) (cl : List (Str × Addr)) (x : Str) (ifs : List PySem.Expr) (elt : PySem.Expr) (s₁ : Shared) (l : Addr) (vs : List Value) (J : Nat → List Value → Heap → Prop)
    (Q : Value → Shared → Prop) : Prop where
  list : s₁.heap.IsList l vs.toArray
  size : vs.length ≤ 10000
  mono : ∀ i ys g g', J i ys g → Sub g g' → J i ys g'
  start : J 0 [] s₁.heap
  few : ∀ i ys g, J i ys g → ys.length ≤ 10000
  turn : ∀ C D I i ys s₃ m E', s₁.heap.objs.size ≤ C → s₁.heap.objs.size ≤ I → i < vs.length → Fr s₁.heap C s₃.heap m → m x = some (vs.getD i .none) → Sub s₁.heap (hideAll s₃.heap [C, D, I]) → (∀ b ∈ [C, D, I], b < s₃.heap.objs.size) → (∃ oD oI, News s₁.heap C s₃.heap [(D, oD), (I, oI)]) → J i ys (hideAll s₃.heap [C, D, I]) →
    wpAny (model prog w) A (compTs ifs (compEnvC scope cl C env)) (TestsEnd prog w A elt (compEnvC scope cl C env) E' s₁.heap C D I i ys s₃ J) E' s₃
  done : ∀ D h' tk ys n, s₁.heap.objs.size ≤ D → h'.get? D = some (W.listOf ys.toArray n) → Sub s₁.heap h' → J vs.length ys (hideAll h' [D]) → Q (.ref D) { s₁ with heap := h', toks := tk }

theorem CompOn.toU {prog : Program} {w : World} {A : Around} {E : Value → Shared → Prop} {env : Env} {scope : Scope} {cl : List (Str × Addr)} {x : Str} {ifs : List PySem.Expr} {elt : PySem.Expr} {s₁ : Shared} {l : Addr} {vs : List Value} {J : Nat → List Value → Heap → Prop} {Q : Value → Shared → Prop} {use : Option (Value → Sem Unit)}
    (co : CompOn prog w A env scope cl x ifs elt s₁ l vs J Q) {Q' : Value → Shared → Prop}
    (hd : ∀ C D h' tk ys k m', s₁.heap.objs.size ≤ D → s₁.heap.objs.size ≤ C → D ≠ C → h'.Ns C m' → h'.get? D = some (W.listOf ys.toArray k) → Sub s₁.heap h' → J vs.length ys (hideAll h' [C, D]) → compPost (model prog w) A E use Q' (.ref D) C (.ok .next) { s₁ with heap := h', toks := tk }) :
    CompU prog w A E env scope cl x ifs elt use { s₁ with heap := s₁.heap.push { cls := .type "list_iterator", data := .fields #[.ref l, .int 0 0] } } s₁.heap.objs.size vs.length (fun i _ => vs.getD i .none) (fun h => h.IsList l vs.toArray) J Q' := by
  have sub0 : Sub s₁.heap (hideAll (s₁.heap.push { cls := .type "list_iterator", data := .fields #[.ref l, .int 0 0] }) [s₁.heap.objs.size]) := fun b o e =>
    hideAll_get _ (Heap.get?_push_of_some _ e) (by have := Heap.lt_size e; simp; exact Nat.ne_of_lt this)
  have le1 : s₁.heap.objs.size ≤ (s₁.heap.push { cls := .type "list_iterator", data := .fields #[.ref l, .int 0 0] }).objs.size := by rw [Heap.size_push]; exact Nat.le_succ _
  refine ⟨fun h k => let ⟨o, ho, r⟩ := co.list; ⟨o, k _ _ (sub0 _ _ ho), r⟩, co.size, co.mono, co.mono _ _ _ _ co.start sub0, co.few, ?_, ?_⟩
  · intro C D i ys s₃ m t E' a1 a2 a3 a4 a5 a6 a8 a7
    obtain ⟨oD, oI, a8⟩ := a8
    have a8' : News s₁.heap C s₃.heap [(D, oD), (s₁.heap.objs.size, oI)] := fun q hq => ⟨(a8 q hq).1, (a8 q hq).2.1, by
      cases e : s₁.heap.get? q.1 with
      | none => rfl
      | some o => have := sub0 _ _ e; rw [(a8 q hq).2.2] at this; cases this⟩
    have kc : ∀ h', Kept s₁.heap C D s₁.heap.objs.size s₃.heap h' → Kept (hideAll (s₁.heap.push { cls := .type "list_iterator", data := .fields #[.ref l, .int 0 0] }) [s₁.heap.objs.size]) C D s₁.heap.objs.size s₃.heap h' := fun h' k m0 F0 => by
      obtain ⟨⟨m', F'⟩, k2⟩ := k m0 ⟨F0.ns, fun b o e => F0.keep _ _ (sub0 _ _ e), Nat.le_trans le1 a1⟩
      refine ⟨⟨m', F'.ns, fun b o e => ?_, F0.above⟩, k2⟩
      rcases Heap.get?_push_cases (of_hideAll _ e) with ⟨q, _⟩ | q
      · rw [q, hideAll_none _ (.head _)] at e; cases e
      · exact F'.keep _ _ q
    refine wpAny_mono (co.turn C D _ i ys s₃ m E' (Nat.le_trans le1 a1) (Nat.le_refl _) a2 ⟨a3.ns, fun b o e => a3.keep _ _ (sub0 _ _ e), Nat.le_trans le1 a1⟩ a4 (fun b o e => a5 _ _ (sub0 _ _ e)) a6 ⟨_, _, a8'⟩ a7) (fun ok s₄ h4 => ?_) fun _ _ e => e
    obtain ⟨h₄, tk₄, e4, k4, h4⟩ := h4
    refine ⟨h₄, tk₄, e4, kc _ k4, ?_⟩
    cases ok with
    | false => exact h4
    | true =>
      refine wpAny_mono h4 (fun y s₅ h5 => ?_) fun _ _ e => e
      obtain ⟨h₅, tk₅, e5, k5, h5⟩ := h5
      exact ⟨h₅, tk₅, e5, kc _ k5, h5⟩
  · intro C D h' tk ys k m' a1 a2 a3 a4 a5 a6 a6' a7 a8 a9 a10
    exact hd C D h' tk ys k m' (Nat.le_trans le1 a6) (Nat.le_trans le1 a6') a3 a7 a8 (fun b o e => a9 _ _ (sub0 _ _ e)) a10

def CompAt (prog : Program) (w : World) (A : Around) (env : Env) (scope : Scope) (cl : List (Str × Addr)) (x : Str) (ifs : List PySem.Expr) (elt : PySem.Expr) (Q : Value → Shared → Prop) (xv : Value) (s₁ : Shared) : Prop :=
  ∃ l vs J, xv = .ref l ∧ CompOn prog w A env scope cl x ifs elt s₁ l vs J Q
def CompBd (prog : Program) (w : World) (A : Around) (env : Env) (scope : Scope) (cl : List (Str × Addr)) (x y : Str) (ifs : List PySem.Expr) (elt : PySem.Expr) (Q : Flow → Shared → Prop) (xv : Value) (s₁ : Shared) : Prop :=
  ∃ l vs J g L m news, xv = .ref l ∧ L = env.locals ∧ Fr g L s₁.heap m ∧ News g L s₁.heap news ∧ (∀ i ys g, J i ys g → J i ys (hideAll g [L])) ∧
      CompOn prog w A env scope cl x ifs elt s₁ l vs J (fun _ _ => True) ∧
      ∀ D h' tk ys n, s₁.heap.objs.size ≤ D → Fr g L h' (fun z => if z = y then some (.ref D) else m z) → News g L h' ((D, W.listOf ys.toArray n) :: news) → J vs.length ys (hideAll h' [D, L]) → Q .next { s₁ with heap := h', toks := tk }

theorem comp_list {prog : Program} {w : World} {A : Around} {E : Value → Shared → Prop} {s : Shared} {env : Env} {elt iter : PySem.Expr} {x : Str} {px : Pos} {ifs : List PySem.Expr} {scope : Scope} {cl : List (Str × Addr)} {pos : Pos} {Q : Value → Shared → Prop}
    (hh : A.handled = none) (hclos : closureFor scope env = pure cl) (hcell : ∀ y ∈ scope.names, y.2 ≠ .cell) (hkind : scope.kind = .function)
    (hnames : ∀ y ∈ scope.names, y.2 = .local → scope.names.lookup y.1 = some .local) (hx : scope.names.lookup x = some .local)
    (h : wpAny (model prog w) A (eval iter env) (CompAt prog w A env scope cl x ifs elt Q) E s)
    (hs : ∀ x, foldedSetIterable iter env x = pure x := by intro _; rfl) :
    wpAny (model prog w) A (eval (.ListComp elt [⟨.Name x px, iter, ifs, 0⟩] scope pos) env) Q E s := by
  rw [eval_ListComp]
  refine comp_gen (use := none) hh hclos hcell hkind hnames hx (wpAny_mono h (fun xv s₁ h₁ => ?_) fun _ _ e => e) hs
  obtain ⟨l, vs, J, rfl, co⟩ := h₁
  refine wpAny_pyIter_list co.list ?_
  refine ⟨_, _, _, _, _, _, J, rfl, iter_list prog w s₁.heap.objs.size l vs, self_list prog w _ l, Heap.get?_push_size _ rfl, ⟨rfl, rfl⟩, co.toU ?_⟩
  intro C D h' tk ys k m' a1 a2 a3 a4 a5 a6 a7
  refine ⟨m', a4, fun h3 hs3 => co.done D h3 tk ys k a1 (hs3.extBut _ _ a3 a5) (fun b o e => hs3.extBut b o (fun q => absurd (Heap.lt_size e) (by rw [q]; exact Nat.not_lt.mpr a2)) (a6 b o e)) (co.mono _ _ _ _ a7 fun b o e => ?_)⟩
  have nb : b ∉ [C, D] := fun q => by rw [hideAll_none _ q] at e; cases e
  simp only [List.mem_cons, List.not_mem_nil, or_false, not_or] at nb
  exact hideAll_get _ (hs3.extBut b o nb.1 (of_hideAll _ e)) (by simp [nb.2])

/-- a comprehension at once bound to a local name -/
theorem comp_bound {prog : Program} {w : World} {A : Around} {E : Value → Shared → Prop} {s : Shared} {env : Env} {elt iter : PySem.Expr} {x y : Str} {px py : Pos} {ifs : List PySem.Expr} {scope : Scope} {cl : List (Str × Addr)} {pos spos : Pos} {Q : Flow → Shared → Prop}
    (hh : A.handled = none) (hclos : closureFor scope env = pure cl) (hcell : ∀ y ∈ scope.names, y.2 ≠ .cell) (hkind : scope.kind = .function)
    (hnames : ∀ y ∈ scope.names, y.2 = .local → scope.names.lookup y.1 = some .local) (hx : scope.names.lookup x = some .local)
    (hsw : swapsWith (.ListComp elt [⟨.Name x px, iter, ifs, 0⟩] scope pos) (some (.Name y py)) spos.line env = pure true)
    (hy : env.kindOf y = some .local) (hp : (env.scope.kind == .class || (env.scope.kind == .module && env.locals != env.globals)) = false)
    (h : wpAny (model prog w) A (eval iter env) (CompBd prog w A env scope cl x y ifs elt Q) E s)
    (hs : ∀ x, foldedSetIterable iter env x = pure x := by intro _; rfl) :
    wpAny (model prog w) A (exec (.Assign [.Name y py] (.ListComp elt [⟨.Name x px, iter, ifs, 0⟩] scope pos) spos) env) Q E s := by
  rw [exec_Assign_Name_used _ _ _ _ hsw]
  refine wpAny_bind (wpAny_standAt (wpAny_bind ?_))
  show wpAny _ A (do let _ ← comprehension (.ListComp elt [⟨.Name x px, iter, ifs, 0⟩] scope pos) scope env _ (newList []) false (eval iter env) (some (assign (.Name y py) env))) _ _ s
  refine wpAny_bind (wpAny_mono (comp_gen (use := some (assign (.Name y py) env)) (Q := fun _ s' => Q .next s') hh hclos hcell hkind hnames hx (wpAny_mono h (fun xv s₁ h₁ => ?_) fun _ _ e => e) hs) (fun _ s' hq => wpAny_pure (wpAny_pure hq)) fun _ _ e => e)
  obtain ⟨l, vs, J, g, L, m, news, rfl, hL, F, N, jf, co, hQ⟩ := h₁
  subst hL
  refine wpAny_pyIter_list co.list ?_
  refine ⟨_, _, _, _, _, _, J, rfl, iter_list prog w s₁.heap.objs.size l vs, self_list prog w _ l, Heap.get?_push_size _ rfl, ⟨rfl, rfl⟩, co.toU ?_⟩
  intro C D h' tk ys k m' a1 a2 a3 a4 a5 a6 a7
  have hLs := F.ns.lt
  have hLC : env.locals ≠ C := fun q => Nat.lt_irrefl _ (Nat.lt_of_lt_of_le hLs (q ▸ a2))
  have hLD : env.locals ≠ D := fun q => Nat.lt_irrefl _ (Nat.lt_of_lt_of_le hLs (q ▸ a1))
  have old : ∀ b o, s₁.heap.get? b = some o → b ≠ C ∧ b ≠ D := fun b o e => by
    have := Heap.lt_size e
    exact ⟨fun q => Nat.lt_irrefl _ (Nat.lt_of_lt_of_le this (q ▸ a2)), fun q => Nat.lt_irrefl _ (Nat.lt_of_lt_of_le this (q ▸ a1))⟩
  show wpAny _ A (assign (.Name y py) env (.ref D)) _ _ _
  refine wpAny_assign_Name (wpAny_storeName_local hy (F.ns.at' fun o e => a6 _ o e) (fun h₂ hn₂ hs₂ => ?_) hp)
  refine ⟨m', a4.sameBut hs₂ (Ne.symm hLC), fun h₃ hs₃ => ?_⟩
  have keep : ∀ b o, b ≠ env.locals → b ≠ C → h'.get? b = some o → h₃.get? b = some o := fun b o q1 q2 e => hs₃.extBut b o q2 (hs₂.extBut b o q1 e)
  have gL : ∀ b o, g.get? b = some o → b ≠ env.locals := fun b o e q => Nat.lt_irrefl _ (Nat.lt_of_lt_of_le (q ▸ Heap.lt_size e) F.above)
  refine hQ D h₃ _ ys k a1 ⟨hn₂.sameBut hs₃ hLC, fun b o e => keep b o (gL b o e) (old b o (F.keep b o e)).1 (a6 _ _ (F.keep b o e)), F.above⟩ ?_ (co.mono _ _ _ _ (jf _ _ _ a7) fun b o e => ?_)
  · intro q hq
    rcases List.mem_cons.mp hq with rfl | hq
    · refine ⟨keep _ _ hLD.symm a3 a5, hLD.symm, ?_⟩
      cases e : g.get? D with
      | none => rfl
      | some o => exact absurd rfl (old D o (F.keep _ _ e)).2
    · have z := N q hq
      exact ⟨keep _ _ z.2.1 (old _ _ z.1).1 (a6 _ _ z.1), z.2⟩
  · have nL : b ≠ env.locals := fun q => by rw [q, hideAll_none _ (.head _)] at e; cases e
    have e1 := of_hideAll _ e
    have nb : b ∉ [C, D] := fun q => by rw [hideAll_none _ q] at e1; cases e1
    simp only [List.mem_cons, List.not_mem_nil, or_false, not_or] at nb
    exact hideAll_get _ (keep b o nL nb.1 (of_hideAll _ e1)) (by simp [nb.2, nL])
theorem lay_G0 : True := by
  k_with_none
  w_top off
  exact True.intro
theorem ints_get : ∀ {vs : List Value} {k : List Int}, IntsAre vs k → ∀ i : Nat, i < k.length → ∃ t, vs[i]? = some (.int (k.getD i 0) t)
  | _, _, .cons i t _, 0, _ => ⟨t, rfl⟩
  | _, _, .cons _ _ h, j + 1, hj => by
    obtain ⟨t, e⟩ := ints_get h j (by simpa using hj)
    exact ⟨t, by simpa using e⟩
section
variable {prog : Program} {w : World} {A : Around} {E : Value → Shared → Prop} {s : Shared}
theorem key_item {value slice : PySem.Expr} {a : Addr} {k : List Int} {i : Nat} {u : Tok} {Q : Value → Shared → Prop} (hk : KeyAt s.heap (.ref a) k) (hi : i < k.length) (hl : k.length ≤ 1000) (h : ∀ t, Q (.int (k.getD i 0) t) s)
    (hs : subscripted slice false (.ref a) (.int (i : Int) u) = operate [.ref a, .int (i : Int) u] (getItem (.ref a) (.int (i : Int) u)) := by with_unfolding_all rfl) :
    wpAny (model prog w) A (subscriptTail value slice (.ref a) (.int (i : Int) u)) Q E s := by
  obtain ⟨a', o, vs, n, e, ho, hc, hd, hI⟩ := hk
  cases e
  obtain ⟨t, e⟩ := ints_get hI i hi
  have hlen := hI.length
  refine item_tupleT (l := vs) (j := i) ⟨o, ho, hc, n, hd⟩ (by (first | lia | omega)) (by (first | lia | omega)) ?_ e (h t) hs
  unfold seqIndex?
  have h1 : ¬ ((i : Int) < 0) := by (first | lia | omega)
  simp only [h1, if_false]
  rw [if_pos (by simp only [Bool.and_eq_true, decide_eq_true_eq]; (first | lia | omega))]
  rfl
theorem key_itemv {value slice : PySem.Expr} {a : Addr} {k : List Int} {i v : Int} {u : Tok} {Q : Value → Shared → Prop} (hk : KeyAt s.heap (.ref a) k) (h0 : 0 ≤ i) (hi : i < k.length) (hl : k.length ≤ 1000) (hv : k.getD i.toNat 0 = v) (h : ∀ t, Q (.int v t) s)
    (hs : subscripted slice false (.ref a) (.int i u) = operate [.ref a, .int i u] (getItem (.ref a) (.int i u)) := by with_unfolding_all rfl) :
    wpAny (model prog w) A (subscriptTail value slice (.ref a) (.int i u)) Q E s := by
  obtain ⟨j, rfl⟩ := Int.eq_ofNat_of_zero_le h0
  exact key_item hk (by (first | lia | omega)) hl (fun t => hv ▸ h t) hs
theorem abs_L {a : Int} {t : Tok} {Q : Value → Shared → Prop} (h : ∀ u tk, Q (.int (a.natAbs : Int) u) { s with toks := tk }) : wpAny (model prog w) A (call (.builtin "abs") [.int a t]) Q E s :=
  call_abs_int fun u tk => by
    have e : (if a < 0 then -a else a) = (a.natAbs : Int) := by split <;> (first | lia | omega)
    rw [e]; exact h u tk
end

/-- the four places of a key -/
inductive KIx (k0 k1 k2 k3 : Int) : Int → Int → Prop
  | i0 : KIx k0 k1 k2 k3 0 k0
  | i1 : KIx k0 k1 k2 k3 1 k1
  | i2 : KIx k0 k1 k2 k3 2 k2
  | i3 : KIx k0 k1 k2 k3 3 k3
section
variable {prog : Program} {w : World} {A : Around} {E : Value → Shared → Prop} {s : Shared}
theorem key_at4 {value slice : PySem.Expr} {a : Addr} {k0 k1 k2 k3 i v : Int} {u : Tok} {Q : Value → Shared → Prop} (hk : KeyAt s.heap (.ref a) [k0, k1, k2, k3]) (hi : KIx k0 k1 k2 k3 i v) (h : ∀ t, Q (.int v t) s)
    (hs : subscripted slice false (.ref a) (.int i u) = operate [.ref a, .int i u] (getItem (.ref a) (.int i u)) := by with_unfolding_all rfl) :
    wpAny (model prog w) A (subscriptTail value slice (.ref a) (.int i u)) Q E s := by
  cases hi <;> exact key_itemv hk (by decide) (by show _ < ((4 : Nat) : Int); decide) (by show 4 ≤ 1000; decide) rfl h hs
end

section
variable {M : Model} {A : Around} {E : Value → Shared → Prop} {s : Shared} {K : Frag} {g g₀ : Heap} {L C : Addr} {m mg mb : Str → Option Value} {cl : List (Str × Addr)} {p : Program} {loose : List Str}
  {x : Str} {pos : Pos} {v : Value} {Q : Value → Shared → Prop} {news : List (Addr × Obj)} {c : Addr} {o : Obj} {scope : Scope} {env : Env}
theorem nameY_L (F : Fr g C s.heap m) (hv : m x = some v) (h : Q v s)
    (hk : scope.kind = .function := by rfl) (hx : (compEnvC scope cl C env).kindOf x = some .local := by rfl) (hd : (x == ("__debug__" : Str)) = false := by decide) :
    wpAny M A (eval (.Name x pos) (compEnvC scope cl C env)) Q E s := wpAny_Name (wpAny_loadName_local hk hx F.ns hv h) hd
theorem nameY_C (F : Fr g C s.heap m) (N : News g₀ L g news) (hc : cl.lookup x = some c) (hm : (c, o) ∈ news) (hd : o.data = .cell (some v)) (h : Q v s)
    (hk : scope.kind = .function := by rfl) (hx : (compEnvC scope cl C env).kindOf x = some .cell := by rfl) (hb : (x == ("__debug__" : Str)) = false := by decide) :
    wpAny M A (eval (.Name x pos) (compEnvC scope cl C env)) Q E s := wpAny_Name (wpAny_loadName_cell hk hx hc ⟨o, F.keep _ _ (N.get hm), hd⟩ h) hb
theorem nameY_K (F : Fr g C s.heap m) (X : K.In g) (T : TopRead p loose mg mb g) (e : nsIn K mainGlobals x = some (some v)) (h : Q v s)
    (hgl : env.globals = mainGlobals := by rfl) (hk : scope.kind = .function := by rfl) (hx : (compEnvC scope cl C env).kindOf x = some .globalImplicit := by rfl) (hd : (x == ("__debug__" : Str)) = false := by decide) :
    wpAny M A (eval (.Name x pos) (compEnvC scope cl C env)) Q E s := by
  have T' : s.heap.Ns env.globals mg := hgl ▸ T.g.keeps F.keep
  exact Name_function_global hk hx (loadGlobal_global (env := compEnvC scope cl C env) T' (mg_of X T.g e) h) hd
theorem nameY_B (F : Fr g C s.heap m) (X : K.In g) (T : TopRead p loose mg mb g) (e : nsIn K mainGlobals x = some none) (hv : bootBuiltins x = some v) (hn : x ≠ "__name__") (h : Q v s)
    (hgl : env.globals = mainGlobals := by rfl) (hbl : env.builtins = builtinsNs := by rfl) (hk : scope.kind = .function := by rfl) (hx : (compEnvC scope cl C env).kindOf x = some .globalImplicit := by rfl) (hd : (x == ("__debug__" : Str)) = false := by decide) :
    wpAny M A (eval (.Name x pos) (compEnvC scope cl C env)) Q E s := by
  have T' : s.heap.Ns env.globals mg := hgl ▸ T.g.keeps F.keep
  have B' : s.heap.Ns env.builtins mb := hbl ▸ T.b.keeps F.keep
  exact Name_function_global hk hx (loadGlobal_builtin (env := compEnvC scope cl C env) T' (mg_none_of X T.g e) B' ((T.builtins x hn).trans hv) h) hd
end

theorem fr_sub {g h h' : Heap} {L : Addr} {m : Str → Option Value} (F : Fr g L h m) (k : Sub h h') : Fr g L h' m := ⟨F.ns.keeps k, fun b o e => k _ _ (F.keep b o e), F.above⟩
theorem news_sub {g h h' : Heap} {L : Addr} {news : List (Addr × Obj)} (N : News g L h news) (k : Sub h h') : News g L h' news := fun q hq => ⟨k _ _ (N q hq).1, (N q hq).2⟩
theorem news_new {g h h' : Heap} {L D : Addr} {m : Str → Option Value} {o : Obj} {news : List (Addr × Obj)} (F : Fr g L h m) (N : News g L h news) (k : Sub h h') (hd : h'.get? D = some o) (hD : h.objs.size ≤ D) :
    News g L h' ((D, o) :: news) ∧ (∀ q ∈ news, q.1 < D) ∧ L < D := by
  have hL : L < D := Nat.lt_of_lt_of_le F.ns.lt hD
  refine ⟨fun q hq => ?_, fun q hq => Nat.lt_of_lt_of_le (Heap.lt_size (N q hq).1) hD, hL⟩
  rcases List.mem_cons.mp hq with rfl | hq
  · exact ⟨hd, Nat.ne_of_gt hL, Heap.get?_none_of_le (Nat.le_trans F.above (Nat.le_of_lt hL))⟩
  · exact news_sub N k q hq
theorem sub_refl (h : Heap) : Sub h h := fun _ _ e => e

section
variable {M : Model} {A : Around} {E : Value → Shared → Prop} {s : Shared}
theorem is_rr {x y : Addr} {ox oy : Obj} {Q : Value → Shared → Prop} (hx : s.heap.get? x = some ox) (hy : s.heap.get? y = some oy) (hb : ox.cls ≠ Value.type "tuple") (hq : Q (.bool (decide (x = y))) s) : wpAny M A (compareOp .Is (.ref x) (.ref y)) Q E s := by
  by_cases h : x = y
  · subst h; rw [decide_eq_true rfl] at hq; exact wpAny_is_ref_self hq
  · rw [decide_eq_false h] at hq; exact kto_is hx hy h hb hq
theorem isnot_rr {x y : Addr} {ox oy : Obj} {Q : Value → Shared → Prop} (hx : s.heap.get? x = some ox) (hy : s.heap.get? y = some oy) (hb : ox.cls ≠ Value.type "tuple") (hq : Q (.bool (x != y)) s) : wpAny M A (compareOp .IsNot (.ref x) (.ref y)) Q E s := by
  by_cases h : x = y
  · subst h; rw [show (x != x) = false by simp] at hq; exact wpAny_isNot_ref_self hq
  · rw [show (x != y) = true by simpa using h] at hq; exact kto_isnot hx hy h hb hq
end
def refNe (a : Addr) : Value → Bool
  | .ref b => b != a
  | _ => true
theorem take_filter_succ (p : Value → Bool) (ls : List Value) (i : Nat) (hi : i < ls.length) : (ls.take (i + 1)).filter p = (ls.take i).filter p ++ (if p (ls.getD i .none) = true then [ls.getD i .none] else []) := by
  rw [List.take_succ_eq_append_getElem hi, List.filter_append, List.getD_eq_getElem?_getD, List.getElem?_eq_getElem hi]
  cases h : p ls[i] <;> simp [h]
theorem lay_M0 : True := by
  k_with_none
  w_top off
  exact True.intro
theorem sl_filter_next : Slot "filter" "__next__" "filter.__next__" :=
  .of (owner := "filter") (n := "__next__") (by rw [typeLookup_type, builtinLookup_eq_fast]; kernel_rfl) (by decide +kernel) (by decide +kernel) (by decide +kernel)
    (by first | exact .inl (by decide +kernel) | exact .inr (by decide +kernel)) (by rw [isSubtype_type]; kernel_rfl)
theorem sl_filter_iter : Slot "filter" "__iter__" "filter.__iter__" :=
  .of (owner := "filter") (n := "__iter__") (by rw [typeLookup_type, builtinLookup_eq_fast]; kernel_rfl) (by decide +kernel) (by decide +kernel) (by decide +kernel)
    (by first | exact .inl (by decide +kernel) | exact .inr (by decide +kernel)) (by rw [isSubtype_type]; kernel_rfl)
theorem sl_filter_init : Slot "filter" "__init__" "object.__init__" :=
  .of (owner := "object") (n := "__init__") (by rw [typeLookup_type, builtinLookup_eq_fast]; kernel_rfl) (by decide +kernel) (by decide +kernel) (by decide +kernel)
    (by first | exact .inl (by decide +kernel) | exact .inr (by decide +kernel)) (by rw [isSubtype_type]; kernel_rfl)
theorem en_filter_next : entryFor table "filter.__next__" = some Builtin.«filter.__next__» := entryFor_of_tree (by kernel_rfl)
theorem en_filter_new : entryFor table "filter.__new__" = some Builtin.«filter.__new__» := entryFor_of_tree (by kernel_rfl)
theorem en_filter_iter : entryFor table "filter.__iter__" = some Builtin.«dict_keyiterator.__iter__» :=
  entryFor_alias (id' := "dict_keyiterator.__iter__") (by kernel_rfl) (by first | rfl | decide +kernel | (unfold String.splitOn; simp +decide [String.splitOnAux])) (by decide +kernel) (by kernel_rfl)
theorem ar_filter_next (a : Value) : argsOk "filter.__next__" ⟨[a], []⟩ := by unfold argsOk; kernel_rfl
theorem ar_filter_iter (a : Value) : argsOk "filter.__iter__" ⟨[a], []⟩ := by unfold argsOk; kernel_rfl
theorem mro_filter : mroOf (.type "filter") = pure [.type "filter", .type "object"] := by rw [mroOf_type]; kernel_rfl
theorem lookup_filter_new : typeLookup (.type "filter") "__new__" = pure (some (.builtin "filter.__new__")) := by rw [typeLookup_type, builtinLookup_eq_fast]; kernel_rfl
theorem called_filter : TypeCalled "filter" "filter.__new__" "object.__init__" :=
  ⟨by decide +kernel, by decide +kernel, ⟨_, _, mro_filter⟩, madeBy_type mro_filter lookup_filter_new (by decide +kernel), by decide +kernel, by rw [isSubtype_type]; kernel_rfl, sl_filter_init⟩
theorem typeCall_filter (a b : Value) : checkTypeCall "filter" ⟨[a, b], []⟩ = pure () := by kernel_rfl
theorem newCall_filter (a b : Value) : checkBuiltinCall "filter.__new__" ⟨[.type "filter", a, b], []⟩ = pure () := by kernel_rfl
theorem sub_filter_self : isSubtype (.type "filter") (.type "filter") = pure true := by rw [isSubtype_type]; kernel_rfl
theorem no_filter_len : typeLookup (.type "filter") "__len__" = pure none := by rw [typeLookup_type, builtinLookup_eq_fast]; kernel_rfl
theorem no_filter_hint : typeLookup (.type "filter") "__length_hint__" = pure none := by rw [typeLookup_type, builtinLookup_eq_fast]; kernel_rfl
theorem newClass_filter (a b : Value) : Builtin.SmallTypes.newClass "filter" ⟨[.type "filter", a, b], []⟩ = pure (.type "filter", [a, b]) := by
  unfold Builtin.SmallTypes.newClass
  simp only [isType, sub_filter_self, pure_bind, Bool.not_true, Bool.false_eq_true, if_false]

abbrev filterObj (f : Value) (it : Addr) : Obj := { cls := .type "filter", dict := none, data := .fields #[f, .ref it] }
theorem meets_filter_new (f : Value) (l : Addr) (items : Array Value) (n : Nat) :
    Meets (Builtin.«filter.__new__» ⟨[.type "filter", f, .ref l], []⟩) (fun _ R s => s.heap.get? l = some { cls := .type "list", dict := none, data := .seq items n, slots := #[] } ∧
      R (.ok (.ret (.ref (s.heap.push { cls := .type "list_iterator", data := .fields #[.ref l, .int 0 0] }).objs.size)))
        { s with heap := (s.heap.push { cls := .type "list_iterator", data := .fields #[.ref l, .int 0 0] }).push (filterObj f s.heap.objs.size) }) :=
  .of_wp fun prog w A R s h => by
    obtain ⟨hl, h⟩ := h
    have hL : s.heap.IsList l items := ⟨_, hl, rfl, n, rfl⟩
    unfold Builtin.«filter.__new__»
    refine wpAny_bind (wpAny_of_eq (newClass_filter _ _) ?_)
    try dsimp only
    refine wpAny_bind (wpAny_of_eq (a := ()) (by first | rfl | kernel_rfl) ?_)
    refine wpAny_bind (wpAny_of_eq (a := ()) (by first | rfl | kernel_rfl) ?_)
    refine wpAny_bind (wpAny_pyIter_list hL ?_)
    refine wpAny_bind ?_
    unfold Builtin.SmallTypes.newRecord
    refine wpAny_newObj_type ?_
    exact wpAny_pure ⟨_, rfl, h⟩

section
variable {prog : Program} {w : World} {A : Around} {E : Value → Shared → Prop} {s : Shared} {h₀ : Heap} {L : Addr} {m : Str → Option Value} {news : List (Addr × Obj)}
theorem filter_new {f : Value} {l : Addr} {items : Array Value} {n : Nat} {Q : Value → Shared → Prop} (F : Fr h₀ L s.heap m) (N : News h₀ L s.heap news) (hl : s.heap.get? l = some (W.listOf items n))
    (h : ∀ it x h', Fr h₀ L h' m → News h₀ L h' ((x, filterObj f it) :: (it, { cls := .type "list_iterator", data := .fields #[.ref l, .int 0 0] }) :: news) → (∀ q ∈ news, q.1 < it) → it < x → L < it → Q (.ref x) { s with heap := h' }) :
    wpAny (model prog w) A (call (.type "filter") [f, .ref l]) Q E s := by
  refine callType_new called_filter (by decide) (typeCall_filter _ _) (newCall_filter _ _) (fun obj => PySem.F.args_object_init_3 obj _ _) en_filter_new (meets_filter_new f l items n) ⟨hl, ?_⟩
  have F1 := F.push { cls := .type "list_iterator", data := .fields #[.ref l, .int 0 0] }
  have N1 := N.push F { cls := .type "list_iterator", data := .fields #[.ref l, .int 0 0] }
  have F2 := F1.push (filterObj f s.heap.objs.size)
  have N2 := N1.push F1 (filterObj f s.heap.objs.size)
  refine ⟨⟨_, Heap.get?_push_size _ rfl, rfl⟩, h _ _ _ F2 N2 (fun q hq => Heap.lt_size (N q hq).1) ?_ F.ns.lt⟩
  rw [Heap.size_push]; exact Nat.lt_succ_self _
theorem filter_end {f : Value} {x it l : Addr} {Q : Option Value → Shared → Prop} (hh : A.handled = none) (hx : s.heap.get? x = some (filterObj f it)) (hit : s.heap.IsListIter it l 0) (hl : s.heap.IsList l #[])
    (hQ : ∀ h', Heap.ExtBut it s.heap h' → Q none { s with heap := h' }) : wpAny (model prog w) A (pyNext (.ref x)) Q E s := by
  have hT : s.TypeIs (.ref x) "filter" := ⟨_, hx, rfl⟩
  unfold pyNext
  refine wpAny_bind (wpAny_attempt (wpAny_callSpecial?_slot (name := Str.ofString "__next__") hT sl_filter_next (wpAny_call_entry sl_filter_next hT en_filter_next ?_ (ar_filter_next _))))
  unfold Builtin.«filter.__next__»
  refine wpAny_bind (wpAny_of_eq (a := (Value.ref x, [])) rfl ?_)
  dsimp only
  refine wpAny_bind (wpAny_field hx rfl (x := f) rfl ?_)
  refine wpAny_bind (wpAny_field hx rfl (x := .ref it) rfl ?_)
  obtain ⟨o, ho, hc, hd⟩ := id hit
  obtain ⟨ol, hol, _, nl, hdl⟩ := hl
  refine wpAny_bind (wpAny_callSpecial?_slot (name := Str.ofString "__next__") hit.typeIs slot_listiter_next
    (wpAny_call_entry slot_listiter_next hit.typeIs entry_listiter_next ?_ (args_listiter_next _)))
  show wpAny _ _ (field (.ref it) 0 >>= _) _ _ s
  refine wpAny_bind (wpAny_field ho hd (x := .ref l) rfl ?_)
  show wpAny _ _ (if (Value.ref l == Value.none) = true then _ else _) _ _ s
  rw [if_neg (show ¬ ((Value.ref l == Value.none) = true) from Bool.false_ne_true)]
  show wpAny _ _ (field (.ref it) 1 >>= _) _ _ s
  refine wpAny_bind (wpAny_field ho hd (x := .int 0 0) rfl ?_)
  show wpAny _ _ (seqItems? (.ref l) >>= _) _ _ s
  refine wpAny_bind (wpAny_seqItems hol hdl ?_)
  refine wpAny_bind (wpAny_rule (wpAny_bind (wpAny_setField ho hd (by simp) ?_)))
  show wpAny _ _ (newExc (.type "StopIteration") [] >>= _) _ _ _
  refine wpAny_bind ?_
  simp only [newExc, newTuple]
  refine wpAny_bind (wpAny_newObj_type ?_ (by size_fits))
  refine wpAny_bind (m := firstArgMember _ _) (wpAny_of_eq (a := Value.none) (by first | rfl | (simp only [firstArgMember]; rfl)) ?_)
  refine wpAny_newObj_type ?_ (by size_fits)
  simp only [raiseNew]
  refine wpAny_bind (wpAny_handled ?_)
  first | rw [show A.in1.in1.handled = none from hh] | rw [hh]
  refine wpAny_bind (wpAny_pure (wpAny_throw ?_))
  refine wpAny_bind (wpAny_isInstance (T := "StopIteration") (b := true) ⟨_, Heap.get?_push_size _ rfl, rfl⟩ isSubtype_stop ?_)
  exact wpAny_pure (hQ _ (((Heap.SameBut.update ..).extBut.push _).push _))

theorem pyIter_filter {f : Value} {x it : Addr} {Q : Value → Shared → Prop} (hx : s.heap.get? x = some (filterObj f it)) (h : Q (.ref x) s) : wpAny (model prog w) A (pyIter (.ref x)) Q E s := by
  have hT : s.TypeIs (.ref x) "filter" := ⟨_, hx, rfl⟩
  refine wpAny_pyIter_slot hT sl_filter_iter (wpAny_call_entry sl_filter_iter hT en_filter_iter ?_ (ar_filter_iter _))
  show wpAny _ _ (ret (.ref x)) _ _ s
  exact wpAny_pure ⟨_, rfl, "filter", _, hT, sl_filter_next.lookup, h⟩

theorem walks_filter (prog : Program) (w : World) (A : Around) (hh : A.handled = none) (f : Value) (x it l : Addr) :
    Walks prog w A x [x, it, l] [it] 0 (fun _ _ => True) (fun _ h => h.get? x = some (filterObj f it) ∧ h.IsListIter it l 0 ∧ h.IsList l #[]) where
  sub := by intro b hb; simp at hb; simp [hb]
  frame := by
    rintro i h h' ⟨a, ⟨o, ho, r⟩, ⟨o2, ho2, r2⟩⟩ k
    exact ⟨k _ (by simp) _ a, ⟨o, k _ (by simp) _ ho, r⟩, ⟨o2, k _ (by simp) _ ho2, r2⟩⟩
  item := fun i s Q E hi => absurd hi (Nat.not_lt_zero _)
  done := by
    rintro s Q E ⟨a, b, c⟩ h
    exact filter_end hh a b c fun h' hx => h h' s.toks fun b o hb e => hx b o (by simpa using hb) e
  self := by
    rintro i s Q E ⟨a, b, c⟩ h
    exact pyIter_filter a h

theorem hint_filter {x : Addr} {Q : Bool → Shared → Prop} (hT : s.TypeIs (.ref x) "filter") (h : Q true s) : wpAny (model prog w) A (Builtin.List.listLengthHint (.ref x)) Q E s := by
  unfold Builtin.List.listLengthHint
  refine wpAny_bind (wpAny_specialOf hT no_filter_len ?_)
  show wpAny _ _ (specialOf (.ref x) "__length_hint__" >>= _) _ _ s
  refine wpAny_bind (wpAny_specialOf hT no_filter_hint ?_)
  exact wpAny_pure h

theorem list_filter {f : Value} {x it l : Addr} {Q : Value → Shared → Prop} (hh : A.handled = none) (F : Fr h₀ L s.heap m) (N : News h₀ L s.heap news) (hx : s.heap.get? x = some (filterObj f it)) (hit : s.heap.IsListIter it l 0) (hl : s.heap.IsList l #[])
    (hne : it ≠ L) (hg : h₀.get? it = none) (hna : ∀ q ∈ news, q.1 ≠ it)
    (h : ∀ D n h' tk, Fr h₀ L h' m → News h₀ L h' ((D, W.listOf ([] : List Value).toArray n) :: news) → (∀ q ∈ news, q.1 < D) → L < D → Q (.ref D) { s with heap := h', toks := tk }) :
    wpAny (model prog w) A (call (.type "list") [.ref x]) Q E s := by
  refine callType_codes (Q₁ := fun obj s₁ => obj = .ref s.heap.objs.size ∧ s₁ = { s with heap := s.heap.push { cls := .type "list", data := .seq #[] } }) PySem.F.called_list (PySem.F.typeCall_list_1 _) PySem.F.entry_list_init
    (code_list_new _ ⟨rfl, rfl⟩) fun obj s₁ h₁ => ?_
  obtain ⟨rfl, rfl⟩ := h₁
  generalize hS0 : s.heap.objs.size = S
  have lS : ∀ b o, s.heap.get? b = some o → b < S := fun b o e => hS0 ▸ Heap.lt_size e
  generalize hH : s.heap.push { cls := .type "list", data := .seq #[] } = H
  have hS : H.get? S = some { cls := .type "list", data := .seq #[] } := by rw [← hH, ← hS0]; exact Heap.get?_push_size _ rfl
  have up : ∀ b o, s.heap.get? b = some o → H.get? b = some o := fun b o e => by rw [← hH]; exact Heap.get?_push_of_some _ e
  refine ⟨⟨_, hS, rfl⟩, PySem.F.args_list_init_2 _ _, ?_⟩
  show wpAny _ _ (do let old ← Builtin.List.listItems (.ref S); Builtin.List.listUpdate (.ref S) (fun _ => #[]); letGo old.toList.reverse; Builtin.List.listExtendWith (.ref S) (.ref x) .none) _ _ _
  refine wpAny_bind ?_
  unfold Builtin.List.listItems
  refine wpAny_bind (wpAny_seqItems hS rfl (wpAny_pure ?_))
  show wpAny _ _ (updateSeq S (fun _ => #[]) >>= fun _ => letGo (#[] : Array Value).toList.reverse >>= fun _ => Builtin.List.listExtendWith (.ref S) (.ref x) .none) _ _ _
  refine wpAny_bind (wpAny_updateSeq hS rfl ?_)
  have hS₂ := Heap.get?_update_self (Obj.mapSeq (fun _ => (#[] : Array Value))) hS rfl
  have oth : ∀ b o, b ≠ S → H.get? b = some o → (H.update S (Obj.mapSeq (fun _ => (#[] : Array Value)))).get? b = some o := fun b o hb e => (Heap.get?_update_other _ _ (Ne.symm hb)).trans e
  refine wpAny_bind (wpAny_letGo ?_)
  generalize hH2 : H.update S (Obj.mapSeq (fun _ => (#[] : Array Value))) = H2 at hS₂ oth
  have xS : x ≠ S := Nat.ne_of_lt (lS _ _ hx)
  have itS : it ≠ S := let ⟨o, ho, _⟩ := hit; Nat.ne_of_lt (lS _ _ ho)
  have lS' : l ≠ S := let ⟨o, ho, _⟩ := hl; Nat.ne_of_lt (lS _ _ ho)
  have hx2 : H2.get? x = some (filterObj f it) := oth _ _ xS (up _ _ hx)
  have st : ∀ h' : Heap, (∀ b o, b ≠ S → H2.get? b = some o → h'.get? b = some o) → h'.get? x = some (filterObj f it) ∧ h'.IsListIter it l 0 ∧ h'.IsList l #[] := fun h' k => by
    obtain ⟨o, ho, r⟩ := hit
    obtain ⟨o2, ho2, r2⟩ := hl
    exact ⟨k _ _ xS hx2, ⟨o, k _ _ itS (oth _ _ itS (up _ _ ho)), r⟩, ⟨o2, k _ _ lS' (oth _ _ lS' (up _ _ ho2)), r2⟩⟩
  have hSf : S ∉ [x, it, l] := by simp only [List.mem_cons, List.not_mem_nil, or_false, not_or]; exact ⟨Ne.symm xS, Ne.symm itS, Ne.symm lS'⟩
  have key : ∀ (h' : Heap) (c₁ tk₁ : Nat), (∀ b o, b ≠ S → H2.get? b = some o → h'.get? b = some o) → h'.get? S = some { cls := .type "list", data := .seq #[] c₁ } →
      codeAny (model prog w) A.in1 (.builtin "list.extend.loop" ⟨[.ref S, .ref x, .none], []⟩) (wants (fun r s₂ => r = .none ∧ Q (.ref S) s₂) E) { s with heap := h', toks := tk₁ } := by
    intro h1 c₁ tk₁ k1 hS1
    have W := walks_filter prog w A.in1.in1 hh f x it l
    refine codeAny_extend_loopS (A := A.in1) W.toS (Nat.zero_le _) S hSf .none 0 0 _ #[] c₁ rfl (Nat.zero_le _) (st _ k1) hS1 (ItemsOf.nil _) fun s' acc' c' hm hS' hacc => ?_
    rw [Moved.eq_with hm]
    have hk : ∀ b o, b ≠ it → s.heap.get? b = some o → s'.heap.get? b = some o := fun b o hb e => by
      have hbS : b ≠ S := Nat.ne_of_lt (lS _ _ e)
      exact hm.heap b o (by simp only [List.mem_cons, List.not_mem_nil, or_false, not_or]; exact ⟨hbS, hb⟩) (k1 _ _ hbS (oth _ _ hbS (up _ _ e)))
    have hacc' : acc' = ([] : List Value).toArray := by
      have := hacc.1
      exact Array.eq_empty_of_size_eq_zero this
    subst hacc'
    have hLS : L < S := hS0 ▸ F.ns.lt
    refine ⟨rfl, h S c' s'.heap s'.toks ⟨F.ns.at' fun o e => hk _ _ (Ne.symm hne) e, fun b o e => hk _ _ (fun q => by rw [q, hg] at e; cases e) (F.keep _ _ e), F.above⟩ ?_ (fun q hq => lS _ _ (N q hq).1) hLS⟩
    intro q hq
    rcases List.mem_cons.mp hq with rfl | hq
    · exact ⟨hS', Nat.ne_of_gt hLS, Heap.get?_none_of_le (Nat.le_trans F.above (Nat.le_of_lt hLS))⟩
    · exact ⟨hk _ _ (hna q hq) (N q hq).1, (N q hq).2⟩
  unfold Builtin.List.listExtendWith
  refine wpAny_bind (wpAny_typeOf (T := "filter") ⟨_, hx2, rfl⟩ ?_)
  have h1 : Builtin.List.listSameRef (.ref S) (.ref x) = false := by simp [Builtin.List.listSameRef, Ne.symm xS]
  simp only [h1, show (Value.type "filter" == Value.type "list") = false by decide, show (Value.type "filter" == Value.type "tuple") = false by decide, Bool.or_false, Bool.false_eq_true, if_false]
  refine wpAny_bind (pyIter_filter hx2 ?_)
  refine wpAny_bind (wpAny_holding (hint_filter ⟨_, hx2, rfl⟩ ?_))
  simp only [Bool.true_or, if_true]
  refine wpAny_bind (wpAny_rule ?_)
  refine wpAny_bind ?_
  show wpAny _ _ (updateSeq S (·.push .none) >>= fun _ => updateSeq S (·.pop)) _ _ _
  refine wpAny_bind (wpAny_updateSeq hS₂ rfl ?_)
  have hS₃ := Heap.get?_update_self (Obj.mapSeq (·.push Value.none)) hS₂ rfl
  refine wpAny_updateSeq (hz := by seq_fits) hS₃ rfl ?_
  have hS₄ := Heap.get?_update_self (Obj.mapSeq (·.pop)) hS₃ rfl
  exact wpAny_pure ⟨plainId_quiet PySem.F.plain_extend_loop _, key _ _ _ (fun b o hb e => (Heap.get?_update_other _ _ (Ne.symm hb)).trans ((Heap.get?_update_other _ _ (Ne.symm hb)).trans e)) hS₄⟩
end
theorem lay_M1 : True := by
  k_with_none
  w_top off
  exact True.intro
abbrev boundObj (a : Addr) : Obj := { cls := .type "builtin_function_or_method", data := .fields #[.builtin "set.__contains__", .ref a] }
theorem sl_md_get : Slot "method_descriptor" "__get__" "method_descriptor.__get__" :=
  .of (owner := "method_descriptor") (n := "__get__") (by rw [typeLookup_type, builtinLookup_eq_fast]; kernel_rfl) (by decide +kernel) (by decide +kernel) (by decide +kernel)
    (by first | exact .inl (by decide +kernel) | exact .inr (by decide +kernel)) (by rw [isSubtype_type]; kernel_rfl)
theorem en_md_get : entryFor table "method_descriptor.__get__" = some Builtin.«method_descriptor.__get__» := entryFor_of_tree (by kernel_rfl)
theorem ar_md_get (a b c : Value) : argsOk "method_descriptor.__get__" ⟨[a, b, c], []⟩ := by unfold argsOk; kernel_rfl
theorem type_sc : typeOf (.builtin "set.__contains__") = pure (.type "method_descriptor") := by show builtinType _ = _; rw [builtinType_eq_fast]; kernel_rfl
theorem lk_sc : typeLookup (.type "set") "__contains__" = pure (some (.builtin "set.__contains__")) := by rw [typeLookup_type, builtinLookup_eq_fast]; kernel_rfl
theorem lk_md_set : typeLookup (.type "method_descriptor") "__set__" = pure none := by rw [typeLookup_type, builtinLookup_eq_fast]; kernel_rfl
theorem lk_md_del : typeLookup (.type "method_descriptor") "__delete__" = pure none := by rw [typeLookup_type, builtinLookup_eq_fast]; kernel_rfl
theorem own_sc : (kfb_private% "ownerAndName") "set.__contains__" = ("set", "__contains__") := by first | decide +kernel | kernel_rfl
theorem told_sc : Manifest.toldItsClass.contains "set.__contains__" = false := by decide +kernel
theorem sub_ss : isSubtype (.type "set") (.type "set") = pure true := by rw [isSubtype_type]; kernel_rfl
theorem is_set : isType (.type "set") = pure true := by first | rfl | kernel_rfl | (unfold isType; rw [isSubtype_type]; kernel_rfl)
section
variable {M : Model} {A : Around} {E : Value → Shared → Prop} {s : Shared}
theorem md_get {P : Fin → Shared → Prop} {a : Addr} (hT : s.TypeIs (.ref a) "set") (h : P (.done (.ret (.ref s.heap.objs.size))) { s with heap := s.heap.push (boundObj a) }) :
    wpAny M A (Builtin.«method_descriptor.__get__» ⟨[.builtin "set.__contains__", .ref a, .type "set"], []⟩) P E s := by
  unfold Builtin.«method_descriptor.__get__»
  refine wpAny_bind (wpAny_of_eq (a := (.builtin "set.__contains__", some (.ref a), some (.type "set"))) (by first | rfl | kernel_rfl) ?_)
  simp only [told_sc, Bool.false_eq_true, if_false]
  show wpAny M A ((kfb_private% "checkInstance") (.builtin "set.__contains__") (.ref a) >>= fun _ => newFields "builtin_function_or_method" [.builtin "set.__contains__", .ref a] >>= fun v => ret v) P E s
  refine wpAny_bind ?_
  show wpAny M A (isInstance (.ref a) (.type ((kfb_private% "ownerAndName") "set.__contains__").1) >>= _) _ E s
  rw [own_sc]
  refine wpAny_bind (wpAny_isInstance hT sub_ss ?_)
  simp only [Bool.not_true, Bool.false_eq_true, if_false]
  refine wpAny_pure ?_
  exact wpAny_bind (wpAny_newObj_type (wpAny_pure h))
end
section
variable {prog : Program} {w : World} {A : Around} {E : Value → Shared → Prop} {s : Shared}
theorem md_call {a : Addr} {Q : Value → Shared → Prop} (hT : s.TypeIs (.ref a) "set") (h : Q (.ref s.heap.objs.size) { s with heap := s.heap.push (boundObj a) }) :
    wpAny (model prog w) A (call (.builtin "method_descriptor.__get__") [.builtin "set.__contains__", .ref a, .type "set"]) Q E s := by
  exact wpAny_call_entry sl_md_get type_sc en_md_get (md_get hT ⟨_, rfl, h⟩) (ar_md_get _ _ _)
theorem set_ga {a : Addr} {o : Obj} {tk : Tok} {Q : Fin → Shared → Prop} (hx : s.heap.get? a = some o) (hc : o.cls = .type "set") (hd : o.dict = none) (hdat : ∃ es ep t, o.data = .set es ep t) (h : Q (.done (.ret (.ref s.heap.objs.size))) { s with heap := s.heap.push (boundObj a) }) :
    wpAny (model prog w) A (Builtin.«object.__getattribute__» ⟨[.ref a, .str "__contains__" tk], []⟩) Q E s := by
  obtain ⟨es, ep, t, hdat⟩ := hdat
  obtain ⟨c, dct, dat, sl⟩ := o
  simp only at hc hd hdat
  subst hc hd hdat
  have hT : s.TypeIs (.ref a) "set" := ⟨_, hx, rfl⟩
  have f5 := type_sc
  have f6 := sl_md_get.lookup
  have f7 := lk_md_set
  have f8 := lk_md_del
  have f9 := lk_sc
  obtain ⟨hp, g, d, tk', os⟩ := s
  unfold Builtin.«object.__getattribute__»
  repeat (any_goals (first | assumption | wp_step))
  refine codeAny_call_builtin sl_md_get.plain en_md_get (sl_md_get.check _ _ _ _ _ _ _ _ (show (⟨hp, g, d, tk', os⟩ : Shared).TypeIs (.builtin "set.__contains__") "method_descriptor" from type_sc) (ar_md_get _ _ _) (md_get hT ?_))
  exact wpAny_pure h

theorem set_attr {a : Addr} {o : Obj} {Q : Value → Shared → Prop} (hx : s.heap.get? a = some o) (hc : o.cls = .type "set") (hd : o.dict = none) (hdat : ∃ es ep t, o.data = .set es ep t) (h : ∀ tk, Q (.ref s.heap.objs.size) { s with heap := s.heap.push (boundObj a), toks := tk }) :
    wpAny (model prog w) A (getAttr (.ref a) "__contains__" true) Q E s := by
  have hx0 := hx
  obtain ⟨c, dct, dat, sl⟩ := o
  simp only at hc hd hdat
  subst hc hd
  have hT : ∀ tk, ({ s with toks := tk } : Shared).TypeIs (.ref a) "set" := fun _ => ⟨_, hx, rfl⟩
  have f2 := PySem.F.slot_set_getattribute.lookup
  have f3 := PySem.F.slot_set_getattribute.bind (.ref a)
  obtain ⟨hp, g, d, tk', os⟩ := s
  unfold getAttr getAttrBy
  repeat (any_goals (first | assumption | exact hT _ | wp_step))
  refine codeAny_call_builtin PySem.F.slot_set_getattribute.plain PySem.F.entry_set_ga (PySem.F.slot_set_getattribute.check _ _ _ _ _ _ _ _ (hT _) (PySem.F.args_set_getattribute_2 _ _) (set_ga hx0 rfl rfl hdat ?_))
  repeat (any_goals (first | assumption | exact hT _ | wp_step))
  exact h _
end
section
variable {prog : Program} {w : World} {A : Around} {E : Value → Shared → Prop} {s : Shared} {h₀ : Heap} {L : Addr} {m : Str → Option Value} {news : List (Addr × Obj)}
theorem set_attr_N {a : Addr} {o : Obj} {S : Int → Bool} {n : Nat} {Q : Value → Shared → Prop} (F : Fr h₀ L s.heap m) (N : News h₀ L s.heap news) (ho : (a, o) ∈ news) (hs : o.SetObjOf (intKind prog w) S n)
    (h : ∀ x h' tk, Fr h₀ L h' m → News h₀ L h' ((x, boundObj a) :: news) → (∀ q ∈ news, q.1 < x) → L < x → Q (.ref x) { s with heap := h', toks := tk }) : wpAny (model prog w) A (getAttr (.ref a) "__contains__" true) Q E s := by
  obtain ⟨⟨h1, h2, _⟩, es, ep, t, h3, _⟩ := hs
  exact set_attr (N.get ho) h1 h2 ⟨es, ep, t, h3⟩ fun tk => h _ _ _ (F.push _) (N.push F _) (fun q hq => Heap.lt_size (N q hq).1) F.ns.lt
theorem set_L {l : Addr} {Q : Value → Shared → Prop} (F : Fr h₀ L s.heap m) (N : News h₀ L s.heap news) (hh : A.handled = none) (hl : h₀.IsList l ([] : List Value).toArray)
    (h : ∀ x h' (tk : Nat) o, Fr h₀ L h' m → News h₀ L h' ((x, o) :: news) → (∀ q ∈ news, q.1 < x) → L < x → (∃ S n, o.SetObjOf (intKind prog w) S n) → Q (.ref x) { s with heap := h', toks := tk }) :
    wpAny (model prog w) A (call (.type "set") [.ref l]) Q E s :=
  newSetList_N F N hh hl .nil (by show 0 + 1 < scanBound; decide) fun h' tk o F' N' hs _ _ => h _ h' tk o F' N' (fun q hq => Heap.lt_size (N q hq).1) F.ns.lt ⟨_, _, hs⟩
theorem list_filter2 {f : Value} {x it l : Addr} {Q : Value → Shared → Prop} (F : Fr h₀ L s.heap m) (N : News h₀ L s.heap ((x, filterObj f it) :: (it, { cls := .type "list_iterator", data := .fields #[.ref l, .int 0 0] }) :: news)) (hh : A.handled = none) (hl : h₀.IsList l ([] : List Value).toArray)
    (hna : ∀ q ∈ news, q.1 ≠ it)
    (h : ∀ D n h' tk, Fr h₀ L h' m → News h₀ L h' ((D, W.listOf ([] : List Value).toArray n) :: news) → (∀ q ∈ news, q.1 < D) → L < D → Q (.ref D) { s with heap := h', toks := tk }) :
    wpAny (model prog w) A (call (.type "list") [.ref x]) Q E s :=
  let z := N _ (.tail _ (.head _))
  list_filter hh F (fun q hq => N q (.tail _ (.tail _ hq))) (N _ (.head _)).1 ⟨_, z.1, rfl, rfl⟩ (let ⟨o, ho, r⟩ := hl; ⟨o, F.keep _ _ ho, r⟩) z.2.1 z.2.2 hna h
theorem add_L {l b : Addr} {vs ws : List Value} {Q : Value → Shared → Prop} (F : Fr h₀ L s.heap m) (N : News h₀ L s.heap news) (hl : s.heap.IsList l vs.toArray) (hb : s.heap.IsList b ws.toArray) (hsz : vs.length + ws.length ≤ 100000)
    (h : ∀ D h', Fr h₀ L h' m → News h₀ L h' ((D, W.listOf (vs ++ ws).toArray 0) :: news) → (∀ q ∈ news, q.1 < D) → L < D → Q (.ref D) { s with heap := h' }) :
    wpAny (model prog w) A (binaryOp .Add (.ref l) (.ref b)) Q E s :=
  add_lists (hsz := by rw [sizeLine_eq]; omega) F N hl hb fun h' F' N' => h _ h' F' N' (fun q hq => Heap.lt_size (N q hq).1) F.ns.lt
end
theorem lay_G1 : True := by
  k_with_none
  w_top off
  k_with "m_look" => first | with_reducible assumption | exact rfl | exact upd_eq | (refine upd_ne ?_ (by decide); walk_at "m_look")
  k_with "eval Name" => (k_here; (with_reducible rename Fr _ _ _ _ => kFZz); with_unfolding_all refine guard_global (by rfl) ?_; k_dflt (refine' name_B kFZz ?k1 ?k2 ?k3 ?k4 ?k5 ?_; (case k1 => k_asm); (case k2 => k_asm); (case k3 => exact rfl); (case k4 => boot_fast); (case k5 => decide); k_whole))
  k_with "eval Name" => (k_here; (with_reducible rename Fr _ _ _ _ => kFZz); with_unfolding_all refine guard_global (by rfl) ?_; k_dflt (refine' name_K kFZz ?k1 ?k2 ?k3 ?_; (case k1 => k_asm); (case k2 => k_asm); (case k3 => exact rfl); k_whole))
  k_with "callWith ref" => (k_here; k_dflt (first
      | refine' callWith_K ?k1 ?k2 ?_; (case k1 => k_asm); (case k2 => exact rfl); k_whole
      | refine' callWith_K0 ?k1 ?k2 ?_; (case k1 => k_in); (case k2 => exact rfl); k_whole))
  k_with "eval Name" => (k_here; k_dflt (refine' ld ?k1 ?k2 ?_; (case k1 => k_asm); (case k2 => walk_at "m_look"); k_whole))
  k_with "subscriptTail" => (k_here; (with_reducible show wpAny _ _ (subscriptTail _ _ (Value.ref _) (Value.int _ _)) _ _ _); k_dflt (refine' item_get ?k1 ?k2 ?k3 ?k4 ?_; (case k1 => exact News.isList (by k_asm) (by k_mem)); (case k2 => omega); (case k3 => omega); (case k4 => omega); k_whole))
  k_with "setItem ref int" => (k_here; k_dflt (refine' item_set ?k1 ?k2 ?k3 ?k4 ?k5 ?k6 ?_; (case k1 => k_asm); (case k2 => k_asm); (case k3 => k_upd); (case k4 => omega); (case k5 => omega); (case k6 => omega); k_whole); intro hZz FZz NZz; (try k_sweep))
  k_with "binaryOp RShift int int" => (k_here; k_dflt (refine' wpAny_rshift1_int ?k1 ?_; (case k1 => omega); k_whole))
  k_with "call builtin:len" => (k_here; (with_reducible show wpAny _ _ (call (Value.builtin _) [Value.ref _]) _ _ _); k_dflt (refine' len_L ?k1 ?k2 ?_; (case k1 => exact News.isList (by k_asm) (by k_mem)); (case k2 => ((try simp only [List.length_append, List.length_cons, List.length_nil]); omega)); k_whole))
  k_with "call builtin:list.append" => (k_here; (with_reducible show wpAny _ _ (call (Value.builtin _) [Value.ref _, _]) _ _ _); k_dflt (refine' append_L ?k1 ?k2 ?k3 ?k4 ?_; (case k1 => k_asm); (case k2 => k_asm); (case k3 => k_upd); (case k4 => ((try simp only [List.length_append, List.length_cons, List.length_nil]); omega)); k_whole); intro hZz FZz NZz; (try k_sweep))
  k_with "call builtin:list.pop" => (k_here; (with_reducible show wpAny _ _ (call (Value.builtin _) [Value.ref _]) _ _ _); k_dflt (refine' pop_L ?k1 ?k2 ?k3 ?k4 ?_; (case k1 => k_asm); (case k2 => k_asm); (case k3 => k_upd); (case k4 => omega); k_whole); intro hZz FZz NZz; (try k_sweep))
  k_with "assign Tuple" => (k_here; (with_reducible show wpAny _ _ (assign (Expr.Tuple _ _ _) _ (Value.ref _)) _ _ _); k_dflt (refine' unpackN_ ?F ?N ?T ?k1 ?k2 ?k3 ?_; (case F => k_asm); (case N => k_asm); (case T => first | with_reducible assumption | (refine News.isTup (by k_asm) (by k_mem))); (case k1 => assumption); (case k2 => exact rfl); (case k3 => exact rfl)); intro hZz FZz NZz; (try k_sweep))
  k_with "call type:range" => (k_here; (with_reducible show wpAny _ _ (call _ [Value.int _ _]) _ _ _); k_dflt (refine' range_L ?k1 ?k2 ?_; (case k1 => k_asm); (case k2 => k_asm); k_whole); intro rZz hZz uZz vZz FZz NZz l1Zz; (try k_lt l1Zz); (try k_sweep))
  k_with "call type:reversed" => (k_here; k_dflt (refine' reversed_L ?k1 ?k2 ?k3 ?k4 ?k5 ?_; (case k1 => k_asm); (case k2 => k_asm); (case k3 => k_mem); (case k4 => omega); (case k5 => omega); k_whole); intro iZz hZz FZz NZz l1Zz; (try k_lt l1Zz); (try k_sweep))
  k_with "binaryOp FloorDiv int int" => (k_here; k_dflt (refine' fdiv_pos ?k1 ?k2 ?_; (case k1 => decide); (case k2 => exact PyProof.noPylong_of_log2 (by decide +kernel)); k_whole))
  k_with "binaryOp Mod int int" => (k_here; k_dflt (refine' fmod_pos ?k1 ?_; (case k1 => decide); k_whole))
  k_with "ent inst" => first | exact Fr.keep (by k_asm) _ _ (by assumption) | exact News.get (by k_asm) (by k_mem)
  k_with "setAttr ref" => (k_here; k_dflt (refine' ent_set ?k1 ?k2 ?k3 ?k4 ?k5 ?k6 ?k7 ?_ ?k8; (case k8 => exact rfl); (case k1 => k_asm); (case k2 => k_asm); (case k3 => k_asm); (case k4 => walk_at "ent inst"); (case k5 => k_updF); (case k6 => assumption); (case k7 => exact Nat.le_of_ble_eq_true rfl); k_whole); intro hZz eZz nZz FZz NZz EZz; (try dsimp only at NZz); (try k_sweep))
  k_with "newList" => (k_here; k_dflt (refine' newList_L ?k1 ?k2 ?_ ?k3; (case k1 => k_asm); (case k2 => k_asm); (case k3 => first | exact Nat.le_of_ble_eq_true rfl | omega); k_whole); intro lZz hZz FZz NZz l1Zz l2Zz; (try k_lt l1Zz); (try k_lt2 l2Zz); (try k_sweep))
  k_with "is cells" => first | (with_reducible show wpAny _ _ (eval (Expr.Name _ _) (envOfC _ _ _ _ _)) _ _ _) | (with_reducible show wpAny _ _ (eval (Expr.Name _ _) (envX _ _ _ _ _ _)) _ _ _) | (with_reducible show wpAny _ _ (storeName (envOfC _ _ _ _ _) _ _) _ _ _)
  k_with "eval Name" => (k_here; walk_at "is cells"; k_dflt (first
      | (refine' nameX_L ?F ?v ?_ ?a ?b; (case F => k_asm); (case a => rfl); (case b => rfl); (case v => walk_at "m_look"); k_whole)
      | (refine' nameX_C ?N ?c ?m ?d ?_ ?a ?b; (case a => rfl); (case b => rfl); (case N => k_asm); (case c => rfl); (case m => k_mem); (case d => k_asm); k_whole)
      | (refine' nameX_F ?N ?c ?m ?d ?_ ?a ?b; (case a => rfl); (case b => rfl); (case N => k_asm); (case c => rfl); (case m => k_mem); (case d => k_asm); k_whole)
      | (refine' nameX_K ?F ?X ?T ?e ?_ ?a ?b; (case F => k_asm); (case X => k_asm); (case T => k_asm); (case a => rfl); (case b => rfl); (case e => exact rfl); k_whole)
      | (refine' nameX_B ?F ?X ?T ?e ?v ?n ?_ ?a ?b; (case F => k_asm); (case X => k_asm); (case T => k_asm); (case a => rfl); (case b => rfl); (case e => exact rfl); (case v => boot_fast); (case n => decide); k_whole)))
  k_with "eval Lambda" => (k_here; k_dflt (refine' kla_eval ?d0 ?_; (case d0 => exact rfl)); (first
      | (k_dflt (refine' kla_nest ?F ?N ?T ?C ?cd ?U ?t ?n ?cl ?_; (case F => k_asm); (case N => k_asm); (case T => k_asm); (case cd => exact rfl); (case C => k_asm); (case U => k_updF); (case t => kn_triples); (case n => kn_among); (case cl => exact rfl); k_whole); intro fZz cZz ocZz vsZz tZz ctZz hZz tkZz FZz NZz d1Zz d2Zz l1Zz l2Zz; (try dsimp only at NZz); (try k_lt l1Zz); (try k_lt2 l2Zz))
      | (k_dflt (refine' kla_hit ?F ?N ?T ?C ?cd ?mem ?t ?n ?cl ?_; (case F => k_asm); (case N => k_asm); (case T => k_asm); (case cd => exact rfl); (case C => k_asm); (case mem => k_mem); (case t => kn_triples); (case n => kn_among); (case cl => exact rfl); k_whole); intro fZz ctZz hZz tkZz FZz NZz l1Zz; (try k_lt l1Zz))))
  k_with "is list" => first | exact News.isList (by k_asm) (by k_mem) | exact isList_keep (by k_asm) (by assumption)
  k_with "subscriptTail" => (k_here; (with_reducible show wpAny _ _ (subscriptTail _ _ (Value.ref _) (Value.int _ _)) _ _ _); k_dflt (refine' item_getv ?k1 ?k2 ?k3 ?k4 ?k5 ?_; (case k1 => walk_at "is list"); (case k2 => omega); (case k3 => ((try simp only [List.length_cons, List.length_nil]); omega)); (case k4 => ((try simp only [List.length_cons, List.length_nil]); omega)); (case k5 => first | with_reducible assumption | exact rfl); k_whole))
  k_with "ent at" => first | exact EntAt.keeps (by assumption) (Fr.keep (by k_asm)) | exact ⟨Fr.keep (by k_asm) _ _ (by assumption), _, _, News.get (by k_asm) (by k_mem), by assumption⟩ | exact ⟨News.get (by k_asm) (by k_mem), _, _, News.get (by k_asm) (by k_mem), by assumption⟩
  k_with "getAttr ref" => (k_here; k_dflt (refine' ent_get ?k1 ?k2 ?k3 ?k4 ?_ ?k5 ?k6 ?k7 ?k8 ?k9; (case k5 => exact rfl); (case k6 => exact rfl); (case k7 => exact rfl); (case k8 => exact rfl); (case k9 => exact rfl); (case k1 => exact Frag.In.keeps (by k_asm) (Fr.keep (by k_asm))); (case k2 => walk_at "ent at"); (case k3 => first | assumption | exact rfl); (case k4 => exact rfl); k_whole))
  k_with "subscriptTail" => (k_here; (with_reducible show wpAny _ _ (subscriptTail _ _ (Value.ref _) (Value.str _ _)) _ _ _); k_dflt (refine' reach_item ?k1 ?k2 ?_; (case k1 => first | exact ReachAt.keeps (by assumption) (Fr.keep (by k_asm)) | exact ⟨_, _, Heap.dictOf_iff.mpr ⟨_, News.get (by k_asm) (by k_mem), by assumption⟩⟩); (case k2 => assumption); k_whole); intro _)
  k_with "getMethod ref" => (k_here; k_dflt (refine' ent_meth ?k1 ?k2 ?k3 ?k4 ?_ ?k5 ?k6 ?k7 ?k10 ?k8 ?k9; (case k5 => exact rfl); (case k6 => exact rfl); (case k7 => exact rfl); (case k10 => exact rfl); (case k8 => exact rfl); (case k9 => exact rfl); (case k1 => exact Frag.In.keeps (by k_asm) (Fr.keep (by k_asm))); (case k2 => walk_at "ent at"); (case k3 => first | assumption | exact rfl); (case k4 => exact rfl); k_whole))
  k_with "fn at" => exact ⟨_, _, _, _, Fr.keep (by k_asm) _ _ (by assumption)⟩
  k_with "callWith ref" => (k_here; k_dflt (refine' callWith_F ?k1 ?_; (case k1 => walk_at "fn at"); k_whole))
  k_with "And" => (k_dflt (refine And.intro ?kfn ?_; (case kfn => walk_at "fn at"); (try dsimp only [List.nil_append, List.cons_append])))
  k_with "subscriptTail" => (k_here; (with_reducible show wpAny _ _ (subscriptTail _ _ (Value.ref _) (Value.int _ _)) _ _ _); k_dflt (refine' key_at4 ?k1 ?k2 ?_; (case k1 => exact KeyAt.keeps (by assumption) (Fr.keep (by k_asm))); (case k2 => first | exact .i0 | exact .i1 | exact .i2 | exact .i3); k_whole); intro _)
  k_with "call builtin:abs" => (k_here; k_dflt (refine' abs_L ?_; k_whole); intro _ _)
  k_with "eval Name" => (k_here; (with_reducible show wpAny _ _ (eval (Expr.Name _ _) (compEnvC _ _ _ _)) _ _ _); k_dflt (first
      | (refine' nameY_L ?F ?v ?_ ?a ?b; (case F => k_asm); (case a => rfl); (case b => rfl); (case v => walk_at "m_look"); k_whole)
      | (refine' nameY_C ?F ?N ?c ?m ?d ?_ ?a ?b; (case a => rfl); (case b => rfl); (case F => k_asm); (case N => k_asm); (case c => rfl); (case m => k_mem); (case d => first | k_asm | rfl); k_whole)
      | (refine' nameY_K ?F ?X ?T ?e ?_ ?z ?a ?b; (case F => k_asm); (case X => k_asm); (case T => k_asm); (case z => rfl); (case a => rfl); (case b => rfl); (case e => exact rfl); k_whole)
      | (refine' nameY_B ?F ?X ?T ?e ?v ?n ?_ ?z ?y ?a ?b; (case F => k_asm); (case X => k_asm); (case T => k_asm); (case z => rfl); (case y => rfl); (case a => rfl); (case b => rfl); (case e => exact rfl); (case v => boot_fast); (case n => decide); k_whole)))
  k_with "call type:set cons nil" => (k_here; k_dflt (refine' set_L ?k1 ?k2 ?k3 ?k4 ?_; (case k1 => k_asm); (case k2 => k_asm); (case k3 => first | exact rfl | assumption); (case k4 => assumption); k_whole); intro xZz hZz tkZz oZz FZz NZz l1Zz l2Zz hsZz; (try k_lt l1Zz); (try k_lt2 l2Zz); (try k_sweep))
  k_with "getAttr ref" => (k_here; (with_reducible show wpAny _ _ (getAttr (Value.ref _) (PySem.Str.ofString "__contains__") _) _ _ _); obtain ⟨_, _, hs0Zz⟩ := (by assumption : ∃ S n, PySem.Obj.SetObjOf (intKind _ _) _ S n); k_dflt (refine' set_attr_N ?k1 ?k2 ?k3 ?k4 ?_; (case k1 => k_asm); (case k2 => k_asm); (case k4 => exact hs0Zz); (case k3 => k_mem); k_whole); intro xZz hZz tkZz FZz NZz l1Zz l2Zz; (try k_lt l1Zz); (try k_lt2 l2Zz); (try k_sweep))
  k_with "call type:filter" => (k_here; k_dflt (refine' filter_new ?k1 ?k2 ?k3 ?_; (case k1 => k_asm); (case k2 => k_asm); (case k3 => exact Fr.keep (by k_asm) _ _ (by assumption)); k_whole); intro iZz xZz hZz FZz NZz l1Zz l2Zz l3Zz; (try k_lt l1Zz); (try k_lt2 l2Zz); (try k_lt2 l3Zz))
  k_with "call type:list" => (k_here; k_dflt (refine' list_filter2 ?k1 ?k2 ?k3 ?k4 ?k5 ?_; (case k1 => k_asm); (case k2 => k_asm); (case k3 => first | exact rfl | assumption); (case k4 => assumption); (case k5 => walk_at "apart"); k_whole); intro xZz nZz hZz tkZz FZz NZz l1Zz l2Zz; (try k_lt l1Zz); (try k_lt2 l2Zz); (try k_sweep))
  k_with "apart" => repeat' (first | exact List.forall_mem_nil _ | (refine List.forall_mem_cons.mpr ⟨by k_ne, ?_⟩))
  k_with "binaryOp Add ref ref" => (k_here; k_dflt (refine' add_L ?k1 ?k2 ?k3 ?k4 ?k5 ?_; (case k1 => k_asm); (case k2 => k_asm); (case k3 => walk_at "is list"); (case k4 => walk_at "is list"); (case k5 => ((try simp only [List.length_append, List.length_cons, List.length_nil]); omega)); k_whole); intro xZz hZz FZz NZz l1Zz l2Zz; (try k_lt l1Zz); (try k_lt2 l2Zz); (try k_sweep))
  k_with "getMethod ref" => (k_here; k_dflt (refine' ent_methC ?k1 ?k2 ?k3 ?k4 ?_ ?k5 ?k6 ?k7; (case k1 => k_asm); (case k2 => k_asm); (case k3 => walk_at "ent at"); (case k4 => exact rfl); (case k5 => exact rfl); (case k6 => exact rfl); (case k7 => exact rfl); k_whole))
  k_with "all mem" => repeat' (first | exact List.forall_mem_nil _ | (refine List.forall_mem_cons.mpr ⟨by k_mem, ?_⟩))
  k_with "list obj" => first | exact News.get (by k_asm) (by k_mem) | exact Fr.keep (by k_asm) _ _ (by assumption)
  k_with "compareOp NotEq ref ref" => (k_here; (with_reducible show wpAny _ _ (compareOp CmpOp.NotEq (Value.ref _) (Value.ref _)) _ _ _); k_dflt (refine' ne_empty ?k1 ?k2 ?k3 ?_; (case k1 => walk_at "list obj"); (case k2 => exact News.get (by k_asm) (by k_mem)); (case k3 => (simp only [PySem.Around.deeper_units]; omega)); k_whole); (try simp only [List.isEmpty_cons, List.isEmpty_nil, Bool.not_false, Bool.not_true]))
  k_with "compareOp Eq ref ref" => (k_here; (with_reducible show wpAny _ _ (compareOp CmpOp.Eq (Value.ref _) (Value.ref _)) _ _ _); k_dflt (refine' eq_empty ?k1 ?k2 ?k3 ?_; (case k1 => walk_at "list obj"); (case k2 => exact News.get (by k_asm) (by k_mem)); (case k3 => (simp only [PySem.Around.deeper_units]; omega)); k_whole); (try simp only [List.isEmpty_cons, List.isEmpty_nil, Bool.not_false, Bool.not_true]))
  k_with "no loop" => ((fail_if_success (with_reducible show wpAny _ _ (exec (Stmt.While _ _ _ _) _) _ _ _)); (fail_if_success (with_reducible show wpAny _ _ (exec (Stmt.For _ _ _ _ _) _) _ _ _)); (fail_if_success (with_reducible show wpAny _ _ (call (Value.ref _) _ _) _ _ _)); (fail_if_success (with_reducible show wpAny _ _ (pyIter _) _ _ _)); (fail_if_success (with_reducible show wpAny _ _ (eval (Expr.ListComp _ _ _ _) _) _ _ _)); (fail_if_success (with_reducible show wpAny _ _ (exec (Stmt.Assign [Expr.Name _ _] (Expr.ListComp _ _ _ _) _) _) _ _ _)))
  k_with "go" => repeat' (first | (walk_at "no loop"; walk1; try dsimp only) | (walk_at "no loop"; dsimp only; walk1))
  exact True.intro
theorem go_code {prog : Program} {w : World} {p : Program} {loose : List Str} {mg mb : Str → Option Value} {A : Around} {R : Result → Shared → Prop} {s : Shared} {ra ru lj ej dj uj ka xk dk : Addr} {es us ls : List Value} {n0 n1 n2 n3 : Nat} {k0 k1 k2 k3 : Int}
  {ds : List DictEntry}
  (X : (KK w).In (hideAll s.heap [dj])) (T : TopRead p loose mg mb (hideAll s.heap [dj])) (hroom : A.depth < 880) (hu : A.units < 130) (hh : A.handled = none)
  (hra : (hideAll s.heap [dj]).get? ra = some (W.listOf es.toArray n0)) (hel : es.length ≤ 10) (hj : es.getD ((k2.natAbs : Int)).toNat .none = .ref ej) (hj3 : k2.natAbs < es.length)
  (hru : (hideAll s.heap [dj]).get? ru = some (W.listOf us.toArray n1)) (hul : us.length ≤ 1000) (hk3 : k3.natAbs < us.length)
  (hej : (hideAll s.heap [dj]).get? ej = some (instObj 52 dj)) (hdj : s.heap.get? dj = some (dictOf ds n3)) (hds : EntsAre w ds [(Str.ofString "useragents", .ref uj), (Str.ofString "rulelines", .ref lj), (Str.ofString "delay", .none), (Str.ofString "req_rate", .none)])
  (hlj : (hideAll s.heap [dj]).get? lj = some (W.listOf ls.toArray n2)) (hll : ls.length ≤ 1000) (hka : KeyAt (hideAll s.heap [dj]) (.ref ka) [k0, k1, k2, k3])
  (hxk : us.getD ((k3.natAbs : Int)).toNat .none = .ref xk) (hxo : (hideAll s.heap [dj]).get? xk = some (instObj 52 dk)) (hls : ∀ v ∈ ls, ∃ b d, v = .ref b ∧ (hideAll s.heap [dj]).get? b = some (instObj 52 d))
  (post : ∀ h' tk (l' : Addr) es' n' n'', Keeps [dj] s.heap h' → s.heap.objs.size ≤ l' → h'.get? dj = some (dictOf es' n') → EntsAre w es' [(Str.ofString "useragents", .ref uj), (Str.ofString "rulelines", .ref l'), (Str.ofString "delay", .none), (Str.ofString "req_rate", .none)] →
    h'.get? l' = some (W.listOf (ls.filter (refNe xk)).toArray n'') → R (.ok (.ret .none)) { s with heap := h', toks := tk }) :
  codeAny (model prog w) A (.call (.ref 124) ⟨[.ref ra, .ref ru, .ref ka], []⟩) R s := by
  obtain ⟨g, hg⟩ : ∃ g, g = hideAll s.heap [dj] := ⟨_, rfl⟩
  rw [← hg] at X T hra hru hej hlj hka hxo hls
  refine enterC (news := [(dj, dictOf ds n3)]) (K := KK w) hg X T ?_ rfl rfl (Nat.lt_of_lt_of_le hroom (by decide)) (BindsTo.of_eq rfl) rfl (by decide +kernel) ?_
  · intro q hq; cases hq with | head => exact hdj | tail _ h => cases h
  intro L h₁ tk cells F N Y lt0
  k_lt lt0
  have hsL : s.heap.objs.size ≤ L := by have := F.above; rw [hg, hideAll_size] at this; exact this
  k_cells Y
  simp only [List.cons_append, List.nil_append] at N
  try dsimp only
  walk_at "go"
  refine comp_list hh (by exact rfl) (by decide) rfl (by decide) rfl ?_
  walk_at "go"
  (rename Fr _ _ _ _ => F2); (rename News _ _ _ _ => N2)
  refine ⟨lj, ls, fun i ys _ => ys = (ls.take i).filter (refNe xk), rfl, isList_keep F2 hlj, by omega, fun _ _ _ _ h _ => h, rfl, ?_, ?_, ?_⟩
  · rintro i ys _ rfl
    exact Nat.le_trans (List.length_filter_le (refNe xk) (ls.take i)) (by rw [List.length_take]; omega)
  · rintro C D I i ys s₃ m3 E' hC hI hi F3 hm3 sub3 lt3 - rfl
    refine wpAny_tests_one ?_
    have X3 := X.keeps F2.keep
    have T3 := T.keeps F2.keep
    have hru3 := F2.keep _ _ hru
    have hka3 := hka.keeps F2.keep
    clear X T hru hka
    obtain ⟨b, d, hb, hbo⟩ := hls _ (getD_mem hi)
    have hxo3 := F3.keep _ _ (F2.keep _ _ hxo)
    have hbo3 := F3.keep _ _ (F2.keep _ _ hbo)
    rw [hb] at hm3
    walk_at "go"
    refine isnot_rr hbo3 hxo3 (fun e => nomatch e) ?_
    refine wpAny_truthy_bool ⟨_, _, rfl, .of_sub (sub_refl _), ?_⟩
    have hst := take_filter_succ (refNe xk) ls i hi
    rw [hb] at hst
    cases hc : (b != xk)
    · rw [if_neg (by decide)]
      show _ = (ls.take (i + 1)).filter (refNe xk)
      rw [hst, show refNe xk (.ref b) = false from hc, if_neg (by decide), List.append_nil]
    · rw [if_pos rfl]
      refine nameY_L F3 hm3 ⟨_, _, rfl, .of_sub (sub_refl _), ?_⟩
      show _ = (ls.take (i + 1)).filter (refNe xk)
      rw [hst, show refNe xk (.ref b) = true from hc, if_pos rfl]
  · rintro D h5 tk5 ys n5 hD hd5 sub5 rfl
    have F5 := fr_sub F2 sub5
    obtain ⟨N5, l5, l5'⟩ := news_new F2 N2 sub5 hd5 hD
    clear F2 N2
    k_lt l5
    walk_at "go"
    (rename Fr _ _ _ _ => F9); (rename News _ _ _ _ => N9); (rename EntsAre _ _ _ => E9)
    have e9 := (N9 _ (.head _)).1
    rw [List.take_of_length_le (Nat.le_refl _)] at e9
    exact post _ _ _ _ _ _ (keeps_of hg F9) (Nat.le_of_lt (Nat.lt_of_le_of_lt hsL l5')) (N9 _ (.tail _ (.tail _ (.tail _ (.head _))))).1 E9 e9
theorem lay_E6 : True := by
  k_with_none
  w_top off
  k_with "m_look" => first | with_reducible assumption | exact rfl | exact upd_eq | (refine upd_ne ?_ (by decide); walk_at "m_look")
  k_with "eval Name" => (k_here; (with_reducible rename Fr _ _ _ _ => kFZz); with_unfolding_all refine guard_global (by rfl) ?_; k_dflt (refine' name_B kFZz ?k1 ?k2 ?k3 ?k4 ?k5 ?_; (case k1 => k_asm); (case k2 => k_asm); (case k3 => exact rfl); (case k4 => boot_fast); (case k5 => decide); k_whole))
  k_with "eval Name" => (k_here; (with_reducible rename Fr _ _ _ _ => kFZz); with_unfolding_all refine guard_global (by rfl) ?_; k_dflt (refine' name_K kFZz ?k1 ?k2 ?k3 ?_; (case k1 => k_asm); (case k2 => k_asm); (case k3 => exact rfl); k_whole))
  k_with "callWith ref" => (k_here; k_dflt (first
      | refine' callWith_K ?k1 ?k2 ?_; (case k1 => k_asm); (case k2 => exact rfl); k_whole
      | refine' callWith_K0 ?k1 ?k2 ?_; (case k1 => k_in); (case k2 => exact rfl); k_whole))
  k_with "eval Name" => (k_here; k_dflt (refine' ld ?k1 ?k2 ?_; (case k1 => k_asm); (case k2 => walk_at "m_look"); k_whole))
  k_with "subscriptTail" => (k_here; (with_reducible show wpAny _ _ (subscriptTail _ _ (Value.ref _) (Value.int _ _)) _ _ _); k_dflt (refine' item_get ?k1 ?k2 ?k3 ?k4 ?_; (case k1 => exact News.isList (by k_asm) (by k_mem)); (case k2 => omega); (case k3 => omega); (case k4 => omega); k_whole))
  k_with "setItem ref int" => (k_here; k_dflt (refine' item_set ?k1 ?k2 ?k3 ?k4 ?k5 ?k6 ?_; (case k1 => k_asm); (case k2 => k_asm); (case k3 => k_upd); (case k4 => omega); (case k5 => omega); (case k6 => omega); k_whole); intro hZz FZz NZz; (try k_sweep))
  k_with "binaryOp RShift int int" => (k_here; k_dflt (refine' wpAny_rshift1_int ?k1 ?_; (case k1 => omega); k_whole))
  k_with "call builtin:len" => (k_here; (with_reducible show wpAny _ _ (call (Value.builtin _) [Value.ref _]) _ _ _); k_dflt (refine' len_L ?k1 ?k2 ?_; (case k1 => exact News.isList (by k_asm) (by k_mem)); (case k2 => ((try simp only [List.length_append, List.length_cons, List.length_nil]); omega)); k_whole))
  k_with "call builtin:list.append" => (k_here; (with_reducible show wpAny _ _ (call (Value.builtin _) [Value.ref _, _]) _ _ _); k_dflt (refine' append_L ?k1 ?k2 ?k3 ?k4 ?_; (case k1 => k_asm); (case k2 => k_asm); (case k3 => k_upd); (case k4 => ((try simp only [List.length_append, List.length_cons, List.length_nil]); omega)); k_whole); intro hZz FZz NZz; (try k_sweep))
  k_with "call builtin:list.pop" => (k_here; (with_reducible show wpAny _ _ (call (Value.builtin _) [Value.ref _]) _ _ _); k_dflt (refine' pop_L ?k1 ?k2 ?k3 ?k4 ?_; (case k1 => k_asm); (case k2 => k_asm); (case k3 => k_upd); (case k4 => omega); k_whole); intro hZz FZz NZz; (try k_sweep))
  k_with "assign Tuple" => (k_here; (with_reducible show wpAny _ _ (assign (Expr.Tuple _ _ _) _ (Value.ref _)) _ _ _); k_dflt (refine' unpackN_ ?F ?N ?T ?k1 ?k2 ?k3 ?_; (case F => k_asm); (case N => k_asm); (case T => first | with_reducible assumption | (refine News.isTup (by k_asm) (by k_mem))); (case k1 => assumption); (case k2 => exact rfl); (case k3 => exact rfl)); intro hZz FZz NZz; (try k_sweep))
  k_with "call type:range" => (k_here; (with_reducible show wpAny _ _ (call _ [Value.int _ _]) _ _ _); k_dflt (refine' range_L ?k1 ?k2 ?_; (case k1 => k_asm); (case k2 => k_asm); k_whole); intro rZz hZz uZz vZz FZz NZz l1Zz; (try k_lt l1Zz); (try k_sweep))
  k_with "call type:reversed" => (k_here; k_dflt (refine' reversed_L ?k1 ?k2 ?k3 ?k4 ?k5 ?_; (case k1 => k_asm); (case k2 => k_asm); (case k3 => k_mem); (case k4 => omega); (case k5 => omega); k_whole); intro iZz hZz FZz NZz l1Zz; (try k_lt l1Zz); (try k_sweep))
  k_with "binaryOp FloorDiv int int" => (k_here; k_dflt (refine' fdiv_pos ?k1 ?k2 ?_; (case k1 => decide); (case k2 => exact PyProof.noPylong_of_log2 (by decide +kernel)); k_whole))
  k_with "binaryOp Mod int int" => (k_here; k_dflt (refine' fmod_pos ?k1 ?_; (case k1 => decide); k_whole))
  k_with "ent inst" => first | exact Fr.keep (by k_asm) _ _ (by assumption) | exact News.get (by k_asm) (by k_mem)
  k_with "setAttr ref" => (k_here; k_dflt (refine' ent_set ?k1 ?k2 ?k3 ?k4 ?k5 ?k6 ?k7 ?_ ?k8; (case k8 => exact rfl); (case k1 => k_asm); (case k2 => k_asm); (case k3 => k_asm); (case k4 => walk_at "ent inst"); (case k5 => k_updF); (case k6 => assumption); (case k7 => exact Nat.le_of_ble_eq_true rfl); k_whole); intro hZz eZz nZz FZz NZz EZz; (try dsimp only at NZz); (try k_sweep))
  k_with "newList" => (k_here; k_dflt (refine' newList_L ?k1 ?k2 ?_ ?k3; (case k1 => k_asm); (case k2 => k_asm); (case k3 => first | exact Nat.le_of_ble_eq_true rfl | omega); k_whole); intro lZz hZz FZz NZz l1Zz l2Zz; (try k_lt l1Zz); (try k_lt2 l2Zz); (try k_sweep))
  k_with "is cells" => first | (with_reducible show wpAny _ _ (eval (Expr.Name _ _) (envOfC _ _ _ _ _)) _ _ _) | (with_reducible show wpAny _ _ (eval (Expr.Name _ _) (envX _ _ _ _ _ _)) _ _ _) | (with_reducible show wpAny _ _ (storeName (envOfC _ _ _ _ _) _ _) _ _ _)
  k_with "eval Name" => (k_here; walk_at "is cells"; k_dflt (first
      | (refine' nameX_L ?F ?v ?_ ?a ?b; (case F => k_asm); (case a => rfl); (case b => rfl); (case v => walk_at "m_look"); k_whole)
      | (refine' nameX_C ?N ?c ?m ?d ?_ ?a ?b; (case a => rfl); (case b => rfl); (case N => k_asm); (case c => rfl); (case m => k_mem); (case d => k_asm); k_whole)
      | (refine' nameX_F ?N ?c ?m ?d ?_ ?a ?b; (case a => rfl); (case b => rfl); (case N => k_asm); (case c => rfl); (case m => k_mem); (case d => k_asm); k_whole)
      | (refine' nameX_K ?F ?X ?T ?e ?_ ?a ?b; (case F => k_asm); (case X => k_asm); (case T => k_asm); (case a => rfl); (case b => rfl); (case e => exact rfl); k_whole)
      | (refine' nameX_B ?F ?X ?T ?e ?v ?n ?_ ?a ?b; (case F => k_asm); (case X => k_asm); (case T => k_asm); (case a => rfl); (case b => rfl); (case e => exact rfl); (case v => boot_fast); (case n => decide); k_whole)))
  k_with "eval Lambda" => (k_here; k_dflt (refine' kla_eval ?d0 ?_; (case d0 => exact rfl)); (first
      | (k_dflt (refine' kla_nest ?F ?N ?T ?C ?cd ?U ?t ?n ?cl ?_; (case F => k_asm); (case N => k_asm); (case T => k_asm); (case cd => exact rfl); (case C => k_asm); (case U => k_updF); (case t => kn_triples); (case n => kn_among); (case cl => exact rfl); k_whole); intro fZz cZz ocZz vsZz tZz ctZz hZz tkZz FZz NZz d1Zz d2Zz l1Zz l2Zz; (try dsimp only at NZz); (try k_lt l1Zz); (try k_lt2 l2Zz))
      | (k_dflt (refine' kla_hit ?F ?N ?T ?C ?cd ?mem ?t ?n ?cl ?_; (case F => k_asm); (case N => k_asm); (case T => k_asm); (case cd => exact rfl); (case C => k_asm); (case mem => k_mem); (case t => kn_triples); (case n => kn_among); (case cl => exact rfl); k_whole); intro fZz ctZz hZz tkZz FZz NZz l1Zz; (try k_lt l1Zz))))
  k_with "is list" => first | exact News.isList (by k_asm) (by k_mem) | exact isList_keep (by k_asm) (by assumption)
  k_with "subscriptTail" => (k_here; (with_reducible show wpAny _ _ (subscriptTail _ _ (Value.ref _) (Value.int _ _)) _ _ _); k_dflt (refine' item_getv ?k1 ?k2 ?k3 ?k4 ?k5 ?_; (case k1 => walk_at "is list"); (case k2 => omega); (case k3 => ((try simp only [List.length_cons, List.length_nil]); omega)); (case k4 => ((try simp only [List.length_cons, List.length_nil]); omega)); (case k5 => first | with_reducible assumption | exact rfl); k_whole))
  k_with "ent at" => first | exact EntAt.keeps (by assumption) (Fr.keep (by k_asm)) | exact ⟨Fr.keep (by k_asm) _ _ (by assumption), _, _, News.get (by k_asm) (by k_mem), by assumption⟩ | exact ⟨News.get (by k_asm) (by k_mem), _, _, News.get (by k_asm) (by k_mem), by assumption⟩
  k_with "getAttr ref" => (k_here; k_dflt (refine' ent_get ?k1 ?k2 ?k3 ?k4 ?_ ?k5 ?k6 ?k7 ?k8 ?k9; (case k5 => exact rfl); (case k6 => exact rfl); (case k7 => exact rfl); (case k8 => exact rfl); (case k9 => exact rfl); (case k1 => exact Frag.In.keeps (by k_asm) (Fr.keep (by k_asm))); (case k2 => walk_at "ent at"); (case k3 => first | assumption | exact rfl); (case k4 => exact rfl); k_whole))
  k_with "subscriptTail" => (k_here; (with_reducible show wpAny _ _ (subscriptTail _ _ (Value.ref _) (Value.str _ _)) _ _ _); k_dflt (refine' reach_item ?k1 ?k2 ?_; (case k1 => first | exact ReachAt.keeps (by assumption) (Fr.keep (by k_asm)) | exact ⟨_, _, Heap.dictOf_iff.mpr ⟨_, News.get (by k_asm) (by k_mem), by assumption⟩⟩); (case k2 => assumption); k_whole); intro _)
  k_with "getMethod ref" => (k_here; k_dflt (refine' ent_meth ?k1 ?k2 ?k3 ?k4 ?_ ?k5 ?k6 ?k7 ?k10 ?k8 ?k9; (case k5 => exact rfl); (case k6 => exact rfl); (case k7 => exact rfl); (case k10 => exact rfl); (case k8 => exact rfl); (case k9 => exact rfl); (case k1 => exact Frag.In.keeps (by k_asm) (Fr.keep (by k_asm))); (case k2 => walk_at "ent at"); (case k3 => first | assumption | exact rfl); (case k4 => exact rfl); k_whole))
  k_with "fn at" => exact ⟨_, _, _, _, Fr.keep (by k_asm) _ _ (by assumption)⟩
  k_with "callWith ref" => (k_here; k_dflt (refine' callWith_F ?k1 ?_; (case k1 => walk_at "fn at"); k_whole))
  k_with "And" => (k_dflt (refine And.intro ?kfn ?_; (case kfn => walk_at "fn at"); (try dsimp only [List.nil_append, List.cons_append])))
  k_with "subscriptTail" => (k_here; (with_reducible show wpAny _ _ (subscriptTail _ _ (Value.ref _) (Value.int _ _)) _ _ _); k_dflt (refine' key_at4 ?k1 ?k2 ?_; (case k1 => exact KeyAt.keeps (by assumption) (Fr.keep (by k_asm))); (case k2 => first | exact .i0 | exact .i1 | exact .i2 | exact .i3); k_whole); intro _)
  k_with "call builtin:abs" => (k_here; k_dflt (refine' abs_L ?_; k_whole); intro _ _)
  k_with "eval Name" => (k_here; (with_reducible show wpAny _ _ (eval (Expr.Name _ _) (compEnvC _ _ _ _)) _ _ _); k_dflt (first
      | (refine' nameY_L ?F ?v ?_ ?a ?b; (case F => k_asm); (case a => rfl); (case b => rfl); (case v => walk_at "m_look"); k_whole)
      | (refine' nameY_C ?F ?N ?c ?m ?d ?_ ?a ?b; (case a => rfl); (case b => rfl); (case F => k_asm); (case N => k_asm); (case c => rfl); (case m => k_mem); (case d => first | k_asm | rfl); k_whole)
      | (refine' nameY_K ?F ?X ?T ?e ?_ ?z ?a ?b; (case F => k_asm); (case X => k_asm); (case T => k_asm); (case z => rfl); (case a => rfl); (case b => rfl); (case e => exact rfl); k_whole)
      | (refine' nameY_B ?F ?X ?T ?e ?v ?n ?_ ?z ?y ?a ?b; (case F => k_asm); (case X => k_asm); (case T => k_asm); (case z => rfl); (case y => rfl); (case a => rfl); (case b => rfl); (case e => exact rfl); (case v => boot_fast); (case n => decide); k_whole)))
  k_with "call type:set cons nil" => (k_here; k_dflt (refine' set_L ?k1 ?k2 ?k3 ?k4 ?_; (case k1 => k_asm); (case k2 => k_asm); (case k3 => first | exact rfl | assumption); (case k4 => assumption); k_whole); intro xZz hZz tkZz oZz FZz NZz l1Zz l2Zz hsZz; (try k_lt l1Zz); (try k_lt2 l2Zz); (try k_sweep))
  k_with "getAttr ref" => (k_here; (with_reducible show wpAny _ _ (getAttr (Value.ref _) (PySem.Str.ofString "__contains__") _) _ _ _); obtain ⟨_, _, hs0Zz⟩ := (by assumption : ∃ S n, PySem.Obj.SetObjOf (intKind _ _) _ S n); k_dflt (refine' set_attr_N ?k1 ?k2 ?k3 ?k4 ?_; (case k1 => k_asm); (case k2 => k_asm); (case k4 => exact hs0Zz); (case k3 => k_mem); k_whole); intro xZz hZz tkZz FZz NZz l1Zz l2Zz; (try k_lt l1Zz); (try k_lt2 l2Zz); (try k_sweep))
  k_with "call type:filter" => (k_here; k_dflt (refine' filter_new ?k1 ?k2 ?k3 ?_; (case k1 => k_asm); (case k2 => k_asm); (case k3 => exact Fr.keep (by k_asm) _ _ (by assumption)); k_whole); intro iZz xZz hZz FZz NZz l1Zz l2Zz l3Zz; (try k_lt l1Zz); (try k_lt2 l2Zz); (try k_lt2 l3Zz))
  k_with "call type:list" => (k_here; k_dflt (refine' list_filter2 ?k1 ?k2 ?k3 ?k4 ?k5 ?_; (case k1 => k_asm); (case k2 => k_asm); (case k3 => first | exact rfl | assumption); (case k4 => assumption); (case k5 => walk_at "apart"); k_whole); intro xZz nZz hZz tkZz FZz NZz l1Zz l2Zz; (try k_lt l1Zz); (try k_lt2 l2Zz); (try k_sweep))
  k_with "apart" => repeat' (first | exact List.forall_mem_nil _ | (refine List.forall_mem_cons.mpr ⟨by k_ne, ?_⟩))
  k_with "binaryOp Add ref ref" => (k_here; k_dflt (refine' add_L ?k1 ?k2 ?k3 ?k4 ?k5 ?_; (case k1 => k_asm); (case k2 => k_asm); (case k3 => walk_at "is list"); (case k4 => walk_at "is list"); (case k5 => ((try simp only [List.length_append, List.length_cons, List.length_nil]); omega)); k_whole); intro xZz hZz FZz NZz l1Zz l2Zz; (try k_lt l1Zz); (try k_lt2 l2Zz); (try k_sweep))
  k_with "getMethod ref" => (k_here; k_dflt (refine' ent_methC ?k1 ?k2 ?k3 ?k4 ?_ ?k5 ?k6 ?k7; (case k1 => k_asm); (case k2 => k_asm); (case k3 => walk_at "ent at"); (case k4 => exact rfl); (case k5 => exact rfl); (case k6 => exact rfl); (case k7 => exact rfl); k_whole))
  k_with "all mem" => repeat' (first | exact List.forall_mem_nil _ | (refine List.forall_mem_cons.mpr ⟨by k_mem, ?_⟩))
  k_with "list obj" => first | exact News.get (by k_asm) (by k_mem) | exact Fr.keep (by k_asm) _ _ (by assumption)
  k_with "compareOp NotEq ref ref" => (k_here; (with_reducible show wpAny _ _ (compareOp CmpOp.NotEq (Value.ref _) (Value.ref _)) _ _ _); k_dflt (refine' ne_empty ?k1 ?k2 ?k3 ?_; (case k1 => walk_at "list obj"); (case k2 => exact News.get (by k_asm) (by k_mem)); (case k3 => (simp only [PySem.Around.deeper_units]; omega)); k_whole); (try simp only [List.isEmpty_cons, List.isEmpty_nil, Bool.not_false, Bool.not_true]))
  k_with "compareOp Eq ref ref" => (k_here; (with_reducible show wpAny _ _ (compareOp CmpOp.Eq (Value.ref _) (Value.ref _)) _ _ _); k_dflt (refine' eq_empty ?k1 ?k2 ?k3 ?_; (case k1 => walk_at "list obj"); (case k2 => exact News.get (by k_asm) (by k_mem)); (case k3 => (simp only [PySem.Around.deeper_units]; omega)); k_whole); (try simp only [List.isEmpty_cons, List.isEmpty_nil, Bool.not_false, Bool.not_true]))
  k_with "no loop" => ((fail_if_success (with_reducible show wpAny _ _ (exec (Stmt.While _ _ _ _) _) _ _ _)); (fail_if_success (with_reducible show wpAny _ _ (exec (Stmt.For _ _ _ _ _) _) _ _ _)); (fail_if_success (with_reducible show wpAny _ _ (call (Value.ref _) _ _) _ _ _)); (fail_if_success (with_reducible show wpAny _ _ (pyIter _) _ _ _)); (fail_if_success (with_reducible show wpAny _ _ (eval (Expr.ListComp _ _ _ _) _) _ _ _)); (fail_if_success (with_reducible show wpAny _ _ (exec (Stmt.Assign [Expr.Name _ _] (Expr.ListComp _ _ _ _) _) _) _ _ _)))
  k_with "go" => repeat' (first | (walk_at "no loop"; walk1; try dsimp only) | (walk_at "no loop"; dsimp only; walk1))
  exact True.intro
theorem merge_code {prog : Program} {w : World} {p : Program} {loose : List Str} {mg mb : Str → Option Value} {A : Around} {R : Result → Shared → Prop} {s : Shared} {e1 e2 d1 d2 u1 u2 l1 l2 : Addr} {vs1 vs2 : List Value} {n1 n2 m1 m2 : Nat}
  (X : (KK w).In s.heap) (T : TopRead p loose mg mb s.heap) (hroom : A.depth < 880) (hu : A.units < 130) (hh : A.handled = none)
  (he1 : EntAt w s.heap e1 d1 [(Str.ofString "useragents", .ref u1), (Str.ofString "rulelines", .ref l1), (Str.ofString "delay", .none), (Str.ofString "req_rate", .none)])
  (he2 : EntAt w s.heap e2 d2 [(Str.ofString "useragents", .ref u2), (Str.ofString "rulelines", .ref l2), (Str.ofString "delay", .none), (Str.ofString "req_rate", .none)])
  (hu1 : s.heap.get? u1 = some (W.listOf (#[] : Array Value) m1)) (hu2 : s.heap.get? u2 = some (W.listOf (#[] : Array Value) m2)) (hl1 : s.heap.get? l1 = some (W.listOf vs1.toArray n1)) (hl2 : s.heap.get? l2 = some (W.listOf vs2.toArray n2)) (hv1 : vs1.length ≤ 1000) (hv2 : vs2.length ≤ 1000)
  (post : ∀ h' tk (e d u l : Addr) n m, Keeps [] s.heap h' → (∀ b ∈ [e, d, u, l], s.heap.get? b = none) → (d < e ∧ e < u ∧ u < l) →
    EntAt w h' e d [(Str.ofString "useragents", .ref u), (Str.ofString "rulelines", .ref l), (Str.ofString "delay", .none), (Str.ofString "req_rate", .none)] →
    h'.get? u = some (W.listOf (#[] : Array Value) m) → h'.get? l = some (W.listOf (vs1 ++ vs2).toArray n) → R (.ok (.ret (.ref e))) { s with heap := h', toks := tk }) :
  codeAny (model prog w) A (.call (.ref 63) ⟨[.ref e1, .ref e2], []⟩) R s := by
  obtain ⟨g, hg⟩ : ∃ g, g = hideAll s.heap [] := ⟨_, rfl⟩
  have hg' : s.heap = g := hg.symm
  rw [hg'] at X T he1 he2 hu1 hu2 hl1 hl2
  refine enter (news := []) (K := KK w) hg X T (fun _ h => nomatch h) rfl rfl (Nat.lt_of_lt_of_le hroom (by decide)) (BindsTo.of_eq rfl) (locs rfl) ?_
  intro L h₁ tk F N lt0
  try dsimp only
  walk_at "go"
  refine entry_new (p := p) (loose := loose) (mg := mg) (mb := mb) (by with_reducible assumption) (by with_reducible assumption) X T (dpt (a := A.depth) hroom (by decide)) ?_
  intro x d u l es4 n4 h4 tk4 F4 N4 E4 l41 l42 l43 l44 l45
  have l46 := ent_lt l41 l42
  have l47 := ent_lt l46 l43
  have l48 := ent_lt l47 l44
  have hi0 : IntsAre [] [] := .nil
  have hlu1 : g.IsList u1 ([] : List Value).toArray := ⟨_, hu1, rfl, _, rfl⟩
  have hlu2 : g.IsList u2 ([] : List Value).toArray := ⟨_, hu2, rfl, _, rfl⟩
  walk_at "go"
  (rename Fr _ _ _ _ => F9); (rename News _ _ _ _ => N9); (rename EntsAre _ _ _ => E9)
  refine post _ _ x d _ _ _ _ (keeps_of hg F9) ?_ ⟨ltN (by omega), ltN (by omega), ltN (by omega)⟩ ⟨N9.get (by k_mem), _, _, N9.get (by k_mem), E9⟩ (N9.get (.tail _ (.head _))) (N9.get (.head _))
  rw [hg']
  intro b hb
  rcases List.mem_cons.mp hb with rfl | hb
  · exact N9.fresh (o := instObj 52 d) (by k_mem)
  rcases List.mem_cons.mp hb with rfl | hb
  · exact N9.fresh (o := dictOf _ _) (by k_mem)
  rcases List.mem_cons.mp hb with rfl | hb
  · exact N9.fresh (.tail _ (.head _))
  rcases List.mem_cons.mp hb with rfl | hb
  · exact N9.fresh (.head _)
  · cases hb

theorem merge_in {prog : Program} {w : World} {p : Program} {loose : List Str} {mg mb : Str → Option Value} {A : Around} {E : Value → Shared → Prop} {s : Shared} {g : Heap} {L : Addr} {m : Str → Option Value} {news : List (Addr × Obj)} {Q : Value → Shared → Prop} {e1 e2 d1 d2 u1 u2 l1 l2 : Addr} {vs1 vs2 : List Value} {n1 n2 m1 m2 : Nat}
  (F : Fr g L s.heap m) (N : News g L s.heap news) (X : (KK w).In g) (T : TopRead p loose mg mb g) (hroom : A.depth < 880) (hu : A.units < 130) (hh : A.handled = none)
  (he1 : EntAt w s.heap e1 d1 [(Str.ofString "useragents", .ref u1), (Str.ofString "rulelines", .ref l1), (Str.ofString "delay", .none), (Str.ofString "req_rate", .none)])
  (he2 : EntAt w s.heap e2 d2 [(Str.ofString "useragents", .ref u2), (Str.ofString "rulelines", .ref l2), (Str.ofString "delay", .none), (Str.ofString "req_rate", .none)])
  (hu1 : s.heap.get? u1 = some (W.listOf ([] : List Value).toArray m1)) (hu2 : s.heap.get? u2 = some (W.listOf ([] : List Value).toArray m2)) (hl1 : s.heap.get? l1 = some (W.listOf vs1.toArray n1)) (hl2 : s.heap.get? l2 = some (W.listOf vs2.toArray n2)) (hv1 : vs1.length ≤ 1000) (hv2 : vs2.length ≤ 1000)
  (h : ∀ (e d u l : Addr) es k n mm h' tk, Fr g L h' m → News g L h' ((l, W.listOf (vs1 ++ vs2).toArray n) :: (u, W.listOf ([] : List Value).toArray mm) :: (e, instObj 52 d) :: (d, dictOf es k) :: news) →
    EntsAre w es [(Str.ofString "useragents", .ref u), (Str.ofString "rulelines", .ref l), (Str.ofString "delay", .none), (Str.ofString "req_rate", .none)] → (∀ q ∈ news, ∀ b ∈ [e, d, u, l], q.1 ≠ b) → d < e → e < u → u < l → Q (.ref e) { s with heap := h', toks := tk }) :
  wpAny (model prog w) A (call (.ref 63) [.ref e1, .ref e2]) Q E s := by
  refine wpAny_call (merge_code (X.keeps F.keep) (T.keeps F.keep) hroom hu hh he1 he2 hu1 hu2 hl1 hl2 hv1 hv2 ?_)
  intro h' tk e d u l n mm k hb ho ee eu el
  obtain ⟨es, kk, hd, hes⟩ := ee.dict
  have ks : Sub s.heap h' := fun b o e => k b o (fun h => nomatch h) e
  obtain ⟨oL, _, _, hL, _⟩ := F.ns
  have fr : ∀ b ∈ [e, d, u, l], b ≠ L ∧ g.get? b = none := fun b hb' => by
    refine ⟨fun q => ?_, ?_⟩
    · have := hb b hb'; rw [q, hL] at this; cases this
    · cases q : g.get? b with
      | none => rfl
      | some o => have := F.keep _ _ q; rw [hb b hb'] at this; cases this
  refine h e d u l es kk n mm h' tk (fr_sub F ks) ?_ hes (fun q hq b hb' e => ?_) ho.1 ho.2.1 ho.2.2
  · intro q hq
    rcases List.mem_cons.mp hq with rfl | hq
    · exact ⟨el, fr l (by simp)⟩
    rcases List.mem_cons.mp hq with rfl | hq
    · exact ⟨eu, fr u (by simp)⟩
    rcases List.mem_cons.mp hq with rfl | hq
    · exact ⟨ee.inst, fr e (by simp)⟩
    rcases List.mem_cons.mp hq with rfl | hq
    · exact ⟨hd, fr d (by simp)⟩
    · exact news_sub N ks q hq
  · have := (N q hq).1
    rw [e, hb b hb'] at this; cases this
theorem lay_A0 : True := by
  k_with_none
  w_top off
  exact True.intro
theorem readsAll_ints {h : Heap} {vs : List Value} {k : List Int} (hi : IntsAre vs k) : ReadsAll h vs (k.map PyData.int) [] := by
  induction hi with
  | nil => exact .nil
  | cons i t _ ih => exact .cons (as := []) (.int i t) ih
theorem KeyAt.reads {h : Heap} {v : Value} {k : List Int} (x : KeyAt h v k) : Reads h v (.tuple (k.map PyData.int)) [] := by
  obtain ⟨t, o, vs, n, rfl, ho, hc, hd, hi⟩ := x
  exact .tuple ho hc hd (readsAll_ints hi)
theorem shaped_key (k : List Int) : SeqAt.shaped (.tuple (k.map PyData.int)) = true := by
  simp [SeqAt.shaped, PyData.canLay0, PyData.depth, ke_canLayAll0, ke_depthAll]
theorem key_eq {prog : Program} {w : World} {A : Around} {E : Value → Shared → Prop} {s : Shared} {v1 v2 : Value} {x y : List Int} {Q : Value → Shared → Prop} (hx : KeyAt s.heap v1 x) (hy : KeyAt s.heap v2 y) (hu : A.units < 200) (h : Q (.bool (decide (x = y))) s) :
    wpAny (model prog w) A (compareOp .Eq v1 v2) Q E s := by
  refine eq_dataH hx.reads hy.reads (shaped_key _) (shaped_key _) (by show A.units + 64 < 9900; (first | lia | omega)) ?_
  rw [show PyData.eqv (.tuple (x.map PyData.int)) (.tuple (y.map PyData.int)) = decide (x = y) from (by rw [PyData.eqv]; exact ked_eqvAll x y)]
  exact h

/-- a list of lists of ints -/
inductive IntLists (h : Heap) : List Value → List (List Int) → Prop
  | nil : IntLists h [] []
  | cons {l : Addr} {xs : List Value} {n : Nat} {is : List Int} {vs : List Value} {iss : List (List Int)} : h.get? l = some (W.listOf xs.toArray n) → IntsAre xs is → IntLists h vs iss → IntLists h (.ref l :: vs) (is :: iss)
theorem IntLists.keeps {h h' : Heap} {vs : List Value} {iss : List (List Int)} (x : IntLists h vs iss) (k : ∀ b o, h.get? b = some o → h'.get? b = some o) : IntLists h' vs iss := by
  induction x with
  | nil => exact .nil
  | cons a b _ ih => exact .cons (k _ _ a) b ih
theorem IntLists.snoc {h : Heap} {vs : List Value} {iss : List (List Int)} {l : Addr} {xs : List Value} {n : Nat} {is : List Int} (x : IntLists h vs iss) (hl : h.get? l = some (W.listOf xs.toArray n)) (hi : IntsAre xs is) : IntLists h (vs ++ [.ref l]) (iss ++ [is]) := by
  induction x with
  | nil => exact .cons hl hi .nil
  | cons a b _ ih => exact .cons a b ih
theorem IntLists.length {h : Heap} {vs : List Value} {iss : List (List Int)} (x : IntLists h vs iss) : vs.length = iss.length := by
  induction x with
  | nil => rfl
  | cons a b _ ih => simp [ih]
abbrev dataLL (iss : List (List Int)) : List PyData := iss.map fun is => .list (is.map PyData.int)
theorem IntLists.reads {h : Heap} {vs : List Value} {iss : List (List Int)} (x : IntLists h vs iss) : ∃ as, ReadsAll h vs (dataLL iss) as := by
  induction x with
  | nil => exact ⟨_, .nil⟩
  | cons a b _ ih =>
    obtain ⟨as, ih⟩ := ih
    exact ⟨_, .cons (.list a rfl rfl (readsAll_ints b)) ih⟩
theorem shaped_ll (iss : List (List Int)) : SeqAt.shaped (.list (dataLL iss)) = true := by
  have e1 : ∀ iss : List (List Int), PyData.canLayAll0 (dataLL iss) = true := fun iss => by
    induction iss with
    | nil => rfl
    | cons a r ih => simp only [List.map_cons, PyData.canLayAll0, PyData.canLay0, ke_canLayAll0, Bool.true_and]; exact ih
  have e2 : ∀ iss : List (List Int), PyData.depthAll (dataLL iss) ≤ 1 := fun iss => by
    induction iss with
    | nil => exact Nat.zero_le _
    | cons a r ih => show max (PyData.depth (.list (a.map PyData.int))) (PyData.depthAll (dataLL r)) ≤ 1; rw [show PyData.depth (.list (a.map PyData.int)) = 1 by simp only [PyData.depth, ke_depthAll]]; (first | lia | omega)
  unfold SeqAt.shaped
  rw [show PyData.canLay0 (.list (dataLL iss)) = true from e1 iss]
  have := e2 iss
  simp only [PyData.depth, Bool.true_and]
  exact decide_eq_true (by (first | lia | omega))
theorem eqv_ll_same (iss : List (List Int)) : PyData.eqv (.list (dataLL iss)) (.list (dataLL iss)) = true := by
  rw [PyData.eqv]
  induction iss with
  | nil => simp [PyData.eqvAll]
  | cons a r ih => simp only [List.map_cons, PyData.eqvAll, PyData.eqv, ked_eqvAll]; rw [ih]; simp
theorem ll_ne {prog : Program} {w : World} {A : Around} {E : Value → Shared → Prop} {s : Shared} {l b : Addr} {vs us : List Value} {n n2 : Nat} {iss : List (List Int)} {Q : Value → Shared → Prop} (hl : s.heap.get? l = some (W.listOf vs.toArray n)) (hb : s.heap.get? b = some (W.listOf us.toArray n2))
    (hx : IntLists s.heap vs iss) (hy : IntLists s.heap us iss) (hu : A.units < 200) (h : Q (.bool false) s) : wpAny (model prog w) A (compareOp .NotEq (.ref l) (.ref b)) Q E s := by
  obtain ⟨as, ra⟩ := hx.reads
  obtain ⟨bs, rb⟩ := hy.reads
  refine ne_dataH (.list hl rfl rfl ra) (.list hb rfl rfl rb) (shaped_ll _) (shaped_ll _) (by show A.units + 64 < 9900; (first | lia | omega)) ?_
  rw [eqv_ll_same]
  exact h

section
variable {prog : Program} {w : World} {A : Around} {E : Value → Shared → Prop} {s : Shared} {h₀ : Heap} {L : Addr} {m : Str → Option Value} {news : List (Addr × Obj)}
theorem list_eq_m (l b : Addr) (vs : List Value) (n n2 : Nat) :
    Meets (Builtin.«list.__eq__» ⟨[.ref l, .ref b], []⟩) (fun _ R s => s.heap.get? l = some (W.listOf vs.toArray n) ∧ s.heap.get? b = some (W.listOf ([] : List Value).toArray n2) ∧ R (.ok (.ret (.bool vs.isEmpty))) s) := by
  intro prog w A R s h
  obtain ⟨hp, g, d, tk, os⟩ := s; obtain ⟨hl, hb, h⟩ := h
  have f3 := AutoSeq1.sub_list_list
  cases vs with
  | nil =>
    wp_walk using AutoSeq1.wpAny_loadPart' hl, AutoSeq1.wpAny_loadPart' hb
    exact ⟨plainId_quiet MeetsSeq3.plain_eq_loop _, codeAny_builtin MeetsSeq3.entry_eq_loop (by
      rw [Around.under_plainId MeetsSeq3.plain_eq_loop _]
      wp_walk using AutoSeq1.wpAny_loadPart' hl, AutoSeq1.wpAny_loadPart' hb
      exact h)⟩
  | cons a r =>
    wp_walk using AutoSeq1.wpAny_loadPart' hl, AutoSeq1.wpAny_loadPart' hb
    exact h
theorem list_ne_m (l b : Addr) (vs : List Value) (n n2 : Nat) :
    Meets (Builtin.«list.__ne__» ⟨[.ref l, .ref b], []⟩) (fun _ R s => s.heap.get? l = some (W.listOf vs.toArray n) ∧ s.heap.get? b = some (W.listOf ([] : List Value).toArray n2) ∧ R (.ok (.ret (.bool (!vs.isEmpty)))) s) := by
  intro prog w A R s h
  obtain ⟨hp, g, d, tk, os⟩ := s; obtain ⟨hl, hb, h⟩ := h
  have f3 := AutoSeq1.sub_list_list
  cases vs with
  | nil =>
    wp_walk using AutoSeq1.wpAny_loadPart' hl, AutoSeq1.wpAny_loadPart' hb
    exact ⟨plainId_quiet MeetsSeq3.plain_eq_loop _, codeAny_builtin MeetsSeq3.entry_eq_loop (by
      rw [Around.under_plainId MeetsSeq3.plain_eq_loop _]
      wp_walk using AutoSeq1.wpAny_loadPart' hl, AutoSeq1.wpAny_loadPart' hb
      exact h)⟩
  | cons a r =>
    wp_walk using AutoSeq1.wpAny_loadPart' hl, AutoSeq1.wpAny_loadPart' hb
    exact h
theorem eq_empty {l b : Addr} {vs : List Value} {n n2 : Nat} {Q : Value → Shared → Prop} (hl : s.heap.get? l = some (W.listOf vs.toArray n)) (hb : s.heap.get? b = some (W.listOf ([] : List Value).toArray n2)) (hu : A.units < 200) (h : Q (.bool vs.isEmpty) s) :
    wpAny (model prog w) A (compareOp .Eq (.ref l) (.ref b)) Q E s := by
  show wpAny _ _ (richCompare .Eq _ _) Q E s
  have Ta : s.TypeIs (.ref l) "list" := ⟨_, hl, rfl⟩
  have Tb : s.TypeIs (.ref b) "list" := ⟨_, hb, rfl⟩
  exact wpAny_richCompare_same_or (op := .Eq) Ta Tb PySem.F.slot_list_eq (call_meets PySem.F.slot_list_eq Ta PySem.F.entry_list_eq (PySem.F.args_list_eq_2 _ _) (list_eq_m l b vs n n2) ⟨hl, hb, (fun e => nomatch e), h⟩) (.inr (by show _ < 9900; (first | lia | omega)))
theorem ne_empty {l b : Addr} {vs : List Value} {n n2 : Nat} {Q : Value → Shared → Prop} (hl : s.heap.get? l = some (W.listOf vs.toArray n)) (hb : s.heap.get? b = some (W.listOf ([] : List Value).toArray n2)) (hu : A.units < 200) (h : Q (.bool (!vs.isEmpty)) s) :
    wpAny (model prog w) A (compareOp .NotEq (.ref l) (.ref b)) Q E s := by
  show wpAny _ _ (richCompare .NotEq _ _) Q E s
  have Ta : s.TypeIs (.ref l) "list" := ⟨_, hl, rfl⟩
  have Tb : s.TypeIs (.ref b) "list" := ⟨_, hb, rfl⟩
  exact wpAny_richCompare_same_or (op := .NotEq) Ta Tb PySem.F.slot_list_ne (call_meets PySem.F.slot_list_ne Ta PySem.F.entry_list_ne (PySem.F.args_list_ne_2 _ _) (list_ne_m l b vs n n2) ⟨hl, hb, (fun e => nomatch e), h⟩) (.inr (by show _ < 9900; (first | lia | omega)))
theorem sorted_L {l : Addr} {vs : List Value} {ns : List Int} {Q : Value → Shared → Prop} (F : Fr h₀ L s.heap m) (N : News h₀ L s.heap news) (hl : s.heap.IsList l vs.toArray) (hi : IntsAre vs ns) (h64 : ns.length < 64)
    (h : ∀ D vs' ns' c h', Fr h₀ L h' m → News h₀ L h' ((D, W.listOf vs'.toArray c) :: news) → (∀ q ∈ news, q.1 < D) → IntsAre vs' ns' → ns'.Perm ns → ns'.Pairwise (· ≤ ·) → Q (.ref D) { s with heap := h' }) :
    wpAny (model prog w) A (call (.builtin "sorted") [.ref l]) Q E s :=
  kso_sorted F N hl hi h64 fun D vs' ns' c h' F' N' l1 i' _ p' o' _ => h D vs' ns' c h' F' N' l1 i' p' o'
end

section
variable {prog : Program} {w : World} {A : Around} {E : Value → Shared → Prop} {s : Shared} {h₀ : Heap} {L : Addr} {m : Str → Option Value}
theorem ent_methC {x d f : Addr} {l : List (Str × Value)} {name : Str} {pl : Sem Bool} {Q : Value × List Value → Shared → Prop} (F : Fr h₀ L s.heap m) (X : (KK w).In h₀) (I : EntAt w s.heap x d l) (hl : l.lookup name = none)
    (h : Q (.ref f, [.ref x]) s) (hg : plainGet (KK w) 52 name = true) (hf : findIn (KK w) (.ref 52) name = some (some (.ref f))) (hF : isFn (KK w) (.ref f) = true) :
    wpAny (model prog w) A (getMethod (.ref x) name pl) Q E s := by
  obtain ⟨es, n, hd, he⟩ := I.dict
  exact method_inst F X (⟨I.inst, rfl, rfl, hd⟩ : InstAt s.heap x (instObj 52 d) 52 (some (dictOf es n))) hg hf hF ((he.getL name).trans (by rw [hl])) h
end
theorem RulesAt.append {prog : Program} {w : World} {h : Heap} {c' : Addr} {vs us : List Value} {rs qs : List RD} (x : RulesAt prog w h c' vs rs) (y : RulesAt prog w h c' us qs) : RulesAt prog w h c' (vs ++ us) (rs ++ qs) := by
  induction x with
  | nil => exact y
  | cons a _ ih => exact .cons a ih
abbrev heapOf {g h : Heap} {L : Addr} {m : Str → Option Value} (_ : Fr g L h m) : Heap := h
theorem news_of {g h : Heap} {L : Addr} {news news' : List (Addr × Obj)} (N : News g L h news) (k : ∀ q ∈ news', q ∈ news) : News g L h news' := fun q hq => N q (k q hq)
theorem for_anyX {prog : Program} {w : World} {A : Around} {s : Shared} {R : Result → Shared → Prop} {name : Str} {scope : Scope} {L a : Addr} {cd : Value} {cl : List (Str × Addr)} {g : Heap} {m : Str → Option Value} {news : List (Addr × Obj)}
    {x : Str} {px : Pos} {body : List Stmt} {it : Addr} {o0 : Obj} {n : Nat} {item : Nat → Tok → Value} {ItAt : Nat → Obj → Prop} {side : Heap → Prop}
    (I : Iter prog w it n item ItAt side) (J : Nat → (Str → Option Value) → List (Addr × Obj) → Prop) (hh : A.handled = none)
    (F : Fr g L s.heap m) (N : News g L s.heap ((it, o0) :: news)) (hne : ∀ q ∈ news, q.1 ≠ it) (hi : ItAt 0 o0) (hJ : J 0 m news)
    (hside : ∀ i m₁ news₁ h₁, i ≤ n → Fr g L h₁ m₁ → News g L h₁ news₁ → J i m₁ news₁ → side h₁)
    (turn : ∀ i m₁ news₁ h₁ tk₁ t oi, i < n → Fr g L h₁ (fun y => if y = x then some (item i t) else m₁ y) → News g L h₁ ((it, oi) :: news₁) → (∀ q ∈ news₁, q.1 ≠ it) → J i m₁ news₁ →
      wpAny (model prog w) A (execs body (envX name scope L a cd cl)) (ForStep g L s J R it oi i) (fun _ _ => False) { s with heap := h₁, toks := tk₁ })
    (done : ∀ m₁ news₁ h₁ tk₁, Fr g L h₁ m₁ → News g L h₁ news₁ → J n m₁ news₁ → R (.ok .next) { s with heap := h₁, toks := tk₁ })
    (hk : scope.kind = .function := by rfl) (hx : (envX name scope L a cd cl).kindOf x = some .local := by rfl) :
    codeAny (model prog w) A (.forLoop (.Name x px) (.ref it) body [] (envX name scope L a cd cl)) R s := by
  refine codeAny_forLoop (fun k s' => ∃ i h₁ tk₁ m₁ news₁ oi, k = n - i ∧ i ≤ n ∧ s' = { s with heap := h₁, toks := tk₁ } ∧ Fr g L h₁ m₁ ∧ News g L h₁ ((it, oi) :: news₁) ∧ (∀ q ∈ news₁, q.1 ≠ it) ∧ ItAt i oi ∧ J i m₁ news₁) ?_ n ⟨0, s.heap, s.toks, m, news, o0, rfl, Nat.zero_le _, rfl, F, N, hne, hi, hJ⟩
  rintro k s' ⟨i, h₁, tk₁, m₁, news₁, oi, rfl, hin, rfl, F₁, N₁, ne₁, hi₁, J₁⟩
  have hit := (N₁ _ (.head _))
  have N₁' : News g L h₁ news₁ := fun q hq => N₁ q (.tail _ hq)
  have sd := hside i m₁ news₁ h₁ hin F₁ N₁' J₁
  rcases Nat.lt_or_ge i n with lt | ge
  · refine I.step A _ _ _ i oi hit.1 hi₁ sd lt fun h' o' tk t ho' hi' hs => ?_
    refine wpAny_assign_Name ?_
    have F₂ : Fr g L h' m₁ := F₁.change hs hit.2.1 hit.2.2
    have N₂ : News g L h' ((it, o') :: news₁) := by
      intro q hq
      rcases List.mem_cons.mp hq with rfl | hq
      · exact ⟨ho', hit.2⟩
      · exact ⟨(hs.2 q.1 (ne₁ q hq)).trans (N₁' q hq).1, (N₁' q hq).2⟩
    refine storeX_L F₂ N₂ (fun h2 F3 N3 => ?_) hk hx
    refine wpAny_mono (turn i m₁ news₁ h2 _ t o' lt F3 N3 ne₁ J₁) (fun f s3 hf => ?_) fun _ _ x => x.elim
    cases f with
    | next =>
      obtain ⟨h4, tk4, m4, news4, rfl, F4, N4, ne4, J4⟩ := hf
      exact ⟨n - (i + 1), by (first | lia | omega), i + 1, h4, tk4, m4, news4, o', rfl, lt, rfl, F4, N4, ne4, hi', J4⟩
    | cont =>
      obtain ⟨h4, tk4, m4, news4, rfl, F4, N4, ne4, J4⟩ := hf
      exact ⟨n - (i + 1), by (first | lia | omega), i + 1, h4, tk4, m4, news4, o', rfl, lt, rfl, F4, N4, ne4, hi', J4⟩
    | brk => exact hf
    | ret v => exact hf
  · have e : i = n := by (first | lia | omega)
    subst e
    refine I.fin A _ _ _ oi hh hit.1 hi₁ sd fun h' hs => ?_
    refine wpAny_execs_nil ?_
    obtain ⟨oL, a1, a2, hL, a3⟩ := F₁.ns
    exact done m₁ news₁ h' _ ⟨⟨oL, a1, a2, hs _ _ hit.2.1.symm hL, a3⟩, fun b o e => hs b o (fun q => by rw [q, hit.2.2] at e; cases e) (F₁.keep b o e), F₁.above⟩
      (fun q hq => ⟨hs _ _ (ne₁ q hq) (N₁' q hq).1, (N₁' q hq).2⟩) J₁

theorem for_listX {prog : Program} {w : World} {A : Around} {s : Shared} {E : Value → Shared → Prop} {Q : Flow → Shared → Prop} {Er : Value → Shared → Prop} {name : Str} {scope : Scope} {L a : Addr} {cd : Value} {cl : List (Str × Addr)} {g : Heap} {m : Str → Option Value} {news : List (Addr × Obj)}
    {x : Str} {px : Pos} {body : List Stmt} {l : Addr} {vs : List Value} (J : Nat → Nat → (Str → Option Value) → List (Addr × Obj) → Prop) (hl : s.heap.IsList l vs.toArray) (hh : A.handled = none)
    (F : Fr g L s.heap m) (N : News g L s.heap news) (hJ : ∀ it, (∀ q ∈ news, q.1 < it) → L < it → J it 0 m news)
    (hside : ∀ it i m₁ news₁ h₁, i ≤ vs.length → Fr g L h₁ m₁ → News g L h₁ news₁ → J it i m₁ news₁ → h₁.IsList l vs.toArray)
    (turn : ∀ it i m₁ news₁ h₁ tk₁ t oi, i < vs.length → Fr g L h₁ (fun y => if y = x then some ((fun i (_ : Tok) => vs.getD i .none) i t) else m₁ y) → News g L h₁ ((it, oi) :: news₁) → (∀ q ∈ news₁, q.1 ≠ it) → J it i m₁ news₁ →
      wpAny (model prog w) A (execs body (envX name scope L a cd cl)) (ForStep g L { s with heap := s.heap.push { cls := .type "list_iterator", data := .fields #[.ref l, .int 0 0] } } (J it) (fun r s' => match r with | .ok f => Q f s' | .error e => Er e s') it oi i) (fun _ _ => False) { s with heap := h₁, toks := tk₁ })
    (done : ∀ it m₁ news₁ h₁ tk₁, Fr g L h₁ m₁ → News g L h₁ news₁ → J it vs.length m₁ news₁ → Q .next { s with heap := h₁, toks := tk₁ })
    (hk : scope.kind = .function := by rfl) (hx : (envX name scope L a cd cl).kindOf x = some .local := by rfl) :
    wpAny (model prog w) A (pyIter (.ref l)) (fun it s₂ => codeAny (model prog w) A (.forLoop (.Name x px) it body [] (envX name scope L a cd cl)) (fun r s' => match r with | .ok f => Q f s' | .error e => Er e s') s₂) E s := by
  refine wpAny_pyIter_list hl ?_
  have lt : ∀ q ∈ news, q.1 < s.heap.objs.size := fun q hq => Heap.lt_size (N q hq).1
  exact for_anyX (iter_list prog w s.heap.objs.size l vs) (J s.heap.objs.size) hh (F.push _) (N.push F _) (fun q hq => Nat.ne_of_lt (lt q hq)) ⟨rfl, rfl⟩ (hJ _ lt F.ns.lt) (hside _) (fun i m₁ news₁ h₁ tk₁ t oi => turn _ i m₁ news₁ h₁ tk₁ t oi) (done _) hk hx


theorem name_obj {P : Prop} {o : Obj} {v : Value} (_ : o.data = .cell (some v)) (k : ∀ q : Obj, q = o → P) : P := k o rfl
theorem name_ref {P : Prop} {o : Obj} {a : Addr} (_ : o.data = .cell (some (.ref a))) (k : ∀ b : Addr, b = a → P) : P := k a rfl
theorem slicePick_one (v : Value) (r : List Value) : slicePick (v :: r).toArray none (some 1) none = #[v] := by
  have := slicePick_upto (v :: r).toArray 1 (by simp)
  simpa using this
abbrev recL (u l : Addr) : List (Str × Value) := [(Str.ofString "useragents", .ref u), (Str.ofString "rulelines", .ref l), (Str.ofString "delay", .none), (Str.ofString "req_rate", .none)]
/-- a record: its object, its list of rules -/
structure RecAt (prog : Program) (w : World) (h : Heap) (c' e d u l : Addr) (vs : List Value) (rs : List RD) : Prop where
  ent : EntAt w h e d (recL u l)
  ua : ∃ n, h.get? u = some (W.listOf ([] : List Value).toArray n)
  ls : ∃ n, h.get? l = some (W.listOf vs.toArray n)
  rules : RulesAt prog w h c' vs rs
  len : vs.length ≤ 300
/-- a heap: its list, its keys -/
structure HeapAt (h : Heap) (a : Addr) (vs : List Value) (ks : List (List Int)) : Prop where
  ls : ∃ n, h.get? a = some (W.listOf vs.toArray n)
  keys : KeysAt h vs ks
  four : ∀ k ∈ ks, ∃ k0 k1 k2 k3, k = [k0, k1, k2, k3]
  len : vs.length ≤ 60
theorem RecAt.keeps {prog : Program} {w : World} {h h' : Heap} {c' e d u l : Addr} {vs : List Value} {rs : List RD} (x : RecAt prog w h c' e d u l vs rs) (k : Sub h h') : RecAt prog w h' c' e d u l vs rs :=
  ⟨x.ent.keeps k, let ⟨n, e⟩ := x.ua; ⟨n, k _ _ e⟩, let ⟨n, e⟩ := x.ls; ⟨n, k _ _ e⟩, x.rules.keeps k, x.len⟩
theorem HeapAt.keeps {h h' : Heap} {a : Addr} {vs : List Value} {ks : List (List Int)} (x : HeapAt h a vs ks) (k : Sub h h') : HeapAt h' a vs ks :=
  ⟨let ⟨n, e⟩ := x.ls; ⟨n, k _ _ e⟩, x.keys.keeps k, x.four, x.len⟩

/-- what is due of a heap -/
def dueOf (rules : List RD) (ks : List (List Int)) : Value := match ks with
  | [] => .bool true
  | k :: _ => if k.getD 0 0 < 0 then .ref ((rules.map (·.al)).getD (k.getD 3 0).natAbs 0) else .bool true
def serials (ks : List (List Int)) : List Int := ks.map fun k => ((k.getD 3 0).natAbs : Int)


section
variable {prog : Program} {w : World} {A : Around} {E : Value → Shared → Prop} {s : Shared} {g : Heap} {L : Addr} {m : Str → Option Value} {news : List (Addr × Obj)}
theorem slice_top {value slice : PySem.Expr} {t1 : Tok} {x ln ht : Addr} {o' : Addr × Obj} {hds hvt : List Value} {kst : List (List Int)} {n n' : Nat} {Q : Value → Shared → Prop} (F : Fr g L s.heap m)
    (N : News g L s.heap ((x, W.listOf (hds ++ [Value.ref ln]).toArray n) :: o' :: (ln, W.listOf ([] : List Value).toArray n') :: news)) (hdl : hds.length ≤ 10) (htop : (hds = [] ∧ kst = []) ∨ (∃ r, hds = .ref ht :: r) ∧ HeapAt g ht hvt kst)
    (h : ∀ D top lz h', lz = ln → Fr g L h' m → News g L h' ((D, W.listOf [Value.ref top].toArray 0) :: (lz, W.listOf ([] : List Value).toArray n') :: news) → (∀ q ∈ ((lz, W.listOf ([] : List Value).toArray n') : Addr × Obj) :: news, q.1 < D) → L < D → ((top = lz ∧ kst = []) ∨ HeapAt g top hvt kst) → Q (.ref D) { s with heap := h' })
    (hs : subscripted slice false (.ref x) (.ref s.heap.objs.size) = operate [.ref s.heap.objs.size, .ref x] (getItem (.ref x) (.ref s.heap.objs.size)) := by with_unfolding_all rfl)
    (ht' : ∀ r, letTemporaryGo value (.ref x) r = pure () := by intro _; with_unfolding_all rfl) :
    wpAny (model prog w) A (subscriptTail value slice (.ref x) (.ref s.heap.objs.size)) Q E { s with heap := s.heap.push { cls := .type "slice", data := .fields #[.none, .int 1 t1, .none] } } := by
  obtain ⟨v, r, e⟩ : ∃ v r, hds ++ [Value.ref ln] = v :: r := by
    cases hds with
    | nil => exact ⟨_, _, rfl⟩
    | cons a q => exact ⟨_, _, rfl⟩
  have N1 : News g L s.heap ((ln, W.listOf ([] : List Value).toArray n') :: news) := news_of N fun q hq => .tail _ (.tail _ hq)
  have hx := (N _ (.head _)).1
  rw [e] at hx
  refine slice_list F N1 (items := (v :: r).toArray) ⟨_, hx, rfl, _, rfl⟩ .none (.int 1 t1) (fun h' F' N' => ?_) hs ht' ?_
  · rw [slicePick_one] at N'
    rcases htop with ⟨e1, e2⟩ | ⟨⟨q, e1⟩, hp⟩
    · subst e1 e2
      obtain ⟨rfl, rfl⟩ := List.cons.inj e
      exact h _ ln ln h' rfl F' N' (fun q hq => Nat.lt_succ_of_lt (Heap.lt_size (N1 q hq).1)) (Nat.lt_succ_of_lt F.ns.lt) (.inl ⟨rfl, rfl⟩)
    · subst e1
      obtain ⟨rfl, rfl⟩ := List.cons.inj e
      exact h _ ht ln h' rfl F' N' (fun q hq => Nat.lt_succ_of_lt (Heap.lt_size (N1 q hq).1)) (Nat.lt_succ_of_lt F.ns.lt) (.inr hp)
  · rw [← e, List.size_toArray, List.length_append, sizeLine_eq]
    simp; (first | lia | omega)
end
theorem name_head {P : Prop} {g h : Heap} {L a : Addr} {o : Obj} {news : List (Addr × Obj)} (_ : News g L h ((a, o) :: news)) (k : ∀ b : Addr, b = a → P) : P := k a rfl
theorem ne_map {it : Addr} {l l' : List (Addr × Obj)} (h : ∀ q ∈ l, q.1 ≠ it) (e : l'.map (·.1) = l.map (·.1)) : ∀ q ∈ l', q.1 ≠ it := by
  intro q hq
  have : q.1 ∈ l.map (·.1) := e ▸ List.mem_map_of_mem hq
  obtain ⟨p, hp, e2⟩ := List.mem_map.mp this
  exact e2 ▸ h p hp

/-- a list of lists of ints, none of them at L -/
def OffL (L : Addr) (vs : List Value) : Prop := ∀ v ∈ vs, ∃ a, v = .ref a ∧ a ≠ L
theorem IntLists.hide {h : Heap} {vs : List Value} {iss : List (List Int)} {L : Addr} (x : IntLists h vs iss) (o : OffL L vs) : IntLists (hideAll h [L]) vs iss := by
  induction x with
  | nil => exact .nil
  | cons a b _ ih =>
    obtain ⟨q, e, hq⟩ := o _ (.head _)
    cases e
    exact .cons (hideAll_get _ a (by simpa using hq)) b (ih fun v hv => o v (.tail _ hv))
theorem OffL.snoc {L a : Addr} {vs : List Value} (o : OffL L vs) (h : a ≠ L) : OffL L (vs ++ [.ref a]) := fun v hv => by
  rcases List.mem_append.mp hv with hv | hv
  · exact o v hv
  · rw [List.mem_singleton.mp hv]; exact ⟨a, rfl, h⟩
theorem take_succ_get {α : Type} {l : List α} {i : Nat} {x : α} (h : l[i]? = some x) : l.take (i + 1) = l.take i ++ [x] := by rw [List.take_add_one, h]; rfl
theorem ints_take {vs : List Value} {k : List Int} (h : IntsAre vs k) : vs.length = k.length := h.length
theorem IntsAre.snoc' {vs : List Value} {k : List Int} {i : Int} {t : Tok} (h : IntsAre vs k) : IntsAre (vs ++ [.int i t]) (k ++ [i]) := h.append (.cons i t .nil)
theorem sorted_same {a b : List Int} (p : a.Perm b) (h1 : a.Pairwise (· ≤ ·)) (h2 : b.Pairwise (· < ·)) : a = b :=
  p.eq_of_pairwise (fun x y _ _ h h' => Int.le_antisymm h h') h1 (h2.imp Int.le_of_lt)
def idxs (rs : List RD) : List Int := rs.map fun r => (r.i : Int)
theorem idxs_length (rs : List RD) : (idxs rs).length = rs.length := List.length_map ..
theorem idxs_get {rs : List RD} {j : Nat} (h : j < rs.length) : (idxs rs)[j]? = some ((rs[j].i : Nat) : Int) := by
  unfold idxs; rw [List.getElem?_map, List.getElem?_eq_getElem h]; rfl
theorem serials_length (ks : List (List Int)) : (serials ks).length = ks.length := List.length_map ..
theorem serials_get {ks : List (List Int)} {j : Nat} (h : j < ks.length) : (serials ks)[j]? = some (((ks[j].getD 3 0).natAbs : Nat) : Int) := by
  unfold serials; rw [List.getElem?_map, List.getElem?_eq_getElem h]; rfl

def NoEnd (s₃ : Shared) (ok : Bool) (s₄ : Shared) : Prop := ok = false ∧ ∃ tk, s₄ = { s₃ with toks := tk }
/-- a comprehension over range(4) whose test never holds -/
def NoneAt (prog : Program) (w : World) (A : Around) (env : Env) (scope : Scope) (cl : List (Str × Addr)) (x : Str) (test : PySem.Expr) (Q : Value → Shared → Prop) (xv : Value) (s₁ : Shared) : Prop :=
  ∃ r t u v, xv = .ref r ∧ IsRange s₁.heap r 0 4 1 t u v ∧
    (∀ gb C i s₃ m tk E', Sub s₁.heap gb → i < 4 → Fr gb C s₃.heap m → m x = some (.int ((i : Nat) : Int) tk) → wpAny (model prog w) A (isTrue test (compEnvC scope cl C env) (eval test (compEnvC scope cl C env))) (NoEnd s₃) E' s₃) ∧
    (∀ D h' tk k, s₁.heap.objs.size ≤ D → h'.get? D = some (W.listOf ([] : List Value).toArray k) → Sub s₁.heap h' → Q (.ref D) { s₁ with heap := h', toks := tk })
theorem comp_none {prog : Program} {w : World} {A : Around} {E : Value → Shared → Prop} {s : Shared} {env : Env} {elt iter test : PySem.Expr} {x : Str} {px : Pos} {scope : Scope} {cl : List (Str × Addr)} {pos : Pos} {Q : Value → Shared → Prop}
    (hh : A.handled = none) (hclos : closureFor scope env = pure cl) (hcell : ∀ y ∈ scope.names, y.2 ≠ .cell) (hkind : scope.kind = .function)
    (hnames : ∀ y ∈ scope.names, y.2 = .local → scope.names.lookup y.1 = some .local) (hx : scope.names.lookup x = some .local)
    (h : wpAny (model prog w) A (eval iter env) (NoneAt prog w A env scope cl x test Q) E s)
    (hs : ∀ x, foldedSetIterable iter env x = pure x := by intro _; rfl) :
    wpAny (model prog w) A (eval (.ListComp elt [⟨.Name x px, iter, [test], 0⟩] scope pos) env) Q E s := by
  rw [eval_ListComp]
  refine comp_gen (use := none) hh hclos hcell hkind hnames hx (wpAny_mono h (fun xv s₁ h₁ => ?_) fun _ _ e => e) hs
  obtain ⟨r, t, u, v, rfl, hr, turn, done⟩ := h₁
  refine wpAny_pyIter_range hr (by decide) ?_
  rw [show Builtin.Range.rangeSize 0 4 1 = 4 by decide]
  have sub0 : Sub s₁.heap (hideAll (s₁.heap.push { cls := .type "range_iterator", data := .fields #[rawInt 0, rawInt 4, rawInt 1] }) [s₁.heap.objs.size]) := fun b o e =>
    hideAll_get _ (Heap.get?_push_of_some _ e) (by have := Heap.lt_size e; simp; exact Nat.ne_of_lt this)
  have le1 : s₁.heap.objs.size ≤ (s₁.heap.push { cls := .type "range_iterator", data := .fields #[rawInt 0, rawInt 4, rawInt 1] }).objs.size := by rw [Heap.size_push]; exact Nat.le_succ _
  refine ⟨_, 4, _, _, _, _, fun _ ys _ => ys = [], rfl, iter_range prog w s₁.heap.objs.size 0 1 4, self_range prog w _ 0 1 4, Heap.get?_push_size _ rfl, rfl, ⟨fun _ _ => trivial, by decide, fun _ _ _ _ h _ => h, rfl, fun _ _ _ h => by rw [h]; exact Nat.zero_le _, ?_, ?_⟩⟩
  · rintro C D i ys s₃ m t E' a1 a2 a3 a4 a5 a6 - rfl
    refine wpAny_tests_one (wpAny_mono (turn _ C i s₃ m t E' sub0 a2 a3 (by rw [a4]; simp)) ?_ fun _ _ e => e)
    rintro ok s₄ ⟨rfl, tk, rfl⟩
    exact ⟨_, _, rfl, .of_sub (sub_refl _), by rw [if_neg (by decide)]⟩
  · rintro C D h' tk ys k m' a1 a2 a3 a4 a5 a6 a6' a7 a8 a9 rfl
    refine ⟨m', a7, fun h3 hs3 => done D h3 tk k (Nat.le_trans le1 a6) (hs3.extBut _ _ a3 a8) fun b o e => hs3.extBut b o (fun q => absurd (Heap.lt_size e) (by rw [q]; exact Nat.not_lt.mpr (Nat.le_trans le1 a6'))) (a9 _ _ (sub0 _ _ e))⟩
theorem dueOf_cases (rules : List RD) (ks : List (List Int)) : dueOf rules ks = .bool true ∨ ∃ a, dueOf rules ks = .ref a := by
  cases ks with
  | nil => exact .inl rfl
  | cons k r =>
    show (if k.getD 0 0 < 0 then _ else _) = _ ∨ ∃ a, (if k.getD 0 0 < 0 then Value.ref _ else _) = _
    split
    · exact .inr ⟨_, rfl⟩
    · exact .inl rfl

def NewTo (g : Heap) (vs : List Value) : Prop := ∀ v ∈ vs, ∃ a, v = .ref a ∧ g.get? a = none
theorem IntLists.ledger {h g : Heap} {vs : List Value} {iss : List (List Int)} (x : IntLists h vs iss) (n : NewTo g vs) :
    ∃ news' : List (Addr × Obj), (∀ q ∈ news', h.get? q.1 = some q.2 ∧ g.get? q.1 = none) ∧ ∀ h' : Heap, (∀ q ∈ news', h'.get? q.1 = some q.2) → IntLists h' vs iss := by
  induction x with
  | nil => exact ⟨[], (fun _ h => nomatch h), fun _ _ => .nil⟩
  | @cons l xs k is vs' iss' a b _ ih =>
    obtain ⟨news', h1, h2⟩ := ih fun v hv => n v (.tail _ hv)
    obtain ⟨q, e, hq⟩ := n _ (.head _)
    cases e
    refine ⟨(l, W.listOf xs.toArray k) :: news', fun q hq' => ?_, fun h' hh => .cons (hh _ (.head _)) b (h2 h' fun q hq' => hh q (.tail _ hq'))⟩
    rcases List.mem_cons.mp hq' with rfl | hq'
    · exact ⟨a, hq⟩
    · exact h1 q hq'
theorem NewTo.snoc {g : Heap} {a : Addr} {vs : List Value} (o : NewTo g vs) (h : g.get? a = none) : NewTo g (vs ++ [.ref a]) := fun v hv => by
  rcases List.mem_append.mp hv with hv | hv
  · exact o v hv
  · rw [List.mem_singleton.mp hv]; exact ⟨a, rfl, h⟩
theorem lay_A1 : True := by
  k_with_none
  w_top off
  k_with "m_look" => first | with_reducible assumption | exact rfl | exact upd_eq | (refine upd_ne ?_ (by decide); walk_at "m_look")
  k_with "eval Name" => (k_here; (with_reducible rename Fr _ _ _ _ => kFZz); with_unfolding_all refine guard_global (by rfl) ?_; k_dflt (refine' name_B kFZz ?k1 ?k2 ?k3 ?k4 ?k5 ?_; (case k1 => k_asm); (case k2 => k_asm); (case k3 => exact rfl); (case k4 => boot_fast); (case k5 => decide); k_whole))
  k_with "eval Name" => (k_here; (with_reducible rename Fr _ _ _ _ => kFZz); with_unfolding_all refine guard_global (by rfl) ?_; k_dflt (refine' name_K kFZz ?k1 ?k2 ?k3 ?_; (case k1 => k_asm); (case k2 => k_asm); (case k3 => exact rfl); k_whole))
  k_with "callWith ref" => (k_here; k_dflt (first
      | refine' callWith_K ?k1 ?k2 ?_; (case k1 => k_asm); (case k2 => exact rfl); k_whole
      | refine' callWith_K0 ?k1 ?k2 ?_; (case k1 => k_in); (case k2 => exact rfl); k_whole))
  k_with "eval Name" => (k_here; k_dflt (refine' ld ?k1 ?k2 ?_; (case k1 => k_asm); (case k2 => walk_at "m_look"); k_whole))
  k_with "subscriptTail" => (k_here; (with_reducible show wpAny _ _ (subscriptTail _ _ (Value.ref _) (Value.int _ _)) _ _ _); k_dflt (refine' item_get ?k1 ?k2 ?k3 ?k4 ?_; (case k1 => exact News.isList (by k_asm) (by k_mem)); (case k2 => omega); (case k3 => omega); (case k4 => omega); k_whole))
  k_with "setItem ref int" => (k_here; k_dflt (refine' item_set ?k1 ?k2 ?k3 ?k4 ?k5 ?k6 ?_; (case k1 => k_asm); (case k2 => k_asm); (case k3 => k_upd); (case k4 => omega); (case k5 => omega); (case k6 => omega); k_whole); intro hZz FZz NZz; (try k_sweep))
  k_with "binaryOp RShift int int" => (k_here; k_dflt (refine' wpAny_rshift1_int ?k1 ?_; (case k1 => omega); k_whole))
  k_with "call builtin:len" => (k_here; (with_reducible show wpAny _ _ (call (Value.builtin _) [Value.ref _]) _ _ _); k_dflt (refine' len_L ?k1 ?k2 ?_; (case k1 => exact News.isList (by k_asm) (by k_mem)); (case k2 => ((try simp only [List.length_append, List.length_cons, List.length_nil]); omega)); k_whole))
  k_with "call builtin:list.append" => (k_here; (with_reducible show wpAny _ _ (call (Value.builtin _) [Value.ref _, _]) _ _ _); k_dflt (refine' append_L ?k1 ?k2 ?k3 ?k4 ?_; (case k1 => k_asm); (case k2 => k_asm); (case k3 => k_upd); (case k4 => ((try simp only [List.length_append, List.length_cons, List.length_nil]); omega)); k_whole); intro hZz FZz NZz; (try k_sweep))
  k_with "call builtin:list.pop" => (k_here; (with_reducible show wpAny _ _ (call (Value.builtin _) [Value.ref _]) _ _ _); k_dflt (refine' pop_L ?k1 ?k2 ?k3 ?k4 ?_; (case k1 => k_asm); (case k2 => k_asm); (case k3 => k_upd); (case k4 => omega); k_whole); intro hZz FZz NZz; (try k_sweep))
  k_with "assign Tuple" => (k_here; (with_reducible show wpAny _ _ (assign (Expr.Tuple _ _ _) _ (Value.ref _)) _ _ _); k_dflt (refine' unpackN_ ?F ?N ?T ?k1 ?k2 ?k3 ?_; (case F => k_asm); (case N => k_asm); (case T => first | with_reducible assumption | (refine News.isTup (by k_asm) (by k_mem))); (case k1 => assumption); (case k2 => exact rfl); (case k3 => exact rfl)); intro hZz FZz NZz; (try k_sweep))
  k_with "call type:range" => (k_here; (with_reducible show wpAny _ _ (call _ [Value.int _ _]) _ _ _); k_dflt (refine' range_L ?k1 ?k2 ?_; (case k1 => k_asm); (case k2 => k_asm); k_whole); intro rZz hZz uZz vZz FZz NZz l1Zz; (try k_lt l1Zz); (try k_sweep))
  k_with "call type:reversed" => (k_here; k_dflt (refine' reversed_L ?k1 ?k2 ?k3 ?k4 ?k5 ?_; (case k1 => k_asm); (case k2 => k_asm); (case k3 => k_mem); (case k4 => omega); (case k5 => omega); k_whole); intro iZz hZz FZz NZz l1Zz; (try k_lt l1Zz); (try k_sweep))
  k_with "binaryOp FloorDiv int int" => (k_here; k_dflt (refine' fdiv_pos ?k1 ?k2 ?_; (case k1 => decide); (case k2 => exact PyProof.noPylong_of_log2 (by decide +kernel)); k_whole))
  k_with "binaryOp Mod int int" => (k_here; k_dflt (refine' fmod_pos ?k1 ?_; (case k1 => decide); k_whole))
  k_with "ent inst" => first | exact Fr.keep (by k_asm) _ _ (by assumption) | exact News.get (by k_asm) (by k_mem)
  k_with "setAttr ref" => (k_here; k_dflt (refine' ent_set ?k1 ?k2 ?k3 ?k4 ?k5 ?k6 ?k7 ?_ ?k8; (case k8 => exact rfl); (case k1 => k_asm); (case k2 => k_asm); (case k3 => k_asm); (case k4 => walk_at "ent inst"); (case k5 => k_updF); (case k6 => assumption); (case k7 => exact Nat.le_of_ble_eq_true rfl); k_whole); intro hZz eZz nZz FZz NZz EZz; (try dsimp only at NZz); (try k_sweep))
  k_with "newList" => (k_here; k_dflt (refine' newList_L ?k1 ?k2 ?_ ?k3; (case k1 => k_asm); (case k2 => k_asm); (case k3 => first | exact Nat.le_of_ble_eq_true rfl | omega); k_whole); intro lZz hZz FZz NZz l1Zz l2Zz; (try k_lt l1Zz); (try k_lt2 l2Zz); (try k_sweep))
  k_with "is cells" => first | (with_reducible show wpAny _ _ (eval (Expr.Name _ _) (envOfC _ _ _ _ _)) _ _ _) | (with_reducible show wpAny _ _ (eval (Expr.Name _ _) (envX _ _ _ _ _ _)) _ _ _) | (with_reducible show wpAny _ _ (storeName (envOfC _ _ _ _ _) _ _) _ _ _)
  k_with "eval Name" => (k_here; walk_at "is cells"; k_dflt (first
      | (refine' nameX_L ?F ?v ?_ ?a ?b; (case F => k_asm); (case a => rfl); (case b => rfl); (case v => walk_at "m_look"); k_whole)
      | (refine' nameX_C ?N ?c ?m ?d ?_ ?a ?b; (case a => rfl); (case b => rfl); (case N => k_asm); (case c => rfl); (case m => k_mem); (case d => k_asm); k_whole)
      | (refine' nameX_F ?N ?c ?m ?d ?_ ?a ?b; (case a => rfl); (case b => rfl); (case N => k_asm); (case c => rfl); (case m => k_mem); (case d => k_asm); k_whole)
      | (refine' nameX_K ?F ?X ?T ?e ?_ ?a ?b; (case F => k_asm); (case X => k_asm); (case T => k_asm); (case a => rfl); (case b => rfl); (case e => exact rfl); k_whole)
      | (refine' nameX_B ?F ?X ?T ?e ?v ?n ?_ ?a ?b; (case F => k_asm); (case X => k_asm); (case T => k_asm); (case a => rfl); (case b => rfl); (case e => exact rfl); (case v => boot_fast); (case n => decide); k_whole)))
  k_with "eval Lambda" => (k_here; k_dflt (refine' kla_eval ?d0 ?_; (case d0 => exact rfl)); (first
      | (k_dflt (refine' kla_nest ?F ?N ?T ?C ?cd ?U ?t ?n ?cl ?_; (case F => k_asm); (case N => k_asm); (case T => k_asm); (case cd => exact rfl); (case C => k_asm); (case U => k_updF); (case t => kn_triples); (case n => kn_among); (case cl => exact rfl); k_whole); intro fZz cZz ocZz vsZz tZz ctZz hZz tkZz FZz NZz d1Zz d2Zz l1Zz l2Zz; (try dsimp only at NZz); (try k_lt l1Zz); (try k_lt2 l2Zz))
      | (k_dflt (refine' kla_hit ?F ?N ?T ?C ?cd ?mem ?t ?n ?cl ?_; (case F => k_asm); (case N => k_asm); (case T => k_asm); (case cd => exact rfl); (case C => k_asm); (case mem => k_mem); (case t => kn_triples); (case n => kn_among); (case cl => exact rfl); k_whole); intro fZz ctZz hZz tkZz FZz NZz l1Zz; (try k_lt l1Zz))))
  k_with "is list" => first | exact News.isList (by k_asm) (by k_mem) | exact isList_keep (by k_asm) (by assumption)
  k_with "subscriptTail" => (k_here; (with_reducible show wpAny _ _ (subscriptTail _ _ (Value.ref _) (Value.int _ _)) _ _ _); k_dflt (refine' item_getv ?k1 ?k2 ?k3 ?k4 ?k5 ?_; (case k1 => walk_at "is list"); (case k2 => omega); (case k3 => ((try simp only [List.length_cons, List.length_nil]); omega)); (case k4 => ((try simp only [List.length_cons, List.length_nil]); omega)); (case k5 => first | with_reducible assumption | exact rfl); k_whole))
  k_with "ent at" => first | exact EntAt.keeps (by assumption) (Fr.keep (by k_asm)) | exact ⟨Fr.keep (by k_asm) _ _ (by assumption), _, _, News.get (by k_asm) (by k_mem), by assumption⟩ | exact ⟨News.get (by k_asm) (by k_mem), _, _, News.get (by k_asm) (by k_mem), by assumption⟩
  k_with "getAttr ref" => (k_here; k_dflt (refine' ent_get ?k1 ?k2 ?k3 ?k4 ?_ ?k5 ?k6 ?k7 ?k8 ?k9; (case k5 => exact rfl); (case k6 => exact rfl); (case k7 => exact rfl); (case k8 => exact rfl); (case k9 => exact rfl); (case k1 => exact Frag.In.keeps (by k_asm) (Fr.keep (by k_asm))); (case k2 => walk_at "ent at"); (case k3 => first | assumption | exact rfl); (case k4 => exact rfl); k_whole))
  k_with "subscriptTail" => (k_here; (with_reducible show wpAny _ _ (subscriptTail _ _ (Value.ref _) (Value.str _ _)) _ _ _); k_dflt (refine' reach_item ?k1 ?k2 ?_; (case k1 => first | exact ReachAt.keeps (by assumption) (Fr.keep (by k_asm)) | exact ⟨_, _, Heap.dictOf_iff.mpr ⟨_, News.get (by k_asm) (by k_mem), by assumption⟩⟩); (case k2 => assumption); k_whole); intro _)
  k_with "getMethod ref" => (k_here; k_dflt (refine' ent_meth ?k1 ?k2 ?k3 ?k4 ?_ ?k5 ?k6 ?k7 ?k10 ?k8 ?k9; (case k5 => exact rfl); (case k6 => exact rfl); (case k7 => exact rfl); (case k10 => exact rfl); (case k8 => exact rfl); (case k9 => exact rfl); (case k1 => exact Frag.In.keeps (by k_asm) (Fr.keep (by k_asm))); (case k2 => walk_at "ent at"); (case k3 => first | assumption | exact rfl); (case k4 => exact rfl); k_whole))
  k_with "fn at" => exact ⟨_, _, _, _, Fr.keep (by k_asm) _ _ (by assumption)⟩
  k_with "callWith ref" => (k_here; k_dflt (refine' callWith_F ?k1 ?_; (case k1 => walk_at "fn at"); k_whole))
  k_with "And" => (k_dflt (refine And.intro ?kfn ?_; (case kfn => walk_at "fn at"); (try dsimp only [List.nil_append, List.cons_append])))
  k_with "subscriptTail" => (k_here; (with_reducible show wpAny _ _ (subscriptTail _ _ (Value.ref _) (Value.int _ _)) _ _ _); k_dflt (refine' key_at4 ?k1 ?k2 ?_; (case k1 => exact KeyAt.keeps (by assumption) (Fr.keep (by k_asm))); (case k2 => first | exact .i0 | exact .i1 | exact .i2 | exact .i3); k_whole); intro _)
  k_with "call builtin:abs" => (k_here; k_dflt (refine' abs_L ?_; k_whole); intro _ _)
  k_with "eval Name" => (k_here; (with_reducible show wpAny _ _ (eval (Expr.Name _ _) (compEnvC _ _ _ _)) _ _ _); k_dflt (first
      | (refine' nameY_L ?F ?v ?_ ?a ?b; (case F => k_asm); (case a => rfl); (case b => rfl); (case v => walk_at "m_look"); k_whole)
      | (refine' nameY_C ?F ?N ?c ?m ?d ?_ ?a ?b; (case a => rfl); (case b => rfl); (case F => k_asm); (case N => k_asm); (case c => rfl); (case m => k_mem); (case d => first | k_asm | rfl); k_whole)
      | (refine' nameY_K ?F ?X ?T ?e ?_ ?z ?a ?b; (case F => k_asm); (case X => k_asm); (case T => k_asm); (case z => rfl); (case a => rfl); (case b => rfl); (case e => exact rfl); k_whole)
      | (refine' nameY_B ?F ?X ?T ?e ?v ?n ?_ ?z ?y ?a ?b; (case F => k_asm); (case X => k_asm); (case T => k_asm); (case z => rfl); (case y => rfl); (case a => rfl); (case b => rfl); (case e => exact rfl); (case v => boot_fast); (case n => decide); k_whole)))
  k_with "call type:set cons nil" => (k_here; k_dflt (refine' set_L ?k1 ?k2 ?k3 ?k4 ?_; (case k1 => k_asm); (case k2 => k_asm); (case k3 => first | exact rfl | assumption); (case k4 => assumption); k_whole); intro xZz hZz tkZz oZz FZz NZz l1Zz l2Zz hsZz; (try k_lt l1Zz); (try k_lt2 l2Zz); (try k_sweep))
  k_with "getAttr ref" => (k_here; (with_reducible show wpAny _ _ (getAttr (Value.ref _) (PySem.Str.ofString "__contains__") _) _ _ _); obtain ⟨_, _, hs0Zz⟩ := (by assumption : ∃ S n, PySem.Obj.SetObjOf (intKind _ _) _ S n); k_dflt (refine' set_attr_N ?k1 ?k2 ?k3 ?k4 ?_; (case k1 => k_asm); (case k2 => k_asm); (case k4 => exact hs0Zz); (case k3 => k_mem); k_whole); intro xZz hZz tkZz FZz NZz l1Zz l2Zz; (try k_lt l1Zz); (try k_lt2 l2Zz); (try k_sweep))
  k_with "call type:filter" => (k_here; k_dflt (refine' filter_new ?k1 ?k2 ?k3 ?_; (case k1 => k_asm); (case k2 => k_asm); (case k3 => exact Fr.keep (by k_asm) _ _ (by assumption)); k_whole); intro iZz xZz hZz FZz NZz l1Zz l2Zz l3Zz; (try k_lt l1Zz); (try k_lt2 l2Zz); (try k_lt2 l3Zz))
  k_with "call type:list" => (k_here; k_dflt (refine' list_filter2 ?k1 ?k2 ?k3 ?k4 ?k5 ?_; (case k1 => k_asm); (case k2 => k_asm); (case k3 => first | exact rfl | assumption); (case k4 => assumption); (case k5 => walk_at "apart"); k_whole); intro xZz nZz hZz tkZz FZz NZz l1Zz l2Zz; (try k_lt l1Zz); (try k_lt2 l2Zz); (try k_sweep))
  k_with "apart" => repeat' (first | exact List.forall_mem_nil _ | (refine List.forall_mem_cons.mpr ⟨by k_ne, ?_⟩))
  k_with "binaryOp Add ref ref" => (k_here; k_dflt (refine' add_L ?k1 ?k2 ?k3 ?k4 ?k5 ?_; (case k1 => k_asm); (case k2 => k_asm); (case k3 => walk_at "is list"); (case k4 => walk_at "is list"); (case k5 => ((try simp only [List.length_append, List.length_cons, List.length_nil]); omega)); k_whole); intro xZz hZz FZz NZz l1Zz l2Zz; (try k_lt l1Zz); (try k_lt2 l2Zz); (try k_sweep))
  k_with "getMethod ref" => (k_here; k_dflt (refine' ent_methC ?k1 ?k2 ?k3 ?k4 ?_ ?k5 ?k6 ?k7; (case k1 => k_asm); (case k2 => k_asm); (case k3 => walk_at "ent at"); (case k4 => exact rfl); (case k5 => exact rfl); (case k6 => exact rfl); (case k7 => exact rfl); k_whole))
  k_with "all mem" => repeat' (first | exact List.forall_mem_nil _ | (refine List.forall_mem_cons.mpr ⟨by k_mem, ?_⟩))
  k_with "list obj" => first | exact News.get (by k_asm) (by k_mem) | exact Fr.keep (by k_asm) _ _ (by assumption)
  k_with "compareOp NotEq ref ref" => (k_here; (with_reducible show wpAny _ _ (compareOp CmpOp.NotEq (Value.ref _) (Value.ref _)) _ _ _); k_dflt (refine' ne_empty ?k1 ?k2 ?k3 ?_; (case k1 => walk_at "list obj"); (case k2 => exact News.get (by k_asm) (by k_mem)); (case k3 => (simp only [PySem.Around.deeper_units]; omega)); k_whole); (try simp only [List.isEmpty_cons, List.isEmpty_nil, Bool.not_false, Bool.not_true]))
  k_with "compareOp Eq ref ref" => (k_here; (with_reducible show wpAny _ _ (compareOp CmpOp.Eq (Value.ref _) (Value.ref _)) _ _ _); k_dflt (refine' eq_empty ?k1 ?k2 ?k3 ?_; (case k1 => walk_at "list obj"); (case k2 => exact News.get (by k_asm) (by k_mem)); (case k3 => (simp only [PySem.Around.deeper_units]; omega)); k_whole); (try simp only [List.isEmpty_cons, List.isEmpty_nil, Bool.not_false, Bool.not_true]))
  k_with "no loop" => ((fail_if_success (with_reducible show wpAny _ _ (exec (Stmt.While _ _ _ _) _) _ _ _)); (fail_if_success (with_reducible show wpAny _ _ (exec (Stmt.For _ _ _ _ _) _) _ _ _)); (fail_if_success (with_reducible show wpAny _ _ (call (Value.ref _) _ _) _ _ _)); (fail_if_success (with_reducible show wpAny _ _ (pyIter _) _ _ _)); (fail_if_success (with_reducible show wpAny _ _ (eval (Expr.ListComp _ _ _ _) _) _ _ _)); (fail_if_success (with_reducible show wpAny _ _ (exec (Stmt.Assign [Expr.Name _ _] (Expr.ListComp _ _ _ _) _) _) _ _ _)))
  k_with "go" => repeat' (first | (walk_at "no loop"; walk1; try dsimp only) | (walk_at "no loop"; dsimp only; walk1))
  exact True.intro
theorem agrees_code {prog : Program} {w : World} {p : Program} {loose : List Str} {mg mb : Str → Option Value} {A : Around} {R : Result → Shared → Prop} {s : Shared} {ra ha hd ru c' e0 e1 e2 d0 d1 d2 u0 u1 u2 l0 l1 l2 h0 h1 h2 ht : Addr} {vs0 vs1 vs2 hv0 hv1 hv2 hvt hds us : List Value}
  {rs0 rs1 rs2 rules : List RD} {ks0 ks1 ks2 kst : List (List Int)} {n0 n1 n2 n3 : Nat} {name : Str} {t : Tok}
  (X : (KK w).In s.heap) (T : TopRead p loose mg mb s.heap) (hroom : A.depth < 800) (hu : A.units < 100) (hh : A.handled = none) (z0 : vs0.length ≤ 60) (z1 : vs1.length ≤ 60) (z2 : vs2.length ≤ 60)
  (hra : s.heap.get? ra = some (W.listOf [Value.ref e0, .ref e1, .ref e2].toArray n0)) (r0 : RecAt prog w s.heap c' e0 d0 u0 l0 vs0 rs0) (r1 : RecAt prog w s.heap c' e1 d1 u1 l1 vs1 rs1) (r2 : RecAt prog w s.heap c' e2 d2 u2 l2 vs2 rs2)
  (hha : s.heap.get? ha = some (W.listOf [Value.ref h0, .ref h1, .ref h2].toArray n1)) (p0 : HeapAt s.heap h0 hv0 ks0) (p1 : HeapAt s.heap h1 hv1 ks1) (p2 : HeapAt s.heap h2 hv2 ks2)
  (hhd : s.heap.get? hd = some (W.listOf hds.toArray n2)) (hdl : hds.length ≤ 10) (htop : (hds = [] ∧ kst = []) ∨ (∃ r, hds = .ref ht :: r) ∧ HeapAt s.heap ht hvt kst)
  (hru : s.heap.get? ru = some (W.listOf us.toArray n3)) (hrr : RulesAt prog w s.heap c' us rules) (hul : us.length ≤ 60) (hcd : s.heap.CodeRec (.ref c') "_law_come.<locals>.<lambda>")
  (hname : name = Str.ofString "" ∨ name = Str.ofString "/A%41")
  (hin : ∀ ks ∈ [ks0, ks1, ks2, kst], ∀ k ∈ ks, (k.getD 3 0).natAbs < rules.length)
  (q0 : curVal (curOf name rs0) = dueOf rules ks0) (q1 : curVal (curOf name rs1) = dueOf rules ks1) (q2 : curVal (curOf name rs2) = dueOf rules ks2) (qt : curVal (curOf name (rs0 ++ rs1 ++ rs2)) = dueOf rules kst)
  (s0 : (idxs rs0).Pairwise (· < ·) ∧ (idxs rs0).Perm (serials ks0)) (s1 : (idxs rs1).Pairwise (· < ·) ∧ (idxs rs1).Perm (serials ks1)) (s2 : (idxs rs2).Pairwise (· < ·) ∧ (idxs rs2).Perm (serials ks2))
  (post : ∀ h' tk, Keeps [] s.heap h' → R (.ok (.ret (.bool true))) { s with heap := h', toks := tk }) :
  codeAny (model prog w) A (.call (.ref 134) ⟨[.ref ra, .ref ha, .ref hd, .ref ru, .str name t], []⟩) R s := by
  obtain ⟨g, hg⟩ : ∃ g, g = hideAll s.heap [] := ⟨_, rfl⟩
  have hg' : s.heap = g := hg.symm
  rw [hg'] at X T hra r0 r1 r2 hha p0 p1 p2 hhd htop hru hrr hcd
  refine enterC (news := []) (K := KK w) hg X T (fun _ h => nomatch h) rfl rfl (Nat.lt_of_lt_of_le hroom (by decide)) (BindsTo.of_eq rfl) rfl (by decide +kernel) ?_
  intro L h₁ tk cells F N Y lt0
  k_cells Y
  simp only [List.cons_append, List.nil_append, List.append_nil] at N
  try dsimp only
  have i0 : [Value.ref e0, .ref e1, .ref e2].getD (Int.toNat 0) Value.none = .ref e0 := rfl
  have i1 : [Value.ref e0, .ref e1, .ref e2].getD (Int.toNat 1) Value.none = .ref e1 := rfl
  have i2 : [Value.ref e0, .ref e1, .ref e2].getD (Int.toNat 2) Value.none = .ref e2 := rfl
  walk_at "go"
  (rename Fr _ _ _ _ => F2); (rename News _ _ _ _ => N2)
  obtain ⟨a0, b0⟩ := r0.ua
  obtain ⟨a1, b1⟩ := r1.ua
  obtain ⟨a2, b2⟩ := r2.ua
  obtain ⟨o0, x0⟩ := r0.ls
  obtain ⟨o1, x1⟩ := r1.ls
  obtain ⟨o2, x2⟩ := r2.ls
  refine merge_in F2 N2 X T (dpt (a := A.depth) hroom (by decide)) (unt (a := A.units) hu (by decide)) (by exact hh) (r0.ent.keeps F2.keep) (r1.ent.keeps F2.keep) (F2.keep _ _ b0) (F2.keep _ _ b1) (F2.keep _ _ x0) (F2.keep _ _ x1) (by (first | lia | omega)) (by (first | lia | omega)) ?_
  intro e3 d3 u3 l3 es3 k3 n3 m3 h3 tk3 F3 N3 E3 ne3 o31 o32 o33
  clear F2 N2
  walk_at "go"
  (rename Fr _ _ _ _ => F2); (rename News _ _ _ _ => N2)
  refine merge_in F2 N2 X T (dpt (a := A.depth) hroom (by decide)) (unt (a := A.units) hu (by decide)) (by exact hh) ⟨N2.get (by k_mem), _, _, N2.get (by k_mem), E3⟩ (r2.ent.keeps F2.keep) (N2.get (.tail _ (.head _))) (F2.keep _ _ b2) (N2.get (.head _)) (F2.keep _ _ x2) (by rw [List.length_append]; (first | lia | omega)) (by (first | lia | omega)) ?_
  intro e4 d4 u4 l4 es4 k4 n4 m4 h4 tk4 F4 N4 E4 ne4 o41 o42 o43
  have o41 := ltN o41
  have o42 := ltN o42
  have o43 := ltN o43
  clear F2 N2
  walk_at "go"
  (rename Fr _ _ _ _ => F5); (rename News _ _ _ _ => N5)
  refine wpAny_Assign_Name ?_ (by exact rfl)
  refine comp_list hh (by exact rfl) (by decide) rfl (by decide) rfl ?_
  walk_at "go"
  (rename Fr _ _ _ _ => F6); (rename News _ _ _ _ => N6)

  have rw6 := RecAt.mk (prog := prog) (c' := c') ⟨N6.get (by k_mem), _, _, N6.get (by k_mem), E4⟩ ⟨_, N6.get (a := u4) (by k_mem)⟩ ⟨_, N6.get (a := l4) (by k_mem)⟩ (((r0.rules.append r1.rules).append r2.rules).keeps F6.keep) (by rw [List.length_append, List.length_append]; (first | lia | omega))
  have X6 := X.keeps F6.keep
  have T6 := T.keeps F6.keep
  have c6 := hcd.keeps F6.keep
  obtain ⟨tv, htv⟩ : ∃ tv, tv = [curVal (curOf name rs0), curVal (curOf name rs1), curVal (curOf name rs2), curVal (curOf name (rs0 ++ rs1 ++ rs2))] := ⟨_, rfl⟩
  have hrec : ∀ i, i < 4 → ∃ e d u l vs rs, ([Value.ref e0, .ref e1, .ref e2] ++ [Value.ref e4]).getD i .none = .ref e ∧ RecAt prog w (heapOf F6) c' e d u l vs rs ∧ tv[i]? = some (curVal (curOf name rs)) := by
    intro i hi
    rw [htv]
    match i, hi with
    | 0, _ => exact ⟨_, _, _, _, _, _, rfl, r0.keeps F6.keep, rfl⟩
    | 1, _ => exact ⟨_, _, _, _, _, _, rfl, r1.keeps F6.keep, rfl⟩
    | 2, _ => exact ⟨_, _, _, _, _, _, rfl, r2.keeps F6.keep, rfl⟩
    | 3, _ => exact ⟨_, _, _, _, _, _, rfl, rw6, rfl⟩
  dsimp only [heapOf] at hrec
  refine ⟨_, _, fun i ys _ => ys = tv.take i, rfl, N6.isList (by k_mem), by simp, fun _ _ _ _ h _ => h, rfl, ?_, ?_, ?_⟩
  · rintro i ys _ rfl
    rw [htv, List.length_take]
    exact Nat.le_trans (Nat.min_le_right _ _) (by simp)
  · rintro C D I i ys s₃ m3 E' hC hI hi F7 hm3 sub3 lt3 - rfl
    obtain ⟨e, d, u, l, vs, rs, he, hr, hv⟩ := hrec i (by simpa using hi)
    rw [he] at hm3
    have hent := hr.ent
    refine wpAny_tests_nil ⟨_, _, rfl, .of_sub (sub_refl _), ?_⟩
    rw [if_pos rfl]
    k_fold
    clear X T
    walk_at "go"
    obtain ⟨n7, g7⟩ := hr.ls
    have z7 := hr.len
    refine wpAny_call (allow_code (X6.keeps F7.keep) (T6.keeps F7.keep) (dpt (a := A.depth) hroom (by decide)) (unt (a := A.units) hu (by decide)) (by exact hh) (hr.ent.keeps F7.keep) rfl (F7.keep _ _ g7) (hr.rules.keeps F7.keep) (c6.keeps F7.keep) (by (first | lia | omega)) hname ?_)
    intro h8 tk8 k8
    try k_unfold
    refine ⟨_, _, rfl, .of_sub fun b o e => k8 b o (fun h => nomatch h) e, ?_⟩
    show _ = tv.take (i + 1)
    rw [List.take_add_one, hv]; rfl
  · rintro D h7 tk7 ys n7 hD hd7 sub7 rfl
    have F7 := fr_sub F6 sub7
    obtain ⟨N7, l7, l7'⟩ := news_new F6 N6 sub7 hd7 hD
    clear F6 N6
    rw [List.take_of_length_le (by rw [htv]; simp)] at N7
    have N8 := news_of (news' := [(D, W.listOf tv.toArray n7), (l4, _), (e4, _), (d4, _), (L + 1 + 1 + 1, _), (L + 1 + 1, _), (L + 1, _)]) N7 (by walk_at "all mem")
    have y1 := neN (a := L + 1 + 1 + 1) (b := l4) (ne4 (_, _) (by k_mem) _ (by simp))
    have y2 := neN (a := L + 1 + 1 + 1) (b := e4) (ne4 (_, _) (by k_mem) _ (by simp))
    have y3 := neN (a := L + 1 + 1 + 1) (b := d4) (ne4 (_, _) (by k_mem) _ (by simp))
    have y4 := neN (a := L + 1 + 1) (b := l4) (ne4 (_, _) (by k_mem) _ (by simp))
    have y5 := neN (a := L + 1 + 1) (b := e4) (ne4 (_, _) (by k_mem) _ (by simp))
    have y6 := neN (a := L + 1 + 1) (b := d4) (ne4 (_, _) (by k_mem) _ (by simp))
    have y7 := neN (a := L + 1) (b := l4) (ne4 (_, _) (by k_mem) _ (by simp))
    have y8 := neN (a := L + 1) (b := e4) (ne4 (_, _) (by k_mem) _ (by simp))
    have y9 := neN (a := L + 1) (b := d4) (ne4 (_, _) (by k_mem) _ (by simp))
    clear N7 X6 T6 c6 hrec rw6
    k_lt l7
    walk_at "go"
    (rename Fr _ _ _ _ => F9); (rename News _ _ _ _ => N9)
    refine entry_new (p := p) (loose := loose) (mg := mg) (mb := mb) F9 N9 X T (dpt (a := A.depth) hroom (by decide)) ?_
    intro x10 d10 u10 l10 es10 n10 h10 tk10 F10 N10 E10 l101 l102 l103 l104 l105
    have l106 := ent_lt l101 l102
    have l107 := ent_lt l106 l103
    have l108 := ent_lt l107 l104
    k_lt l101
    clear F9 N9
    walk_at "go"
    refine wpAny_For ?_ (by intro _; rfl)
    walk_at "go"
    (rename Fr _ _ _ _ => F11); (rename News _ _ _ _ => N11)
    refine slice_top (s := ⟨heapOf F11, s.gens, s.drawn, _, s.os⟩) F11 N11 hdl htop ?kh ?ks ?kt
    case ks => with_unfolding_all rfl
    case kt => intro _; with_unfolding_all rfl
    intro D12 top lz h12 elz F12 N12 l12 l12' P12
    subst elz
    dsimp only [heapOf]
    k_lt l12
    clear F11 N11
    walk_at "go"
    (rename Fr _ _ _ _ => F13); (rename News _ _ _ _ => N13)
    rename Addr => d13
    rename (_ = Data.cell (some (Value.str _ _))) => cn0
    obtain ⟨od, dl, ot, on', cd, ct, cn, ⟨y14, y15, y16, y17, y18, y19⟩, N14⟩ : ∃ (od : Obj) (dl : Addr) (ot on' : Obj), od.data = Data.cell (some (.ref dl)) ∧ ot.data = Data.cell (some (.ref D)) ∧ on'.data = Data.cell (some (.str name t)) ∧
        (dl ≠ d13 ∧ dl ≠ lz ∧ dl ≠ D ∧ dl ≠ L + 1 + 1 + 1 ∧ dl ≠ L + 1 + 1 ∧ dl ≠ L + 1) ∧ News g L (heapOf F13) [(d13, W.listOf ([Value.ref h0, .ref h1, .ref h2] ++ [Value.ref top]).toArray 0), (lz, W.listOf ([] : List Value).toArray 0), (dl, W.listOf ([] : List Value).toArray 0), (D, W.listOf tv.toArray n7), (L + 1 + 1 + 1, od), (L + 1 + 1, ot), (L + 1, on')] :=
      ⟨_, _, _, _, by with_reducible assumption, by with_reducible assumption, cn0, ⟨by k_ne, by k_ne, by k_ne, by k_ne, by k_ne, by k_ne⟩, news_of N13 (by walk_at "all mem")⟩
    dsimp only [heapOf] at N14
    clear N13
    have htv2 : tv = [dueOf rules ks0, dueOf rules ks1, dueOf rules ks2, dueOf rules kst] := by rw [htv, q0, q1, q2, qt]
    have hheap : ∀ i, i < 4 → ∃ a hvs ks, ([Value.ref h0, .ref h1, .ref h2] ++ [Value.ref top]).getD i .none = .ref a ∧ (HeapAt g a hvs ks ∨ (a = lz ∧ ks = [])) ∧ ks ∈ [ks0, ks1, ks2, kst] ∧ tv[i]? = some (dueOf rules ks) := by
      intro i hi
      rw [htv2]
      match i, hi with
      | 0, _ => exact ⟨_, _, _, rfl, .inl p0, by simp, rfl⟩
      | 1, _ => exact ⟨_, _, _, rfl, .inl p1, by simp, rfl⟩
      | 2, _ => exact ⟨_, _, _, rfl, .inl p2, by simp, rfl⟩
      | 3, _ =>
        rcases P12 with ⟨e1, e2⟩ | hp
        · exact ⟨_, [], _, rfl, .inr ⟨e1, e2⟩, by simp, rfl⟩
        · exact ⟨_, _, _, rfl, .inl hp, by simp, rfl⟩
    refine for_listX (fun it i m news => ∃ k, news = [(d13, W.listOf ([Value.ref h0, .ref h1, .ref h2] ++ [Value.ref top]).toArray 0), (lz, W.listOf ([] : List Value).toArray 0), (dl, W.listOf (tv.take i).toArray k), (D, W.listOf tv.toArray n7), (L + 1 + 1 + 1, od), (L + 1 + 1, ot), (L + 1, on')] ∧ m (Str.ofString "rules") = some (.ref ru) ∧ m (Str.ofString "records") = some (.ref ra) ∧ m (Str.ofString "heaps") = some (.ref ha))
      (N14.isList (.head _)) hh F13 N14 ?_ ?_ ?_ ?_
    · intro it _ _
      exact ⟨_, rfl, by walk_at "m_look", by walk_at "m_look", by walk_at "m_look"⟩
    · rintro it i m₁ news₁ h₁ hi F15 N15 ⟨k, rfl, -⟩
      exact N15.isList (.head _)
    · rintro it i m3 news3 h3 tk3 t3 oi hi F15 N15 ne15 hJ9
      k_fold
      obtain ⟨k, rfl, mr, mrec, mhp⟩ := hJ9
      clear F13 N14
      obtain ⟨a, hvs, ks, ea, hat, hks, hti⟩ := hheap i (by simpa using hi)
      dsimp only at F15
      rw [ea] at F15
      have hst : tv.take (i + 1) = tv.take i ++ [dueOf rules ks] := by rw [List.take_add_one, hti]; rfl
      have hlt : (tv.take i).length ≤ 4 := by rw [htv2, List.length_take]; exact Nat.le_trans (Nat.min_le_right _ _) (by simp)
      have i15 := neN (a := dl) (b := it) (ne15 (dl, _) (by k_mem))
      rcases hat with hp | ⟨rfl, rfl⟩
      · obtain ⟨kn, g15⟩ := hp.ls
        have hk := hp.keys
        have hlen := hp.len
        cases hk with
        | nil =>
          walk_at "go"
          (rename Fr _ _ _ _ => F9); (rename News _ _ _ _ => N9)
          have N9' := news_of (news' := (it, oi) :: [(d13, W.listOf ([Value.ref h0, .ref h1, .ref h2] ++ [Value.ref top]).toArray 0), (lz, W.listOf ([] : List Value).toArray 0), (dl, W.listOf (tv.take (i + 1)).toArray (k + 1)), (D, W.listOf tv.toArray n7), (L + 1 + 1 + 1, od), (L + 1 + 1, ot), (L + 1, on')]) N9 (by rw [hst, show dueOf rules [] = .bool true from rfl]; walk_at "all mem")
          try k_unfold
          exact ⟨_, _, _, _, rfl, F9, N9', ne_map ne15 rfl, _, rfl, by walk_at "m_look", by walk_at "m_look", by walk_at "m_look"⟩
        | @cons v k' vs' ks' hk1 hk2 =>
          obtain ⟨k0, k1, k2, k3, rfl⟩ := hp.four _ (.head _)
          obtain ⟨ka, oa, va, na, rfl, _⟩ := id hk1
          have hin' : k3.natAbs < rules.length := hin _ hks _ (.head _)
          obtain ⟨rx, rdx, rux, rlx, rf, rc, rrd, rti, rt3, rpm, rctv, roc, rP, rB, rS, re1, re2, _⟩ := hrr.get hin'
          have re1' : us.getD ((k3.natAbs : Int)).toNat .none = .ref rx := re1
          have hul2 := hrr.length
          have hi0 : (Value.ref ka :: vs').getD (Int.toNat 0) Value.none = .ref ka := rfl
          have hlen' : vs'.length + 1 ≤ 60 := hlen
          by_cases hneg : k0 < 0
          · have hdue : dueOf rules ([k0, k1, k2, k3] :: ks') = .ref rules[k3.natAbs].al := by
              show (if k0 < 0 then Value.ref ((rules.map (·.al)).getD k3.natAbs 0) else _) = _
              rw [if_pos hneg, List.getD_eq_getElem?_getD, List.getElem?_map, List.getElem?_eq_getElem hin']; rfl
            walk_at "go"
            (rename Fr _ _ _ _ => F9); (rename News _ _ _ _ => N9)
            have N9' := news_of (news' := (it, oi) :: [(d13, W.listOf ([Value.ref h0, .ref h1, .ref h2] ++ [Value.ref top]).toArray 0), (lz, W.listOf ([] : List Value).toArray 0), (dl, W.listOf (tv.take (i + 1)).toArray (k + 1)), (D, W.listOf tv.toArray n7), (L + 1 + 1 + 1, od), (L + 1 + 1, ot), (L + 1, on')]) N9 (by rw [hst, hdue]; walk_at "all mem")
            try k_unfold
            exact ⟨_, _, _, _, rfl, F9, N9', ne_map ne15 rfl, _, rfl, by walk_at "m_look", by walk_at "m_look", by walk_at "m_look"⟩

          · have hdue : dueOf rules ([k0, k1, k2, k3] :: ks') = .bool true := by
              show (if k0 < 0 then Value.ref ((rules.map (·.al)).getD k3.natAbs 0) else _) = _
              rw [if_neg hneg]
            walk_at "go"
            (rename Fr _ _ _ _ => F9); (rename News _ _ _ _ => N9)
            have N9' := news_of (news' := (it, oi) :: [(d13, W.listOf ([Value.ref h0, .ref h1, .ref h2] ++ [Value.ref top]).toArray 0), (lz, W.listOf ([] : List Value).toArray 0), (dl, W.listOf (tv.take (i + 1)).toArray (k + 1)), (D, W.listOf tv.toArray n7), (L + 1 + 1 + 1, od), (L + 1 + 1, ot), (L + 1, on')]) N9 (by rw [hst, hdue]; walk_at "all mem")
            try k_unfold
            exact ⟨_, _, _, _, rfl, F9, N9', ne_map ne15 rfl, _, rfl, by walk_at "m_look", by walk_at "m_look", by walk_at "m_look"⟩

      · walk_at "go"
        (rename Fr _ _ _ _ => F9); (rename News _ _ _ _ => N9)
        have N9' := news_of (news' := (it, oi) :: [(d13, W.listOf ([Value.ref h0, .ref h1, .ref h2] ++ [Value.ref top]).toArray 0), (a, W.listOf ([] : List Value).toArray 0), (dl, W.listOf (tv.take (i + 1)).toArray (k + 1)), (D, W.listOf tv.toArray n7), (L + 1 + 1 + 1, od), (L + 1 + 1, ot), (L + 1, on')]) N9 (by rw [hst, show dueOf rules [] = .bool true from rfl]; walk_at "all mem")
        try k_unfold
        exact ⟨_, _, _, _, rfl, F9, N9', ne_map ne15 rfl, _, rfl, by walk_at "m_look", by walk_at "m_look", by walk_at "m_look"⟩

    · rintro it m3 news3 h3 tk3 F15 N15 ⟨k, rfl, mr, mrec, mhp⟩
      rw [show tv.take ([Value.ref h0, Value.ref h1, Value.ref h2] ++ [Value.ref top]).length = tv by rw [htv]; rfl] at N15
      have N16 := news_of (news' := [(dl, W.listOf tv.toArray k), (D, W.listOf tv.toArray n7), (L + 1 + 1 + 1, od), (L + 1 + 1, ot), (L + 1, on')]) N15 (by walk_at "all mem")
      clear F13 N14 N15
      dsimp only
      walk_at "go"
      refine comp_bound (by exact hh) (by exact rfl) (by decide) rfl (by decide) rfl (by exact rfl) rfl rfl ?_
      walk_at "go"
      (rename Fr _ _ _ _ => F17); (rename News _ _ _ _ => N17)
      obtain ⟨iss, hiss⟩ : ∃ iss, iss = [idxs rs0, idxs rs1, idxs rs2] := ⟨_, rfl⟩
      have hrec2 : ∀ i, i < 3 → ∃ e d u l vs rs, [Value.ref e0, .ref e1, .ref e2].getD i .none = .ref e ∧ RecAt prog w g c' e d u l vs rs ∧ iss[i]? = some (idxs rs) := by
        intro i hi
        rw [hiss]
        match i, hi with
        | 0, _ => exact ⟨_, _, _, _, _, _, rfl, r0, rfl⟩
        | 1, _ => exact ⟨_, _, _, _, _, _, rfl, r1, rfl⟩
        | 2, _ => exact ⟨_, _, _, _, _, _, rfl, r2, rfl⟩
      have hil : iss.length = 3 := by rw [hiss]; rfl
      refine ⟨ra, _, fun i ys H => IntLists H ys (iss.take i) ∧ OffL L ys, g, L, _, _, rfl, rfl, F17, N17, fun i ys H h => ⟨h.1.hide h.2, h.2⟩, ⟨isList_keep F17 hra, by simp, fun i ys H H' h k => ⟨h.1.keeps k, h.2⟩, ⟨.nil, fun _ h => nomatch h⟩, ?_, ?_, fun _ _ _ _ _ _ _ _ _ => trivial⟩, ?_⟩
      · rintro i ys H ⟨h, _⟩
        rw [h.length, List.length_take, hil]; (first | lia | omega)
      · rintro C D2 I i ys s₃ m4 E' hC hI hi F18 hm18 sub18 lt18 - ⟨hJ1, hJ2⟩
        obtain ⟨e, d, u, l, vs, rs, he, hr, hv⟩ := hrec2 i (by simpa using hi)
        rw [he] at hm18
        refine wpAny_tests_nil ⟨_, _, rfl, .of_sub (sub_refl _), ?_⟩
        rw [if_pos rfl]
        k_fold
        have hent := hr.ent.keeps F17.keep
        have X3 := X.keeps F17.keep
        have T3 := T.keeps F17.keep
        clear X T
        refine comp_list (by exact hh) (by exact rfl) (by decide) rfl (by decide) rfl ?_
        walk_at "go"
        obtain ⟨nl, gl⟩ := hr.ls
        have hzl := hr.len
        have hrl := hr.rules.length
        refine ⟨l, vs, fun j zs _ => IntsAre zs ((idxs rs).take j), rfl, ⟨_, F18.keep _ _ (F17.keep _ _ gl), rfl, _, rfl⟩, by (first | lia | omega), fun _ _ _ _ h _ => h, .nil, ?_, ?_, ?_⟩
        · intro j zs _ h
          rw [h.length, List.length_take, idxs_length]; (first | lia | omega)
        · rintro C2 D3 I2 j zs s₄ m5 E2 hC2 hI2 hj F19 hm19 sub19 lt19 - hJ
          obtain ⟨rx, rdx, rux, rlx, rf, rc, rrd, rti, rt3, rpm, rctv, roc, rP, rB, rS, re1, re2, _⟩ := hr.rules.get (i := j) (by (first | lia | omega))
          rw [re1] at hm19
          refine wpAny_tests_nil ⟨_, _, rfl, .of_sub (sub_refl _), ?_⟩
          rw [if_pos rfl]
          k_fold
          have X4 := X3.keeps F18.keep
          have re3 := (re2.keeps F17.keep).keeps F18.keep
          clear X3 hent
          walk_at "go"
          try k_unfold
          refine ⟨_, _, rfl, .of_sub (sub_refl _), ?_⟩
          show IntsAre _ ((idxs rs).take (j + 1))
          rw [take_succ_get (idxs_get (by (first | lia | omega)))]
          exact IntsAre.snoc' hJ
        · rintro D3 h5 tk5 zs n5 hD5 hd5 sub5 hJ
          rw [List.take_of_length_le (by rw [idxs_length]; (first | lia | omega))] at hJ
          have nin : D3 ∉ [C, D2, I] := fun q => Nat.lt_irrefl _ (Nat.lt_of_lt_of_le (lt18 _ q) hD5)
          have nL : D3 ≠ L := fun q => Nat.lt_irrefl _ (Nat.lt_of_lt_of_le (Nat.lt_trans (Nat.lt_of_lt_of_le F17.ns.lt hC) (lt18 C (.head _))) (q ▸ hD5))
          try k_unfold
          refine ⟨_, _, rfl, .of_sub sub5, ?_, hJ2.snoc nL⟩
          rw [take_succ_get hv]
          refine IntLists.snoc (hJ1.keeps fun b o e => ?_) (hideAll_get _ hd5 nin) hJ
          have nb : b ∉ [C, D2, I] := fun q => by rw [hideAll_none _ q] at e; cases e
          exact hideAll_get _ (sub5 _ _ (of_hideAll _ e)) nb
      · rintro D4 h6 tk6 ys n6 hD6 F20 N20 ⟨hJ, _⟩
        have hL6 := hJ.keeps fun b o e => of_hideAll _ e
        rw [List.take_of_length_le (by rw [hil]; simp)] at hL6
        walk_at "go"
        have hheap2 : ∀ i, i < 3 → ∃ a hvs ks is, [Value.ref h0, .ref h1, .ref h2].getD i .none = .ref a ∧ HeapAt g a hvs ks ∧ iss[i]? = some is ∧ is.Pairwise (· < ·) ∧ is.Perm (serials ks) := by
          intro i hi
          rw [hiss]
          match i, hi with
          | 0, _ => exact ⟨_, _, _, _, rfl, p0, rfl, s0.1, s0.2⟩
          | 1, _ => exact ⟨_, _, _, _, rfl, p1, rfl, s1.1, s1.2⟩
          | 2, _ => exact ⟨_, _, _, _, rfl, p2, rfl, s2.1, s2.2⟩
        refine comp_list (by exact hh) (by exact rfl) (by decide) rfl (by decide) rfl ?_
        walk_at "go"
        (rename Fr _ _ _ _ => F21); (rename News _ _ _ _ => N21)
        refine ⟨ha, _, fun i ys H => IntLists H ys (iss.take i) ∧ NewTo (heapOf F21) ys, rfl, isList_keep F21 hha, by simp, fun i ys H H' h k => ⟨h.1.keeps k, h.2⟩, ⟨.nil, fun _ h => nomatch h⟩, ?_, ?_, ?_⟩
        · rintro i ys H ⟨h, _⟩
          rw [h.length, List.length_take, hil]; (first | lia | omega)
        · rintro C D2 I i zs s₃ m4 E' hC hI hi F22 hm22 sub22 lt22 ⟨oD, oI, N22⟩ ⟨hJ1, hJ2⟩
          obtain ⟨a, hvs, ks, is, ea, hp, hv, hs1, hs2⟩ := hheap2 i (by simpa using hi)
          rw [ea] at hm22
          refine wpAny_tests_nil ⟨_, _, rfl, .of_sub (sub_refl _), ?_⟩
          rw [if_pos rfl]
          k_fold
          have X3 := X.keeps F21.keep
          have T3 := T.keeps F21.keep
          clear X T
          walk_at "go"
          refine comp_list (by exact hh) (by exact rfl) (by decide) rfl (by decide) rfl ?_
          walk_at "go"
          obtain ⟨na, ga⟩ := hp.ls
          have hzl := hp.len
          have hkl := hp.keys.length
          refine ⟨a, hvs, fun j zs _ => IntsAre zs ((serials ks).take j), rfl, ⟨_, F22.keep _ _ (F21.keep _ _ ga), rfl, _, rfl⟩, by (first | lia | omega), fun _ _ _ _ h _ => h, .nil, ?_, ?_, ?_⟩
          · intro j zs _ h
            rw [h.length, List.length_take, serials_length]; (first | lia | omega)
          · rintro C2 D3 I2 j zs s₄ m5 E2 hC2 hI2 hj F23 hm23 sub23 lt23 - hJ
            have hk := hp.keys.get (i := j) hj (by (first | lia | omega))
            obtain ⟨k0, k1, k2, k3, ek⟩ := hp.four _ (List.getElem_mem (by (first | lia | omega) : j < ks.length))
            rw [ek] at hk
            have hvj : hvs.getD j .none = hvs[j] := by rw [List.getD_eq_getElem?_getD, List.getElem?_eq_getElem hj]; rfl
            rw [hvj] at hm23
            obtain ⟨ka, _, _, _, eka, _⟩ := id hk
            rw [eka] at hk hm23
            have hk23 := (hk.keeps F21.keep).keeps F22.keep
            have hsg := serials_get (ks := ks) (j := j) (by (first | lia | omega))
            rw [ek] at hsg
            clear hk
            refine wpAny_tests_nil ⟨_, _, rfl, .of_sub (sub_refl _), ?_⟩
            rw [if_pos rfl]
            k_fold
            have X4 := X3.keeps F22.keep
            have T4 := T3.keeps F22.keep
            clear X3 T3
            walk_at "go"
            try k_unfold
            refine ⟨_, _, rfl, .of_sub (sub_refl _), ?_⟩
            show IntsAre _ ((serials ks).take (j + 1))
            rw [take_succ_get hsg]
            exact IntsAre.snoc' hJ
          · rintro D3 h5 tk5 zs2 n5 hD5 hd5 sub5 hJ
            rw [List.take_of_length_le (by rw [serials_length]; (first | lia | omega))] at hJ
            have F24 := fr_sub F22 sub5
            obtain ⟨nz, nz1, nz2⟩ := hJ1.ledger hJ2
            have N23 : News _ C s₃.heap ((D2, oD) :: (I, oI) :: nz) := fun q hq => by
              rcases List.mem_cons.mp hq with rfl | hq
              · exact N22 _ (.head _)
              rcases List.mem_cons.mp hq with rfl | hq
              · exact N22 _ (.tail _ (.head _))
              · have z := nz1 q hq
                refine ⟨of_hideAll _ z.1, fun e => ?_, z.2⟩
                rw [e, hideAll_none _ (.head _)] at z; cases z.1
            obtain ⟨N24, l24, -⟩ := news_new F22 N23 sub5 hd5 hD5
            walk_at "go"
            refine sorted_L F24 N24 ⟨_, hd5, rfl, _, rfl⟩ hJ (by rw [serials_length]; (first | lia | omega)) ?_
            intro D6 vs6 ns6 c6 h8 F8 N8 l8 i8 p8 o8
            have e8 : ns6 = is := sorted_same (p8.trans hs2.symm) o8 hs1
            subst e8
            have lt6 : s₃.heap.objs.size < D6 := Nat.lt_of_le_of_lt hD5 (l8 _ (.head _))
            have nin : D6 ∉ [C, D2, I] := fun q => Nat.lt_irrefl _ (Nat.lt_trans (lt22 _ q) lt6)
            try k_unfold
            refine ⟨_, _, rfl, fun m0 F0 => ⟨⟨_, F8⟩, ?_⟩, ?_, hJ2.snoc (N8 _ (.head _)).2.2⟩
            · rintro b (rfl | rfl) o e
              · have z := (N22 _ (.head _)).1
                rw [z] at e; cases e
                exact (N8 _ (.tail _ (.tail _ (.head _)))).1
              · have z := (N22 _ (.tail _ (.head _))).1
                rw [z] at e; cases e
                exact (N8 _ (.tail _ (.tail _ (.tail _ (.head _))))).1
            · rw [take_succ_get hv]
              refine IntLists.snoc (nz2 _ fun q hq => ?_) (hideAll_get _ (N8 _ (.head _)).1 nin) i8
              have z := (nz1 q hq).1
              have nb : q.1 ∉ [C, D2, I] := fun h => by rw [hideAll_none _ h] at z; cases z
              exact hideAll_get _ (N8 q (.tail _ (.tail _ (.tail _ (.tail _ hq))))).1 nb
        · rintro D5 h7 tk7 ys2 n7 hD7 hd7 sub7 ⟨hJ7, -⟩
          have F25 := fr_sub F21 sub7
          obtain ⟨N25, l25, l25'⟩ := news_new F21 N21 sub7 hd7 hD7
          have hL7 := hL6.keeps sub7
          clear F21 N21
          k_lt l25
          have hL8 := hJ7.keeps fun b o e => of_hideAll _ e
          rw [List.take_of_length_le (by rw [hil]; simp)] at hL8
          refine ll_ne (N25.get (a := D4) (by k_mem)) (N25.get (a := D5) (.head _)) hL7 hL8 (unt (a := A.units) hu (by decide)) ?_
          refine wpAny_truthy_bool ?_
          rw [if_neg (by decide)]
          clear hL7 hL8 hJ7 hL6 hJ
          walk_at "go"
          refine comp_none (by exact hh) (by exact rfl) (by decide) rfl (by decide) rfl ?_
          walk_at "go"
          (rename Fr _ _ _ _ => F26); (rename News _ _ _ _ => N26)
          refine ⟨_, _, _, _, rfl, N26.get (.head _), ?_, ?_⟩
          · intro gb C i s₃ m5 tk E' sub26 hi F27 hm27
            have N27 := news_sub N26 sub26
            have e1 := N27.get (a := D) (by k_mem)
            have e2 := N27.get (a := dl) (by k_mem)
            have htl : tv.length = 4 := by rw [htv2]; rfl
            obtain ⟨v, hv, hvc⟩ : ∃ v, tv.getD ((i : Int)).toNat .none = v ∧ (v = .bool true ∨ ∃ a, v = .ref a) := by
              rw [htv2]
              match i, hi with
              | 0, _ => exact ⟨_, rfl, dueOf_cases _ _⟩
              | 1, _ => exact ⟨_, rfl, dueOf_cases _ _⟩
              | 2, _ => exact ⟨_, rfl, dueOf_cases _ _⟩
              | 3, _ => exact ⟨_, rfl, dueOf_cases _ _⟩
            rcases hvc with rfl | ⟨a, rfl⟩
            · walk_at "go"
              exact ⟨rfl, _, rfl⟩
            · walk_at "go"
              exact ⟨rfl, _, rfl⟩
          · intro D6 h8 tk8 k8 hD6 hd6 sub8
            have F28 := fr_sub F26 sub8
            obtain ⟨N28, l28, l28'⟩ := news_new F26 N26 sub8 hd6 hD6
            clear F26 N26
            k_lt l28
            walk_at "go"
            exact post _ _ (keeps_of hg (by with_reducible assumption))
theorem lay_P1 : True := by
  k_with_none
  w_top off
  exact True.intro
/-- lt is a strict order whose "not less" is total and transitive -/
structure Lin (lt : Value → Value → Bool) : Prop where
  asym : ∀ a b, lt a b = true → lt b a = false
  trans : ∀ a b c, lt b a = false → lt c b = false → lt c a = false

def Child (p c : Nat) : Prop := c = 2 * p + 1 ∨ c = 2 * p + 2
theorem Child.lt {p c : Nat} (h : Child p c) : p < c := by rcases h with rfl | rfl <;> omega
theorem Child.par {p q : Nat} (h : Child p q) : p = (q - 1) / 2 := by rcases h with rfl | rfl <;> omega
theorem Child.up {q : Nat} (h : 0 < q) : Child ((q - 1) / 2) q := by unfold Child; omega
theorem Child.one {p q c : Nat} (h : Child p c) (h' : Child q c) : p = q := h.par.trans h'.par.symm
def HO (lt : Value → Value → Bool) (st : Nat) (vs : List Value) : Prop :=
  ∀ p c, st ≤ p → Child p c → c < vs.length → lt (vs.getD c .none) (vs.getD p .none) = false
def HOx (lt : Value → Value → Bool) (st q : Nat) (vs : List Value) : Prop :=
  ∀ p c, st ≤ p → p ≠ q → c ≠ q → Child p c → c < vs.length → lt (vs.getD c .none) (vs.getD p .none) = false
def HG (lt : Value → Value → Bool) (st q : Nat) (vs : List Value) : Prop :=
  ∀ p c, st ≤ p → Child p q → Child q c → c < vs.length → lt (vs.getD c .none) (vs.getD p .none) = false
inductive Desc (r : Nat) : Nat → Prop
  | self : Desc r r
  | step {p c : Nat} : Desc r p → Child p c → Desc r c
theorem Desc.le {r q : Nat} (h : Desc r q) : r ≤ q := by
  induction h with
  | self => exact Nat.le_refl _
  | step _ hc ih => exact Nat.le_trans ih (Nat.le_of_lt hc.lt)
theorem Desc.up {r q : Nat} (h : Desc r q) (hq : r < q) : Desc r ((q - 1) / 2) := by
  cases h with
  | self => exact absurd hq (Nat.lt_irrefl _)
  | @step p _ hp hc =>
    rw [← hc.par]; exact hp
theorem Desc.zero : ∀ q, Desc 0 q := fun q => by
  induction q using Nat.strongRecOn with
  | _ q ih =>
    rcases Nat.eq_zero_or_pos q with rfl | hq
    · exact .self
    · exact .step (ih ((q - 1) / 2) (Child.up hq).lt) (Child.up hq)

theorem getD_set_self {vs : List Value} {i : Nat} {x : Value} (h : i < vs.length) : (vs.set i x).getD i .none = x := by
  rw [List.getD_eq_getElem?_getD, List.getElem?_set_self h]; rfl
theorem getD_set_ne {vs : List Value} {i j : Nat} {x : Value} (h : i ≠ j) : (vs.set i x).getD j .none = vs.getD j .none := by
  rw [List.getD_eq_getElem?_getD, List.getD_eq_getElem?_getD, List.getElem?_set_ne h]

open Classical in
theorem set_swap_perm {vs : List Value} {i j : Nat} {x : Value} (hi : i < vs.length) (hj : j < vs.length) (hij : i ≠ j) : ((vs.set i (vs.getD j .none)).set j x).Perm (vs.set i x) := by
  have e : vs.getD j .none = vs[j] := by rw [List.getD_eq_getElem?_getD, List.getElem?_eq_getElem hj]; rfl
  rw [e, List.perm_iff_count]
  intro a
  rw [List.count_set (by rw [List.length_set]; exact hj), List.count_set hi, List.count_set hi, List.getElem_set_ne hij]
  have hpos : (vs[i] == a) = true → 0 < vs.count a := fun h => List.count_pos_iff.mpr ((beq_iff_eq.mp h) ▸ List.getElem_mem hi)
  have hpos2 : (vs[j] == a) = true → 0 < vs.count a := fun h => List.count_pos_iff.mpr ((beq_iff_eq.mp h) ▸ List.getElem_mem hj)
  by_cases h1 : (vs[i] == a) = true
  · have := hpos h1
    simp only [h1, if_true]
    by_cases h2 : (vs[j] == a) = true <;> simp only [h2, if_true] <;> split <;> simp <;> (first | lia | omega)
  · by_cases h2 : (vs[j] == a) = true
    · have := hpos2 h2
      simp only [h1, h2, if_true] <;> split <;> simp <;> (first | lia | omega)
    · simp only [h1, h2] <;> split <;> simp <;> (first | lia | omega)

theorem sd_perm (lt : Value → Value → Bool) (x : Value) (st pos : Nat) (vs : List Value) (h : pos < vs.length) : (sd lt x st pos vs).Perm (vs.set pos x) := by
  fun_induction sd lt x st pos vs with
  | case1 pos vs h1 hlt ih =>
    exact (ih (by rw [List.length_set]; (first | lia | omega))).trans (set_swap_perm h (by (first | lia | omega)) (by (first | lia | omega)))
  | case2 pos vs h1 hlt => exact .refl _
  | case3 pos vs h1 => exact .refl _

theorem su_perm (lt : Value → Value → Bool) (pos : Nat) (vs : List Value) (h : pos < vs.length) (x : Value) : ((su lt pos vs).2.set (su lt pos vs).1 x).Perm (vs.set pos x) := by
  fun_induction su lt pos vs with
  | case1 pos vs h1 h2 ih => exact (ih (by rw [List.length_set]; omega)).trans (set_swap_perm h (by omega) (by omega))
  | case2 pos vs h1 h2 ih => exact (ih (by rw [List.length_set]; omega)).trans (set_swap_perm h (by omega) (by omega))
  | case3 pos vs h1 => exact .refl _

theorem set_getD_self {vs : List Value} {i : Nat} (h : i < vs.length) : vs.set i (vs.getD i .none) = vs := by
  rw [List.getD_eq_getElem?_getD, List.getElem?_eq_getElem h]; exact List.set_getElem_self h

theorem siftup_perm (lt : Value → Value → Bool) (pos : Nat) (vs : List Value) (h : pos < vs.length) : (siftup lt pos vs).Perm vs := by
  obtain ⟨h1, h2, h3⟩ := su_facts lt pos vs h
  unfold siftup
  refine (sd_perm lt _ pos _ _ (by rw [List.length_set, h1]; exact h2)).trans ?_
  rw [List.set_set]
  refine (su_perm lt pos vs h _).trans ?_
  rw [set_getD_self h]

theorem su_move {lt : Value → Value → Bool} {st q c : Nat} {vs : List Value} (hd : Desc st q) (hq : q < vs.length) (hc : Child q c) (hcl : c < vs.length) (hx : HOx lt st q vs) (hg : HG lt st q vs)
    (hmin : ∀ d, Child q d → d ≠ c → d < vs.length → lt (vs.getD d .none) (vs.getD c .none) = false) : HOx lt st c (vs.set q (vs.getD c .none)) ∧ HG lt st c (vs.set q (vs.getD c .none)) := by
  have hqc : q < c := hc.lt
  have hst := hd.le
  constructor
  · intro p d h1 h2 h3 h4 h5
    rw [List.length_set] at h5
    have hpd : p < d := h4.lt
    by_cases e1 : p = q
    · subst e1
      rw [getD_set_self hq, getD_set_ne (by first | exact Nat.ne_of_lt (by with_reducible assumption) | exact Nat.ne_of_gt (by with_reducible assumption) | (with_reducible assumption) | exact Ne.symm (by with_reducible assumption) | lia | omega)]
      exact hmin d h4 h3 h5
    · by_cases e2 : d = q
      · subst e2
        rw [getD_set_self hq, getD_set_ne (by first | exact Nat.ne_of_lt (by with_reducible assumption) | exact Nat.ne_of_gt (by with_reducible assumption) | (with_reducible assumption) | exact Ne.symm (by with_reducible assumption) | lia | omega)]
        exact hg p c h1 h4 hc hcl
      · rw [getD_set_ne (by first | exact Nat.ne_of_lt (by with_reducible assumption) | exact Nat.ne_of_gt (by with_reducible assumption) | (with_reducible assumption) | exact Ne.symm (by with_reducible assumption) | lia | omega), getD_set_ne (by first | exact Nat.ne_of_lt (by with_reducible assumption) | exact Nat.ne_of_gt (by with_reducible assumption) | (with_reducible assumption) | exact Ne.symm (by with_reducible assumption) | lia | omega)]
        exact hx p d h1 e1 e2 h4 h5
  · intro p d h1 h2 h3 h5
    rw [List.length_set] at h5
    have e1 : p = q := h2.one hc
    subst e1
    have hcd : c < d := h3.lt
    rw [getD_set_self hq, getD_set_ne (by first | exact Nat.ne_of_lt (by with_reducible assumption) | exact Nat.ne_of_gt (by with_reducible assumption) | (with_reducible assumption) | exact Ne.symm (by with_reducible assumption) | lia | omega)]
    exact hx c d (Nat.le_trans hst (Nat.le_of_lt hqc)) (Nat.ne_of_gt hqc) (Nat.ne_of_gt (Nat.lt_trans hqc hcd)) h3 h5

theorem su_ho {lt : Value → Value → Bool} (O : Lin lt) {st : Nat} (q : Nat) (vs : List Value) (hd : Desc st q) (hq : q < vs.length) (hx : HOx lt st q vs) (hg : HG lt st q vs) :
    HOx lt st (su lt q vs).1 (su lt q vs).2 ∧ HG lt st (su lt q vs).1 (su lt q vs).2 ∧ Desc st (su lt q vs).1 ∧ (su lt q vs).2.length ≤ 2 * (su lt q vs).1 + 1 := by
  fun_induction su lt q vs with
  | case1 q vs h1 h2 ih =>
    obtain ⟨a, b⟩ := su_move (c := 2 * q + 2) hd hq (.inr rfl) h2.1 hx hg (fun d hd' hne hl => by
      rcases hd' with rfl | rfl
      · cases e : lt (vs.getD (2 * q + 1) .none) (vs.getD (2 * q + 2) .none) with
        | false => rfl
        | true => rw [h2.2] at e; cases e
      · exact absurd rfl hne)
    exact ih (hd.step (.inr rfl)) (by rw [List.length_set]; (first | lia | omega)) a b
  | case2 q vs h1 h2 ih =>
    obtain ⟨a, b⟩ := su_move (c := 2 * q + 1) hd hq (.inl rfl) h1 hx hg (fun d hd' hne hl => by
      rcases hd' with rfl | rfl
      · exact absurd rfl hne
      · refine O.asym _ _ ?_
        cases e : lt (vs.getD (2 * q + 1) .none) (vs.getD (2 * q + 2) .none) with
        | true => rfl
        | false => exact absurd ⟨hl, e⟩ h2)
    exact ih (hd.step (.inl rfl)) (by rw [List.length_set]; (first | lia | omega)) a b
  | case3 q vs h1 => exact ⟨hx, hg, hd, by show vs.length ≤ 2 * q + 1; omega⟩

theorem sd_put {lt : Value → Value → Bool} {x : Value} {st q : Nat} {vs : List Value} (hq : q < vs.length) (hx : HOx lt st q vs) (hc : ∀ c, Child q c → c < vs.length → lt (vs.getD c .none) x = false)
    (hp : ∀ p, st ≤ p → Child p q → lt x (vs.getD p .none) = false) : HO lt st (vs.set q x) := by
  intro p c h1 h2 h3
  rw [List.length_set] at h3
  have hpd : p < c := h2.lt
  by_cases e1 : p = q
  · subst e1
    rw [getD_set_self hq, getD_set_ne (by first | exact Nat.ne_of_lt (by with_reducible assumption) | exact Nat.ne_of_gt (by with_reducible assumption) | (with_reducible assumption) | exact Ne.symm (by with_reducible assumption) | lia | omega)]
    exact hc c h2 h3
  · by_cases e2 : c = q
    · subst e2
      rw [getD_set_self hq, getD_set_ne (by first | exact Nat.ne_of_lt (by with_reducible assumption) | exact Nat.ne_of_gt (by with_reducible assumption) | (with_reducible assumption) | exact Ne.symm (by with_reducible assumption) | lia | omega)]
      exact hp p h1 h2
    · rw [getD_set_ne (by first | exact Nat.ne_of_lt (by with_reducible assumption) | exact Nat.ne_of_gt (by with_reducible assumption) | (with_reducible assumption) | exact Ne.symm (by with_reducible assumption) | lia | omega), getD_set_ne (by first | exact Nat.ne_of_lt (by with_reducible assumption) | exact Nat.ne_of_gt (by with_reducible assumption) | (with_reducible assumption) | exact Ne.symm (by with_reducible assumption) | lia | omega)]
      exact hx p c h1 e1 e2 h2 h3

theorem sd_ho {lt : Value → Value → Bool} (O : Lin lt) (x : Value) (st q : Nat) (vs : List Value) (hd : Desc st q) (hq : q < vs.length) (hx : HOx lt st q vs) (hg : HG lt st q vs)
    (hc : ∀ c, Child q c → c < vs.length → lt (vs.getD c .none) x = false) : HO lt st (sd lt x st q vs) := by
  fun_induction sd lt x st q vs with
  | case1 q vs h1 hlt ih =>
    have hpq : Child ((q - 1) / 2) q := Child.up (Nat.lt_of_le_of_lt (Nat.zero_le _) h1)
    have hql := hpq.lt
    have hst := (hd.up h1).le
    refine ih (hd.up h1) (by rw [List.length_set]; (first | lia | omega)) ?_ ?_ ?_
    · intro p d a1 a2 a3 a4 a5
      rw [List.length_set] at a5
      have hpd : p < d := a4.lt
      by_cases e1 : p = q
      · subst e1
        rw [getD_set_self hq, getD_set_ne (by first | exact Nat.ne_of_lt (by with_reducible assumption) | exact Nat.ne_of_gt (by with_reducible assumption) | (with_reducible assumption) | exact Ne.symm (by with_reducible assumption) | lia | omega)]
        exact hg _ d hst hpq a4 a5
      · have e2 : d ≠ q := fun e => a2 (e ▸ a4 : Child p q).par
        rw [getD_set_ne (by first | exact Nat.ne_of_lt (by with_reducible assumption) | exact Nat.ne_of_gt (by with_reducible assumption) | (with_reducible assumption) | exact Ne.symm (by with_reducible assumption) | lia | omega), getD_set_ne (by first | exact Nat.ne_of_lt (by with_reducible assumption) | exact Nat.ne_of_gt (by with_reducible assumption) | (with_reducible assumption) | exact Ne.symm (by with_reducible assumption) | lia | omega)]
        exact hx p d a1 e1 e2 a4 a5
    · intro p d a1 a2 a3 a5
      rw [List.length_set] at a5
      have hpd : p < (q - 1) / 2 := a2.lt
      have hpq9 := Nat.lt_trans hpd hql
      rw [getD_set_ne (i := q) (j := p) (Nat.ne_of_gt hpq9)]
      have z := hx p ((q - 1) / 2) a1 (Nat.ne_of_lt hpq9) (Nat.ne_of_lt hql) a2 (Nat.lt_trans hql hq)
      by_cases e : d = q
      · subst e; rw [getD_set_self hq]; exact z
      · rw [getD_set_ne (by first | exact Nat.ne_of_lt (by with_reducible assumption) | exact Nat.ne_of_gt (by with_reducible assumption) | (with_reducible assumption) | exact Ne.symm (by with_reducible assumption) | lia | omega)]
        exact O.trans _ _ _ z (hx _ d hst (Nat.ne_of_lt hql) e a3 a5)
    · intro d a3 a5
      rw [List.length_set] at a5
      by_cases e : d = q
      · subst e; rw [getD_set_self hq]; exact O.asym _ _ hlt
      · rw [getD_set_ne (by first | exact Nat.ne_of_lt (by with_reducible assumption) | exact Nat.ne_of_gt (by with_reducible assumption) | (with_reducible assumption) | exact Ne.symm (by with_reducible assumption) | lia | omega)]
        exact O.trans _ _ _ (O.asym _ _ hlt) (hx _ d hst (Nat.ne_of_lt hql) e a3 a5)
  | case2 q vs h1 hlt =>
    refine sd_put hq hx hc fun p a1 a2 => ?_
    have e : p = (q - 1) / 2 := a2.par
    subst e
    simpa using hlt
  | case3 q vs h1 =>
    refine sd_put hq hx hc fun p a1 a2 => ?_
    exact absurd (Nat.lt_of_le_of_lt a1 a2.lt) h1

theorem siftup_ho {lt : Value → Value → Bool} (O : Lin lt) (pos : Nat) (vs : List Value) (h : pos < vs.length) (ho : HO lt (pos + 1) vs) : HO lt pos (siftup lt pos vs) := by
  obtain ⟨h1, h2, h3⟩ := su_facts lt pos vs h
  obtain ⟨a, b, c, d⟩ := su_ho O (st := pos) pos vs .self h (fun p c h1 h2 h3 h4 h5 => ho p c (Nat.lt_of_le_of_ne h1 (Ne.symm h2)) h4 h5) (fun p c h1 h2 h3 h5 => absurd (Nat.lt_of_le_of_lt h1 h2.lt) (Nat.lt_irrefl _))
  unfold siftup
  refine sd_ho O _ pos _ _ c (by rw [List.length_set, h1]; exact h2) ?_ ?_ ?_
  · intro p c h1 h2 h3 h4 h5
    rw [List.length_set] at h5
    rw [getD_set_ne h2.symm, getD_set_ne h3.symm]
    exact a p c h1 h2 h3 h4 h5
  · intro p c h1 h2 h3 h5
    rw [List.length_set] at h5
    rcases h3 with h | h <;> (first | lia | omega)
  · intro c h3 h5
    rw [List.length_set] at h5
    rcases h3 with h | h <;> (first | lia | omega)

theorem hfy_facts {lt : Value → Value → Bool} (O : Lin lt) : ∀ (k : Nat) (vs : List Value), k ≤ vs.length / 2 → HO lt k vs → (hfy lt k vs).Perm vs ∧ HO lt 0 (hfy lt k vs)
  | 0, vs, _, h => ⟨.refl _, h⟩
  | k + 1, vs, hk, h => by
    have hp := siftup_perm lt k vs (by (first | lia | omega))
    obtain ⟨a, b⟩ := hfy_facts O k (siftup lt k vs) (by rw [hp.length_eq]; (first | lia | omega)) (siftup_ho O k vs (by (first | lia | omega)) h)
    exact ⟨a.trans hp, b⟩
theorem heapify_facts {lt : Value → Value → Bool} (O : Lin lt) (vs : List Value) : (hfy lt (vs.length / 2) vs).Perm vs ∧ HO lt 0 (hfy lt (vs.length / 2) vs) :=
  hfy_facts O _ vs (Nat.le_refl _) fun p c h1 h2 h3 => by rcases h2 with h | h <;> (first | lia | omega)

theorem ho_top {lt : Value → Value → Bool} (O : Lin lt) {vs : List Value} (h : HO lt 0 vs) : ∀ i, i < vs.length → lt (vs.getD i .none) (vs.getD 0 .none) = false := fun i => by
  induction i using Nat.strongRecOn with
  | _ i ih =>
    intro hi
    rcases Nat.eq_zero_or_pos i with rfl | hp
    · cases e : lt (vs.getD 0 .none) (vs.getD 0 .none) with
      | false => rfl
      | true => rw [O.asym _ _ e] at e; cases e
    · exact O.trans _ _ _ (ih ((i - 1) / 2) (Child.up hp).lt (Nat.lt_trans (Child.up hp).lt hi)) (h _ i (Nat.zero_le _) (Child.up hp) hi)
theorem ho_top_mem {lt : Value → Value → Bool} (O : Lin lt) {x : Value} {r : List Value} (h : HO lt 0 (x :: r)) : ∀ v ∈ x :: r, lt v x = false := fun v hv => by
  obtain ⟨i, hi, rfl⟩ := List.getElem_of_mem hv
  have := ho_top O h i hi
  rw [List.getD_eq_getElem?_getD, List.getElem?_eq_getElem hi] at this
  exact this
theorem lay_P2 : True := by
  k_with_none
  w_top off
  exact True.intro
theorem hpush_facts {lt : Value → Value → Bool} (O : Lin lt) (vs : List Value) (x : Value) (h : HO lt 0 vs) : (hpush lt vs x).Perm (vs ++ [x]) ∧ HO lt 0 (hpush lt vs x) := by
  have hl : (vs ++ [x]).length = vs.length + 1 := by simp
  constructor
  · refine (sd_perm lt x 0 vs.length (vs ++ [x]) (by (first | lia | omega))).trans ?_
    rw [List.set_append_right _ _ (Nat.le_refl _)]
    simp
  · refine sd_ho O x 0 vs.length (vs ++ [x]) (Desc.zero _) (by (first | lia | omega)) ?_ ?_ ?_
    · intro p c h1 h2 h3 h4 h5
      rw [hl] at h5
      have hpc : p < c := by rcases h4 with rfl | rfl <;> (first | lia | omega)
      have e : ∀ i, i < vs.length → (vs ++ [x]).getD i .none = vs.getD i .none := fun i hi => by
        rw [List.getD_eq_getElem?_getD, List.getD_eq_getElem?_getD, List.getElem?_append_left hi]
      rw [e c (by (first | lia | omega)), e p (by (first | lia | omega))]
      exact h p c h1 h4 (by (first | lia | omega))
    · intro p c h1 h2 h3 h5
      rw [hl] at h5
      rcases h3 with h | h <;> (first | lia | omega)
    · intro c h3 h5
      rw [hl] at h5
      rcases h3 with h | h <;> (first | lia | omega)

theorem ho_tail {lt : Value → Value → Bool} {x z : Value} {r q : List Value} (h : HO lt 1 (x :: r ++ q)) : HO lt 1 (z :: r) := by
  intro p c h1 h2 h3
  have hpc : p < c := by rcases h2 with rfl | rfl <;> (first | lia | omega)
  have e : ∀ i, 1 ≤ i → i < (z :: r).length → (x :: r ++ q).getD i .none = (z :: r).getD i .none := fun i h1 hi => by
    obtain ⟨j, rfl⟩ : ∃ j, i = j + 1 := ⟨i - 1, by (first | lia | omega)⟩
    simp only [List.length_cons] at hi
    rw [List.getD_eq_getElem?_getD, List.getD_eq_getElem?_getD, List.cons_append, List.getElem?_cons_succ, List.getElem?_cons_succ, List.getElem?_append_left (by (first | lia | omega))]
  rw [← e c (by (first | lia | omega)) h3, ← e p h1 (by (first | lia | omega))]
  exact h p c h1 h2 (by simp at h3 ⊢; (first | lia | omega))
theorem HO.mono {lt : Value → Value → Bool} {a b : Nat} {vs : List Value} (h : HO lt a vs) (hab : a ≤ b) : HO lt b vs := fun p c h1 => h p c (Nat.le_trans hab h1)

/-- a pop: the head goes, the rest lies as a heap -/
theorem hpop_facts {lt : Value → Value → Bool} (O : Lin lt) (p : List Value) (y x : Value) (r : List Value) (e : p ++ [y] = x :: r) (h : HO lt 1 (p ++ [y])) : (hpop lt p y).1 = x ∧ (hpop lt p y).2.Perm r ∧ HO lt 0 (hpop lt p y).2 := by
  cases p with
  | nil =>
    obtain ⟨rfl, rfl⟩ := List.cons.inj e
    exact ⟨rfl, .refl _, fun p c h1 h2 h3 => absurd h3 (Nat.not_lt_zero _)⟩
  | cons z q =>
    obtain ⟨rfl, rfl⟩ := List.cons.inj e
    refine ⟨rfl, ?_, ?_⟩
    · refine (siftup_perm lt 0 (y :: q) (by simp)).trans ?_
      exact List.perm_append_singleton y q |>.symm
    · exact siftup_ho O 0 (y :: q) (by simp) (ho_tail h)

theorem hreplace_facts {lt : Value → Value → Bool} (O : Lin lt) (x y : Value) (r : List Value) (h : HO lt 1 (x :: r)) : (siftup lt 0 (y :: r)).Perm (y :: r) ∧ HO lt 0 (siftup lt 0 (y :: r)) :=
  ⟨siftup_perm lt 0 (y :: r) (by simp), siftup_ho O 0 (y :: r) (by simp) (ho_tail (q := []) (by simpa using h))⟩
theorem hpushpop_facts {lt : Value → Value → Bool} (O : Lin lt) (vs : List Value) (y : Value) (h : HO lt 0 vs) : ((hpushpop lt vs y).1 :: (hpushpop lt vs y).2).Perm (y :: vs) ∧ HO lt 0 (hpushpop lt vs y).2 ∧ ∀ v ∈ y :: vs, lt v (hpushpop lt vs y).1 = false := by
  have irr : ∀ v, lt v v = false := fun v => by
    cases e : lt v v with
    | false => rfl
    | true => rw [O.asym _ _ e] at e; cases e
  cases vs with
  | nil =>
    refine ⟨.refl _, h, fun v hv => ?_⟩
    rcases List.mem_cons.mp hv with rfl | hv
    · exact irr _
    · cases hv
  | cons x r =>
    have ht := ho_top_mem O h
    cases e : lt x y with
    | true =>
      rw [show hpushpop lt (x :: r) y = (x, siftup lt 0 (y :: r)) by rw [hpushpop, if_pos e]]
      obtain ⟨a, b⟩ := hreplace_facts O x y r (h.mono (Nat.zero_le _))
      refine ⟨?_, b, fun v hv => ?_⟩
      · exact (a.cons x).trans (.swap y x r)
      · rcases List.mem_cons.mp hv with rfl | hv
        · exact O.asym _ _ e
        · exact ht v hv
    | false =>
      rw [show hpushpop lt (x :: r) y = (y, x :: r) by rw [hpushpop, if_neg (by rw [e]; decide)]]
      refine ⟨.refl _, h, fun v hv => ?_⟩
      rcases List.mem_cons.mp hv with rfl | hv
      · exact irr _
      · exact O.trans _ _ _ e (ht v hv)
theorem lay_P3 : True := by
  k_with_none
  w_top off
  exact True.intro
structure LinO {α : Type} (lt : α → α → Bool) : Prop where
  asym : ∀ a b, lt a b = true → lt b a = false
  trans : ∀ a b c, lt b a = false → lt c b = false → lt c a = false
  tri : ∀ a b, lt a b = false → lt b a = false → a = b
theorem LinO.irr {α : Type} {lt : α → α → Bool} (O : LinO lt) (a : α) : lt a a = false := by
  cases e : lt a a with
  | false => rfl
  | true => rw [O.asym _ _ e] at e; cases e
theorem LinO.lin {α : Type} {lt : α → α → Bool} (O : LinO lt) (f : Value → α) : Lin fun a b => lt (f a) (f b) :=
  ⟨fun _ _ h => O.asym _ _ h, fun _ _ _ h1 h2 => O.trans _ _ _ h1 h2⟩
theorem linO_int : LinO fun a b : Int => decide (a < b) where
  asym a b h := by simp only [decide_eq_true_eq, decide_eq_false_iff_not] at *; (first | lia | omega)
  trans a b c h1 h2 := by simp only [decide_eq_false_iff_not] at *; (first | lia | omega)
  tri a b h1 h2 := by simp only [decide_eq_false_iff_not] at *; (first | lia | omega)
theorem lexB_cons {α : Type} [DecidableEq α] (lt : α → α → Bool) (a b : α) (r q : List α) : lexB lt (a :: r) (b :: q) = if a = b then lexB lt r q else lt a b := rfl
theorem LinO.lexB {α : Type} [DecidableEq α] {lt : α → α → Bool} (O : LinO lt) : LinO (Mine.lexB lt) where
  asym := by
    intro a
    induction a with
    | nil => intro b h; cases b with
      | nil => cases h
      | cons => rfl
    | cons x r ih =>
      intro b h
      cases b with
      | nil => cases h
      | cons y q =>
        rw [lexB_cons] at h ⊢
        by_cases e : x = y
        · rw [if_pos e] at h; rw [if_pos e.symm]; exact ih q h
        · rw [if_neg e] at h; rw [if_neg (Ne.symm e)]; exact O.asym _ _ h
  trans := by
    intro a
    induction a with
    | nil =>
      intro b c h1 h2
      cases c with
      | nil => rfl
      | cons => rfl
    | cons x r ih =>
      intro b c h1 h2
      cases b with
      | nil => cases h1
      | cons y q =>
        cases c with
        | nil => cases h2
        | cons z p =>
          rw [lexB_cons] at h1 h2 ⊢
          by_cases e1 : y = x
          · rw [if_pos e1] at h1
            by_cases e2 : z = y
            · rw [if_pos e2] at h2
              rw [if_pos (e2.trans e1)]
              exact ih q p h1 h2
            · rw [if_neg e2] at h2
              rw [if_neg (fun h => e2 (h.trans e1.symm)), ← e1]
              exact h2
          · rw [if_neg e1] at h1
            by_cases e2 : z = y
            · rw [if_neg (fun h => e1 (e2.symm.trans h)), e2]; exact h1
            · rw [if_neg e2] at h2
              by_cases e3 : z = x
              · rw [if_pos e3]
                exfalso
                rw [e3] at h2 e2
                exact e1 (O.tri _ _ h1 h2)
              · rw [if_neg e3]
                exact O.trans _ _ _ h1 h2
  tri := by
    intro a
    induction a with
    | nil => intro b h1 h2; cases b with
      | nil => rfl
      | cons => cases h1
    | cons x r ih =>
      intro b h1 h2
      cases b with
      | nil => cases h2
      | cons y q =>
        rw [lexB_cons] at h1 h2
        by_cases e : x = y
        · rw [if_pos e] at h1; rw [if_pos e.symm] at h2; rw [e, ih q h1 h2]
        · rw [if_neg e] at h1; rw [if_neg (Ne.symm e)] at h2
          exact absurd (O.tri _ _ h1 h2) e
theorem linO_key : LinO klt := linO_int.lexB
theorem linO_keys : LinO kllt := linO_key.lexB

def HOL {α : Type} (lt : α → α → Bool) (st : Nat) (xs : List α) : Prop := ∀ p c a b, st ≤ p → Child p c → xs[p]? = some a → xs[c]? = some b → lt b a = false
theorem getD_some {vs : List Value} {i : Nat} (h : i < vs.length) : vs[i]? = some (vs.getD i .none) := by
  rw [List.getD_eq_getElem?_getD, List.getElem?_eq_getElem h]; rfl
theorem ho_iff {α : Type} {lt : α → α → Bool} {f : Value → α} {st : Nat} {vs : List Value} : HO (fun a b => lt (f a) (f b)) st vs ↔ HOL lt st (vs.map f) := by
  constructor
  · intro h p c a b h1 h2 ha hb
    rw [List.getElem?_map] at ha hb
    have hp : p < c := by rcases h2 with rfl | rfl <;> (first | lia | omega)
    have hc : c < vs.length := by
      rcases Nat.lt_or_ge c vs.length with q | q
      · exact q
      · rw [List.getElem?_eq_none q] at hb; cases hb
    rw [getD_some (by (first | lia | omega))] at ha
    rw [getD_some hc] at hb
    cases ha; cases hb
    exact h p c h1 h2 hc
  · intro h p c h1 h2 hc
    have hp : p < c := by rcases h2 with rfl | rfl <;> (first | lia | omega)
    exact h p c _ _ h1 h2 (by rw [List.getElem?_map, getD_some (by (first | lia | omega))]; rfl) (by rw [List.getElem?_map, getD_some hc]; rfl)

section
variable {α : Type} {lt : α → α → Bool} (O : LinO lt) (f : Value → α)
include O
theorem push_law {vs : List Value} {x : Value} (h : HOL lt 0 (vs.map f)) : (hpush (fun a b => lt (f a) (f b)) vs x).Perm (vs ++ [x]) ∧ HOL lt 0 ((hpush (fun a b => lt (f a) (f b)) vs x).map f) :=
  let z := hpush_facts (O.lin f) vs x (ho_iff.mpr h); ⟨z.1, ho_iff.mp z.2⟩
theorem pop_law {p r : List Value} {x y : Value} (e : p ++ [y] = x :: r) (h : HOL lt 1 ((x :: r).map f)) :
    (hpop (fun a b => lt (f a) (f b)) p y).1 = x ∧ (hpop (fun a b => lt (f a) (f b)) p y).2.Perm r ∧ HOL lt 0 ((hpop (fun a b => lt (f a) (f b)) p y).2.map f) :=
  let z := hpop_facts (O.lin f) p y x r e (e ▸ ho_iff.mpr h); ⟨z.1, z.2.1, ho_iff.mp z.2.2⟩
theorem replace_law {x y : Value} {r : List Value} (h : HOL lt 1 ((x :: r).map f)) : (siftup (fun a b => lt (f a) (f b)) 0 (y :: r)).Perm (y :: r) ∧ HOL lt 0 ((siftup (fun a b => lt (f a) (f b)) 0 (y :: r)).map f) :=
  let z := hreplace_facts (O.lin f) x y r (ho_iff.mpr h); ⟨z.1, ho_iff.mp z.2⟩
theorem pushpop_law {vs : List Value} {y : Value} (h : HOL lt 0 (vs.map f)) :
    ((hpushpop (fun a b => lt (f a) (f b)) vs y).1 :: (hpushpop (fun a b => lt (f a) (f b)) vs y).2).Perm (y :: vs) ∧ HOL lt 0 ((hpushpop (fun a b => lt (f a) (f b)) vs y).2.map f) ∧ ∀ v ∈ y :: vs, lt (f v) (f (hpushpop (fun a b => lt (f a) (f b)) vs y).1) = false :=
  let z := hpushpop_facts (O.lin f) vs y (ho_iff.mpr h); ⟨z.1, ho_iff.mp z.2.1, z.2.2⟩
theorem heapify_law (vs : List Value) : (hfy (fun a b => lt (f a) (f b)) (vs.length / 2) vs).Perm vs ∧ HOL lt 0 ((hfy (fun a b => lt (f a) (f b)) (vs.length / 2) vs).map f) :=
  let z := heapify_facts (O.lin f) vs; ⟨z.1, ho_iff.mp z.2⟩
omit O in
theorem HOL.mono {a b : Nat} {xs : List α} (h : HOL lt a xs) (hab : a ≤ b) : HOL lt b xs := fun p c x y h1 => h p c x y (Nat.le_trans hab h1)
theorem HOL.top {x : α} {r : List α} (h : HOL lt 0 (x :: r)) : ∀ v ∈ x :: r, lt v x = false := fun v hv => by
  obtain ⟨i, hi, rfl⟩ := List.getElem_of_mem hv
  clear hv
  induction i using Nat.strongRecOn with
  | _ i ih =>
    rcases Nat.eq_zero_or_pos i with rfl | hp
    · exact O.irr _
    · have e1 := ih ((i - 1) / 2) (by (first | lia | omega)) (by (first | lia | omega))
      refine O.trans _ _ _ e1 (h ((i - 1) / 2) i _ _ (Nat.zero_le _) (by unfold Child; (first | lia | omega)) (List.getElem?_eq_getElem _) (List.getElem?_eq_getElem _))
end

/-- a value's ints, a key's ints, as the heap has them -/
def intV : Value → Int
  | .int i _ => i
  | _ => 0
def keyV (h : Heap) : Value → List Int
  | .ref t => match h.get? t with
    | some o => match o.data with
      | .seq vs _ => vs.toList.map intV
      | _ => []
    | none => []
  | _ => []
def keysV (h : Heap) : Value → List (List Int)
  | .ref t => match h.get? t with
    | some o => match o.data with
      | .seq vs _ => vs.toList.map (keyV h)
      | _ => []
    | none => []
  | _ => []
theorem intV_map {vs : List Value} {k : List Int} (h : IntsAre vs k) : vs.map intV = k := by
  induction h with
  | nil => rfl
  | cons i t _ ih => simp [intV, ih]
theorem KeyAt.keyV {h : Heap} {v : Value} {k : List Int} (x : KeyAt h v k) : Mine.keyV h v = k := by
  obtain ⟨t, o, vs, n, rfl, ho, hc, hd, hi⟩ := x
  simp only [Mine.keyV, ho, hd, List.toList_toArray]
  exact intV_map hi
theorem KeysAt.keyV {h : Heap} {vs : List Value} {ks : List (List Int)} (x : KeysAt h vs ks) : vs.map (Mine.keyV h) = ks := by
  induction x with
  | nil => rfl
  | cons a _ ih => rw [List.map_cons, a.keyV, ih]
theorem keysV_at {h : Heap} {a : Addr} {vs : List Value} {ks : List (List Int)} {n : Nat} (e : h.get? a = some (W.listOf vs.toArray n)) (x : KeysAt h vs ks) : keysV h (.ref a) = ks := by
  simp only [keysV, e, List.toList_toArray]
  exact x.keyV
/-- all of a list's values are keys -/
def KeysIn (h : Heap) (vs : List Value) : Prop := ∀ v ∈ vs, KeyAt h v (keyV h v)
theorem KeysIn.at {h : Heap} {vs : List Value} (x : KeysIn h vs) : KeysAt h vs (vs.map (keyV h)) := by
  induction vs with
  | nil => exact .nil
  | cons a r ih => exact .cons (x a (.head _)) (ih fun v hv => x v (.tail _ hv))
theorem KeysAt.in {h : Heap} {vs : List Value} {ks : List (List Int)} (x : KeysAt h vs ks) : KeysIn h vs := by
  induction x with
  | nil => intro v hv; cases hv
  | cons a _ ih =>
    intro v hv
    rcases List.mem_cons.mp hv with rfl | hv
    · rw [a.keyV]; exact a
    · exact ih v hv
theorem KeysIn.perm {h : Heap} {vs us : List Value} (x : KeysIn h vs) (p : us.Perm vs) : KeysIn h us := fun v hv => x v (p.mem_iff.mp hv)
theorem KeysIn.keyV_keeps {h h' : Heap} {vs : List Value} (x : KeysIn h vs) (k : ∀ b o, h.get? b = some o → h'.get? b = some o) : vs.map (keyV h') = vs.map (keyV h) := by
  refine List.map_congr_left fun v hv => ?_
  exact ((x v hv).keeps k).keyV
theorem lay_M2 : True := by
  k_with_none
  w_top off
  exact True.intro
/-- v is a least one of vs -/
def LeastIn (g : Heap) (vs : List Value) (v : Value) : Prop := v ∈ vs ∧ ∀ u ∈ vs, klt (keyV g u) (keyV g v) = false

theorem min_loop {prog : Program} {w : World} {A : Around} {R : Result → Shared → Prop} {g : Heap} {vs : List Value} {I S l : Addr} (hk : KeysIn g vs) (hl : g.IsList l vs.toArray) (hh : A.handled = none) (hu : A.units < 200) (hSI : S ≠ I) (hI : g.get? I = none) (hS : g.get? S = none) :
    ∀ (k j : Nat) (s : Shared) (vb : Value) (c : Nat), vs.length - j = k → j ≤ vs.length → Sub g s.heap → s.heap.IsListIter I l j → LeastIn g (vs.take j) vb → vb ∈ vs →
    s.heap.get? S = some { cls := .type "list", dict := none, data := .seq #[vb, vb] c, slots := #[] } →
    (∀ v h' tk, LeastIn g vs v → (∀ b o, b ≠ I → b ≠ S → s.heap.get? b = some o → h'.get? b = some o) → R (.ok (.ret v)) { s with heap := h', toks := tk }) →
    codeAny (model prog w) A (.builtin "min.loop" ⟨[.ref I, .none, .ref S], []⟩) R s := by
  have hname : (toString "min" ++ toString ".loop" : String) = "min.loop" := by decide
  have hlk : ∀ h : Heap, Sub g h → h.IsList l vs.toArray := fun h k => let ⟨o, ho, r⟩ := hl; ⟨o, k _ _ ho, r⟩
  intro k
  induction k with
  | zero =>
    intro j s vb c hkk hj hsub hit hb hbm hSo hR
    have e : j = vs.length := by (first | lia | omega)
    subst e
    refine codeAny_builtin PySem.F.entry_min_loop ?_
    rw [Around.under_plainId PySem.F.plain_min_loop _]
    show wpAny _ A.in1 (seqItems? (.ref S) >>= _) _ _ s
    refine wpAny_bind (wpAny_seqItems hSo rfl ?_)
    show wpAny _ A.in1 (tryCatch (pyNext (.ref I)) _ >>= _) _ _ s
    refine wpAny_bind (wpAny_tryCatch (wpAny_pyNext_list_end hh hit (hlk _ hsub) (by rw [List.getElem?_toArray, List.getElem?_eq_none (Nat.le_refl _)]) fun h' hs' => ?_))
    have hS' := hs' S _ hSI hSo
    show wpAny _ A.in1 (updateSeq S (fun _ => #[]) >>= _) _ _ _
    refine wpAny_bind ?_
    refine wpAny_updateSeq hS' rfl (wpAny_bind (wpAny_letGo (wpAny_pure ?_)))
    rw [List.take_of_length_le (Nat.le_refl _)] at hb
    exact hR vb _ _ hb fun b o hbI hbS e => (Heap.get?_update_other _ _ (Ne.symm hbS)).trans (hs' b o hbI e)
  | succ k ih =>
    intro j s vb c hkk hj hsub hit hb hbm hSo hR
    have hlt : j < vs.length := by (first | lia | omega)
    have hx : vs[j]? = some vs[j] := List.getElem?_eq_getElem hlt
    have hxm : vs[j] ∈ vs := List.getElem_mem hlt
    refine codeAny_builtin PySem.F.entry_min_loop ?_
    rw [Around.under_plainId PySem.F.plain_min_loop _]
    show wpAny _ A.in1 (seqItems? (.ref S) >>= _) _ _ s
    refine wpAny_bind (wpAny_seqItems hSo rfl ?_)
    show wpAny _ A.in1 (tryCatch (pyNext (.ref I)) _ >>= _) _ _ s
    refine wpAny_bind (wpAny_tryCatch (wpAny_pyNext_list_item hit (hlk _ hsub) (x := vs[j]) (by rw [List.getElem?_toArray]; exact hx) fun h' hit' hs' => ?_))
    have hS' := hs'.extBut S _ hSI hSo
    have hsub' : Sub g h' := fun b o e => hs'.extBut b o (fun q => by rw [q, hI] at e; cases e) (hsub b o e)
    show wpAny _ A.in1 (tryCatch (holding [vs[j], vs[j]] (richCompare .Lt vs[j] vb >>= _)) _ >>= _) _ _ _
    refine wpAny_bind (wpAny_tryCatch (wpAny_holding (wpAny_bind (tuple_lt_rule ((hk _ hxm).keeps hsub') ((hk _ hbm).keeps hsub') (by show A.units + 1 < 9900; (first | lia | omega)) ?_))))
    refine wpAny_bind (wpAny_holding (wpAny_truthy_bool ?_))
    refine wpAny_bind (wpAny_letGo (wpAny_pure ?_))
    have htk : vs.take (j + 1) = vs.take j ++ [vs[j]] := List.take_succ_eq_append_getElem hlt
    cases hb' : klt (keyV g vs[j]) (keyV g vb) with
    | true =>
      simp only [if_true]
      refine wpAny_bind ?_
      refine wpAny_updateSeq hS' rfl (wpAny_bind (wpAny_letGo ?_))
      rw [hname]
      refine wpAny_pure ⟨plainId_quiet PySem.F.plain_min_loop _, ih (j + 1) _ vs[j] _ (by (first | lia | omega)) hlt (fun b o e => (Heap.get?_update_other _ _ (fun q : S = b => by rw [← q, hS] at e; cases e)).trans (hsub' b o e)) ?_ ?_ hxm (Heap.get?_update_self _ hS' rfl)
        fun v h'' tk'' hP' hk'' => ?_⟩
      · obtain ⟨o, ho, r⟩ := hit'
        exact ⟨o, (Heap.get?_update_other _ _ hSI).trans ho, r⟩
      · rw [htk]
        refine ⟨List.mem_append_right _ (.head _), fun u hu' => ?_⟩
        rcases List.mem_append.mp hu' with hu' | hu'
        · exact linO_key.trans _ _ _ (linO_key.asym _ _ hb') (hb.2 u hu')
        · rw [List.mem_singleton.mp hu']; exact linO_key.irr _
      · exact hR v h'' tk'' hP' fun b o hbI hbS e => hk'' b o hbI hbS ((Heap.get?_update_other _ _ (Ne.symm hbS)).trans (hs'.extBut b o hbI e))
    | false =>
      simp only [Bool.false_eq_true, if_false]
      refine wpAny_bind (wpAny_letGo ?_)
      rw [hname]
      refine wpAny_pure ⟨plainId_quiet PySem.F.plain_min_loop _, ih (j + 1) _ vb c (by (first | lia | omega)) hlt hsub' hit' ?_ hbm hS' fun v h'' tk'' hP' hk'' => ?_⟩
      · rw [htk]
        refine ⟨List.mem_append_left _ hb.1, fun u hu' => ?_⟩
        rcases List.mem_append.mp hu' with hu' | hu'
        · exact hb.2 u hu'
        · rw [List.mem_singleton.mp hu']; exact hb'
      · exact hR v h'' tk'' hP' fun b o hbI hbS e => hk'' b o hbI hbS (hs'.extBut b o hbI e)

section
variable {prog : Program} {w : World} {A : Around} {E : Value → Shared → Prop} {s : Shared} {h₀ : Heap} {L : Addr} {m : Str → Option Value} {news : List (Addr × Obj)}
theorem min_L {l : Addr} {vs : List Value} {Q : Value → Shared → Prop} (F : Fr h₀ L s.heap m) (N : News h₀ L s.heap news) (hh : A.handled = none) (hu : A.units < 150) (hl : s.heap.IsList l vs.toArray) (hk : KeysIn s.heap vs) (hne : vs ≠ [])
    (h : ∀ v h' tk, Fr h₀ L h' m → News h₀ L h' news → Sub s.heap h' → LeastIn s.heap vs v → Q v { s with heap := h', toks := tk }) :
    wpAny (model prog w) A (call (.builtin "min") [.ref l]) Q E s := by
  have hname : (toString "min" ++ toString ".loop" : String) = "min.loop" := by decide
  refine call_function_tree PySem.F.kind_min PySem.F.plain_min PySem.F.entry_min (PySem.F.args_min1 _) ?_
  show wpAny _ A.in1 (Builtin.Builtins.bindParams "min" ["key", "default"] 0 ⟨[], []⟩ >>= _) _ _ s
  refine wpAny_bind (wpAny_of_eq (show Builtin.Builtins.bindParams "min" ["key", "default"] 0 ⟨[], []⟩ = pure [none, none] from rfl) ?_)
  refine wpAny_bind (wpAny_pure ?_)
  refine wpAny_bind (wpAny_pyIter_list hl ?_)
  refine wpAny_bind (wpAny_newObj_type ?_)
  dsimp only
  rw [hname]
  obtain ⟨x, r, rfl⟩ : ∃ x r, vs = x :: r := by
    cases vs with
    | nil => exact absurd rfl hne
    | cons x r => exact ⟨x, r, rfl⟩
  generalize hH1 : s.heap.push { cls := .type "list_iterator", data := .fields #[.ref l, .int 0 0] } = H1
  have hS1 : H1.objs.size = s.heap.objs.size + 1 := by rw [← hH1, Heap.size_push]
  generalize hI : s.heap.objs.size = I at hS1
  generalize hSS : H1.objs.size = S at hS1
  have hSI : S ≠ I := by rw [hS1]; exact Nat.succ_ne_self _
  have gI : s.heap.get? I = none := hI ▸ Heap.get?_none_of_le (Nat.le_refl _)
  have gS : s.heap.get? S = none := Heap.get?_none_of_le (by rw [hI, hS1]; exact Nat.le_succ _)
  have sub1 : ∀ o, Sub s.heap (H1.push o) := fun o b q e => Heap.get?_push_of_some _ (by rw [← hH1]; exact Heap.get?_push_of_some _ e)
  have hitI : ∀ o, (H1.push o).IsListIter I l 0 := fun o => ⟨_, Heap.get?_push_of_some _ (by rw [← hH1, ← hI]; exact Heap.get?_push_size _ rfl), rfl, rfl⟩
  have fin : ∀ v h' tk, LeastIn s.heap (x :: r) v → Sub s.heap h' → Q v { s with heap := h', toks := tk } := fun v h' tk hv k =>
    h v h' tk ⟨F.ns.keeps k, fun b o e => k _ _ (F.keep b o e), F.above⟩ (fun q hq => ⟨k _ _ (N q hq).1, (N q hq).2⟩) k hv
  refine wpAny_pure ⟨plainId_quiet PySem.F.plain_min_loop _, ?_⟩
  -- the first turn
  refine codeAny_builtin PySem.F.entry_min_loop ?_
  rw [Around.under_plainId PySem.F.plain_min_loop _]
  have hSo : (H1.push { cls := .type "list", data := .seq ([] : List Value).toArray }).get? S = some { cls := .type "list", dict := none, data := .seq #[] 0, slots := #[] } := by rw [← hSS]; exact Heap.get?_push_size _ rfl
  show wpAny _ A.in1 (seqItems? (.ref S) >>= _) _ _ _
  refine wpAny_bind (wpAny_seqItems hSo rfl ?_)
  show wpAny _ A.in1 (tryCatch (pyNext (.ref I)) _ >>= _) _ _ _
  have hll : (H1.push { cls := .type "list", data := .seq ([] : List Value).toArray }).IsList l (x :: r).toArray := let ⟨o, ho, q⟩ := hl; ⟨o, sub1 _ _ _ ho, q⟩
  refine wpAny_bind (wpAny_tryCatch (wpAny_pyNext_list_item (hitI _) hll (x := x) (by simp) fun h' hit' hs' => ?_))
  have hS' := hs'.extBut S _ hSI hSo
  have hsub' : Sub s.heap h' := fun b o e => hs'.extBut b o (fun q => by rw [q, gI] at e; cases e) (sub1 _ b o e)
  show wpAny _ A.in1 (updateSeq S (fun _ => #[x, x]) >>= _) _ _ _
  refine wpAny_bind ?_
  refine wpAny_updateSeq hS' rfl ?_
  rw [hname]
  refine wpAny_pure ⟨plainId_quiet PySem.F.plain_min_loop _, min_loop hk hl (by exact hh) (by show A.units < 200; (first | lia | omega)) hSI gI gS _ 1 _ x _ rfl (by simp) (fun b o e => (Heap.get?_update_other _ _ (fun q : S = b => by rw [← q, gS] at e; cases e)).trans (hsub' b o e)) ?_ ?_ (.head _) (Heap.get?_update_self _ hS' rfl) fun v h'' tk'' hP' hk'' => ?_⟩
  · obtain ⟨o, ho, q⟩ := hit'
    exact ⟨o, (Heap.get?_update_other _ _ hSI).trans ho, q⟩
  · refine ⟨.head _, fun u hu' => ?_⟩
    have eu : u = x := by simpa using hu'
    rw [eu]; exact linO_key.irr _
  · refine fin v h'' tk'' hP' fun b o e => hk'' b o (fun q => by rw [q, gI] at e; cases e) (fun q => by rw [q, gS] at e; cases e) ((Heap.get?_update_other _ _ (fun q : S = b => by rw [← q, gS] at e; cases e)).trans (hsub' b o e))
end
theorem lay_K2 : True := by
  k_with_none
  w_top off
  exact True.intro
theorem turn_out (elt t0 i0 t1 i1 : PySem.Expr) (scope : Scope) (pos : Pos) (it acc : Value) (env : Env) :
    compTurn (.ListComp elt [⟨t0, i0, [], 0⟩, ⟨t1, i1, [], 0⟩] scope pos) 0 it acc env = (standAt i0.pos >>= fun _ => pyNext it >>= fun r => match r with
      | none => pure (.done .next)
      | some v => letOwnedTupleGo t0 it v >>= fun _ => assign t0 env v >>= fun _ =>
        eval i1 env >>= fun x => standAt i1.pos >>= fun _ => foldedSetIterable i1 env x >>= fun x => holding [x] (pyIter x) >>= fun it2 => runOwn (.compStart (.ListComp elt [⟨t0, i0, [], 0⟩, ⟨t1, i1, [], 0⟩] scope pos) 1 it2 acc env) env >>= fun _ =>
          again (.compLoop (.ListComp elt [⟨t0, i0, [], 0⟩, ⟨t1, i1, [], 0⟩] scope pos) 0 it acc env)) := by rfl
theorem turn_in (elt t0 i0 t1 i1 : PySem.Expr) (scope : Scope) (pos : Pos) (it acc : Value) (env : Env) :
    compTurn (.ListComp elt [⟨t0, i0, [], 0⟩, ⟨t1, i1, [], 0⟩] scope pos) 1 it acc env = (standAt i1.pos >>= fun _ => pyNext it >>= fun r => match r with
      | none => pure (.done .next)
      | some v => letOwnedTupleGo t1 it v >>= fun _ => assign t1 env v >>= fun _ =>
        (eval elt env >>= fun x => call (.builtin "list.append") [acc, x] >>= fun _ => pure ()) >>= fun _ =>
          again (.compLoop (.ListComp elt [⟨t0, i0, [], 0⟩, ⟨t1, i1, [], 0⟩] scope pos) 1 it acc env)) := by rfl

section
variable {prog : Program} {w : World} {A : Around} {E : Value → Shared → Prop} {R : Result → Shared → Prop} {s : Shared}
theorem start_in {elt t0 i0 t1 i1 : PySem.Expr} {scope : Scope} {pos : Pos} {it acc : Value} {env : Env}
    (h0 : codeAny (model prog w) A (.compLoop (.ListComp elt [⟨t0, i0, [], 0⟩, ⟨t1, i1, [], 0⟩] scope pos) 1 it acc env) R s)
    (h : wpAny (model prog w) A (pyIter it) (fun it' s' => codeAny (model prog w) A (.compLoop (.ListComp elt [⟨t0, i0, [], 0⟩, ⟨t1, i1, [], 0⟩] scope pos) 1 it' acc env) R s') (notedBy (model prog w) A env fun x s' => R (.error x) s') s) :
    codeAny (model prog w) A (.compStart (.ListComp elt [⟨t0, i0, [], 0⟩, ⟨t1, i1, [], 0⟩] scope pos) 1 it acc env) R s := by
  refine codeAny_of_tree ?_
  show wpAny _ _ ((compStart (.ListComp elt [⟨t0, i0, [], 0⟩, ⟨t1, i1, [], 0⟩] scope pos) 1 it acc env).onRaise (fun x => do noteFrame x env; standAt theWindowsPlace)) _ _ s
  refine wpAny_notedAt ?_
  unfold compStart
  show wpAny _ _ (ask >>= _) _ _ s
  refine wpAny_bind (wpAny_askSetting (wpAny_ite ?_))
  split
  · first
      | exact wpAny_bind (wpAny_pure (wpAny_pure (And.intro rfl h0)))
      | exact wpAny_pure (And.intro rfl h0)
  · first
      | exact wpAny_bind (wpAny_rule (wpAny_bind (wpAny_standAt (wpAny_bind (wpAny_mono h (fun it' s' h' => wpAny_pure (And.intro rfl h')) fun _ _ x => x)))))
      | (refine wpAny_bind (wpAny_rule ?_); show wpAny _ _ (standAt i1.pos >>= _) _ _ s; exact wpAny_bind (wpAny_standAt (wpAny_bind (wpAny_mono h (fun it' s' h' => wpAny_pure (And.intro rfl h')) fun _ _ x => x))))

/-- the inner loop: the items of one list come into the accumulator -/
theorem loop_in {t0 i0 i1 : PySem.Expr} {x : Str} {px pe : Pos} {scope : Scope} {pos : Pos} {cenv : Env} {a D I2 C : Addr} {ws ys : List Value} {m : Str → Option Value} {nD : Nat}
    (hh : A.handled = none) (hk : cenv.scope.kind = .function) (hx : cenv.kindOf x = some .local) (hC : cenv.locals = C) (hp : (cenv.scope.kind == .class || (cenv.scope.kind == .module && cenv.locals != cenv.globals)) = false) (hdb : (x == ("__debug__" : Str)) = false)
    (hDI : D ≠ I2) (hDC : D ≠ C) (hIC : I2 ≠ C) (haD : a ≠ D) (haI : a ≠ I2) (haC : a ≠ C) (hit : s.heap.IsListIter I2 a 0) (hl : s.heap.IsList a ws.toArray) (hD : s.heap.get? D = some (W.listOf ys.toArray nD)) (hn : s.heap.Ns C m) (hsz : ys.length + ws.length ≤ 10000)
    (hR : ∀ h' tk m' k, h'.get? D = some (W.listOf (ys ++ ws).toArray k) → h'.Ns C m' → (∀ b o, b ≠ C → b ≠ D → b ≠ I2 → s.heap.get? b = some o → h'.get? b = some o) → R (.ok .next) { s with heap := h', toks := tk }) :
    codeAny (model prog w) A (.compLoop (.ListComp (.Name x pe) [⟨t0, i0, [], 0⟩, ⟨.Name x px, i1, [], 0⟩] scope pos) 1 (.ref I2) (.ref D) cenv) R s := by
  subst hC
  refine codeAny_loop rfl (fun k s' => ∃ h' tk m' j nD, s' = { s with heap := h', toks := tk } ∧ h'.IsListIter I2 a j ∧ h'.get? D = some (W.listOf (ys ++ ws.take j).toArray nD) ∧ h'.Ns cenv.locals m' ∧ j ≤ ws.length ∧ k = ws.length + 1 - j ∧
    (∀ b o, b ≠ cenv.locals → b ≠ D → b ≠ I2 → s.heap.get? b = some o → h'.get? b = some o)) ?_ (ws.length + 1) ⟨s.heap, s.toks, m, 0, nD, rfl, hit, by simpa using hD, hn, Nat.zero_le _, rfl, fun _ _ _ _ _ e => e⟩
  rintro k s' ⟨h', tk, m', j, nD', rfl, hit', hD', hn', hj, rfl, hkeep⟩
  show wpAny _ _ ((compTurn (.ListComp (.Name x pe) [⟨t0, i0, [], 0⟩, ⟨.Name x px, i1, [], 0⟩] scope pos) 1 (.ref I2) (.ref D) cenv).onRaise (fun x => do noteFrame x cenv; theTreesLotGoes x)) _ _ _
  refine wpAny_noted ?_
  rw [turn_in]
  have hl' : h'.IsList a ws.toArray := let ⟨o, ho, r⟩ := hl; ⟨o, hkeep _ _ haC haD haI ho, r⟩
  refine wpAny_bind (wpAny_standAt (wpAny_bind ?_))
  by_cases hlt : j < ws.length
  · refine wpAny_pyNext_list_item (x := ws[j]) hit' hl' (by rw [List.getElem?_toArray]; exact List.getElem?_eq_getElem hlt) fun h2 hit2 hs2 => ?_
    refine wpAny_bind (wpAny_of_eq (show letOwnedTupleGo (.Name x px) (.ref I2) ws[j] = pure () from rfl) ?_)
    refine wpAny_bind (wpAny_assign_Name (wpAny_storeName_local hx (hn'.extBut hs2.extBut hIC.symm) (fun h3 hn3 hs3 => ?_) hp))
    refine wpAny_bind (wpAny_bind (wpAny_Name (wpAny_loadName_local hk hx hn3 upd_eq ?_) hdb))
    have keep3 : ∀ b o, b ≠ cenv.locals → b ≠ I2 → h'.get? b = some o → h3.get? b = some o := fun b o q1 q2 e => hs3.extBut b o q1 (hs2.extBut b o q2 e)
    have d3 := keep3 D _ hDC hDI hD'
    refine wpAny_bind (append_at d3 (fun h4 hs4 g4 => ?_) (by rw [List.size_toArray, List.length_append, List.length_take, sizeLine_eq]; (first | lia | omega)))
    refine wpAny_pure (wpAny_pure ⟨rfl, ws.length + 1 - (j + 1), by (first | lia | omega), h4, _, _, j + 1, nD' + 1, rfl, ?_, ?_, hn3.sameBut hs4 hDC.symm, hlt, rfl, ?_⟩)
    · obtain ⟨o, ho, r⟩ := hit2
      exact ⟨o, hs4.extBut _ _ hDI.symm (hs3.extBut _ _ hIC ho), r⟩
    · rw [g4, List.take_succ_eq_append_getElem hlt, ← List.append_assoc]
      simp
    · exact fun b o q1 q2 q3 e => hs4.extBut b o q2 (keep3 b o q1 q3 (hkeep b o q1 q2 q3 e))
  · have e : j = ws.length := by (first | lia | omega)
    subst e
    refine wpAny_pyNext_list_end hh hit' hl' (by rw [List.getElem?_toArray, List.getElem?_eq_none (Nat.le_refl _)]) fun h2 hs2 => ?_
    refine wpAny_pure ?_
    refine hR h2 tk m' nD' ?_ (hn'.extBut hs2 hIC.symm) fun b o q1 q2 q3 e => hs2 b o q3 (hkeep b o q1 q2 q3 e)
    rw [hs2 _ _ hDI hD', List.take_of_length_le (Nat.le_refl _)]
end

/-- a comprehension with two clauses: the items of a list's lists, one after the other -/
def TwoAt (prog : Program) (w : World) (A : Around) (Q : Value → Shared → Prop) (xv : Value) (s₁ : Shared) : Prop :=
  ∃ (l : Addr) (vs : List Value) (wss : List (List Value)), xv = .ref l ∧ s₁.heap.IsList l vs.toArray ∧ vs.length = wss.length ∧ vs.length ≤ 100 ∧ (∀ i, i < wss.length → ∃ a n, vs.getD i .none = .ref a ∧ s₁.heap.get? a = some (W.listOf (wss.getD i []).toArray n)) ∧ wss.flatten.length ≤ 5000 ∧
    ∀ D h' tk k, s₁.heap.objs.size ≤ D → h'.get? D = some (W.listOf wss.flatten.toArray k) → Sub s₁.heap h' → Q (.ref D) { s₁ with heap := h', toks := tk }

theorem comp_two {prog : Program} {w : World} {A : Around} {E : Value → Shared → Prop} {s : Shared} {env : Env} {iter : PySem.Expr} {x y : Str} {px py p1 p2 : Pos} {scope : Scope} {pos : Pos} {Q : Value → Shared → Prop}
    (hh : A.handled = none) (hclos : closureFor scope env = pure []) (hcell : ∀ y ∈ scope.names, y.2 ≠ .cell) (hkind : scope.kind = .function)
    (hnames : ∀ y ∈ scope.names, y.2 = .local → scope.names.lookup y.1 = some .local) (hx : scope.names.lookup x = some .local) (hy : scope.names.lookup y = some .local) (hdx : (x == ("__debug__" : Str)) = false) (hdy : (y == ("__debug__" : Str)) = false)
    (hs1 : ∀ cenv v, foldedSetIterable (.Name x p2) cenv v = pure v)
    (h : wpAny (model prog w) A (eval iter env) (TwoAt prog w A Q) E s)
    (hs : ∀ x, foldedSetIterable iter env x = pure x := by intro _; rfl) :
    wpAny (model prog w) A (eval (.ListComp (.Name y p1) [⟨.Name x px, iter, [], 0⟩, ⟨.Name y py, .Name x p2, [], 0⟩] scope pos) env) Q E s := by
  rw [eval_ListComp]
  refine wpAny_comprehension_free (use := none) rfl hs hclos hkind hnames (wpAny_mono h (fun xv s₁ h₁ => ?_) fun _ _ e => e)
  obtain ⟨l, vs, wss, rfl, hl, hlen, hl100, hws, hflat, hQ⟩ := h₁
  refine wpAny_pyIter_list hl ?_
  refine wpAny_newObj_type (wpAny_newFunctionEnv hcell (by intro y hy; simp at hy) (fun h₁ hns₁ hsb₁ => ?_) hkind)
  dsimp only at hns₁ hsb₁ ⊢
  generalize hH1 : s₁.heap.push { cls := .type "list_iterator", data := .fields #[.ref l, .int 0 0] } = H1 at hns₁ hsb₁ ⊢
  have hD : H1.objs.size = s₁.heap.objs.size + 1 := by rw [← hH1, Heap.size_push]
  generalize hH2 : H1.push { cls := .type "list", dict := none, data := .seq ([] : List Value).toArray } = H2 at hns₁ hsb₁ ⊢
  have hC : H2.objs.size = s₁.heap.objs.size + 2 := by rw [← hH2, Heap.size_push, hD]
  generalize hIe : s₁.heap.objs.size = I at hD hC ⊢
  generalize hDe : H1.objs.size = D at hD hns₁ hsb₁ ⊢
  generalize hCe : H2.objs.size = C at hC hns₁ hsb₁ ⊢
  have hDI : D ≠ I := by rw [hD]; exact Nat.succ_ne_self _
  have hDC : D ≠ C := by rw [hD, hC]; exact Nat.ne_of_lt (Nat.lt_succ_self _)
  have hIC : I ≠ C := by rw [hC]; exact Nat.ne_of_lt (Nat.lt_succ_of_lt (Nat.lt_succ_self _))
  have old : ∀ b o, s₁.heap.get? b = some o → b ≠ C ∧ b ≠ D ∧ b ≠ I := fun b o e => by
    have hb : b < I := hIe ▸ Heap.lt_size e
    refine ⟨fun q => ?_, fun q => ?_, fun q => ?_⟩
    · rw [q, hC] at hb; exact absurd (ltN hb) (by (first | lia | omega))
    · rw [q, hD] at hb; exact absurd (ltN hb) (by (first | lia | omega))
    · rw [q] at hb; exact Nat.lt_irrefl _ hb
  have gI0 : h₁.get? I = some { cls := .type "list_iterator", data := .fields #[.ref l, .int 0 0] } := by
    refine hsb₁.extBut I _ hIC (Heap.get?_push_of_some _ ?_)
    rw [← hH2]
    refine Heap.get?_push_of_some _ ?_
    rw [← hH1, ← hIe]
    exact Heap.get?_push_size _ rfl
  have gI : h₁.IsListIter I l 0 := ⟨_, gI0, rfl, rfl⟩
  have gD : h₁.get? D = some (W.listOf ([] : List Value).toArray 0) := by
    refine hsb₁.extBut D _ hDC (Heap.get?_push_of_some _ ?_)
    rw [← hH2, ← hDe]
    exact Heap.get?_push_size _ rfl
  have up1 : Sub s₁.heap h₁ := fun b o e => by
    refine hsb₁.extBut b _ (old b o e).1 (Heap.get?_push_of_some _ ?_)
    rw [← hH2]
    refine Heap.get?_push_of_some _ ?_
    rw [← hH1]
    exact Heap.get?_push_of_some _ e
  have hkx : (compEnvC scope [] C env).kindOf x = some .local := lookup_relabel_local hx
  have hky : (compEnvC scope [] C env).kindOf y = some .local := lookup_relabel_local hy
  have hp : ((compEnvC scope [] C env).scope.kind == .class || ((compEnvC scope [] C env).scope.kind == .module && (compEnvC scope [] C env).locals != (compEnvC scope [] C env).globals)) = false := by simp [compEnvC, relabel, hkind]
  have hkk : (compEnvC scope [] C env).scope.kind = .function := hkind
  have loop : ∀ s₃ : Shared, s₃ = { s₁ with heap := h₁, toks := s₁.toks + ([] : List (Str × Value)).length } →
      codeAny (model prog w) A (.compLoop (.ListComp (.Name y p1) [⟨.Name x px, iter, [], 0⟩, ⟨.Name y py, .Name x p2, [], 0⟩] scope pos) 0 (.ref I) (.ref D) (compEnvC scope [] C env)) (compPost (model prog w) A E none Q (.ref D) C) s₃ := by
    rintro s₃ rfl
    refine codeAny_loop rfl (fun k s' => ∃ h' tk m' i nD, s' = { s₁ with heap := h', toks := tk } ∧ h'.IsListIter I l i ∧ h'.get? D = some (W.listOf (wss.take i).flatten.toArray nD) ∧ h'.Ns C m' ∧ i ≤ vs.length ∧ k = vs.length + 1 - i ∧ Sub s₁.heap h') ?_ (vs.length + 1)
      ⟨h₁, _, _, 0, 0, rfl, gI, gD, hns₁, Nat.zero_le _, rfl, up1⟩
    rintro k s' ⟨h', tk, m', i, nD, rfl, hit, hdD, hnC, hi, rfl, hsub⟩
    show wpAny _ _ ((compTurn (.ListComp (.Name y p1) [⟨.Name x px, iter, [], 0⟩, ⟨.Name y py, .Name x p2, [], 0⟩] scope pos) 0 (.ref I) (.ref D) (compEnvC scope [] C env)).onRaise (fun x => do noteFrame x (compEnvC scope [] C env); theTreesLotGoes x)) _ _ _
    refine wpAny_noted ?_
    rw [turn_out]
    have hl' : h'.IsList l vs.toArray := let ⟨o, ho, r⟩ := hl; ⟨o, hsub _ _ ho, r⟩
    refine wpAny_bind (wpAny_standAt (wpAny_bind ?_))
    by_cases hlt : i < vs.length
    · obtain ⟨a, na, ea, ga⟩ := hws i (by (first | lia | omega))
      have ex : vs[i] = .ref a := by rw [List.getD_eq_getElem?_getD, List.getElem?_eq_getElem hlt] at ea; exact ea
      refine wpAny_pyNext_list_item (x := .ref a) hit hl' (by rw [List.getElem?_toArray, List.getElem?_eq_getElem hlt, ex]) fun h2 hit2 hs2 => ?_
      refine wpAny_bind (wpAny_of_eq (show letOwnedTupleGo (.Name x px) (.ref I) (.ref a) = pure () from rfl) ?_)
      refine wpAny_bind (wpAny_assign_Name (wpAny_storeName_local hkx (hnC.extBut hs2.extBut hIC.symm) (fun h3 hn3 hs3 => ?_) hp))
      refine wpAny_bind (wpAny_Name (wpAny_loadName_local hkk hkx hn3 upd_eq ?_) hdx)
      refine wpAny_bind (wpAny_standAt (wpAny_bind (wpAny_of_eq (hs1 _ _) (wpAny_bind (wpAny_holding ?_)))))
      have keep3 : ∀ b o, b ≠ C → b ≠ I → h'.get? b = some o → h3.get? b = some o := fun b o q1 q2 e => hs3.extBut b o q1 (hs2.extBut b o q2 e)
      have d3 := keep3 D _ hDC hDI hdD
      have sub3 : Sub s₁.heap h3 := fun b o e => keep3 b o (old b o e).1 (old b o e).2.2 (hsub b o e)
      have ga3 := sub3 _ _ ga
      obtain ⟨oC, _, _, hoC, _⟩ := (show h3.Ns C _ from hn3)
      have it3 : h3.IsListIter I l (i + 1) := let ⟨o, ho, r⟩ := hit2; ⟨o, hs3.extBut _ _ hIC ho, r⟩
      refine wpAny_pyIter_list ⟨_, ga3, rfl, _, rfl⟩ ?_
      dsimp only
      generalize hH4 : h3.push { cls := .type "list_iterator", data := .fields #[.ref a, .int 0 0] } = H4
      generalize hI2 : h3.objs.size = I2
      have up4 : Sub h3 H4 := fun b o e => by rw [← hH4]; exact Heap.get?_push_of_some _ e
      have lt3 : ∀ b o, h3.get? b = some o → b ≠ I2 := fun b o e q => by have := Heap.lt_size e; rw [q, hI2] at this; exact Nat.lt_irrefl _ this
      have it4 : H4.IsListIter I2 a 0 := ⟨_, by rw [← hH4, ← hI2]; exact Heap.get?_push_size _ rfl, rfl, rfl⟩
      have hwl : (wss.getD i []).length + (wss.take i).flatten.length ≤ 5000 := by
        have e1 : wss = wss.take i ++ wss.drop i := (List.take_append_drop ..).symm
        have e2 : wss.drop i = wss.getD i [] :: wss.drop (i + 1) := by
          rw [List.getD_eq_getElem?_getD, List.getElem?_eq_getElem (by (first | lia | omega))]; exact List.drop_eq_getElem_cons (by (first | lia | omega))
        have e3 : wss.flatten.length = (wss.take i).flatten.length + ((wss.getD i []).length + (wss.drop (i + 1)).flatten.length) := by
          conv => lhs; rw [e1, e2]
          simp
        (first | lia | omega)
      have inner : ∀ s5 : Shared, s5 = { s₁ with heap := H4, toks := s5.toks } → codeAny (model prog w) A (.compLoop (.ListComp (.Name y p1) [⟨.Name x px, iter, [], 0⟩, ⟨.Name y py, .Name x p2, [], 0⟩] scope pos) 1 (.ref I2) (.ref D) (compEnvC scope [] C env))
          (fun r s' => r = .ok .next ∧ ∃ h' tk m' k, s' = { s₁ with heap := h', toks := tk } ∧ h'.get? D = some (W.listOf ((wss.take i).flatten ++ wss.getD i []).toArray k) ∧ h'.Ns C m' ∧ (∀ b o, b ≠ C → b ≠ D → b ≠ I2 → H4.get? b = some o → h'.get? b = some o)) s5 := by
        intro s5 e5
        rw [e5]
        refine loop_in (a := a) (C := C) hh hkk hky rfl hp hdy (lt3 _ _ d3) hDC (Ne.symm (lt3 C _ hoC)) (old _ _ ga).2.1 (lt3 _ _ ga3) (old _ _ ga).1 it4 ⟨_, up4 _ _ ga3, rfl, _, rfl⟩ (up4 _ _ d3) (hn3.at' fun o e => up4 _ _ e) (by (first | lia | omega)) ?_
        intro h6 tk6 m6 k6 g6 n6 kp6
        exact ⟨rfl, h6, tk6, m6, k6, rfl, g6, n6, kp6⟩
      have after : ∀ (r : Result) (s' : Shared), (r = .ok .next ∧ ∃ h' tk m' k, s' = ({ s₁ with heap := h', toks := tk } : Shared) ∧ h'.get? D = some (W.listOf ((wss.take i).flatten ++ wss.getD i []).toArray k) ∧ h'.Ns C m' ∧ (∀ b o, b ≠ C → b ≠ D → b ≠ I2 → H4.get? b = some o → h'.get? b = some o)) →
          ∃ m, m < vs.length + 1 - i ∧ ∃ h' tk m' i nD, s' = ({ s₁ with heap := h', toks := tk } : Shared) ∧ h'.IsListIter I l i ∧ h'.get? D = some (W.listOf (wss.take i).flatten.toArray nD) ∧ h'.Ns C m' ∧ i ≤ vs.length ∧ m = vs.length + 1 - i ∧ Sub s₁.heap h' := by
        rintro r s' ⟨-, h6, tk6, m6, k6, rfl, g6, n6, kp6⟩
        refine ⟨vs.length + 1 - (i + 1), by (first | lia | omega), h6, tk6, m6, i + 1, k6, rfl, ?_, ?_, n6, hlt, rfl, fun b o e => kp6 b o (old b o e).1 (old b o e).2.1 (lt3 _ _ (sub3 _ _ e)) (up4 _ _ (sub3 _ _ e))⟩
        · obtain ⟨o, ho, r⟩ := it3
          exact ⟨o, kp6 _ _ hIC hDI.symm (lt3 _ _ ho) (up4 _ _ ho), r⟩
        · rw [g6, List.take_succ_eq_append_getElem (by (first | lia | omega)), List.flatten_append]
          rw [show wss.getD i [] = wss[i] by rw [List.getD_eq_getElem?_getD, List.getElem?_eq_getElem (by (first | lia | omega))]; rfl]
          simp
      refine wpAny_bind (wpAny_runOwn (codeAny_mono (start_in (inner _ rfl) (wpAny_pyIter_listiter it4 (inner _ rfl))) fun r s' hr => ?_))
      obtain ⟨e1, e2⟩ := hr
      subst e1
      exact wpAny_pure ⟨rfl, after _ _ ⟨rfl, e2⟩⟩
    · have e : i = vs.length := by (first | lia | omega)
      subst e
      refine wpAny_pyNext_list_end hh hit hl' (by rw [List.getElem?_toArray, List.getElem?_eq_none (Nat.le_refl _)]) fun h2 hs2 => ?_
      refine wpAny_pure ?_
      rw [List.take_of_length_le (by (first | lia | omega))] at hdD
      refine ⟨m', hnC.extBut hs2 hIC.symm, fun h3 hs3 => ?_⟩
      exact hQ D h3 tk nD (by rw [hD, hIe]; exact Nat.le_succ _) (hs3.extBut _ _ hDC (hs2 _ _ hDI hdD)) fun b o e => hs3.extBut b o (old b o e).1 (hs2 b o (old b o e).2.2 (hsub b o e))
  refine codeAny_compStart_list (loop _ rfl) (wpAny_pyIter_listiter gI (loop _ rfl))
theorem lay_T0 : True := by
  k_with_none
  w_top off
  exact True.intro
theorem KeyAt.hide {h : Heap} {v : Value} {k : List Int} {a : Addr} {us : List Value} {n : Nat} (x : KeyAt h v k) (ha : h.get? a = some (W.listOf us.toArray n)) : KeyAt (hideAll h [a]) v k := by
  obtain ⟨t, o, vs, m, rfl, ho, hc, hd, hi⟩ := x
  refine ⟨t, o, vs, m, rfl, hideAll_get _ ho ?_, hc, hd, hi⟩
  intro q
  rw [List.mem_singleton.mp q, ha] at ho
  cases ho
  exact absurd (show Value.type "list" = Value.type "tuple" from hc) (by decide)

theorem KeysIn.hideAt {h : Heap} {a : Addr} {us ws : List Value} {n : Nat} (x : KeysIn h us) (ha : h.get? a = some (W.listOf ws.toArray n)) : KeysAt (hideAll h [a]) us (us.map (keyV h)) := by
  induction us with
  | nil => exact .nil
  | cons q r ih => exact .cons ((x q (.head _)).hide ha) (ih fun v hv => x v (.tail _ hv))

/-- how the items of a list lie: an order of what the heap says of them -/
structure OrdAt {α : Type} (prog : Program) (w : World) (lt : α → α → Bool) (f : Heap → Value → α) (h : Heap) (a : Addr) (vs : List Value) : Prop where
  lin : LinO lt
  same : ∀ h', Keeps [a] h h' → ∀ v ∈ vs, f h' v = f h v
  is : ∀ v1 ∈ vs, ∀ v2 ∈ vs, LtIs prog w (hideAll h [a]) v1 v2 (lt (f h v1) (f h v2))

theorem keeps_hide {h h' : Heap} {a : Addr} (k : Keeps [a] h h') : Sub (hideAll h [a]) h' := fun b o e => k b o (fun q => by rw [hideAll_none _ q] at e; cases e) (of_hideAll _ e)

theorem ord_keys {prog : Program} {w : World} {h : Heap} {a : Addr} {us vs : List Value} {n : Nat} (x : KeysIn h vs) (ha : h.get? a = some (W.listOf us.toArray n)) : OrdAt prog w klt keyV h a vs where
  lin := linO_key
  same h' k v hv := (((x v hv).hide ha).keeps (keeps_hide k)).keyV
  is v1 h1 v2 h2 := lt_key ((x v1 h1).hide ha) ((x v2 h2).hide ha)

/-- a heads' item: a list of keys, another than the heads -/
def HeadsIn (h : Heap) (hd : Addr) (vs : List Value) : Prop := ∀ v ∈ vs, ∃ a us n, v = .ref a ∧ a ≠ hd ∧ h.get? a = some (W.listOf us.toArray n) ∧ KeysIn h us
theorem ord_heads {prog : Program} {w : World} {h : Heap} {hd : Addr} {us vs : List Value} {n : Nat} (x : HeadsIn h hd vs) (ha : h.get? hd = some (W.listOf us.toArray n)) : OrdAt prog w kllt keysV h hd vs where
  lin := linO_keys
  same h' k v hv := by
    obtain ⟨a, ws, m, rfl, hne, hg, hk⟩ := x v hv
    rw [keysV_at hg hk.at]
    exact keysV_at (k a _ (by simpa using hne) hg) ((hk.hideAt ha).keeps (keeps_hide k))
  is v1 h1 v2 h2 := by
    obtain ⟨a, ws, m, rfl, hne, hg, hk⟩ := x v1 h1
    obtain ⟨b, ws2, m2, rfl, hne2, hg2, hk2⟩ := x v2 h2
    rw [keysV_at hg hk.at, keysV_at hg2 hk2.at]
    exact lt_list (hideAll_get _ hg (by simpa using hne)) (hideAll_get _ hg2 (by simpa using hne2)) (hk.hideAt ha) (hk2.hideAt ha)

section
variable {α : Type} {prog : Program} {w : World} {p : Program} {loose : List Str} {mg mb : Str → Option Value} {A : Around} {E : Value → Shared → Prop} {s : Shared} {g : Heap} {L a : Addr} {m : Str → Option Value} {news : List (Addr × Obj)} {u : Obj → List (Addr × Obj)} {us : List Value} {n : Nat} {Q : Value → Shared → Prop}
  {lt : α → α → Bool} {f : Heap → Value → α}

theorem updF_after {o o' : Obj} {h h' : Heap} (N : News g L h news) (U : UpdF a o news u) (k : Keeps [a] h h') (e : h'.get? a = some o') : News g L h' (u o') ∧ h.get? a = some o ∧ a ≠ L ∧ g.get? a = none := by
  obtain ⟨pre, post, rfl, hu, h1, h2⟩ := U.split
  have z := N (a, o) (List.mem_append_right _ (.head _))
  refine ⟨?_, z⟩
  rw [hu]
  intro q hq
  rcases List.mem_append.mp hq with hq | hq
  · have y := N q (List.mem_append_left _ hq)
    exact ⟨k _ _ (by simpa using h1 q hq) y.1, y.2⟩
  · rcases List.mem_cons.mp hq with rfl | hq
    · exact ⟨e, z.2⟩
    · have y := N q (List.mem_append_right _ (.tail _ hq))
      exact ⟨k _ _ (by simpa using h2 q hq) y.1, y.2⟩
theorem updF_at {o : Obj} {h : Heap} (N : News g L h news) (U : UpdF a o news u) : h.get? a = some o ∧ a ≠ L ∧ g.get? a = none := by
  obtain ⟨pre, post, rfl, hu, h1, h2⟩ := U.split
  exact N (a, o) (List.mem_append_right _ (.head _))
theorem one_ne {a : Addr} {L : Addr} {g : Heap} (z : a ≠ L ∧ g.get? a = none) : ∀ b ∈ [a], b ≠ L ∧ g.get? b = none := fun b hb => by rw [List.mem_singleton.mp hb]; exact z
theorem hide_in {g h : Heap} {L a : Addr} {m : Str → Option Value} (F : Fr g L h m) (z : g.get? a = none) : Sub g (hideAll h [a]) := base_in F (by intro b hb; rw [List.mem_singleton.mp hb]; exact z)

theorem map_same (O : OrdAt prog w lt f s.heap a us) {h' : Heap} (k : Keeps [a] s.heap h') {vs : List Value} (hv : ∀ v ∈ vs, v ∈ us) : vs.map (f h') = vs.map (f s.heap) :=
  List.map_congr_left fun v h => O.same h' k v (hv v h)

theorem push_in {x : Value} (F : Fr g L s.heap m) (N : News g L s.heap news) (X : (KK w).In g) (T : TopRead p loose mg mb g) (U : UpdF a (W.listOf us.toArray n) news u) (hroom : A.depth < 880) (hu : A.units < 130)
    (O : OrdAt prog w lt f s.heap a (us ++ [x])) (ho : HOL lt 0 (us.map (f s.heap))) (hs : us.length ≤ 900)
    (h : ∀ h' tk (us' : List Value), Fr g L h' m → News g L h' (u (W.listOf us'.toArray (n + 1))) → Keeps [a] s.heap h' → us'.Perm (us ++ [x]) → HOL lt 0 (us'.map (f h')) → Q .none { s with heap := h', toks := tk }) :
    wpAny (model prog w) A (call (.ref 70) [.ref a, x]) Q E s := by
  have z := updF_at N U
  have kb := hide_in F z.2.2
  refine wpAny_call (heappush_code (p := p) (loose := loose) (mg := mg) (mb := mb) (n := n) (fun v1 v2 => lt (f s.heap v1) (f s.heap v2)) (X.keeps kb) (T.keeps kb) hroom hu z.1 O.is hs ?_)
  intro h5 tk5 k5 g5
  obtain ⟨p1, p2⟩ := push_law O.lin (f s.heap) (vs := us) (x := x) ho
  refine h _ _ _ (fr_after F k5 (one_ne z.2)) (updF_after N U k5 g5).1 k5 p1 ?_
  rw [map_same O k5 fun v hv => p1.mem_iff.mp hv]
  exact p2
theorem pop_in {x : Value} {r : List Value} (F : Fr g L s.heap m) (N : News g L s.heap news) (X : (KK w).In g) (T : TopRead p loose mg mb g) (U : UpdF a (W.listOf (x :: r).toArray n) news u) (hroom : A.depth < 880) (hu : A.units < 130)
    (O : OrdAt prog w lt f s.heap a (x :: r)) (ho : HOL lt 1 ((x :: r).map (f s.heap))) (hs : r.length ≤ 900)
    (h : ∀ h' tk (us' : List Value), Fr g L h' m → News g L h' (u (W.listOf us'.toArray (n + 1))) → Keeps [a] s.heap h' → us'.Perm r → HOL lt 0 (us'.map (f h')) → Q x { s with heap := h', toks := tk }) :
    wpAny (model prog w) A (call (.ref 77) [.ref a]) Q E s := by
  obtain ⟨q, y, e⟩ : ∃ q y, x :: r = q ++ [y] := ⟨_, _, (List.dropLast_concat_getLast (by simp)).symm⟩
  have z := updF_at N U
  have kb := hide_in F z.2.2
  have hl : (x :: r).length = q.length + 1 := by rw [e]; simp
  simp only [List.length_cons] at hl
  obtain ⟨p0, p1, p2⟩ := pop_law O.lin (f s.heap) e.symm ho
  have O' := O.is
  refine wpAny_call (heappop_code (p := p) (loose := loose) (mg := mg) (mb := mb) (n := n) (vs := q) (y := y) (fun v1 v2 => lt (f s.heap v1) (f s.heap v2)) (X.keeps kb) (T.keeps kb) hroom hu (e ▸ z.1) (e ▸ O') (by omega) ?_)
  intro h5 tk5 k5 g5
  rw [p0]
  refine h _ _ _ (fr_after F k5 (one_ne z.2)) (updF_after N U k5 g5).1 k5 p1 ?_
  rw [map_same O k5 fun v hv => .tail _ (p1.mem_iff.mp hv)]
  exact p2
theorem replace_in {x y : Value} {r : List Value} (F : Fr g L s.heap m) (N : News g L s.heap news) (X : (KK w).In g) (T : TopRead p loose mg mb g) (U : UpdF a (W.listOf (x :: r).toArray n) news u) (hroom : A.depth < 880) (hu : A.units < 130)
    (O : OrdAt prog w lt f s.heap a (y :: r)) (ho : HOL lt 1 ((x :: r).map (f s.heap))) (hs : r.length ≤ 900)
    (h : ∀ h' tk (us' : List Value), Fr g L h' m → News g L h' (u (W.listOf us'.toArray n)) → Keeps [a] s.heap h' → us'.Perm (y :: r) → HOL lt 0 (us'.map (f h')) → Q x { s with heap := h', toks := tk }) :
    wpAny (model prog w) A (call (.ref 84) [.ref a, y]) Q E s := by
  have z := updF_at N U
  have kb := hide_in F z.2.2
  obtain ⟨p1, p2⟩ := replace_law O.lin (f s.heap) (x := x) (y := y) (r := r) ho
  refine wpAny_call (heapreplace_code (p := p) (loose := loose) (mg := mg) (mb := mb) (n := n) (fun v1 v2 => lt (f s.heap v1) (f s.heap v2)) (X.keeps kb) (T.keeps kb) hroom hu z.1 O.is hs ?_)
  intro h5 tk5 k5 g5
  refine h _ _ _ (fr_after F k5 (one_ne z.2)) (updF_after N U k5 g5).1 k5 p1 ?_
  rw [map_same O k5 fun v hv => p1.mem_iff.mp hv]
  exact p2
theorem pushpop_in {y : Value} (F : Fr g L s.heap m) (N : News g L s.heap news) (X : (KK w).In g) (T : TopRead p loose mg mb g) (U : UpdF a (W.listOf us.toArray n) news u) (hroom : A.depth < 880) (hu : A.units < 130) (hh : A.handled = none)
    (O : OrdAt prog w lt f s.heap a (y :: us)) (ho : HOL lt 0 (us.map (f s.heap))) (hs : us.length ≤ 900)
    (h : ∀ h' tk (us' : List Value) v, Fr g L h' m → News g L h' (u (W.listOf us'.toArray n)) → Keeps [a] s.heap h' → (v :: us').Perm (y :: us) → HOL lt 0 (us'.map (f h')) → (∀ q ∈ y :: us, lt (f s.heap q) (f s.heap v) = false) → Q v { s with heap := h', toks := tk }) :
    wpAny (model prog w) A (call (.ref 91) [.ref a, y]) Q E s := by
  have z := updF_at N U
  have kb := hide_in F z.2.2
  obtain ⟨p1, p2, p3⟩ := pushpop_law O.lin (f s.heap) (vs := us) (y := y) ho
  refine wpAny_call (heappushpop_code (p := p) (loose := loose) (mg := mg) (mb := mb) (n := n) (fun v1 v2 => lt (f s.heap v1) (f s.heap v2)) (X.keeps kb) (T.keeps kb) hroom hu hh z.1 O.is hs ?_)
  intro h5 tk5 k5 g5
  refine h _ _ _ _ (fr_after F k5 (one_ne z.2)) (updF_after N U k5 g5).1 k5 p1 ?_ p3
  rw [map_same O k5 fun v hv => p1.mem_iff.mp (.tail _ hv)]
  exact p2
theorem heapify_in (F : Fr g L s.heap m) (N : News g L s.heap news) (X : (KK w).In g) (T : TopRead p loose mg mb g) (U : UpdF a (W.listOf us.toArray n) news u) (hroom : A.depth < 880) (hu : A.units < 130) (hh : A.handled = none)
    (O : OrdAt prog w lt f s.heap a us) (hs : us.length ≤ 900)
    (h : ∀ h' tk (us' : List Value), Fr g L h' m → News g L h' (u (W.listOf us'.toArray n)) → Keeps [a] s.heap h' → us'.Perm us → HOL lt 0 (us'.map (f h')) → Q .none { s with heap := h', toks := tk }) :
    wpAny (model prog w) A (call (.ref 98) [.ref a]) Q E s := by
  have z := updF_at N U
  have kb := hide_in F z.2.2
  obtain ⟨p1, p2⟩ := heapify_law O.lin (f s.heap) us
  refine wpAny_call (heapify_code (p := p) (loose := loose) (mg := mg) (mb := mb) (n := n) (fun v1 v2 => lt (f s.heap v1) (f s.heap v2)) (X.keeps kb) (T.keeps kb) hroom hu hh z.1 O.is hs ?_)
  intro h5 tk5 k5 g5
  refine h _ _ _ (fr_after F k5 (one_ne z.2)) (updF_after N U k5 g5).1 k5 p1 ?_
  rw [map_same O k5 fun v hv => p1.mem_iff.mp hv]
  exact p2
end

theorem KeysIn.keeps {g h : Heap} {vs : List Value} (x : KeysIn g vs) (k : Sub g h) : KeysIn h vs := fun v hv => by
  have := (x v hv).keeps k
  rw [this.keyV]; exact this
theorem KeysIn.append {h : Heap} {vs us : List Value} (x : KeysIn h vs) (y : KeysIn h us) : KeysIn h (vs ++ us) := fun v hv => by
  rcases List.mem_append.mp hv with hv | hv
  · exact x v hv
  · exact y v hv
theorem KeyAt.in {h : Heap} {v : Value} {k : List Int} (x : KeyAt h v k) : KeysIn h [v] := fun u hu => by
  rw [List.mem_singleton.mp hu, x.keyV]; exact x
/-- a head that lies in the base -/
def HeadG (g : Heap) (v : Value) : Prop := ∃ a us n, v = .ref a ∧ g.get? a = some (W.listOf us.toArray n) ∧ KeysIn g us
theorem HeadG.keeps {g h : Heap} {v : Value} (x : HeadG g v) (k : Sub g h) : HeadG h v := let ⟨a, us, n, e, h1, h2⟩ := x; ⟨a, us, n, e, k _ _ h1, h2.keeps k⟩
theorem HeadG.keysV {g h : Heap} {v : Value} (x : HeadG g v) (k : Sub g h) : Mine.keysV h v = Mine.keysV g v := by
  obtain ⟨a, us, n, rfl, h1, h2⟩ := x
  rw [keysV_at h1 h2.at, keysV_at (k _ _ h1) (h2.keeps k).at, h2.keyV_keeps k]
theorem heads_of {g h : Heap} {hd hj : Addr} {hds hv : List Value} {n : Nat} (x : ∀ v ∈ hds, v = .ref hj ∨ HeadG g v) (k : Sub g h) (hg : g.get? hd = none) (hne : hj ≠ hd) (e : h.get? hj = some (W.listOf hv.toArray n)) (hk : KeysIn h hv) : HeadsIn h hd hds := fun v hv' => by
  rcases x v hv' with rfl | y
  · exact ⟨hj, hv, n, rfl, hne, e, hk⟩
  · obtain ⟨a, us, m, rfl, h1, h2⟩ := y
    have hx : a ≠ hd := fun q => by rw [q, hg] at h1; cases h1
    exact ⟨a, us, m, rfl, hx, k _ _ h1, h2.keeps k⟩
theorem lay_T1 : True := by
  k_with_none
  w_top off
  exact True.intro
/-- the key of a new rule -/
def newKey (name : Str) (i : Nat) (j r : Int) : List Int := if r % 2 = 1 then [-(rch name (r / 2 % 4) (r / 2)), 0, j, i] else [-(rch name (r / 2 % 4) (r / 2)), 1, -j, -(i : Int)]

theorem come_in {prog : Program} {w : World} {p : Program} {loose : List Str} {mean : ExcName → Option Value} {mg mb : Str → Option Value} {A : Around} {E : Value → Shared → Prop} {s : Shared} {g : Heap} {L : Addr} {m : Str → Option Value} {rest : List (Addr × Obj)} {Q : Value → Shared → Prop}
  {ra ru lj ej dj : Addr} {es us ls : List Value} {n0 n1 n2 : Nat} {lst : List (Str × Value)} {j r : Int} {tj tr tn : Tok} {name : Str} {tab : Option Addr}
  (F : Fr g L s.heap m) (N : News g L s.heap ((ru, W.listOf us.toArray n1) :: (lj, W.listOf ls.toArray n2) :: (114, tabOf tab) :: rest)) (X : (KK w).In g) (T : Top p loose mean mg mb g) (C : CodeHd g 118 114) (hroom : A.depth < 880) (hu : A.units < 130)
  (hra : g.get? ra = some (W.listOf es.toArray n0)) (hj : es.getD j.toNat .none = .ref ej) (hj0 : 0 ≤ j) (hj3 : j < es.length) (hel : es.length ≤ 10)
  (hej : EntAt w (hideAll s.heap [ru, lj, 114]) ej dj lst) (hrl : lst.lookup (Str.ofString "rulelines") = some (.ref lj)) (hne : ru ≠ lj ∧ ru ≠ 114 ∧ lj ≠ 114) (hrest : ∀ q ∈ rest, q.1 ≠ ru ∧ q.1 ≠ lj ∧ q.1 ≠ 114) (hul : us.length ≤ 1000) (hll : ls.length ≤ 1000)
  (hname : name = Str.ofString "" ∨ name = Str.ofString "/A%41")
  (h : ∀ h' tk (x al t c' : Addr), Fr g L h' m → News g L h' ((ru, W.listOf (us ++ [Value.ref x]).toArray (n1 + 1)) :: (lj, W.listOf (ls ++ [Value.ref x]).toArray (n2 + 1)) :: (114, tabOf (some c')) :: rest) → Keeps [ru, lj, 114] s.heap h' →
    (∀ c, tab = some c → c' = c) → (tab = none → (hideAll h' (List.range s.heap.objs.size)).CodeRec (.ref c') "_law_come.<locals>.<lambda>") →
    RuleAt prog w (hideAll h' (List.range s.heap.objs.size)) c' (.ref x) us.length al (decide (r % 2 = 1)) (r / 2 % 4) (r / 2) →
    KeyAt (hideAll h' (List.range s.heap.objs.size)) (.ref t) (newKey name us.length j r) → Q (.ref t) { s with heap := h', toks := tk }) :
  wpAny (model prog w) A (call (.ref 119) [.ref ra, .ref ru, .int j tj, .int r tr, .str name tn]) Q E s := by
  have z1 := N _ (.head _)
  have z2 := N _ (.tail _ (.head _))
  have z3 := N _ (.tail _ (.tail _ (.head _)))
  have hS : ∀ b ∈ [ru, lj, 114], b ≠ L ∧ g.get? b = none := fun b hb => by
    rcases List.mem_cons.mp hb with rfl | hb
    · exact z1.2
    rcases List.mem_cons.mp hb with rfl | hb
    · exact z2.2
    rcases List.mem_cons.mp hb with rfl | hb
    · exact z3.2
    · cases hb
  have kb := base_in (S := [ru, lj, 114]) F fun b hb => (hS b hb).2
  have fin : ∀ h' (x c' : Addr), Keeps [ru, lj, 114] s.heap h' → h'.get? ru = some (W.listOf (us ++ [Value.ref x]).toArray (n1 + 1)) → h'.get? lj = some (W.listOf (ls ++ [Value.ref x]).toArray (n2 + 1)) → h'.get? 114 = some (tabOf (some c')) →
      Fr g L h' m ∧ News g L h' ((ru, W.listOf (us ++ [Value.ref x]).toArray (n1 + 1)) :: (lj, W.listOf (ls ++ [Value.ref x]).toArray (n2 + 1)) :: (114, tabOf (some c')) :: rest) := fun h' x c' k e1 e2 e3 => by
    refine ⟨fr_after F k hS, fun q hq => ?_⟩
    rcases List.mem_cons.mp hq with rfl | hq
    · exact ⟨e1, z1.2⟩
    rcases List.mem_cons.mp hq with rfl | hq
    · exact ⟨e2, z2.2⟩
    rcases List.mem_cons.mp hq with rfl | hq
    · exact ⟨e3, z3.2⟩
    · have y := N q (.tail _ (.tail _ (.tail _ hq)))
      have w := hrest q hq
      exact ⟨k _ _ (by simp [w]) y.1, y.2⟩
  refine wpAny_call (come_any (X.keeps kb) (T.keeps kb) (C.keeps kb) hroom hu z1.1 z2.1 z3.1 (kb _ _ hra) hj hj0 hj3 hel hej hrl hne hul hll hname ?_)
  intro h' tk x al t c' k e1 e2 e3 e7 e4 e5 e6
  obtain ⟨F', N'⟩ := fin h' x c' k e1 e2 e3
  exact h h' tk x al t c' F' N' k e7 e4 e5 e6

theorem go_in {prog : Program} {w : World} {p : Program} {loose : List Str} {mg mb : Str → Option Value} {A : Around} {E : Value → Shared → Prop} {s : Shared} {g : Heap} {L : Addr} {m : Str → Option Value} {news : List (Addr × Obj)} {u : Obj → List (Addr × Obj)} {Q : Value → Shared → Prop}
  {ra ru lj ej dj uj ka xk dk : Addr} {es us ls : List Value} {n0 n1 n2 n3 : Nat} {k0 k1 k2 k3 : Int} {ds : List DictEntry}
  (F : Fr g L s.heap m) (N : News g L s.heap news) (X : (KK w).In g) (T : TopRead p loose mg mb g) (U : UpdF dj (dictOf ds n3) news u) (hroom : A.depth < 880) (hu : A.units < 130) (hh : A.handled = none)
  (hra : (hideAll s.heap [dj]).get? ra = some (W.listOf es.toArray n0)) (hel : es.length ≤ 10) (hj : es.getD ((k2.natAbs : Int)).toNat .none = .ref ej) (hj3 : k2.natAbs < es.length)
  (hru : (hideAll s.heap [dj]).get? ru = some (W.listOf us.toArray n1)) (hul : us.length ≤ 1000) (hk3 : k3.natAbs < us.length)
  (hej : (hideAll s.heap [dj]).get? ej = some (instObj 52 dj)) (hds : EntsAre w ds [(Str.ofString "useragents", .ref uj), (Str.ofString "rulelines", .ref lj), (Str.ofString "delay", .none), (Str.ofString "req_rate", .none)])
  (hlj : (hideAll s.heap [dj]).get? lj = some (W.listOf ls.toArray n2)) (hll : ls.length ≤ 1000) (hka : KeyAt (hideAll s.heap [dj]) (.ref ka) [k0, k1, k2, k3])
  (hxk : us.getD ((k3.natAbs : Int)).toNat .none = .ref xk) (hxo : (hideAll s.heap [dj]).get? xk = some (instObj 52 dk)) (hls : ∀ v ∈ ls, ∃ b d, v = .ref b ∧ (hideAll s.heap [dj]).get? b = some (instObj 52 d))
  (h : ∀ h' tk (l' : Addr) es' n' n'', Fr g L h' m → News g L h' ((l', W.listOf (ls.filter (refNe xk)).toArray n'') :: u (dictOf es' n')) → Keeps [dj] s.heap h' → s.heap.objs.size ≤ l' → EntsAre w es' [(Str.ofString "useragents", .ref uj), (Str.ofString "rulelines", .ref l'), (Str.ofString "delay", .none), (Str.ofString "req_rate", .none)] →
    (∀ q ∈ news, q.1 < l') → L < l' → Q .none { s with heap := h', toks := tk }) :
  wpAny (model prog w) A (call (.ref 124) [.ref ra, .ref ru, .ref ka]) Q E s := by
  have z := updF_at N U
  have kb := hide_in F z.2.2
  refine wpAny_call (go_code (X.keeps kb) (T.keeps kb) hroom hu hh hra hel hj hj3 hru hul hk3 hej z.1 hds hlj hll hka hxk hxo hls ?_)
  intro h' tk l' es' n' n'' k hs e1 e2 e3
  have hL : L < l' := Nat.lt_of_lt_of_le F.ns.lt hs
  refine h h' tk l' es' n' n'' (fr_after F k (one_ne z.2)) (fun q hq => ?_) k hs e2 (fun q hq => Nat.lt_of_lt_of_le (Heap.lt_size (N q hq).1) hs) hL
  rcases List.mem_cons.mp hq with rfl | hq
  · exact ⟨e3, Nat.ne_of_gt hL, Heap.get?_none_of_le (Nat.le_trans F.above (Nat.le_of_lt hL))⟩
  · exact (updF_after N U k e1).1 q hq

/-- what a fact of a heap leans on: finitely many objects -/
def Supp (P : Heap → Prop) (h : Heap) : Prop := ∃ lr : List (Addr × Obj), (∀ q ∈ lr, h.get? q.1 = some q.2) ∧ ∀ h' : Heap, (∀ q ∈ lr, h'.get? q.1 = some q.2) → P h'
theorem Supp.and {P Q : Heap → Prop} {h : Heap} (x : Supp P h) (y : Supp Q h) : Supp (fun h => P h ∧ Q h) h := by
  obtain ⟨l, a, b⟩ := x
  obtain ⟨r, c, d⟩ := y
  refine ⟨l ++ r, fun q hq => ?_, fun h' k => ⟨b h' fun q hq => k q (List.mem_append_left _ hq), d h' fun q hq => k q (List.mem_append_right _ hq)⟩⟩
  rcases List.mem_append.mp hq with hq | hq
  · exact a q hq
  · exact c q hq
theorem KeyAt.supp {h : Heap} {v : Value} {k : List Int} (x : KeyAt h v k) : Supp (fun h => KeyAt h v k) h := by
  obtain ⟨t, o, vs, n, rfl, ho, r⟩ := x
  refine ⟨[(t, o)], fun q hq => ?_, fun h' kk => ⟨t, o, vs, n, rfl, kk _ (.head _), r⟩⟩
  rw [List.mem_singleton.mp hq]; exact ho
theorem RuleAt.supp {prog : Program} {w : World} {h : Heap} {c' : Addr} {v : Value} {i : Nat} {al : Addr} {ok : Bool} {a b : Int} (x : RuleAt prog w h c' v i al ok a b) : Supp (fun h => RuleAt prog w h c' v i al ok a b) h := by
  obtain ⟨x, d, u, l, f, c, rd, ti, t3, pm, ctv, oc, P, B, S, e1, ⟨e2, es, n, e2', e2''⟩, e3, e4, e5, e6, e7, t1, t2, e8⟩ := x
  obtain ⟨o, ho, hq⟩ := Heap.dictOf_iff.mp e8
  refine ⟨[(x, instObj 52 d), (d, dictOf es n), (al, _), (f, _), (c, oc), (rd, o)], ?_, fun h' k =>
    ⟨x, d, u, l, f, c, rd, ti, t3, pm, ctv, oc, P, B, S, e1, ⟨k _ (.head _), es, n, k _ (.tail _ (.head _)), e2''⟩, k _ (.tail _ (.tail _ (.head _))), e4, k _ (.tail _ (.tail _ (.tail _ (.head _)))), k _ (.tail _ (.tail _ (.tail _ (.tail _ (.head _))))), e7, t1, t2, Heap.dictOf_iff.mpr ⟨o, k _ (.tail _ (.tail _ (.tail _ (.tail _ (.tail _ (.head _)))))), hq⟩⟩⟩
  intro q hq'
  rcases List.mem_cons.mp hq' with rfl | hq'
  · exact e2
  rcases List.mem_cons.mp hq' with rfl | hq'
  · exact e2'
  rcases List.mem_cons.mp hq' with rfl | hq'
  · exact e3
  rcases List.mem_cons.mp hq' with rfl | hq'
  · exact e5
  rcases List.mem_cons.mp hq' with rfl | hq'
  · exact e6
  rcases List.mem_cons.mp hq' with rfl | hq'
  · exact ho
  · cases hq'

theorem code_supp {h : Heap} {cd : Value} {q : Str} (x : h.CodeRec cd q) : Supp (fun h => h.CodeRec cd q) h := by
  obtain ⟨c, o, vs, t, e, ho, r⟩ := x
  refine ⟨[(c, o)], fun q hq => ?_, fun h' k => ⟨c, o, vs, t, e, k _ (.head _), r⟩⟩
  rw [List.mem_singleton.mp hq]; exact ho
theorem Supp.imp {P Q : Heap → Prop} {h : Heap} (x : Supp P h) (k : ∀ h, P h → Q h) : Supp Q h := let ⟨l, a, b⟩ := x; ⟨l, a, fun h' q => k _ (b h' q)⟩
theorem Supp.triv {P : Heap → Prop} {h : Heap} (k : ∀ h, P h) : Supp P h := ⟨[], (fun _ h => nomatch h), fun h' _ => k h'⟩

/-- what is new behind _law_come, wherever its objects are kept -/
def NewRule (prog : Program) (w : World) (name : Str) (us : List Value) (j r : Int) (tab : Option Addr) (c' x al t : Addr) (h : Heap) : Prop :=
  RuleAt prog w h c' (.ref x) us.length al (decide (r % 2 = 1)) (r / 2 % 4) (r / 2) ∧ KeyAt h (.ref t) (newKey name us.length j r) ∧ (tab = none → h.CodeRec (.ref c') "_law_come.<locals>.<lambda>")

theorem come_in2 {prog : Program} {w : World} {p : Program} {loose : List Str} {mean : ExcName → Option Value} {mg mb : Str → Option Value} {A : Around} {E : Value → Shared → Prop} {s : Shared} {g : Heap} {L : Addr} {m : Str → Option Value} {rest : List (Addr × Obj)} {Q : Value → Shared → Prop}
  {ra ru lj ej dj : Addr} {es us ls : List Value} {n0 n1 n2 : Nat} {lst : List (Str × Value)} {j r : Int} {tj tr tn : Tok} {name : Str} {tab : Option Addr}
  (F : Fr g L s.heap m) (N : News g L s.heap ((ru, W.listOf us.toArray n1) :: (lj, W.listOf ls.toArray n2) :: (114, tabOf tab) :: rest)) (X : (KK w).In g) (T : Top p loose mean mg mb g) (C : CodeHd g 118 114) (hroom : A.depth < 880) (hu : A.units < 130)
  (hra : g.get? ra = some (W.listOf es.toArray n0)) (hj : es.getD j.toNat .none = .ref ej) (hj0 : 0 ≤ j) (hj3 : j < es.length) (hel : es.length ≤ 10)
  (hej : EntAt w (hideAll s.heap [ru, lj, 114]) ej dj lst) (hrl : lst.lookup (Str.ofString "rulelines") = some (.ref lj)) (hne : ru ≠ lj ∧ ru ≠ 114 ∧ lj ≠ 114) (hrest : ∀ q ∈ rest, q.1 ≠ ru ∧ q.1 ≠ lj ∧ q.1 ≠ 114) (hul : us.length ≤ 1000) (hll : ls.length ≤ 1000)
  (hname : name = Str.ofString "" ∨ name = Str.ofString "/A%41")
  (h : ∀ h' tk (x al t c' : Addr) lr, Fr g L h' m → News g L h' ((ru, W.listOf (us ++ [Value.ref x]).toArray (n1 + 1)) :: (lj, W.listOf (ls ++ [Value.ref x]).toArray (n2 + 1)) :: (114, tabOf (some c')) :: (rest ++ lr)) → Keeps [ru, lj, 114] s.heap h' →
    (∀ c, tab = some c → c' = c) → (∀ q ∈ lr, s.heap.objs.size ≤ q.1) → (∀ h2 : Heap, (∀ q ∈ lr, h2.get? q.1 = some q.2) → NewRule prog w name us j r tab c' x al t h2) → Q (.ref t) { s with heap := h', toks := tk }) :
  wpAny (model prog w) A (call (.ref 119) [.ref ra, .ref ru, .int j tj, .int r tr, .str name tn]) Q E s := by
  refine come_in F N X T C hroom hu hra hj hj0 hj3 hel hej hrl hne hrest hul hll hname ?_
  intro h' tk x al t c' F' N' k hc1 hc2 hrule hkey
  have hcode : Supp (fun h => tab = none → h.CodeRec (.ref c') "_law_come.<locals>.<lambda>") (hideAll h' (List.range s.heap.objs.size)) := by
    by_cases e : tab = none
    · exact (code_supp (hc2 e)).imp fun h q _ => q
    · exact .triv fun h q => absurd q e
  obtain ⟨lr, h1, h2⟩ := hrule.supp.and (hkey.supp.and hcode)
  have big : ∀ q ∈ lr, s.heap.objs.size ≤ q.1 := fun q hq => by
    rcases Nat.lt_or_ge q.1 s.heap.objs.size with lt | ge
    · have := h1 q hq
      rw [hideAll_none _ (List.mem_range.mpr lt)] at this; cases this
    · exact ge
  refine h h' tk x al t c' lr F' (fun q hq => ?_) k hc1 big h2
  have app : ∀ q ∈ lr, h'.get? q.1 = some q.2 ∧ q.1 ≠ L ∧ g.get? q.1 = none := fun q hq => by
    have hL : L < q.1 := Nat.lt_of_lt_of_le F.ns.lt (big q hq)
    exact ⟨of_hideAll _ (h1 q hq), Nat.ne_of_gt hL, Heap.get?_none_of_le (Nat.le_trans F.above (Nat.le_of_lt hL))⟩
  rcases List.mem_cons.mp hq with rfl | hq
  · exact N' _ (.head _)
  rcases List.mem_cons.mp hq with rfl | hq
  · exact N' _ (.tail _ (.head _))
  rcases List.mem_cons.mp hq with rfl | hq
  · exact N' _ (.tail _ (.tail _ (.head _)))
  rcases List.mem_append.mp hq with hq | hq
  · exact N' _ (.tail _ (.tail _ (.tail _ hq)))
  · exact app q hq
theorem lay_T2 : True := by
  k_with_none
  w_top off
  k_with "m_look" => first | with_reducible assumption | exact rfl | exact upd_eq | (refine upd_ne ?_ (by decide); walk_at "m_look")
  k_with "eval Name" => (k_here; (with_reducible rename Fr _ _ _ _ => kFZz); with_unfolding_all refine guard_global (by rfl) ?_; k_dflt (refine' name_B kFZz ?k1 ?k2 ?k3 ?k4 ?k5 ?_; (case k1 => k_asm); (case k2 => k_asm); (case k3 => exact rfl); (case k4 => boot_fast); (case k5 => decide); k_whole))
  k_with "eval Name" => (k_here; (with_reducible rename Fr _ _ _ _ => kFZz); with_unfolding_all refine guard_global (by rfl) ?_; k_dflt (refine' name_K kFZz ?k1 ?k2 ?k3 ?_; (case k1 => k_asm); (case k2 => k_asm); (case k3 => exact rfl); k_whole))
  k_with "callWith ref" => (k_here; k_dflt (first
      | refine' callWith_K ?k1 ?k2 ?_; (case k1 => k_asm); (case k2 => exact rfl); k_whole
      | refine' callWith_K0 ?k1 ?k2 ?_; (case k1 => k_in); (case k2 => exact rfl); k_whole))
  k_with "eval Name" => (k_here; k_dflt (refine' ld ?k1 ?k2 ?_; (case k1 => k_asm); (case k2 => walk_at "m_look"); k_whole))
  k_with "subscriptTail" => (k_here; (with_reducible show wpAny _ _ (subscriptTail _ _ (Value.ref _) (Value.int _ _)) _ _ _); k_dflt (refine' item_get ?k1 ?k2 ?k3 ?k4 ?_; (case k1 => exact News.isList (by k_asm) (by k_mem)); (case k2 => omega); (case k3 => omega); (case k4 => omega); k_whole))
  k_with "setItem ref int" => (k_here; k_dflt (refine' item_set ?k1 ?k2 ?k3 ?k4 ?k5 ?k6 ?_; (case k1 => k_asm); (case k2 => k_asm); (case k3 => k_upd); (case k4 => omega); (case k5 => omega); (case k6 => omega); k_whole); intro hZz FZz NZz; (try k_sweep))
  k_with "binaryOp RShift int int" => (k_here; k_dflt (refine' wpAny_rshift1_int ?k1 ?_; (case k1 => omega); k_whole))
  k_with "call builtin:len" => (k_here; (with_reducible show wpAny _ _ (call (Value.builtin _) [Value.ref _]) _ _ _); k_dflt (refine' len_L ?k1 ?k2 ?_; (case k1 => exact News.isList (by k_asm) (by k_mem)); (case k2 => ((try simp only [List.length_append, List.length_cons, List.length_nil]); omega)); k_whole))
  k_with "call builtin:list.append" => (k_here; (with_reducible show wpAny _ _ (call (Value.builtin _) [Value.ref _, _]) _ _ _); k_dflt (refine' append_L ?k1 ?k2 ?k3 ?k4 ?_; (case k1 => k_asm); (case k2 => k_asm); (case k3 => k_upd); (case k4 => ((try simp only [List.length_append, List.length_cons, List.length_nil]); omega)); k_whole); intro hZz FZz NZz; (try k_sweep))
  k_with "call builtin:list.pop" => (k_here; (with_reducible show wpAny _ _ (call (Value.builtin _) [Value.ref _]) _ _ _); k_dflt (refine' pop_L ?k1 ?k2 ?k3 ?k4 ?_; (case k1 => k_asm); (case k2 => k_asm); (case k3 => k_upd); (case k4 => omega); k_whole); intro hZz FZz NZz; (try k_sweep))
  k_with "assign Tuple" => (k_here; (with_reducible show wpAny _ _ (assign (Expr.Tuple _ _ _) _ (Value.ref _)) _ _ _); k_dflt (refine' unpackN_ ?F ?N ?T ?k1 ?k2 ?k3 ?_; (case F => k_asm); (case N => k_asm); (case T => first | with_reducible assumption | (refine News.isTup (by k_asm) (by k_mem))); (case k1 => assumption); (case k2 => exact rfl); (case k3 => exact rfl)); intro hZz FZz NZz; (try k_sweep))
  k_with "call type:range" => (k_here; (with_reducible show wpAny _ _ (call _ [Value.int _ _]) _ _ _); k_dflt (refine' range_L ?k1 ?k2 ?_; (case k1 => k_asm); (case k2 => k_asm); k_whole); intro rZz hZz uZz vZz FZz NZz l1Zz; (try k_lt l1Zz); (try k_sweep))
  k_with "call type:reversed" => (k_here; k_dflt (refine' reversed_L ?k1 ?k2 ?k3 ?k4 ?k5 ?_; (case k1 => k_asm); (case k2 => k_asm); (case k3 => k_mem); (case k4 => omega); (case k5 => omega); k_whole); intro iZz hZz FZz NZz l1Zz; (try k_lt l1Zz); (try k_sweep))
  k_with "binaryOp FloorDiv int int" => (k_here; k_dflt (refine' fdiv_pos ?k1 ?k2 ?_; (case k1 => decide); (case k2 => exact PyProof.noPylong_of_log2 (by decide +kernel)); k_whole))
  k_with "binaryOp Mod int int" => (k_here; k_dflt (refine' fmod_pos ?k1 ?_; (case k1 => decide); k_whole))
  k_with "ent inst" => first | exact Fr.keep (by k_asm) _ _ (by assumption) | exact News.get (by k_asm) (by k_mem)
  k_with "setAttr ref" => (k_here; k_dflt (refine' ent_set ?k1 ?k2 ?k3 ?k4 ?k5 ?k6 ?k7 ?_ ?k8; (case k8 => exact rfl); (case k1 => k_asm); (case k2 => k_asm); (case k3 => k_asm); (case k4 => walk_at "ent inst"); (case k5 => k_updF); (case k6 => assumption); (case k7 => exact Nat.le_of_ble_eq_true rfl); k_whole); intro hZz eZz nZz FZz NZz EZz; (try dsimp only at NZz); (try k_sweep))
  k_with "newList" => (k_here; k_dflt (refine' newList_L ?k1 ?k2 ?_ ?k3; (case k1 => k_asm); (case k2 => k_asm); (case k3 => first | exact Nat.le_of_ble_eq_true rfl | omega); k_whole); intro lZz hZz FZz NZz l1Zz l2Zz; (try k_lt l1Zz); (try k_lt2 l2Zz); (try k_sweep))
  k_with "is cells" => first | (with_reducible show wpAny _ _ (eval (Expr.Name _ _) (envOfC _ _ _ _ _)) _ _ _) | (with_reducible show wpAny _ _ (eval (Expr.Name _ _) (envX _ _ _ _ _ _)) _ _ _) | (with_reducible show wpAny _ _ (storeName (envOfC _ _ _ _ _) _ _) _ _ _)
  k_with "eval Name" => (k_here; walk_at "is cells"; k_dflt (first
      | (refine' nameX_L ?F ?v ?_ ?a ?b; (case F => k_asm); (case a => rfl); (case b => rfl); (case v => walk_at "m_look"); k_whole)
      | (refine' nameX_C ?N ?c ?m ?d ?_ ?a ?b; (case a => rfl); (case b => rfl); (case N => k_asm); (case c => rfl); (case m => k_mem); (case d => k_asm); k_whole)
      | (refine' nameX_F ?N ?c ?m ?d ?_ ?a ?b; (case a => rfl); (case b => rfl); (case N => k_asm); (case c => rfl); (case m => k_mem); (case d => k_asm); k_whole)
      | (refine' nameX_K ?F ?X ?T ?e ?_ ?a ?b; (case F => k_asm); (case X => k_asm); (case T => k_asm); (case a => rfl); (case b => rfl); (case e => exact rfl); k_whole)
      | (refine' nameX_B ?F ?X ?T ?e ?v ?n ?_ ?a ?b; (case F => k_asm); (case X => k_asm); (case T => k_asm); (case a => rfl); (case b => rfl); (case e => exact rfl); (case v => boot_fast); (case n => decide); k_whole)))
  k_with "eval Lambda" => (k_here; k_dflt (refine' kla_eval ?d0 ?_; (case d0 => exact rfl)); (first
      | (k_dflt (refine' kla_nest ?F ?N ?T ?C ?cd ?U ?t ?n ?cl ?_; (case F => k_asm); (case N => k_asm); (case T => k_asm); (case cd => exact rfl); (case C => k_asm); (case U => k_updF); (case t => kn_triples); (case n => kn_among); (case cl => exact rfl); k_whole); intro fZz cZz ocZz vsZz tZz ctZz hZz tkZz FZz NZz d1Zz d2Zz l1Zz l2Zz; (try dsimp only at NZz); (try k_lt l1Zz); (try k_lt2 l2Zz))
      | (k_dflt (refine' kla_hit ?F ?N ?T ?C ?cd ?mem ?t ?n ?cl ?_; (case F => k_asm); (case N => k_asm); (case T => k_asm); (case cd => exact rfl); (case C => k_asm); (case mem => k_mem); (case t => kn_triples); (case n => kn_among); (case cl => exact rfl); k_whole); intro fZz ctZz hZz tkZz FZz NZz l1Zz; (try k_lt l1Zz))))
  k_with "is list" => first | exact News.isList (by k_asm) (by k_mem) | exact isList_keep (by k_asm) (by assumption)
  k_with "subscriptTail" => (k_here; (with_reducible show wpAny _ _ (subscriptTail _ _ (Value.ref _) (Value.int _ _)) _ _ _); k_dflt (refine' item_getv ?k1 ?k2 ?k3 ?k4 ?k5 ?_; (case k1 => walk_at "is list"); (case k2 => omega); (case k3 => ((try simp only [List.length_cons, List.length_nil]); omega)); (case k4 => ((try simp only [List.length_cons, List.length_nil]); omega)); (case k5 => first | with_reducible assumption | exact rfl); k_whole))
  k_with "ent at" => first | exact EntAt.keeps (by assumption) (Fr.keep (by k_asm)) | exact ⟨Fr.keep (by k_asm) _ _ (by assumption), _, _, News.get (by k_asm) (by k_mem), by assumption⟩ | exact ⟨News.get (by k_asm) (by k_mem), _, _, News.get (by k_asm) (by k_mem), by assumption⟩
  k_with "getAttr ref" => (k_here; k_dflt (refine' ent_get ?k1 ?k2 ?k3 ?k4 ?_ ?k5 ?k6 ?k7 ?k8 ?k9; (case k5 => exact rfl); (case k6 => exact rfl); (case k7 => exact rfl); (case k8 => exact rfl); (case k9 => exact rfl); (case k1 => exact Frag.In.keeps (by k_asm) (Fr.keep (by k_asm))); (case k2 => walk_at "ent at"); (case k3 => first | assumption | exact rfl); (case k4 => exact rfl); k_whole))
  k_with "subscriptTail" => (k_here; (with_reducible show wpAny _ _ (subscriptTail _ _ (Value.ref _) (Value.str _ _)) _ _ _); k_dflt (refine' reach_item ?k1 ?k2 ?_; (case k1 => first | exact ReachAt.keeps (by assumption) (Fr.keep (by k_asm)) | exact ⟨_, _, Heap.dictOf_iff.mpr ⟨_, News.get (by k_asm) (by k_mem), by assumption⟩⟩); (case k2 => assumption); k_whole); intro _)
  k_with "getMethod ref" => (k_here; k_dflt (refine' ent_meth ?k1 ?k2 ?k3 ?k4 ?_ ?k5 ?k6 ?k7 ?k10 ?k8 ?k9; (case k5 => exact rfl); (case k6 => exact rfl); (case k7 => exact rfl); (case k10 => exact rfl); (case k8 => exact rfl); (case k9 => exact rfl); (case k1 => exact Frag.In.keeps (by k_asm) (Fr.keep (by k_asm))); (case k2 => walk_at "ent at"); (case k3 => first | assumption | exact rfl); (case k4 => exact rfl); k_whole))
  k_with "fn at" => exact ⟨_, _, _, _, Fr.keep (by k_asm) _ _ (by assumption)⟩
  k_with "callWith ref" => (k_here; k_dflt (refine' callWith_F ?k1 ?_; (case k1 => walk_at "fn at"); k_whole))
  k_with "And" => (k_dflt (refine And.intro ?kfn ?_; (case kfn => walk_at "fn at"); (try dsimp only [List.nil_append, List.cons_append])))
  k_with "subscriptTail" => (k_here; (with_reducible show wpAny _ _ (subscriptTail _ _ (Value.ref _) (Value.int _ _)) _ _ _); k_dflt (refine' key_at4 ?k1 ?k2 ?_; (case k1 => exact KeyAt.keeps (by assumption) (Fr.keep (by k_asm))); (case k2 => first | exact .i0 | exact .i1 | exact .i2 | exact .i3); k_whole); intro _)
  k_with "call builtin:abs" => (k_here; k_dflt (refine' abs_L ?_; k_whole); intro _ _)
  k_with "eval Name" => (k_here; (with_reducible show wpAny _ _ (eval (Expr.Name _ _) (compEnvC _ _ _ _)) _ _ _); k_dflt (first
      | (refine' nameY_L ?F ?v ?_ ?a ?b; (case F => k_asm); (case a => rfl); (case b => rfl); (case v => walk_at "m_look"); k_whole)
      | (refine' nameY_C ?F ?N ?c ?m ?d ?_ ?a ?b; (case a => rfl); (case b => rfl); (case F => k_asm); (case N => k_asm); (case c => rfl); (case m => k_mem); (case d => first | k_asm | rfl); k_whole)
      | (refine' nameY_K ?F ?X ?T ?e ?_ ?z ?a ?b; (case F => k_asm); (case X => k_asm); (case T => k_asm); (case z => rfl); (case a => rfl); (case b => rfl); (case e => exact rfl); k_whole)
      | (refine' nameY_B ?F ?X ?T ?e ?v ?n ?_ ?z ?y ?a ?b; (case F => k_asm); (case X => k_asm); (case T => k_asm); (case z => rfl); (case y => rfl); (case a => rfl); (case b => rfl); (case e => exact rfl); (case v => boot_fast); (case n => decide); k_whole)))
  k_with "call type:set cons nil" => (k_here; k_dflt (refine' set_L ?k1 ?k2 ?k3 ?k4 ?_; (case k1 => k_asm); (case k2 => k_asm); (case k3 => first | exact rfl | assumption); (case k4 => assumption); k_whole); intro xZz hZz tkZz oZz FZz NZz l1Zz l2Zz hsZz; (try k_lt l1Zz); (try k_lt2 l2Zz); (try k_sweep))
  k_with "getAttr ref" => (k_here; (with_reducible show wpAny _ _ (getAttr (Value.ref _) (PySem.Str.ofString "__contains__") _) _ _ _); obtain ⟨_, _, hs0Zz⟩ := (by assumption : ∃ S n, PySem.Obj.SetObjOf (intKind _ _) _ S n); k_dflt (refine' set_attr_N ?k1 ?k2 ?k3 ?k4 ?_; (case k1 => k_asm); (case k2 => k_asm); (case k4 => exact hs0Zz); (case k3 => k_mem); k_whole); intro xZz hZz tkZz FZz NZz l1Zz l2Zz; (try k_lt l1Zz); (try k_lt2 l2Zz); (try k_sweep))
  k_with "call type:filter" => (k_here; k_dflt (refine' filter_new ?k1 ?k2 ?k3 ?_; (case k1 => k_asm); (case k2 => k_asm); (case k3 => exact Fr.keep (by k_asm) _ _ (by assumption)); k_whole); intro iZz xZz hZz FZz NZz l1Zz l2Zz l3Zz; (try k_lt l1Zz); (try k_lt2 l2Zz); (try k_lt2 l3Zz))
  k_with "call type:list" => (k_here; k_dflt (refine' list_filter2 ?k1 ?k2 ?k3 ?k4 ?k5 ?_; (case k1 => k_asm); (case k2 => k_asm); (case k3 => first | exact rfl | assumption); (case k4 => assumption); (case k5 => walk_at "apart"); k_whole); intro xZz nZz hZz tkZz FZz NZz l1Zz l2Zz; (try k_lt l1Zz); (try k_lt2 l2Zz); (try k_sweep))
  k_with "apart" => repeat' (first | exact List.forall_mem_nil _ | (refine List.forall_mem_cons.mpr ⟨by k_ne, ?_⟩))
  k_with "binaryOp Add ref ref" => (k_here; k_dflt (refine' add_L ?k1 ?k2 ?k3 ?k4 ?k5 ?_; (case k1 => k_asm); (case k2 => k_asm); (case k3 => walk_at "is list"); (case k4 => walk_at "is list"); (case k5 => ((try simp only [List.length_append, List.length_cons, List.length_nil]); omega)); k_whole); intro xZz hZz FZz NZz l1Zz l2Zz; (try k_lt l1Zz); (try k_lt2 l2Zz); (try k_sweep))
  k_with "getMethod ref" => (k_here; k_dflt (refine' ent_methC ?k1 ?k2 ?k3 ?k4 ?_ ?k5 ?k6 ?k7; (case k1 => k_asm); (case k2 => k_asm); (case k3 => walk_at "ent at"); (case k4 => exact rfl); (case k5 => exact rfl); (case k6 => exact rfl); (case k7 => exact rfl); k_whole))
  k_with "all mem" => repeat' (first | exact List.forall_mem_nil _ | (refine List.forall_mem_cons.mpr ⟨by k_mem, ?_⟩))
  k_with "list obj" => first | exact News.get (by k_asm) (by k_mem) | exact Fr.keep (by k_asm) _ _ (by assumption)
  k_with "compareOp NotEq ref ref" => (k_here; (with_reducible show wpAny _ _ (compareOp CmpOp.NotEq (Value.ref _) (Value.ref _)) _ _ _); k_dflt (refine' ne_empty ?k1 ?k2 ?k3 ?_; (case k1 => walk_at "list obj"); (case k2 => exact News.get (by k_asm) (by k_mem)); (case k3 => (simp only [PySem.Around.deeper_units]; omega)); k_whole); (try simp only [List.isEmpty_cons, List.isEmpty_nil, Bool.not_false, Bool.not_true]))
  k_with "compareOp Eq ref ref" => (k_here; (with_reducible show wpAny _ _ (compareOp CmpOp.Eq (Value.ref _) (Value.ref _)) _ _ _); k_dflt (refine' eq_empty ?k1 ?k2 ?k3 ?_; (case k1 => walk_at "list obj"); (case k2 => exact News.get (by k_asm) (by k_mem)); (case k3 => (simp only [PySem.Around.deeper_units]; omega)); k_whole); (try simp only [List.isEmpty_cons, List.isEmpty_nil, Bool.not_false, Bool.not_true]))
  k_with "no loop" => ((fail_if_success (with_reducible show wpAny _ _ (exec (Stmt.While _ _ _ _) _) _ _ _)); (fail_if_success (with_reducible show wpAny _ _ (exec (Stmt.For _ _ _ _ _) _) _ _ _)); (fail_if_success (with_reducible show wpAny _ _ (call (Value.ref _) _ _) _ _ _)); (fail_if_success (with_reducible show wpAny _ _ (pyIter _) _ _ _)); (fail_if_success (with_reducible show wpAny _ _ (eval (Expr.ListComp _ _ _ _) _) _ _ _)); (fail_if_success (with_reducible show wpAny _ _ (exec (Stmt.Assign [Expr.Name _ _] (Expr.ListComp _ _ _ _) _) _) _ _ _)))
  k_with "go" => repeat' (first | (walk_at "no loop"; walk1; try dsimp only) | (walk_at "no loop"; dsimp only; walk1))
  exact True.intro
theorem push_code {prog : Program} {w : World} {p : Program} {loose : List Str} {mean : ExcName → Option Value} {mg mb : Str → Option Value} {A : Around} {R : Result → Shared → Prop} {s : Shared} {ra ha hd ru lj hj ej dj : Addr} {es hs us ls hv hds : List Value} {n0 n1 n2 n3 n4 n5 : Nat} {lst : List (Str × Value)} {tab : Option Addr} {n : Int} {tn tm : Tok} {name : Str}
  (X : (KK w).In (hideAll s.heap [ru, lj, 114, hj, hd])) (T : Top p loose mean mg mb (hideAll s.heap [ru, lj, 114, hj, hd])) (C : CodeHd (hideAll s.heap [ru, lj, 114, hj, hd]) 118 114) (hroom : A.depth < 800) (hu : A.units < 100) (hh : A.handled = none)
  (hru : s.heap.get? ru = some (W.listOf us.toArray n1)) (hlj : s.heap.get? lj = some (W.listOf ls.toArray n2)) (htab : s.heap.get? 114 = some (tabOf tab)) (hhj : s.heap.get? hj = some (W.listOf hv.toArray n3)) (hhd : s.heap.get? hd = some (W.listOf hds.toArray n4))
  (hra : (hideAll s.heap [ru, lj, 114, hj, hd]).get? ra = some (W.listOf es.toArray n0)) (hha : (hideAll s.heap [ru, lj, 114, hj, hd]).get? ha = some (W.listOf hs.toArray n5)) (hej : EntAt w (hideAll s.heap [ru, lj, 114, hj, hd]) ej dj lst) (hrl : lst.lookup (Str.ofString "rulelines") = some (.ref lj))
  (hn : n % 10 ≤ 5) (hel : es.length = 3) (hhl : hs.length = 3) (hje : es.getD (n % 10 % 3).toNat .none = .ref ej) (hjh : hs.getD (n % 10 % 3).toNat .none = .ref hj)
  (x1 : ru ≠ lj) (x2 : ru ≠ 114) (x3 : ru ≠ hj) (x4 : ru ≠ hd) (x5 : lj ≠ 114) (x6 : lj ≠ hj) (x7 : lj ≠ hd) (x8 : hj ≠ 114) (x9 : hd ≠ 114) (x10 : hj ≠ hd)
  (hul : us.length ≤ 100) (hll : ls.length ≤ 100) (hvl : hv.length ≤ 100) (hdl : hds.length ≤ 10) (hname : name = Str.ofString "" ∨ name = Str.ofString "/A%41")
  (hk : KeysIn (hideAll s.heap [ru, lj, 114, hj, hd]) hv) (hH : ∀ v ∈ hds, v = .ref hj ∨ HeadG (hideAll s.heap [ru, lj, 114, hj, hd]) v) (ho1 : HOL klt 0 (hv.map (keyV (hideAll s.heap [ru, lj, 114, hj, hd])))) (ho2 : hv = [] → HOL kllt 0 (hds.map (keysV (hideAll s.heap [ru, lj, 114, hj, hd]))) ∧ Value.ref hj ∉ hds)
  (post : ∀ h' tk (x al t c' : Addr) (hv' hds' : List Value) k1 k2, Keeps [ru, lj, 114, hj, hd] s.heap h' → h'.get? ru = some (W.listOf (us ++ [Value.ref x]).toArray (n1 + 1)) → h'.get? lj = some (W.listOf (ls ++ [Value.ref x]).toArray (n2 + 1)) → h'.get? 114 = some (tabOf (some c')) →
    h'.get? hj = some (W.listOf hv'.toArray k1) → hv'.Perm (hv ++ [.ref t]) → HOL klt 0 (hv'.map (keyV h')) → h'.get? hd = some (W.listOf hds'.toArray k2) → hds'.Perm (if hv = [] then hds ++ [.ref hj] else hds) → HOL kllt 0 (hds'.map (keysV h')) →
    (∀ c, tab = some c → c' = c) → NewRule prog w name us (n % 10 % 3) (n / 10) tab c' x al t (hideAll h' (List.range s.heap.objs.size)) → R (.ok (.ret (.bool true))) { s with heap := h', toks := tk }) :
  codeAny (model prog w) A (.call (.ref 129) ⟨[.ref ra, .ref ha, .ref hd, .ref ru, .int n tn, .str name tm], []⟩) R s := by
  obtain ⟨g, hg⟩ : ∃ g, g = hideAll s.heap [ru, lj, 114, hj, hd] := ⟨_, rfl⟩
  rw [← hg] at X T C hra hha hej hk hH ho1 ho2
  have T' := topRead_of T
  refine enter (news := [(ru, W.listOf us.toArray n1), (lj, W.listOf ls.toArray n2), (114, tabOf tab), (hj, W.listOf hv.toArray n3), (hd, W.listOf hds.toArray n4)]) (K := KK w) hg X T' ?_ rfl rfl (Nat.lt_of_lt_of_le hroom (by decide)) (BindsTo.of_eq rfl) (locs rfl) ?_
  · intro q hq
    rcases List.mem_cons.mp hq with rfl | hq
    · exact hru
    rcases List.mem_cons.mp hq with rfl | hq
    · exact hlj
    rcases List.mem_cons.mp hq with rfl | hq
    · exact htab
    rcases List.mem_cons.mp hq with rfl | hq
    · exact hhj
    rcases List.mem_cons.mp hq with rfl | hq
    · exact hhd
    · cases hq
  intro L h₁ tk F N lt0
  k_lt lt0
  have hsL : s.heap.objs.size ≤ L := by have := F.above; rw [hg, hideAll_size] at this; exact this
  have hn0 : 0 ≤ n % 10 := Int.emod_nonneg _ (by decide)
  have hj0 : 0 ≤ n % 10 % 3 := Int.emod_nonneg _ (by decide)
  have hj3 : n % 10 % 3 < 3 := Int.emod_lt_of_pos _ (by decide)
  have hm : (([6, 8] : List Int).any fun x => x == n % 10) = false := by
    simp only [List.any_cons, List.any_nil, Bool.or_false, Bool.or_eq_false_iff, beq_eq_false_iff_ne, ne_eq]
    (first | lia | omega)
  try dsimp only
  walk_at "go"
  all_goals try (exfalso; (first | lia | omega))
  all_goals try (rename (List.any _ _ = true) => hax; rw [hm] at hax; cases hax)
  (rename Fr _ _ _ _ => F2); (rename News _ _ _ _ => N2)
  have N3 := news_of (news' := [(ru, W.listOf us.toArray n1), (lj, W.listOf ls.toArray n2), (114, tabOf tab), (hj, W.listOf hv.toArray n3), (hd, W.listOf hds.toArray n4)]) N2 (by walk_at "all mem")
  clear N2
  have hej' : EntAt w (hideAll (heapOf F2) [ru, lj, 114]) ej dj lst := hej.keeps (base_in F2 fun b hb => by
    rcases List.mem_cons.mp hb with rfl | hb
    · exact (N3 _ (.head _)).2.2
    rcases List.mem_cons.mp hb with rfl | hb
    · exact (N3 _ (.tail _ (.head _))).2.2
    rcases List.mem_cons.mp hb with rfl | hb
    · exact (N3 _ (.tail _ (.tail _ (.head _)))).2.2
    · cases hb)
  refine come_in2 F2 N3 X T C (dpt (a := A.depth) hroom (by decide)) (unt (a := A.units) hu (by decide)) hra hje hj0 (by (first | lia | omega)) (by (first | lia | omega)) hej' hrl ⟨x1, x2, x5⟩ ?_ (by (first | lia | omega)) (by (first | lia | omega)) hname ?_
  · intro q hq
    rcases List.mem_cons.mp hq with rfl | hq
    · exact ⟨Ne.symm x3, Ne.symm x6, x8⟩
    rcases List.mem_cons.mp hq with rfl | hq
    · exact ⟨Ne.symm x4, Ne.symm x7, x9⟩
    · cases hq
  intro h4 tk4 x al t c' lr F4 N4 k4 hc1 hbig hnew
  simp only [List.cons_append, List.nil_append] at N4
  have hjb : ∀ q ∈ lr, q.1 ≠ hj ∧ q.1 ≠ hd := fun q hq => by
    have b1 := hbig q hq
    have b2 := Heap.lt_size (N3 (hj, _) (.tail _ (.tail _ (.tail _ (.head _))))).1
    have b3 := Heap.lt_size (N3 (hd, _) (.tail _ (.tail _ (.tail _ (.tail _ (.head _)))))).1
    exact ⟨Nat.ne_of_gt (Nat.lt_of_lt_of_le b2 b1), Nat.ne_of_gt (Nat.lt_of_lt_of_le b3 b1)⟩
  have hbig' : ∀ q ∈ lr, s.heap.objs.size ≤ q.1 := fun q hq => Nat.le_trans hsL (Nat.le_trans (Nat.le_of_lt F2.ns.lt) (hbig q hq))
  clear hej' F2 N3 k4
  walk_at "go"
  all_goals try (exfalso; (first | lia | omega))
  (rename Fr _ _ _ _ => F5); (rename News _ _ _ _ => N5)
  have g5 := (N5 (hj, W.listOf hv.toArray n3) (.tail _ (.tail _ (.tail _ (.head _))))).1
  have nw5 := hnew (heapOf F5) fun q hq => (N5 q (.tail _ (.tail _ (.tail _ (.tail _ (.tail _ hq)))))).1
  have kk5 := (hk.keeps F5.keep).append nw5.2.1.in
  refine push_in F5 N5 X T' (u := fun o => (ru, W.listOf (us ++ [Value.ref x]).toArray (n1 + 1)) :: (lj, W.listOf (ls ++ [Value.ref x]).toArray (n2 + 1)) :: (114, tabOf (some c')) :: (hj, o) :: (hd, W.listOf hds.toArray n4) :: lr) (.tail x3 (.tail x6 (.tail (Ne.symm x8) (.head ?kU)))) (dpt (a := A.depth) hroom (by decide)) (unt (a := A.units) hu (by decide)) (ord_keys kk5 g5) (by rw [hk.keyV_keeps F5.keep]; exact ho1) (by (first | lia | omega)) ?_
  case kU =>
    intro q hq
    rcases List.mem_cons.mp hq with rfl | hq
    · exact Ne.symm x10
    · exact (hjb q hq).1
  intro h6 tk6 hv' F6 N6 k6 p6 o6
  try dsimp only [heapOf] at nw5
  clear nw5 kk5 g5
  clear F5 N5
  try dsimp only at N6
  have hl6 : hv'.length = hv.length + 1 := by rw [p6.length_eq]; simp
  have fin : ∀ (h' : Heap) tk' m' (hds' : List Value) k2, Fr g L h' m' → News g L h' ((ru, W.listOf (us ++ [Value.ref x]).toArray (n1 + 1)) :: (lj, W.listOf (ls ++ [Value.ref x]).toArray (n2 + 1)) :: (114, tabOf (some c')) :: (hj, W.listOf hv'.toArray (n3 + 1)) :: (hd, W.listOf hds'.toArray k2) :: lr) →
      HOL klt 0 (hv'.map (keyV h')) → hds'.Perm (if hv = [] then hds ++ [.ref hj] else hds) → HOL kllt 0 (hds'.map (keysV h')) → R (.ok (.ret (.bool true))) { s with heap := h', toks := tk' } := by
    intro h' tk' m' hds' k2 F' N' o' pd od
    refine post h' tk' x al t c' hv' hds' _ _ (keeps_of hg F') (N' _ (.head _)).1 (N' _ (.tail _ (.head _))).1 (N' _ (.tail _ (.tail _ (.head _)))).1 (N' (hj, _) (.tail _ (.tail _ (.tail _ (.head _))))).1 p6 o' (N' (hd, _) (.tail _ (.tail _ (.tail _ (.tail _ (.head _)))))).1 pd od hc1 (hnew _ fun q hq => ?_)
    exact hideAll_get _ (N' q (.tail _ (.tail _ (.tail _ (.tail _ (.tail _ hq)))))).1 fun q' => Nat.lt_irrefl _ (Nat.lt_of_lt_of_le (List.mem_range.mp q') (hbig' q hq))
  have keysOf : ∀ (h' : Heap) m' (hds' : List Value) k2, Fr g L h' m' → News g L h' ((ru, W.listOf (us ++ [Value.ref x]).toArray (n1 + 1)) :: (lj, W.listOf (ls ++ [Value.ref x]).toArray (n2 + 1)) :: (114, tabOf (some c')) :: (hj, W.listOf hv'.toArray (n3 + 1)) :: (hd, W.listOf hds'.toArray k2) :: lr) → KeysIn h' hv' := by
    intro h' m' hds' k2 F' N'
    exact ((hk.keeps F'.keep).append (hnew h' fun q hq => (N' q (.tail _ (.tail _ (.tail _ (.tail _ (.tail _ hq)))))).1).2.1.in).perm p6
  by_cases hve : hv = []
  · have hl7 : hv'.length = 1 := by rw [hl6, hve]; rfl
    obtain ⟨ho2, hnm⟩ := ho2 hve
    walk_at "go"
    all_goals try (exfalso; (first | lia | omega))
    (rename Fr _ _ _ _ => F7); (rename News _ _ _ _ => N7)
    have kv7 := keysOf _ _ _ _ F7 N7
    have hH7 : HeadsIn (heapOf F7) hd (hds ++ [.ref hj]) := heads_of (fun v hv => by
      rcases List.mem_append.mp hv with hv | hv
      · exact hH v hv
      · exact .inl (List.mem_singleton.mp hv)) F7.keep (N7 (hd, _) (.tail _ (.tail _ (.tail _ (.tail _ (.head _)))))).2.2 x10 (N7 (hj, _) (.tail _ (.tail _ (.tail _ (.head _))))).1 kv7
    refine push_in F7 N7 X T' (u := fun o => (ru, W.listOf (us ++ [Value.ref x]).toArray (n1 + 1)) :: (lj, W.listOf (ls ++ [Value.ref x]).toArray (n2 + 1)) :: (114, tabOf (some c')) :: (hj, W.listOf hv'.toArray (n3 + 1)) :: (hd, o) :: lr) (.tail x4 (.tail x7 (.tail (Ne.symm x9) (.tail x10 (.head fun q hq => (hjb q hq).2))))) (dpt (a := A.depth) hroom (by decide)) (unt (a := A.units) hu (by decide))
      (ord_heads hH7 (N7 (hd, _) (.tail _ (.tail _ (.tail _ (.tail _ (.head _)))))).1) ?_ (by (first | lia | omega)) ?_
    · rw [List.map_congr_left (g := keysV g) fun v hv => ((hH v hv).resolve_left fun e => hnm (e ▸ hv)).keysV F7.keep]
      exact ho2
    intro h8 tk8 hds' F8 N8 k8 p8 o8
    have o9 : HOL klt 0 (hv'.map (keyV h8)) := by
      rw [List.map_congr_left fun v hv => (ord_keys (prog := prog) (w := w) kv7 (N7 (hd, _) (.tail _ (.tail _ (.tail _ (.tail _ (.head _)))))).1).same h8 k8 v hv]
      exact o6
    clear hH7 kv7 k8
    clear F7 N7
    try dsimp only at N8
    walk_at "go"
    exact fin _ _ _ _ _ F8 N8 o9 (by rw [if_pos hve]; exact p8) o8
  · have hl7 : 0 < hv.length := List.length_pos_iff.mpr hve
    walk_at "go"
    all_goals try (exfalso; (first | lia | omega))
    (rename Fr _ _ _ _ => F7); (rename News _ _ _ _ => N7)
    have kv7 := keysOf _ _ _ _ F7 N7
    have hH7 : HeadsIn (heapOf F7) hd hds := heads_of hH F7.keep (N7 (hd, _) (.tail _ (.tail _ (.tail _ (.tail _ (.head _)))))).2.2 x10 (N7 (hj, _) (.tail _ (.tail _ (.tail _ (.head _))))).1 kv7
    refine heapify_in F7 N7 X T' (u := fun o => (ru, W.listOf (us ++ [Value.ref x]).toArray (n1 + 1)) :: (lj, W.listOf (ls ++ [Value.ref x]).toArray (n2 + 1)) :: (114, tabOf (some c')) :: (hj, W.listOf hv'.toArray (n3 + 1)) :: (hd, o) :: lr) (.tail x4 (.tail x7 (.tail (Ne.symm x9) (.tail x10 (.head fun q hq => (hjb q hq).2))))) (dpt (a := A.depth) hroom (by decide)) (unt (a := A.units) hu (by decide)) (by exact hh)
      (ord_heads hH7 (N7 (hd, _) (.tail _ (.tail _ (.tail _ (.tail _ (.head _)))))).1) (by (first | lia | omega)) ?_
    intro h8 tk8 hds' F8 N8 k8 p8 o8
    have o9 : HOL klt 0 (hv'.map (keyV h8)) := by
      rw [List.map_congr_left fun v hv => (ord_keys (prog := prog) (w := w) kv7 (N7 (hd, _) (.tail _ (.tail _ (.tail _ (.tail _ (.head _)))))).1).same h8 k8 v hv]
      exact o6
    clear hH7 kv7 k8
    clear F7 N7
    try dsimp only at N8
    walk_at "go"
    exact fin _ _ _ _ _ F8 N8 o9 (by rw [if_neg hve]; exact p8) o8
theorem lay_T25 : True := by
  k_with_none
  w_top off
  exact True.intro
/-- a key that names a rule of the jn-th record -/
def KeyTo (g : Heap) (us : List Value) (jn : Nat) (v : Value) : Prop :=
  ∃ a k0 k1 k2 k3 x d, v = .ref a ∧ KeyAt g v [k0, k1, k2, k3] ∧ k2.natAbs = jn ∧ k3.natAbs < us.length ∧ us.getD k3.natAbs .none = .ref x ∧ g.get? x = some (instObj 52 d)
def RulesIn (g : Heap) (ls : List Value) : Prop := ∀ v ∈ ls, ∃ b d, v = .ref b ∧ g.get? b = some (instObj 52 d)
theorem KeyTo.keeps {g h : Heap} {us : List Value} {jn : Nat} {v : Value} (x : KeyTo g us jn v) (k : Sub g h) : KeyTo h us jn v := by
  obtain ⟨a, k0, k1, k2, k3, x, d, e, ka, r1, r2, r3, r4⟩ := x
  exact ⟨a, k0, k1, k2, k3, x, d, e, ka.keeps k, r1, r2, r3, k _ _ r4⟩
theorem KeyTo.grow {g : Heap} {us : List Value} {jn : Nat} {v : Value} (ws : List Value) (x : KeyTo g us jn v) : KeyTo g (us ++ ws) jn v := by
  obtain ⟨a, k0, k1, k2, k3, x, d, e, ka, r1, r2, r3, r4⟩ := x
  refine ⟨a, k0, k1, k2, k3, x, d, e, ka, r1, by simp; (first | lia | omega), ?_, r4⟩
  rw [List.getD_eq_getElem?_getD, List.getElem?_append_left r2, ← List.getD_eq_getElem?_getD]; exact r3
theorem KeyTo.key {g : Heap} {us : List Value} {jn : Nat} {v : Value} (x : KeyTo g us jn v) : KeyAt g v (keyV g v) := by
  obtain ⟨a, k0, k1, k2, k3, x, d, e, ka, -⟩ := x
  rw [ka.keyV]; exact ka
theorem RulesIn.keeps {g h : Heap} {ls : List Value} (x : RulesIn g ls) (k : Sub g h) : RulesIn h ls := fun v hv =>
  let ⟨b, d, e, e2⟩ := x v hv; ⟨b, d, e, k _ _ e2⟩
theorem RulesIn.append {g : Heap} {ls ws : List Value} (x : RulesIn g ls) (y : RulesIn g ws) : RulesIn g (ls ++ ws) := fun v hv => by
  rcases List.mem_append.mp hv with hv | hv
  · exact x v hv
  · exact y v hv
theorem KeysIn.of {g : Heap} {us vs : List Value} {jn : Nat} (x : ∀ v ∈ vs, KeyTo g us jn v) : KeysIn g vs := fun v hv => (x v hv).key
theorem newKey_key (name : Str) (i : Nat) (j r : Int) : ∃ k0 k1 k2 k3, newKey name i j r = [k0, k1, k2, k3] ∧ k2.natAbs = j.natAbs ∧ k3.natAbs = i := by
  unfold newKey
  split
  · exact ⟨_, _, _, _, rfl, rfl, by (first | lia | omega)⟩
  · exact ⟨_, _, _, _, rfl, by (first | lia | omega), by (first | lia | omega)⟩
theorem NewRule.inst {prog : Program} {w : World} {name : Str} {us : List Value} {j r : Int} {tab : Option Addr} {c' x al t : Addr} {h : Heap} (z : NewRule prog w name us j r tab c' x al t h) : ∃ d, h.get? x = some (instObj 52 d) := by
  obtain ⟨x', d, u, l, f, c, rd, ti, t3, pm, ctv, oc, P, B, S, e1, ⟨e2, es, n, e2', e2''⟩, -⟩ := z.1
  cases e1
  exact ⟨d, e2⟩
theorem NewRule.keyTo {prog : Program} {w : World} {name : Str} {us : List Value} {j r : Int} {tab : Option Addr} {c' x al t : Addr} {h : Heap} (z : NewRule prog w name us j r tab c' x al t h) : KeyTo h (us ++ [.ref x]) j.natAbs (.ref t) := by
  obtain ⟨k0, k1, k2, k3, e, e2, e3⟩ := newKey_key name us.length j r
  obtain ⟨d, hd⟩ := z.inst
  refine ⟨t, k0, k1, k2, k3, x, d, rfl, e ▸ z.2.1, e2, by simp; (first | lia | omega), ?_, hd⟩
  rw [e3, List.getD_eq_getElem?_getD]
  simp

theorem HOL.swap {α : Type} {lt : α → α → Bool} {a b : α} {l : List α} (h : HOL lt 1 (a :: l)) : HOL lt 1 (b :: l) := fun p c x y hp hc hx hy => by
  obtain ⟨p, rfl⟩ : ∃ q, p = q + 1 := ⟨p - 1, by (first | lia | omega)⟩
  obtain ⟨c, rfl⟩ : ∃ q, c = q + 1 := ⟨c - 1, by unfold Child at hc; (first | lia | omega)⟩
  exact h (p + 1) (c + 1) x y hp hc hx hy
theorem heads1 {g h : Heap} {hj : Value} {dr : List Value} (ho : HOL kllt 1 ((hj :: dr).map (keysV g))) (hH : ∀ v ∈ dr, HeadG g v) (k : Sub g h) : HOL kllt 1 ((hj :: dr).map (keysV h)) := by
  rw [List.map_cons] at ho ⊢
  rw [List.map_congr_left fun v hv => (hH v hv).keysV k]
  exact ho.swap

theorem go_key {prog : Program} {w : World} {p : Program} {loose : List Str} {mg mb : Str → Option Value} {A : Around} {E : Value → Shared → Prop} {s : Shared} {g : Heap} {L : Addr} {m : Str → Option Value} {news : List (Addr × Obj)} {u : Obj → List (Addr × Obj)} {Q : Value → Shared → Prop}
  {ra ru lj ej dj uj : Addr} {es us ls : List Value} {n0 n1 n2 n3 jn : Nat} {ds : List DictEntry} {v : Value}
  (F : Fr g L s.heap m) (N : News g L s.heap news) (X : (KK w).In g) (T : TopRead p loose mg mb g) (U : UpdF dj (dictOf ds n3) news u) (hroom : A.depth < 880) (hu : A.units < 130) (hh : A.handled = none)
  (hra : g.get? ra = some (W.listOf es.toArray n0)) (hel : es.length ≤ 10) (hj : es.getD jn .none = .ref ej) (hj3 : jn < es.length)
  (hru : (ru, W.listOf us.toArray n1) ∈ news) (hrd : ru ≠ dj) (hul : us.length ≤ 1000)
  (hej : g.get? ej = some (instObj 52 dj)) (hds : EntsAre w ds (recL uj lj))
  (hlj : (lj, W.listOf ls.toArray n2) ∈ news) (hld : lj ≠ dj) (hll : ls.length ≤ 1000) (hkt : KeyTo (hideAll s.heap [dj]) us jn v) (hls : RulesIn (hideAll s.heap [dj]) ls)
  (h : ∀ h' tk (l' : Addr) es' n' n'' xk, us.getD ((keyV s.heap v).getD 3 0).natAbs .none = .ref xk → Fr g L h' m → News g L h' ((l', W.listOf (ls.filter (refNe xk)).toArray n'') :: u (dictOf es' n')) → Keeps [dj] s.heap h' → s.heap.objs.size ≤ l' → EntsAre w es' (recL uj l') →
    (∀ q ∈ news, q.1 < l') → L < l' → Q .none { s with heap := h', toks := tk }) :
  wpAny (model prog w) A (call (.ref 124) [.ref ra, .ref ru, v]) Q E s := by
  obtain ⟨a, k0, k1, k2, k3, x, d, rfl, ka, r1, r2, r3, r4⟩ := hkt
  have z := updF_at N U
  have kb := hide_in F z.2.2
  refine go_in F N X T U hroom hu hh (kb _ _ hra) hel (by rw [Int.toNat_natCast, r1]; exact hj) (by (first | lia | omega)) (hideAll_get _ (N _ hru).1 (by simpa using hrd)) hul r2 (kb _ _ hej) hds (hideAll_get _ (N _ hlj).1 (by simpa using hld)) hll ka (by rw [Int.toNat_natCast]; exact r3) r4 hls ?_
  intro h' tk l' es' n' n'' F' N' k hs e1 hq hL
  refine h h' tk l' es' n' n'' x ?_ F' N' k hs e1 hq hL
  have : keyV s.heap (.ref a) = [k0, k1, k2, k3] := (ka.keeps fun b o e => of_hideAll _ e).keyV
  rw [this]; exact r3
theorem lay_T3 : True := by
  k_with_none
  w_top off
  k_with "m_look" => first | with_reducible assumption | exact rfl | exact upd_eq | (refine upd_ne ?_ (by decide); walk_at "m_look")
  k_with "eval Name" => (k_here; (with_reducible rename Fr _ _ _ _ => kFZz); with_unfolding_all refine guard_global (by rfl) ?_; k_dflt (refine' name_B kFZz ?k1 ?k2 ?k3 ?k4 ?k5 ?_; (case k1 => k_asm); (case k2 => k_asm); (case k3 => exact rfl); (case k4 => boot_fast); (case k5 => decide); k_whole))
  k_with "eval Name" => (k_here; (with_reducible rename Fr _ _ _ _ => kFZz); with_unfolding_all refine guard_global (by rfl) ?_; k_dflt (refine' name_K kFZz ?k1 ?k2 ?k3 ?_; (case k1 => k_asm); (case k2 => k_asm); (case k3 => exact rfl); k_whole))
  k_with "callWith ref" => (k_here; k_dflt (first
      | refine' callWith_K ?k1 ?k2 ?_; (case k1 => k_asm); (case k2 => exact rfl); k_whole
      | refine' callWith_K0 ?k1 ?k2 ?_; (case k1 => k_in); (case k2 => exact rfl); k_whole))
  k_with "eval Name" => (k_here; k_dflt (refine' ld ?k1 ?k2 ?_; (case k1 => k_asm); (case k2 => walk_at "m_look"); k_whole))
  k_with "subscriptTail" => (k_here; (with_reducible show wpAny _ _ (subscriptTail _ _ (Value.ref _) (Value.int _ _)) _ _ _); k_dflt (refine' item_get ?k1 ?k2 ?k3 ?k4 ?_; (case k1 => exact News.isList (by k_asm) (by k_mem)); (case k2 => omega); (case k3 => omega); (case k4 => omega); k_whole))
  k_with "setItem ref int" => (k_here; k_dflt (refine' item_set ?k1 ?k2 ?k3 ?k4 ?k5 ?k6 ?_; (case k1 => k_asm); (case k2 => k_asm); (case k3 => k_upd); (case k4 => omega); (case k5 => omega); (case k6 => omega); k_whole); intro hZz FZz NZz; (try k_sweep))
  k_with "binaryOp RShift int int" => (k_here; k_dflt (refine' wpAny_rshift1_int ?k1 ?_; (case k1 => omega); k_whole))
  k_with "call builtin:len" => (k_here; (with_reducible show wpAny _ _ (call (Value.builtin _) [Value.ref _]) _ _ _); k_dflt (refine' len_L ?k1 ?k2 ?_; (case k1 => exact News.isList (by k_asm) (by k_mem)); (case k2 => ((try simp only [List.length_append, List.length_cons, List.length_nil]); omega)); k_whole))
  k_with "call builtin:list.append" => (k_here; (with_reducible show wpAny _ _ (call (Value.builtin _) [Value.ref _, _]) _ _ _); k_dflt (refine' append_L ?k1 ?k2 ?k3 ?k4 ?_; (case k1 => k_asm); (case k2 => k_asm); (case k3 => k_upd); (case k4 => ((try simp only [List.length_append, List.length_cons, List.length_nil]); omega)); k_whole); intro hZz FZz NZz; (try k_sweep))
  k_with "call builtin:list.pop" => (k_here; (with_reducible show wpAny _ _ (call (Value.builtin _) [Value.ref _]) _ _ _); k_dflt (refine' pop_L ?k1 ?k2 ?k3 ?k4 ?_; (case k1 => k_asm); (case k2 => k_asm); (case k3 => k_upd); (case k4 => omega); k_whole); intro hZz FZz NZz; (try k_sweep))
  k_with "assign Tuple" => (k_here; (with_reducible show wpAny _ _ (assign (Expr.Tuple _ _ _) _ (Value.ref _)) _ _ _); k_dflt (refine' unpackN_ ?F ?N ?T ?k1 ?k2 ?k3 ?_; (case F => k_asm); (case N => k_asm); (case T => first | with_reducible assumption | (refine News.isTup (by k_asm) (by k_mem))); (case k1 => assumption); (case k2 => exact rfl); (case k3 => exact rfl)); intro hZz FZz NZz; (try k_sweep))
  k_with "call type:range" => (k_here; (with_reducible show wpAny _ _ (call _ [Value.int _ _]) _ _ _); k_dflt (refine' range_L ?k1 ?k2 ?_; (case k1 => k_asm); (case k2 => k_asm); k_whole); intro rZz hZz uZz vZz FZz NZz l1Zz; (try k_lt l1Zz); (try k_sweep))
  k_with "call type:reversed" => (k_here; k_dflt (refine' reversed_L ?k1 ?k2 ?k3 ?k4 ?k5 ?_; (case k1 => k_asm); (case k2 => k_asm); (case k3 => k_mem); (case k4 => omega); (case k5 => omega); k_whole); intro iZz hZz FZz NZz l1Zz; (try k_lt l1Zz); (try k_sweep))
  k_with "binaryOp FloorDiv int int" => (k_here; k_dflt (refine' fdiv_pos ?k1 ?k2 ?_; (case k1 => decide); (case k2 => exact PyProof.noPylong_of_log2 (by decide +kernel)); k_whole))
  k_with "binaryOp Mod int int" => (k_here; k_dflt (refine' fmod_pos ?k1 ?_; (case k1 => decide); k_whole))
  k_with "ent inst" => first | exact Fr.keep (by k_asm) _ _ (by assumption) | exact News.get (by k_asm) (by k_mem)
  k_with "setAttr ref" => (k_here; k_dflt (refine' ent_set ?k1 ?k2 ?k3 ?k4 ?k5 ?k6 ?k7 ?_ ?k8; (case k8 => exact rfl); (case k1 => k_asm); (case k2 => k_asm); (case k3 => k_asm); (case k4 => walk_at "ent inst"); (case k5 => k_updF); (case k6 => assumption); (case k7 => exact Nat.le_of_ble_eq_true rfl); k_whole); intro hZz eZz nZz FZz NZz EZz; (try dsimp only at NZz); (try k_sweep))
  k_with "newList" => (k_here; k_dflt (refine' newList_L ?k1 ?k2 ?_ ?k3; (case k1 => k_asm); (case k2 => k_asm); (case k3 => first | exact Nat.le_of_ble_eq_true rfl | omega); k_whole); intro lZz hZz FZz NZz l1Zz l2Zz; (try k_lt l1Zz); (try k_lt2 l2Zz); (try k_sweep))
  k_with "is cells" => first | (with_reducible show wpAny _ _ (eval (Expr.Name _ _) (envOfC _ _ _ _ _)) _ _ _) | (with_reducible show wpAny _ _ (eval (Expr.Name _ _) (envX _ _ _ _ _ _)) _ _ _) | (with_reducible show wpAny _ _ (storeName (envOfC _ _ _ _ _) _ _) _ _ _)
  k_with "eval Name" => (k_here; walk_at "is cells"; k_dflt (first
      | (refine' nameX_L ?F ?v ?_ ?a ?b; (case F => k_asm); (case a => rfl); (case b => rfl); (case v => walk_at "m_look"); k_whole)
      | (refine' nameX_C ?N ?c ?m ?d ?_ ?a ?b; (case a => rfl); (case b => rfl); (case N => k_asm); (case c => rfl); (case m => k_mem); (case d => k_asm); k_whole)
      | (refine' nameX_F ?N ?c ?m ?d ?_ ?a ?b; (case a => rfl); (case b => rfl); (case N => k_asm); (case c => rfl); (case m => k_mem); (case d => k_asm); k_whole)
      | (refine' nameX_K ?F ?X ?T ?e ?_ ?a ?b; (case F => k_asm); (case X => k_asm); (case T => k_asm); (case a => rfl); (case b => rfl); (case e => exact rfl); k_whole)
      | (refine' nameX_B ?F ?X ?T ?e ?v ?n ?_ ?a ?b; (case F => k_asm); (case X => k_asm); (case T => k_asm); (case a => rfl); (case b => rfl); (case e => exact rfl); (case v => boot_fast); (case n => decide); k_whole)))
  k_with "eval Lambda" => (k_here; k_dflt (refine' kla_eval ?d0 ?_; (case d0 => exact rfl)); (first
      | (k_dflt (refine' kla_nest ?F ?N ?T ?C ?cd ?U ?t ?n ?cl ?_; (case F => k_asm); (case N => k_asm); (case T => k_asm); (case cd => exact rfl); (case C => k_asm); (case U => k_updF); (case t => kn_triples); (case n => kn_among); (case cl => exact rfl); k_whole); intro fZz cZz ocZz vsZz tZz ctZz hZz tkZz FZz NZz d1Zz d2Zz l1Zz l2Zz; (try dsimp only at NZz); (try k_lt l1Zz); (try k_lt2 l2Zz))
      | (k_dflt (refine' kla_hit ?F ?N ?T ?C ?cd ?mem ?t ?n ?cl ?_; (case F => k_asm); (case N => k_asm); (case T => k_asm); (case cd => exact rfl); (case C => k_asm); (case mem => k_mem); (case t => kn_triples); (case n => kn_among); (case cl => exact rfl); k_whole); intro fZz ctZz hZz tkZz FZz NZz l1Zz; (try k_lt l1Zz))))
  k_with "is list" => first | exact News.isList (by k_asm) (by k_mem) | exact isList_keep (by k_asm) (by assumption)
  k_with "subscriptTail" => (k_here; (with_reducible show wpAny _ _ (subscriptTail _ _ (Value.ref _) (Value.int _ _)) _ _ _); k_dflt (refine' item_getv ?k1 ?k2 ?k3 ?k4 ?k5 ?_; (case k1 => walk_at "is list"); (case k2 => omega); (case k3 => ((try simp only [List.length_cons, List.length_nil]); omega)); (case k4 => ((try simp only [List.length_cons, List.length_nil]); omega)); (case k5 => first | with_reducible assumption | exact rfl); k_whole))
  k_with "ent at" => first | exact EntAt.keeps (by assumption) (Fr.keep (by k_asm)) | exact ⟨Fr.keep (by k_asm) _ _ (by assumption), _, _, News.get (by k_asm) (by k_mem), by assumption⟩ | exact ⟨News.get (by k_asm) (by k_mem), _, _, News.get (by k_asm) (by k_mem), by assumption⟩
  k_with "getAttr ref" => (k_here; k_dflt (refine' ent_get ?k1 ?k2 ?k3 ?k4 ?_ ?k5 ?k6 ?k7 ?k8 ?k9; (case k5 => exact rfl); (case k6 => exact rfl); (case k7 => exact rfl); (case k8 => exact rfl); (case k9 => exact rfl); (case k1 => exact Frag.In.keeps (by k_asm) (Fr.keep (by k_asm))); (case k2 => walk_at "ent at"); (case k3 => first | assumption | exact rfl); (case k4 => exact rfl); k_whole))
  k_with "subscriptTail" => (k_here; (with_reducible show wpAny _ _ (subscriptTail _ _ (Value.ref _) (Value.str _ _)) _ _ _); k_dflt (refine' reach_item ?k1 ?k2 ?_; (case k1 => first | exact ReachAt.keeps (by assumption) (Fr.keep (by k_asm)) | exact ⟨_, _, Heap.dictOf_iff.mpr ⟨_, News.get (by k_asm) (by k_mem), by assumption⟩⟩); (case k2 => assumption); k_whole); intro _)
  k_with "getMethod ref" => (k_here; k_dflt (refine' ent_meth ?k1 ?k2 ?k3 ?k4 ?_ ?k5 ?k6 ?k7 ?k10 ?k8 ?k9; (case k5 => exact rfl); (case k6 => exact rfl); (case k7 => exact rfl); (case k10 => exact rfl); (case k8 => exact rfl); (case k9 => exact rfl); (case k1 => exact Frag.In.keeps (by k_asm) (Fr.keep (by k_asm))); (case k2 => walk_at "ent at"); (case k3 => first | assumption | exact rfl); (case k4 => exact rfl); k_whole))
  k_with "fn at" => exact ⟨_, _, _, _, Fr.keep (by k_asm) _ _ (by assumption)⟩
  k_with "callWith ref" => (k_here; k_dflt (refine' callWith_F ?k1 ?_; (case k1 => walk_at "fn at"); k_whole))
  k_with "And" => (k_dflt (refine And.intro ?kfn ?_; (case kfn => walk_at "fn at"); (try dsimp only [List.nil_append, List.cons_append])))
  k_with "subscriptTail" => (k_here; (with_reducible show wpAny _ _ (subscriptTail _ _ (Value.ref _) (Value.int _ _)) _ _ _); k_dflt (refine' key_at4 ?k1 ?k2 ?_; (case k1 => exact KeyAt.keeps (by assumption) (Fr.keep (by k_asm))); (case k2 => first | exact .i0 | exact .i1 | exact .i2 | exact .i3); k_whole); intro _)
  k_with "call builtin:abs" => (k_here; k_dflt (refine' abs_L ?_; k_whole); intro _ _)
  k_with "eval Name" => (k_here; (with_reducible show wpAny _ _ (eval (Expr.Name _ _) (compEnvC _ _ _ _)) _ _ _); k_dflt (first
      | (refine' nameY_L ?F ?v ?_ ?a ?b; (case F => k_asm); (case a => rfl); (case b => rfl); (case v => walk_at "m_look"); k_whole)
      | (refine' nameY_C ?F ?N ?c ?m ?d ?_ ?a ?b; (case a => rfl); (case b => rfl); (case F => k_asm); (case N => k_asm); (case c => rfl); (case m => k_mem); (case d => first | k_asm | rfl); k_whole)
      | (refine' nameY_K ?F ?X ?T ?e ?_ ?z ?a ?b; (case F => k_asm); (case X => k_asm); (case T => k_asm); (case z => rfl); (case a => rfl); (case b => rfl); (case e => exact rfl); k_whole)
      | (refine' nameY_B ?F ?X ?T ?e ?v ?n ?_ ?z ?y ?a ?b; (case F => k_asm); (case X => k_asm); (case T => k_asm); (case z => rfl); (case y => rfl); (case a => rfl); (case b => rfl); (case e => exact rfl); (case v => boot_fast); (case n => decide); k_whole)))
  k_with "call type:set cons nil" => (k_here; k_dflt (refine' set_L ?k1 ?k2 ?k3 ?k4 ?_; (case k1 => k_asm); (case k2 => k_asm); (case k3 => first | exact rfl | assumption); (case k4 => assumption); k_whole); intro xZz hZz tkZz oZz FZz NZz l1Zz l2Zz hsZz; (try k_lt l1Zz); (try k_lt2 l2Zz); (try k_sweep))
  k_with "getAttr ref" => (k_here; (with_reducible show wpAny _ _ (getAttr (Value.ref _) (PySem.Str.ofString "__contains__") _) _ _ _); obtain ⟨_, _, hs0Zz⟩ := (by assumption : ∃ S n, PySem.Obj.SetObjOf (intKind _ _) _ S n); k_dflt (refine' set_attr_N ?k1 ?k2 ?k3 ?k4 ?_; (case k1 => k_asm); (case k2 => k_asm); (case k4 => exact hs0Zz); (case k3 => k_mem); k_whole); intro xZz hZz tkZz FZz NZz l1Zz l2Zz; (try k_lt l1Zz); (try k_lt2 l2Zz); (try k_sweep))
  k_with "call type:filter" => (k_here; k_dflt (refine' filter_new ?k1 ?k2 ?k3 ?_; (case k1 => k_asm); (case k2 => k_asm); (case k3 => exact Fr.keep (by k_asm) _ _ (by assumption)); k_whole); intro iZz xZz hZz FZz NZz l1Zz l2Zz l3Zz; (try k_lt l1Zz); (try k_lt2 l2Zz); (try k_lt2 l3Zz))
  k_with "call type:list" => (k_here; k_dflt (refine' list_filter2 ?k1 ?k2 ?k3 ?k4 ?k5 ?_; (case k1 => k_asm); (case k2 => k_asm); (case k3 => first | exact rfl | assumption); (case k4 => assumption); (case k5 => walk_at "apart"); k_whole); intro xZz nZz hZz tkZz FZz NZz l1Zz l2Zz; (try k_lt l1Zz); (try k_lt2 l2Zz); (try k_sweep))
  k_with "apart" => repeat' (first | exact List.forall_mem_nil _ | (refine List.forall_mem_cons.mpr ⟨by k_ne, ?_⟩))
  k_with "binaryOp Add ref ref" => (k_here; k_dflt (refine' add_L ?k1 ?k2 ?k3 ?k4 ?k5 ?_; (case k1 => k_asm); (case k2 => k_asm); (case k3 => walk_at "is list"); (case k4 => walk_at "is list"); (case k5 => ((try simp only [List.length_append, List.length_cons, List.length_nil]); omega)); k_whole); intro xZz hZz FZz NZz l1Zz l2Zz; (try k_lt l1Zz); (try k_lt2 l2Zz); (try k_sweep))
  k_with "getMethod ref" => (k_here; k_dflt (refine' ent_methC ?k1 ?k2 ?k3 ?k4 ?_ ?k5 ?k6 ?k7; (case k1 => k_asm); (case k2 => k_asm); (case k3 => walk_at "ent at"); (case k4 => exact rfl); (case k5 => exact rfl); (case k6 => exact rfl); (case k7 => exact rfl); k_whole))
  k_with "all mem" => repeat' (first | exact List.forall_mem_nil _ | (refine List.forall_mem_cons.mpr ⟨by k_mem, ?_⟩))
  k_with "list obj" => first | exact News.get (by k_asm) (by k_mem) | exact Fr.keep (by k_asm) _ _ (by assumption)
  k_with "compareOp NotEq ref ref" => (k_here; (with_reducible show wpAny _ _ (compareOp CmpOp.NotEq (Value.ref _) (Value.ref _)) _ _ _); k_dflt (refine' ne_empty ?k1 ?k2 ?k3 ?_; (case k1 => walk_at "list obj"); (case k2 => exact News.get (by k_asm) (by k_mem)); (case k3 => (simp only [PySem.Around.deeper_units]; omega)); k_whole); (try simp only [List.isEmpty_cons, List.isEmpty_nil, Bool.not_false, Bool.not_true]))
  k_with "compareOp Eq ref ref" => (k_here; (with_reducible show wpAny _ _ (compareOp CmpOp.Eq (Value.ref _) (Value.ref _)) _ _ _); k_dflt (refine' eq_empty ?k1 ?k2 ?k3 ?_; (case k1 => walk_at "list obj"); (case k2 => exact News.get (by k_asm) (by k_mem)); (case k3 => (simp only [PySem.Around.deeper_units]; omega)); k_whole); (try simp only [List.isEmpty_cons, List.isEmpty_nil, Bool.not_false, Bool.not_true]))
  k_with "no loop" => ((fail_if_success (with_reducible show wpAny _ _ (exec (Stmt.While _ _ _ _) _) _ _ _)); (fail_if_success (with_reducible show wpAny _ _ (exec (Stmt.For _ _ _ _ _) _) _ _ _)); (fail_if_success (with_reducible show wpAny _ _ (call (Value.ref _) _ _) _ _ _)); (fail_if_success (with_reducible show wpAny _ _ (pyIter _) _ _ _)); (fail_if_success (with_reducible show wpAny _ _ (eval (Expr.ListComp _ _ _ _) _) _ _ _)); (fail_if_success (with_reducible show wpAny _ _ (exec (Stmt.Assign [Expr.Name _ _] (Expr.ListComp _ _ _ _) _) _) _ _ _)))
  k_with "go" => repeat' (first | (walk_at "no loop"; walk1; try dsimp only) | (walk_at "no loop"; dsimp only; walk1))
  k_with "no more" => (walk_at "no loop"; (fail_if_success (with_reducible show wpAny _ _ (call (Value.builtin "min") _ _) _ _ _)); (fail_if_success (with_reducible show wpAny _ _ (compareOp CmpOp.Eq (Value.ref _) (Value.ref _)) _ _ _)); (fail_if_success (with_reducible show wpAny _ _ (compareOp CmpOp.Eq _ (Value.ref _)) _ _ _)))
  k_with "go2" => repeat' (first | (walk_at "no more"; walk1; try dsimp only) | (walk_at "no more"; dsimp only; walk1))
  exact True.intro
theorem pushpop_code {prog : Program} {w : World} {p : Program} {loose : List Str} {mean : ExcName → Option Value} {mg mb : Str → Option Value} {A : Around} {R : Result → Shared → Prop} {s : Shared} {ra ha hd ru lj hj ej dj uj : Addr} {es hs us ls hv hds : List Value} {n0 n1 n2 n3 n4 n5 n6 : Nat} {ds : List DictEntry} {tab : Option Addr} {n : Int} {tn tm : Tok} {name : Str}
  (X : (KK w).In (hideAll s.heap [ru, lj, 114, hj, hd, dj])) (T : Top p loose mean mg mb (hideAll s.heap [ru, lj, 114, hj, hd, dj])) (C : CodeHd (hideAll s.heap [ru, lj, 114, hj, hd, dj]) 118 114) (hroom : A.depth < 800) (hu : A.units < 100) (hh : A.handled = none)
  (hru : s.heap.get? ru = some (W.listOf us.toArray n1)) (hlj : s.heap.get? lj = some (W.listOf ls.toArray n2)) (htab : s.heap.get? 114 = some (tabOf tab)) (hhj : s.heap.get? hj = some (W.listOf hv.toArray n3)) (hhd : s.heap.get? hd = some (W.listOf hds.toArray n4)) (hdj : s.heap.get? dj = some (dictOf ds n6))
  (hra : (hideAll s.heap [ru, lj, 114, hj, hd, dj]).get? ra = some (W.listOf es.toArray n0)) (hha : (hideAll s.heap [ru, lj, 114, hj, hd, dj]).get? ha = some (W.listOf hs.toArray n5)) (hej : (hideAll s.heap [ru, lj, 114, hj, hd, dj]).get? ej = some (instObj 52 dj)) (hent : EntsAre w ds (recL uj lj))
  (hn : n % 10 = 9) (hel : es.length = 3) (hhl : hs.length = 3) (hje : es.getD (n / 10 % 3).toNat .none = .ref ej) (hjh : hs.getD (n / 10 % 3).toNat .none = .ref hj)
  (x1 : ru ≠ lj) (x2 : ru ≠ 114) (x3 : ru ≠ hj) (x4 : ru ≠ hd) (x5 : lj ≠ 114) (x6 : lj ≠ hj) (x7 : lj ≠ hd) (x8 : hj ≠ 114) (x9 : hd ≠ 114) (x10 : hj ≠ hd) (y1 : ru ≠ dj) (y2 : lj ≠ dj) (y3 : dj ≠ 114) (y4 : hj ≠ dj) (y5 : hd ≠ dj)
  (hul : us.length ≤ 100) (hll : ls.length ≤ 100) (hvl : hv.length ≤ 100) (hdl : hds.length ≤ 10) (hname : name = Str.ofString "" ∨ name = Str.ofString "/A%41")
  (hk : ∀ v ∈ hv, KeyTo (hideAll s.heap [ru, lj, 114, hj, hd, dj]) us (n / 10 % 3).toNat v) (hls : RulesIn (hideAll s.heap [ru, lj, 114, hj, hd, dj]) ls) (hH : ∀ v ∈ hds, v = .ref hj ∨ HeadG (hideAll s.heap [ru, lj, 114, hj, hd, dj]) v) (ho1 : HOL klt 0 (hv.map (keyV (hideAll s.heap [ru, lj, 114, hj, hd, dj]))))
  (post : ∀ h' tk (x al t c' l' xk : Addr) (hv' hds' : List Value) v es' k1 k2 k3 k4, Keeps [ru, lj, 114, hj, hd, dj] s.heap h' → h'.get? ru = some (W.listOf (us ++ [Value.ref x]).toArray (n1 + 1)) → h'.get? dj = some (dictOf es' k3) → EntsAre w es' (recL uj l') → s.heap.objs.size ≤ l' → (us ++ [Value.ref x]).getD ((keyV h' v).getD 3 0).natAbs .none = .ref xk →
    h'.get? l' = some (W.listOf ((ls ++ [Value.ref x]).filter (refNe xk)).toArray k4) → h'.get? 114 = some (tabOf (some c')) →
    h'.get? hj = some (W.listOf hv'.toArray k1) → (v :: hv').Perm (.ref t :: hv) → HOL klt 0 (hv'.map (keyV h')) → (∀ q ∈ Value.ref t :: hv, klt (keyV h' q) (keyV h' v) = false) → h'.get? hd = some (W.listOf hds'.toArray k2) → hds'.Perm hds → HOL kllt 0 (hds'.map (keysV h')) →
    (∀ c, tab = some c → c' = c) → NewRule prog w name us (n / 10 % 3) (n / 10) tab c' x al t (hideAll h' (l' :: List.range s.heap.objs.size)) → R (.ok (.ret (.bool true))) { s with heap := h', toks := tk }) :
  codeAny (model prog w) A (.call (.ref 129) ⟨[.ref ra, .ref ha, .ref hd, .ref ru, .int n tn, .str name tm], []⟩) R s := by
  obtain ⟨g, hg⟩ : ∃ g, g = hideAll s.heap [ru, lj, 114, hj, hd, dj] := ⟨_, rfl⟩
  rw [← hg] at X T C hra hha hej hk hH ho1 hls
  have T' := topRead_of T
  refine enter (news := [(ru, W.listOf us.toArray n1), (lj, W.listOf ls.toArray n2), (114, tabOf tab), (hj, W.listOf hv.toArray n3), (hd, W.listOf hds.toArray n4), (dj, dictOf ds n6)]) (K := KK w) hg X T' ?_ rfl rfl (Nat.lt_of_lt_of_le hroom (by decide)) (BindsTo.of_eq rfl) (locs rfl) ?_
  · intro q hq
    rcases List.mem_cons.mp hq with rfl | hq
    · exact hru
    rcases List.mem_cons.mp hq with rfl | hq
    · exact hlj
    rcases List.mem_cons.mp hq with rfl | hq
    · exact htab
    rcases List.mem_cons.mp hq with rfl | hq
    · exact hhj
    rcases List.mem_cons.mp hq with rfl | hq
    · exact hhd
    rcases List.mem_cons.mp hq with rfl | hq
    · exact hdj
    · cases hq
  intro L h₁ tk F N lt0
  k_lt lt0
  have hsL : s.heap.objs.size ≤ L := by have := F.above; rw [hg, hideAll_size] at this; exact this
  have hj0 : 0 ≤ n / 10 % 3 := Int.emod_nonneg _ (by decide)
  have hj3 : n / 10 % 3 < 3 := Int.emod_lt_of_pos _ (by decide)
  have hm : (([6, 8] : List Int).any fun x => x == n % 10) = false := by
    simp only [List.any_cons, List.any_nil, Bool.or_false, Bool.or_eq_false_iff, beq_eq_false_iff_ne, ne_eq]
    (first | lia | omega)
  try dsimp only
  walk_at "go2"
  all_goals try (exfalso; (first | lia | omega))
  all_goals try (rename (List.any _ _ = true) => hax; rw [hm] at hax; cases hax)
  (rename Fr _ _ _ _ => F2); (rename News _ _ _ _ => N2)
  have N3 := news_of (news' := [(ru, W.listOf us.toArray n1), (lj, W.listOf ls.toArray n2), (114, tabOf tab), (hj, W.listOf hv.toArray n3), (hd, W.listOf hds.toArray n4), (dj, dictOf ds n6)]) N2 (by walk_at "all mem")
  clear N2
  have hej' : EntAt w (hideAll (heapOf F2) [ru, lj, 114]) ej dj (recL uj lj) := ⟨base_in F2 (fun b hb => by
    rcases List.mem_cons.mp hb with rfl | hb
    · exact (N3 _ (.head _)).2.2
    rcases List.mem_cons.mp hb with rfl | hb
    · exact (N3 _ (.tail _ (.head _))).2.2
    rcases List.mem_cons.mp hb with rfl | hb
    · exact (N3 _ (.tail _ (.tail _ (.head _)))).2.2
    · cases hb) _ _ hej, _, _, hideAll_get _ (N3 (dj, _) (.tail _ (.tail _ (.tail _ (.tail _ (.tail _ (.head _))))))).1 (by simp [Ne.symm y1, Ne.symm y2, y3]), hent⟩
  refine come_in2 F2 N3 X T C (dpt (a := A.depth) hroom (by decide)) (unt (a := A.units) hu (by decide)) hra hje hj0 (by (first | lia | omega)) (by (first | lia | omega)) hej' rfl ⟨x1, x2, x5⟩ ?_ (by (first | lia | omega)) (by (first | lia | omega)) hname ?_
  · intro q hq
    rcases List.mem_cons.mp hq with rfl | hq
    · exact ⟨Ne.symm x3, Ne.symm x6, x8⟩
    rcases List.mem_cons.mp hq with rfl | hq
    · exact ⟨Ne.symm x4, Ne.symm x7, x9⟩
    rcases List.mem_cons.mp hq with rfl | hq
    · exact ⟨Ne.symm y1, Ne.symm y2, y3⟩
    · cases hq
  intro h4 tk4 x al t c' lr F4 N4 k4 hc1 hbig hnew
  simp only [List.cons_append, List.nil_append] at N4
  have hjb : ∀ q ∈ lr, q.1 ≠ hj ∧ q.1 ≠ hd ∧ q.1 ≠ dj := fun q hq => by
    have b1 := hbig q hq
    have b2 := Heap.lt_size (N3 (hj, _) (.tail _ (.tail _ (.tail _ (.head _))))).1
    have b3 := Heap.lt_size (N3 (hd, _) (.tail _ (.tail _ (.tail _ (.tail _ (.head _)))))).1
    have b4 := Heap.lt_size (N3 (dj, _) (.tail _ (.tail _ (.tail _ (.tail _ (.tail _ (.head _))))))).1
    exact ⟨Nat.ne_of_gt (Nat.lt_of_lt_of_le b2 b1), Nat.ne_of_gt (Nat.lt_of_lt_of_le b3 b1), Nat.ne_of_gt (Nat.lt_of_lt_of_le b4 b1)⟩
  have hbig' : ∀ q ∈ lr, s.heap.objs.size ≤ q.1 := fun q hq => Nat.le_trans hsL (Nat.le_trans (Nat.le_of_lt F2.ns.lt) (hbig q hq))
  clear hej' F2 N3 k4
  walk_at "go2"
  all_goals try (exfalso; (first | lia | omega))
  (rename Fr _ _ _ _ => F5); (rename News _ _ _ _ => N5)
  have news5 : ∀ (h' : Heap), (∀ q ∈ lr, h'.get? q.1 = some q.2) → NewRule prog w name us (n / 10 % 3) (n / 10) tab c' x al t h' := hnew
  have kt5 : ∀ (h' : Heap), Sub g h' → (∀ q ∈ lr, h'.get? q.1 = some q.2) → ∀ v ∈ Value.ref t :: hv, KeyTo h' (us ++ [.ref x]) (n / 10 % 3).toNat v := by
    intro h' k1 k2 v hv
    rcases List.mem_cons.mp hv with rfl | hv
    · have := (hnew h' k2).keyTo
      rw [show (n / 10 % 3).natAbs = (n / 10 % 3).toNat by (first | lia | omega)] at this
      exact this
    · exact ((hk v hv).keeps k1).grow _
  have in5 := kt5 _ F5.keep fun q hq => (N5 q (.tail _ (.tail _ (.tail _ (.tail _ (.tail _ (.tail _ (.tail _ (.tail _ hq)))))))) ).1
  try dsimp only [heapOf] at in5
  have in6 : KeysIn _ (hv ++ [Value.ref t]) := KeysIn.of fun v hv => in5 v (by simpa [or_comm] using hv)
  refine min_L F5 N5 (by exact hh) (unt (a := A.units) hu (by decide)) (N5.isList (.head _)) in6 (by simp) ?_
  intro lv h6 tk6 F6 N6 k6 hlv
  obtain ⟨la, _, _, _, _, _, _, elv, -⟩ := in5 lv (by simpa [or_comm] using hlv.1)
  subst elv
  clear in5
  have kv : ∀ h' h'' : Heap, Sub g h' → (∀ q ∈ lr, h'.get? q.1 = some q.2) → Sub g h'' → (∀ q ∈ lr, h''.get? q.1 = some q.2) → ∀ v ∈ Value.ref t :: hv, keyV h' v = keyV h'' v := by
    intro h' h'' k1 k2 k3 k4 v hv
    rcases List.mem_cons.mp hv with rfl | hv
    · rw [(hnew h' k2).2.1.keyV, (hnew h'' k4).2.1.keyV]
    · have := (hk v hv).key
      rw [(this.keeps k1).keyV, (this.keeps k3).keyV]
  have lst : ∀ h' : Heap, Sub g h' → (∀ q ∈ lr, h'.get? q.1 = some q.2) → .ref la ∈ Value.ref t :: hv ∧ ∀ q ∈ Value.ref t :: hv, klt (keyV h' q) (keyV h' (.ref la)) = false := by
    intro h' k1 k2
    have hm : .ref la ∈ Value.ref t :: hv := by simpa [or_comm] using hlv.1
    refine ⟨hm, fun q hq => ?_⟩
    have kk := kv h' _ k1 k2 F5.keep (fun q hq => (N5 q (.tail _ (.tail _ (.tail _ (.tail _ (.tail _ (.tail _ (.tail _ (.tail _ hq)))))))) ).1)
    rw [kk q hq, kk _ hm]
    exact hlv.2 q (by simpa [or_comm] using hq)
  have N7 := news_of (news' := (ru, W.listOf (us ++ [Value.ref x]).toArray (n1 + 1)) :: (lj, W.listOf (ls ++ [Value.ref x]).toArray (n2 + 1)) :: (114, tabOf (some c')) :: (hj, W.listOf hv.toArray n3) :: (hd, W.listOf hds.toArray n4) :: (dj, dictOf ds n6) :: lr) N6 (fun q hq => .tail _ (.tail _ hq))
  clear N6 k6 in6 hlv
  clear F5 N5
  try dsimp only at F6 N7
  walk_at "go2"
  all_goals try (exfalso; (first | lia | omega))
  (rename Fr _ _ _ _ => F8); (rename News _ _ _ _ => N8)
  have lr8 : ∀ q ∈ lr, (heapOf F8).get? q.1 = some q.2 := fun q hq => (N8 q (.tail _ (.tail _ (.tail _ (.tail _ (.tail _ (.tail _ hq))))))).1
  have kt8 : ∀ v ∈ Value.ref t :: hv, KeyTo (heapOf F8) (us ++ [.ref x]) (n / 10 % 3).toNat v := kt5 _ F8.keep lr8
  refine pushpop_in F8 N8 X T' (u := fun o => (ru, W.listOf (us ++ [Value.ref x]).toArray (n1 + 1)) :: (lj, W.listOf (ls ++ [Value.ref x]).toArray (n2 + 1)) :: (114, tabOf (some c')) :: (hj, o) :: (hd, W.listOf hds.toArray n4) :: (dj, dictOf ds n6) :: lr) (.tail x3 (.tail x6 (.tail (Ne.symm x8) (.head ?kU)))) (dpt (a := A.depth) hroom (by decide)) (unt (a := A.units) hu (by decide)) (by exact hh) (ord_keys (KeysIn.of kt8) (N8 (hj, _) (.tail _ (.tail _ (.tail _ (.head _))))).1) ?_ (by (first | lia | omega)) ?_
  case kU =>
    intro q hq
    rcases List.mem_cons.mp hq with rfl | hq
    · exact Ne.symm x10
    rcases List.mem_cons.mp hq with rfl | hq
    · exact Ne.symm y4
    · exact (hjb q hq).1
  · rw [(KeysIn.of hk).keyV_keeps F8.keep]; exact ho1
  intro h9 tk9 hv' gv F9 N9 k9 p9 o9 l9
  have lr9 : ∀ q ∈ lr, h9.get? q.1 = some q.2 := fun q hq => (N9 q (.tail _ (.tail _ (.tail _ (.tail _ (.tail _ (.tail _ hq))))))).1
  have lg9 : gv ∈ Value.ref t :: hv ∧ ∀ h' : Heap, Sub g h' → (∀ q ∈ lr, h'.get? q.1 = some q.2) → ∀ q ∈ Value.ref t :: hv, klt (keyV h' q) (keyV h' gv) = false := by
    have hm : gv ∈ Value.ref t :: hv := p9.mem_iff.mp (.head _)
    refine ⟨hm, fun h' k1 k2 q hq => ?_⟩
    have kk := kv h' _ k1 k2 F8.keep lr8
    rw [kk q hq, kk _ hm]
    exact l9 q hq
  have o9' : ∀ h' : Heap, Sub g h' → (∀ q ∈ lr, h'.get? q.1 = some q.2) → HOL klt 0 (hv'.map (keyV h')) := by
    intro h' k1 k2
    rw [List.map_congr_left fun v hv => kv h' _ k1 k2 F9.keep lr9 v (p9.mem_iff.mp (.tail _ hv))]
    exact o9
  obtain ⟨ga, _, _, _, _, _, _, egv, -⟩ := kt8 gv lg9.1
  subst egv
  clear l9 kt8 lr8
  clear F8 N8
  try dsimp only at N9
  walk_at "go2"
  all_goals try (exfalso; (first | lia | omega))
  (rename Fr _ _ _ _ => Fa); (rename News _ _ _ _ => Na)
  have Ud : UpdF dj (dictOf ds n6) ((ru, W.listOf (us ++ [Value.ref x]).toArray (n1 + 1)) :: (lj, W.listOf (ls ++ [Value.ref x]).toArray (n2 + 1)) :: (114, tabOf (some c')) :: (hj, W.listOf hv'.toArray n3) :: (hd, W.listOf hds.toArray n4) :: (dj, dictOf ds n6) :: lr)
      (fun o => (ru, W.listOf (us ++ [Value.ref x]).toArray (n1 + 1)) :: (lj, W.listOf (ls ++ [Value.ref x]).toArray (n2 + 1)) :: (114, tabOf (some c')) :: (hj, W.listOf hv'.toArray n3) :: (hd, W.listOf hds.toArray n4) :: (dj, o) :: lr) :=
    .tail y1 (.tail y2 (.tail (Ne.symm y3) (.tail y4 (.tail y5 (.head fun q hq => (hjb q hq).2.2)))))
  have lra : ∀ q ∈ lr, (hideAll (heapOf Fa) [dj]).get? q.1 = some q.2 := fun q hq => hideAll_get _ (Na q (.tail _ (.tail _ (.tail _ (.tail _ (.tail _ (.tail _ hq))))))).1 (by simpa using (hjb q hq).2.2)
  have ba : Sub g (hideAll (heapOf Fa) [dj]) := hide_in Fa (updF_at Na Ud).2.2
  have lsa : RulesIn (hideAll (heapOf Fa) [dj]) (ls ++ [.ref x]) := (hls.keeps ba).append fun v hv => by
    rw [List.mem_singleton.mp hv]
    obtain ⟨d, hd⟩ := (hnew _ lra).inst
    exact ⟨x, d, rfl, hd⟩
  refine go_key Fa Na X T' Ud (dpt (a := A.depth) hroom (by decide)) (unt (a := A.units) hu (by decide)) (by exact hh) hra (by (first | lia | omega)) hje (by (first | lia | omega)) (.head _) y1 (by simp; (first | lia | omega)) hej hent (.tail _ (.head _)) y2 (by simp; (first | lia | omega)) (kt5 _ ba lra _ lg9.1) lsa ?_
  intro hb tkb l' es' nb nb' xk exk Fb Nb kb hsl' eb hlb hLb
  try dsimp only at Nb
  have exk' : ∀ h' : Heap, Sub g h' → (∀ q ∈ lr, h'.get? q.1 = some q.2) → (us ++ [Value.ref x]).getD ((keyV h' (.ref ga)).getD 3 0).natAbs .none = .ref xk := by
    intro h' k1 k2
    rw [kv h' _ k1 k2 Fa.keep (fun q hq => (Na q (.tail _ (.tail _ (.tail _ (.tail _ (.tail _ (.tail _ hq))))))).1) _ lg9.1]
    exact exk
  clear exk
  clear lsa ba lra Ud
  clear Fa Na
  have hll' : ∀ q ∈ lr, q.1 ≠ l' := fun q hq => Nat.ne_of_lt (hlb q (.tail _ (.tail _ (.tail _ (.tail _ (.tail _ (.tail _ hq)))))))
  have hlb' : ru < l' ∧ lj < l' ∧ (114 : Addr) < l' ∧ hj < l' ∧ hd < l' ∧ dj < l' := ⟨hlb _ (.head _), hlb _ (.tail _ (.head _)), hlb _ (.tail _ (.tail _ (.head _))), hlb (hj, _) (.tail _ (.tail _ (.tail _ (.head _)))), hlb (hd, _) (.tail _ (.tail _ (.tail _ (.tail _ (.head _))))), hlb (dj, _) (.tail _ (.tail _ (.tail _ (.tail _ (.tail _ (.head _))))))⟩
  obtain ⟨hb1, hb2, hb3, hb4, hb5, hb6⟩ := hlb'
  clear hlb
  walk_at "go2"
  all_goals try (exfalso; (first | lia | omega))
  (rename Fr _ _ _ _ => Fc); (rename News _ _ _ _ => Nc)
  have lrc : ∀ q ∈ lr, (heapOf Fc).get? q.1 = some q.2 := fun q hq => (Nc q (.tail _ (.tail _ (.tail _ (.tail _ (.tail _ (.tail _ (.tail _ hq)))))))).1
  have mem9 : ∀ v ∈ hv', v ∈ Value.ref t :: hv := fun v hv => p9.mem_iff.mp (.tail _ hv)
  have kvc : KeysIn (heapOf Fc) hv' := fun v hv => (kt5 _ Fc.keep lrc v (mem9 v hv)).key
  have hHc : HeadsIn (heapOf Fc) hd hds := heads_of hH Fc.keep (Nc (hd, _) (.tail _ (.tail _ (.tail _ (.tail _ (.tail _ (.head _))))))).2.2 x10 (Nc (hj, _) (.tail _ (.tail _ (.tail _ (.tail _ (.head _)))))).1 kvc
  refine heapify_in Fc Nc X T' (u := fun o => (l', W.listOf (List.filter (refNe xk) (ls ++ [Value.ref x])).toArray nb') :: (ru, W.listOf (us ++ [Value.ref x]).toArray (n1 + 1)) :: (lj, W.listOf (ls ++ [Value.ref x]).toArray (n2 + 1)) :: (114, tabOf (some c')) :: (hj, W.listOf hv'.toArray n3) :: (hd, o) :: (dj, dictOf es' nb) :: lr)
    (.tail (Ne.symm (Nat.ne_of_lt hb5)) (.tail x4 (.tail x7 (.tail (Ne.symm x9) (.tail x10 (.head ?kU)))))) (dpt (a := A.depth) hroom (by decide)) (unt (a := A.units) hu (by decide)) (by exact hh)
    (ord_heads hHc (Nc (hd, _) (.tail _ (.tail _ (.tail _ (.tail _ (.tail _ (.head _))))))).1) (by (first | lia | omega)) ?_
  case kU =>
    intro q hq
    rcases List.mem_cons.mp hq with rfl | hq
    · exact Ne.symm y5
    · exact (hjb q hq).2.1
  intro hd8 tk8 hds' Fd Nd kd pd od
  clear hHc kvc kd lrc
  clear Fc Nc
  try dsimp only at Nd
  walk_at "go2"
  all_goals try (exfalso; (first | lia | omega))
  (rename Fr _ _ _ _ => Fe); (rename News _ _ _ _ => Ne)
  have lre : ∀ q ∈ lr, (heapOf Fe).get? q.1 = some q.2 := fun q hq => (Ne q (.tail _ (.tail _ (.tail _ (.tail _ (.tail _ (.tail _ (.tail _ hq)))))))).1
  have kg := (kt5 _ Fe.keep lre _ lg9.1).key
  have kl := (kt5 _ Fe.keep lre _ (lst _ Fe.keep lre).1).key
  refine key_eq kg kl (unt (a := A.units) hu (by decide)) ?_
  have eq : keyV (heapOf Fe) (.ref ga) = keyV (heapOf Fe) (.ref la) := linO_key.tri _ _ ((lst _ Fe.keep lre).2 _ lg9.1) (lg9.2 _ Fe.keep lre _ (lst _ Fe.keep lre).1)
  rw [decide_eq_true eq]
  walk_at "go2"
  all_goals try (exfalso; (first | lia | omega))
  refine post _ _ x al t c' l' xk hv' hds' (.ref ga) es' _ _ _ _ (keeps_of hg Fe) (Ne _ (.tail _ (.head _))).1 (Ne (dj, _) (.tail _ (.tail _ (.tail _ (.tail _ (.tail _ (.tail _ (.head _)))))))).1 eb (Nat.le_trans hsL (Nat.le_of_lt hLb)) (exk' _ Fe.keep lre) (Ne _ (.head _)).1 (Ne _ (.tail _ (.tail _ (.tail _ (.head _))))).1
    (Ne (hj, _) (.tail _ (.tail _ (.tail _ (.tail _ (.head _)))))).1 p9 (o9' _ Fe.keep lre) (lg9.2 _ Fe.keep lre) (Ne (hd, _) (.tail _ (.tail _ (.tail _ (.tail _ (.tail _ (.head _))))))).1 pd od hc1 (hnew _ fun q hq => ?_)
  refine hideAll_get _ (lre q hq) fun q' => ?_
  rcases List.mem_cons.mp q' with e | q'
  · exact hll' q hq e
  · exact Nat.lt_irrefl _ (Nat.lt_of_lt_of_le (List.mem_range.mp q') (hbig' q hq))
theorem lay_T4 : True := by
  k_with_none
  w_top off
  k_with "m_look" => first | with_reducible assumption | exact rfl | exact upd_eq | (refine upd_ne ?_ (by decide); walk_at "m_look")
  k_with "eval Name" => (k_here; (with_reducible rename Fr _ _ _ _ => kFZz); with_unfolding_all refine guard_global (by rfl) ?_; k_dflt (refine' name_B kFZz ?k1 ?k2 ?k3 ?k4 ?k5 ?_; (case k1 => k_asm); (case k2 => k_asm); (case k3 => exact rfl); (case k4 => boot_fast); (case k5 => decide); k_whole))
  k_with "eval Name" => (k_here; (with_reducible rename Fr _ _ _ _ => kFZz); with_unfolding_all refine guard_global (by rfl) ?_; k_dflt (refine' name_K kFZz ?k1 ?k2 ?k3 ?_; (case k1 => k_asm); (case k2 => k_asm); (case k3 => exact rfl); k_whole))
  k_with "callWith ref" => (k_here; k_dflt (first
      | refine' callWith_K ?k1 ?k2 ?_; (case k1 => k_asm); (case k2 => exact rfl); k_whole
      | refine' callWith_K0 ?k1 ?k2 ?_; (case k1 => k_in); (case k2 => exact rfl); k_whole))
  k_with "eval Name" => (k_here; k_dflt (refine' ld ?k1 ?k2 ?_; (case k1 => k_asm); (case k2 => walk_at "m_look"); k_whole))
  k_with "subscriptTail" => (k_here; (with_reducible show wpAny _ _ (subscriptTail _ _ (Value.ref _) (Value.int _ _)) _ _ _); k_dflt (refine' item_get ?k1 ?k2 ?k3 ?k4 ?_; (case k1 => exact News.isList (by k_asm) (by k_mem)); (case k2 => omega); (case k3 => omega); (case k4 => omega); k_whole))
  k_with "setItem ref int" => (k_here; k_dflt (refine' item_set ?k1 ?k2 ?k3 ?k4 ?k5 ?k6 ?_; (case k1 => k_asm); (case k2 => k_asm); (case k3 => k_upd); (case k4 => omega); (case k5 => omega); (case k6 => omega); k_whole); intro hZz FZz NZz; (try k_sweep))
  k_with "binaryOp RShift int int" => (k_here; k_dflt (refine' wpAny_rshift1_int ?k1 ?_; (case k1 => omega); k_whole))
  k_with "call builtin:len" => (k_here; (with_reducible show wpAny _ _ (call (Value.builtin _) [Value.ref _]) _ _ _); k_dflt (refine' len_L ?k1 ?k2 ?_; (case k1 => exact News.isList (by k_asm) (by k_mem)); (case k2 => ((try simp only [List.length_append, List.length_cons, List.length_nil]); omega)); k_whole))
  k_with "call builtin:list.append" => (k_here; (with_reducible show wpAny _ _ (call (Value.builtin _) [Value.ref _, _]) _ _ _); k_dflt (refine' append_L ?k1 ?k2 ?k3 ?k4 ?_; (case k1 => k_asm); (case k2 => k_asm); (case k3 => k_upd); (case k4 => ((try simp only [List.length_append, List.length_cons, List.length_nil]); omega)); k_whole); intro hZz FZz NZz; (try k_sweep))
  k_with "call builtin:list.pop" => (k_here; (with_reducible show wpAny _ _ (call (Value.builtin _) [Value.ref _]) _ _ _); k_dflt (refine' pop_L ?k1 ?k2 ?k3 ?k4 ?_; (case k1 => k_asm); (case k2 => k_asm); (case k3 => k_upd); (case k4 => omega); k_whole); intro hZz FZz NZz; (try k_sweep))
  k_with "assign Tuple" => (k_here; (with_reducible show wpAny _ _ (assign (Expr.Tuple _ _ _) _ (Value.ref _)) _ _ _); k_dflt (refine' unpackN_ ?F ?N ?T ?k1 ?k2 ?k3 ?_; (case F => k_asm); (case N => k_asm); (case T => first | with_reducible assumption | (refine News.isTup (by k_asm) (by k_mem))); (case k1 => assumption); (case k2 => exact rfl); (case k3 => exact rfl)); intro hZz FZz NZz; (try k_sweep))
  k_with "call type:range" => (k_here; (with_reducible show wpAny _ _ (call _ [Value.int _ _]) _ _ _); k_dflt (refine' range_L ?k1 ?k2 ?_; (case k1 => k_asm); (case k2 => k_asm); k_whole); intro rZz hZz uZz vZz FZz NZz l1Zz; (try k_lt l1Zz); (try k_sweep))
  k_with "call type:reversed" => (k_here; k_dflt (refine' reversed_L ?k1 ?k2 ?k3 ?k4 ?k5 ?_; (case k1 => k_asm); (case k2 => k_asm); (case k3 => k_mem); (case k4 => omega); (case k5 => omega); k_whole); intro iZz hZz FZz NZz l1Zz; (try k_lt l1Zz); (try k_sweep))
  k_with "binaryOp FloorDiv int int" => (k_here; k_dflt (refine' fdiv_pos ?k1 ?k2 ?_; (case k1 => decide); (case k2 => exact PyProof.noPylong_of_log2 (by decide +kernel)); k_whole))
  k_with "binaryOp Mod int int" => (k_here; k_dflt (refine' fmod_pos ?k1 ?_; (case k1 => decide); k_whole))
  k_with "ent inst" => first | exact Fr.keep (by k_asm) _ _ (by assumption) | exact News.get (by k_asm) (by k_mem)
  k_with "setAttr ref" => (k_here; k_dflt (refine' ent_set ?k1 ?k2 ?k3 ?k4 ?k5 ?k6 ?k7 ?_ ?k8; (case k8 => exact rfl); (case k1 => k_asm); (case k2 => k_asm); (case k3 => k_asm); (case k4 => walk_at "ent inst"); (case k5 => k_updF); (case k6 => assumption); (case k7 => exact Nat.le_of_ble_eq_true rfl); k_whole); intro hZz eZz nZz FZz NZz EZz; (try dsimp only at NZz); (try k_sweep))
  k_with "newList" => (k_here; k_dflt (refine' newList_L ?k1 ?k2 ?_ ?k3; (case k1 => k_asm); (case k2 => k_asm); (case k3 => first | exact Nat.le_of_ble_eq_true rfl | omega); k_whole); intro lZz hZz FZz NZz l1Zz l2Zz; (try k_lt l1Zz); (try k_lt2 l2Zz); (try k_sweep))
  k_with "is cells" => first | (with_reducible show wpAny _ _ (eval (Expr.Name _ _) (envOfC _ _ _ _ _)) _ _ _) | (with_reducible show wpAny _ _ (eval (Expr.Name _ _) (envX _ _ _ _ _ _)) _ _ _) | (with_reducible show wpAny _ _ (storeName (envOfC _ _ _ _ _) _ _) _ _ _)
  k_with "eval Name" => (k_here; walk_at "is cells"; k_dflt (first
      | (refine' nameX_L ?F ?v ?_ ?a ?b; (case F => k_asm); (case a => rfl); (case b => rfl); (case v => walk_at "m_look"); k_whole)
      | (refine' nameX_C ?N ?c ?m ?d ?_ ?a ?b; (case a => rfl); (case b => rfl); (case N => k_asm); (case c => rfl); (case m => k_mem); (case d => k_asm); k_whole)
      | (refine' nameX_F ?N ?c ?m ?d ?_ ?a ?b; (case a => rfl); (case b => rfl); (case N => k_asm); (case c => rfl); (case m => k_mem); (case d => k_asm); k_whole)
      | (refine' nameX_K ?F ?X ?T ?e ?_ ?a ?b; (case F => k_asm); (case X => k_asm); (case T => k_asm); (case a => rfl); (case b => rfl); (case e => exact rfl); k_whole)
      | (refine' nameX_B ?F ?X ?T ?e ?v ?n ?_ ?a ?b; (case F => k_asm); (case X => k_asm); (case T => k_asm); (case a => rfl); (case b => rfl); (case e => exact rfl); (case v => boot_fast); (case n => decide); k_whole)))
  k_with "eval Lambda" => (k_here; k_dflt (refine' kla_eval ?d0 ?_; (case d0 => exact rfl)); (first
      | (k_dflt (refine' kla_nest ?F ?N ?T ?C ?cd ?U ?t ?n ?cl ?_; (case F => k_asm); (case N => k_asm); (case T => k_asm); (case cd => exact rfl); (case C => k_asm); (case U => k_updF); (case t => kn_triples); (case n => kn_among); (case cl => exact rfl); k_whole); intro fZz cZz ocZz vsZz tZz ctZz hZz tkZz FZz NZz d1Zz d2Zz l1Zz l2Zz; (try dsimp only at NZz); (try k_lt l1Zz); (try k_lt2 l2Zz))
      | (k_dflt (refine' kla_hit ?F ?N ?T ?C ?cd ?mem ?t ?n ?cl ?_; (case F => k_asm); (case N => k_asm); (case T => k_asm); (case cd => exact rfl); (case C => k_asm); (case mem => k_mem); (case t => kn_triples); (case n => kn_among); (case cl => exact rfl); k_whole); intro fZz ctZz hZz tkZz FZz NZz l1Zz; (try k_lt l1Zz))))
  k_with "is list" => first | exact News.isList (by k_asm) (by k_mem) | exact isList_keep (by k_asm) (by assumption)
  k_with "subscriptTail" => (k_here; (with_reducible show wpAny _ _ (subscriptTail _ _ (Value.ref _) (Value.int _ _)) _ _ _); k_dflt (refine' item_getv ?k1 ?k2 ?k3 ?k4 ?k5 ?_; (case k1 => walk_at "is list"); (case k2 => omega); (case k3 => ((try simp only [List.length_cons, List.length_nil]); omega)); (case k4 => ((try simp only [List.length_cons, List.length_nil]); omega)); (case k5 => first | with_reducible assumption | exact rfl); k_whole))
  k_with "ent at" => first | exact EntAt.keeps (by assumption) (Fr.keep (by k_asm)) | exact ⟨Fr.keep (by k_asm) _ _ (by assumption), _, _, News.get (by k_asm) (by k_mem), by assumption⟩ | exact ⟨News.get (by k_asm) (by k_mem), _, _, News.get (by k_asm) (by k_mem), by assumption⟩
  k_with "getAttr ref" => (k_here; k_dflt (refine' ent_get ?k1 ?k2 ?k3 ?k4 ?_ ?k5 ?k6 ?k7 ?k8 ?k9; (case k5 => exact rfl); (case k6 => exact rfl); (case k7 => exact rfl); (case k8 => exact rfl); (case k9 => exact rfl); (case k1 => exact Frag.In.keeps (by k_asm) (Fr.keep (by k_asm))); (case k2 => walk_at "ent at"); (case k3 => first | assumption | exact rfl); (case k4 => exact rfl); k_whole))
  k_with "subscriptTail" => (k_here; (with_reducible show wpAny _ _ (subscriptTail _ _ (Value.ref _) (Value.str _ _)) _ _ _); k_dflt (refine' reach_item ?k1 ?k2 ?_; (case k1 => first | exact ReachAt.keeps (by assumption) (Fr.keep (by k_asm)) | exact ⟨_, _, Heap.dictOf_iff.mpr ⟨_, News.get (by k_asm) (by k_mem), by assumption⟩⟩); (case k2 => assumption); k_whole); intro _)
  k_with "getMethod ref" => (k_here; k_dflt (refine' ent_meth ?k1 ?k2 ?k3 ?k4 ?_ ?k5 ?k6 ?k7 ?k10 ?k8 ?k9; (case k5 => exact rfl); (case k6 => exact rfl); (case k7 => exact rfl); (case k10 => exact rfl); (case k8 => exact rfl); (case k9 => exact rfl); (case k1 => exact Frag.In.keeps (by k_asm) (Fr.keep (by k_asm))); (case k2 => walk_at "ent at"); (case k3 => first | assumption | exact rfl); (case k4 => exact rfl); k_whole))
  k_with "fn at" => exact ⟨_, _, _, _, Fr.keep (by k_asm) _ _ (by assumption)⟩
  k_with "callWith ref" => (k_here; k_dflt (refine' callWith_F ?k1 ?_; (case k1 => walk_at "fn at"); k_whole))
  k_with "And" => (k_dflt (refine And.intro ?kfn ?_; (case kfn => walk_at "fn at"); (try dsimp only [List.nil_append, List.cons_append])))
  k_with "subscriptTail" => (k_here; (with_reducible show wpAny _ _ (subscriptTail _ _ (Value.ref _) (Value.int _ _)) _ _ _); k_dflt (refine' key_at4 ?k1 ?k2 ?_; (case k1 => exact KeyAt.keeps (by assumption) (Fr.keep (by k_asm))); (case k2 => first | exact .i0 | exact .i1 | exact .i2 | exact .i3); k_whole); intro _)
  k_with "call builtin:abs" => (k_here; k_dflt (refine' abs_L ?_; k_whole); intro _ _)
  k_with "eval Name" => (k_here; (with_reducible show wpAny _ _ (eval (Expr.Name _ _) (compEnvC _ _ _ _)) _ _ _); k_dflt (first
      | (refine' nameY_L ?F ?v ?_ ?a ?b; (case F => k_asm); (case a => rfl); (case b => rfl); (case v => walk_at "m_look"); k_whole)
      | (refine' nameY_C ?F ?N ?c ?m ?d ?_ ?a ?b; (case a => rfl); (case b => rfl); (case F => k_asm); (case N => k_asm); (case c => rfl); (case m => k_mem); (case d => first | k_asm | rfl); k_whole)
      | (refine' nameY_K ?F ?X ?T ?e ?_ ?z ?a ?b; (case F => k_asm); (case X => k_asm); (case T => k_asm); (case z => rfl); (case a => rfl); (case b => rfl); (case e => exact rfl); k_whole)
      | (refine' nameY_B ?F ?X ?T ?e ?v ?n ?_ ?z ?y ?a ?b; (case F => k_asm); (case X => k_asm); (case T => k_asm); (case z => rfl); (case y => rfl); (case a => rfl); (case b => rfl); (case e => exact rfl); (case v => boot_fast); (case n => decide); k_whole)))
  k_with "call type:set cons nil" => (k_here; k_dflt (refine' set_L ?k1 ?k2 ?k3 ?k4 ?_; (case k1 => k_asm); (case k2 => k_asm); (case k3 => first | exact rfl | assumption); (case k4 => assumption); k_whole); intro xZz hZz tkZz oZz FZz NZz l1Zz l2Zz hsZz; (try k_lt l1Zz); (try k_lt2 l2Zz); (try k_sweep))
  k_with "getAttr ref" => (k_here; (with_reducible show wpAny _ _ (getAttr (Value.ref _) (PySem.Str.ofString "__contains__") _) _ _ _); obtain ⟨_, _, hs0Zz⟩ := (by assumption : ∃ S n, PySem.Obj.SetObjOf (intKind _ _) _ S n); k_dflt (refine' set_attr_N ?k1 ?k2 ?k3 ?k4 ?_; (case k1 => k_asm); (case k2 => k_asm); (case k4 => exact hs0Zz); (case k3 => k_mem); k_whole); intro xZz hZz tkZz FZz NZz l1Zz l2Zz; (try k_lt l1Zz); (try k_lt2 l2Zz); (try k_sweep))
  k_with "call type:filter" => (k_here; k_dflt (refine' filter_new ?k1 ?k2 ?k3 ?_; (case k1 => k_asm); (case k2 => k_asm); (case k3 => exact Fr.keep (by k_asm) _ _ (by assumption)); k_whole); intro iZz xZz hZz FZz NZz l1Zz l2Zz l3Zz; (try k_lt l1Zz); (try k_lt2 l2Zz); (try k_lt2 l3Zz))
  k_with "call type:list" => (k_here; k_dflt (refine' list_filter2 ?k1 ?k2 ?k3 ?k4 ?k5 ?_; (case k1 => k_asm); (case k2 => k_asm); (case k3 => first | exact rfl | assumption); (case k4 => assumption); (case k5 => walk_at "apart"); k_whole); intro xZz nZz hZz tkZz FZz NZz l1Zz l2Zz; (try k_lt l1Zz); (try k_lt2 l2Zz); (try k_sweep))
  k_with "apart" => repeat' (first | exact List.forall_mem_nil _ | (refine List.forall_mem_cons.mpr ⟨by k_ne, ?_⟩))
  k_with "binaryOp Add ref ref" => (k_here; k_dflt (refine' add_L ?k1 ?k2 ?k3 ?k4 ?k5 ?_; (case k1 => k_asm); (case k2 => k_asm); (case k3 => walk_at "is list"); (case k4 => walk_at "is list"); (case k5 => ((try simp only [List.length_append, List.length_cons, List.length_nil]); omega)); k_whole); intro xZz hZz FZz NZz l1Zz l2Zz; (try k_lt l1Zz); (try k_lt2 l2Zz); (try k_sweep))
  k_with "getMethod ref" => (k_here; k_dflt (refine' ent_methC ?k1 ?k2 ?k3 ?k4 ?_ ?k5 ?k6 ?k7; (case k1 => k_asm); (case k2 => k_asm); (case k3 => walk_at "ent at"); (case k4 => exact rfl); (case k5 => exact rfl); (case k6 => exact rfl); (case k7 => exact rfl); k_whole))
  k_with "all mem" => repeat' (first | exact List.forall_mem_nil _ | (refine List.forall_mem_cons.mpr ⟨by k_mem, ?_⟩))
  k_with "list obj" => first | exact News.get (by k_asm) (by k_mem) | exact Fr.keep (by k_asm) _ _ (by assumption)
  k_with "compareOp NotEq ref ref" => (k_here; (with_reducible show wpAny _ _ (compareOp CmpOp.NotEq (Value.ref _) (Value.ref _)) _ _ _); k_dflt (refine' ne_empty ?k1 ?k2 ?k3 ?_; (case k1 => walk_at "list obj"); (case k2 => exact News.get (by k_asm) (by k_mem)); (case k3 => (simp only [PySem.Around.deeper_units]; omega)); k_whole); (try simp only [List.isEmpty_cons, List.isEmpty_nil, Bool.not_false, Bool.not_true]))
  k_with "compareOp Eq ref ref" => (k_here; (with_reducible show wpAny _ _ (compareOp CmpOp.Eq (Value.ref _) (Value.ref _)) _ _ _); k_dflt (refine' eq_empty ?k1 ?k2 ?k3 ?_; (case k1 => walk_at "list obj"); (case k2 => exact News.get (by k_asm) (by k_mem)); (case k3 => (simp only [PySem.Around.deeper_units]; omega)); k_whole); (try simp only [List.isEmpty_cons, List.isEmpty_nil, Bool.not_false, Bool.not_true]))
  k_with "no loop" => ((fail_if_success (with_reducible show wpAny _ _ (exec (Stmt.While _ _ _ _) _) _ _ _)); (fail_if_success (with_reducible show wpAny _ _ (exec (Stmt.For _ _ _ _ _) _) _ _ _)); (fail_if_success (with_reducible show wpAny _ _ (call (Value.ref _) _ _) _ _ _)); (fail_if_success (with_reducible show wpAny _ _ (pyIter _) _ _ _)); (fail_if_success (with_reducible show wpAny _ _ (eval (Expr.ListComp _ _ _ _) _) _ _ _)); (fail_if_success (with_reducible show wpAny _ _ (exec (Stmt.Assign [Expr.Name _ _] (Expr.ListComp _ _ _ _) _) _) _ _ _)))
  k_with "go" => repeat' (first | (walk_at "no loop"; walk1; try dsimp only) | (walk_at "no loop"; dsimp only; walk1))
  k_with "no more" => (walk_at "no loop"; (fail_if_success (with_reducible show wpAny _ _ (call (Value.builtin "min") _ _) _ _ _)); (fail_if_success (with_reducible show wpAny _ _ (compareOp CmpOp.Eq (Value.ref _) (Value.ref _)) _ _ _)); (fail_if_success (with_reducible show wpAny _ _ (compareOp CmpOp.Eq _ (Value.ref _)) _ _ _)))
  k_with "go2" => repeat' (first | (walk_at "no more"; walk1; try dsimp only) | (walk_at "no more"; dsimp only; walk1))
  exact True.intro
theorem pop_code {prog : Program} {w : World} {p : Program} {loose : List Str} {mean : ExcName → Option Value} {mg mb : Str → Option Value} {A : Around} {R : Result → Shared → Prop} {s : Shared} {ra ha hd ru lj hj ej dj uj : Addr} {es hs us ls hr dr : List Value} {n0 n1 n2 n3 n4 n5 n6 jn : Nat} {ds : List DictEntry} {n : Int} {tn tm : Tok} {name : Str} {top : Value} {wss : List (List Value)}
  (X : (KK w).In (hideAll s.heap [ru, lj, hj, hd, dj])) (T : Top p loose mean mg mb (hideAll s.heap [ru, lj, hj, hd, dj])) (hroom : A.depth < 800) (hu : A.units < 100) (hh : A.handled = none)
  (hru : s.heap.get? ru = some (W.listOf us.toArray n1)) (hlj : s.heap.get? lj = some (W.listOf ls.toArray n2)) (hhj : s.heap.get? hj = some (W.listOf (top :: hr).toArray n3)) (hhd : s.heap.get? hd = some (W.listOf (Value.ref hj :: dr).toArray n4)) (hdj : s.heap.get? dj = some (dictOf ds n6))
  (hra : (hideAll s.heap [ru, lj, hj, hd, dj]).get? ra = some (W.listOf es.toArray n0)) (hha : (hideAll s.heap [ru, lj, hj, hd, dj]).get? ha = some (W.listOf hs.toArray n5)) (hej : (hideAll s.heap [ru, lj, hj, hd, dj]).get? ej = some (instObj 52 dj)) (hent : EntsAre w ds (recL uj lj))
  (hn : n % 10 = 6) (hel : es.length = 3) (hhl : hs.length = 3) (hjn : jn < 3) (hje : es.getD jn .none = .ref ej) (hjh : hs.getD jn .none = .ref hj)
  (x1 : ru ≠ lj) (x3 : ru ≠ hj) (x4 : ru ≠ hd) (x6 : lj ≠ hj) (x7 : lj ≠ hd) (x10 : hj ≠ hd) (y1 : ru ≠ dj) (y2 : lj ≠ dj) (y4 : hj ≠ dj) (y5 : hd ≠ dj)
  (hul : us.length ≤ 100) (hll : ls.length ≤ 100) (hvl : hr.length ≤ 100) (hdl : dr.length ≤ 10)
  (hwl : wss.length = 3) (hws : ∀ i, i < 3 → ∃ a, hs.getD i .none = .ref a ∧ ((a = hj ∧ wss.getD i [] = top :: hr) ∨ ∃ n, (hideAll s.heap [ru, lj, hj, hd, dj]).get? a = some (W.listOf (wss.getD i []).toArray n))) (hwf : wss.flatten.length ≤ 300) (hwne : wss.flatten ≠ []) (hwk : KeysIn (hideAll s.heap [ru, lj, hj, hd, dj]) wss.flatten)
  (hleast : ∀ v, LeastIn (hideAll s.heap [ru, lj, hj, hd, dj]) wss.flatten v → keyV (hideAll s.heap [ru, lj, hj, hd, dj]) v = keyV (hideAll s.heap [ru, lj, hj, hd, dj]) top)
  (hk : ∀ v ∈ top :: hr, KeyTo (hideAll s.heap [ru, lj, hj, hd, dj]) us jn v) (hls : RulesIn (hideAll s.heap [ru, lj, hj, hd, dj]) ls) (hH : ∀ v ∈ dr, HeadG (hideAll s.heap [ru, lj, hj, hd, dj]) v) (ho1 : HOL klt 0 ((top :: hr).map (keyV (hideAll s.heap [ru, lj, hj, hd, dj])))) (ho2 : HOL kllt 1 ((Value.ref hj :: dr).map (keysV (hideAll s.heap [ru, lj, hj, hd, dj]))))
  (post : ∀ h' tk (l' xk : Addr) (hv' hds' : List Value) es' k1 k2 k3 k4, Keeps [ru, lj, hj, hd, dj] s.heap h' → h'.get? ru = some (W.listOf us.toArray n1) → h'.get? dj = some (dictOf es' k3) → EntsAre w es' (recL uj l') → s.heap.objs.size ≤ l' → us.getD ((keyV h' top).getD 3 0).natAbs .none = .ref xk →
    h'.get? l' = some (W.listOf (ls.filter (refNe xk)).toArray k4) → h'.get? hj = some (W.listOf hv'.toArray k1) → hv'.Perm hr → HOL klt 0 (hv'.map (keyV h')) → h'.get? hd = some (W.listOf hds'.toArray k2) → hds'.Perm (if hr = [] then dr else .ref hj :: dr) → HOL kllt 0 (hds'.map (keysV h')) →
    R (.ok (.ret (.bool true))) { s with heap := h', toks := tk }) :
  codeAny (model prog w) A (.call (.ref 129) ⟨[.ref ra, .ref ha, .ref hd, .ref ru, .int n tn, .str name tm], []⟩) R s := by
  obtain ⟨g, hg⟩ : ∃ g, g = hideAll s.heap [ru, lj, hj, hd, dj] := ⟨_, rfl⟩
  rw [← hg] at X T hra hha hej hk hH ho1 ho2 hls hws hwk hleast
  have T' := topRead_of T
  refine enter (news := [(ru, W.listOf us.toArray n1), (lj, W.listOf ls.toArray n2), (hj, W.listOf (top :: hr).toArray n3), (hd, W.listOf (Value.ref hj :: dr).toArray n4), (dj, dictOf ds n6)]) (K := KK w) hg X T' ?_ rfl rfl (Nat.lt_of_lt_of_le hroom (by decide)) (BindsTo.of_eq rfl) (locs rfl) ?_
  · intro q hq
    rcases List.mem_cons.mp hq with rfl | hq
    · exact hru
    rcases List.mem_cons.mp hq with rfl | hq
    · exact hlj
    rcases List.mem_cons.mp hq with rfl | hq
    · exact hhj
    rcases List.mem_cons.mp hq with rfl | hq
    · exact hhd
    rcases List.mem_cons.mp hq with rfl | hq
    · exact hdj
    · cases hq
  intro L h₁ tk F N lt0
  k_lt lt0
  have hsL : s.heap.objs.size ≤ L := by have := F.above; rw [hg, hideAll_size] at this; exact this
  have hm : (([6, 8] : List Int).any fun x => x == n % 10) = true := by
    simp only [List.any_cons, List.any_nil, Bool.or_false, Bool.or_eq_true, beq_iff_eq]
    (first | lia | omega)
  try dsimp only
  walk_at "go"
  all_goals try (exfalso; (first | lia | omega))
  all_goals try (rename (List.any _ _ = false) => hax; rw [hm] at hax; cases hax)
  (rename Fr _ _ _ _ => F2); (rename News _ _ _ _ => N2)
  have N3 := news_of (news' := [(ru, W.listOf us.toArray n1), (lj, W.listOf ls.toArray n2), (hj, W.listOf (top :: hr).toArray n3), (hd, W.listOf (Value.ref hj :: dr).toArray n4), (dj, dictOf ds n6)]) N2 (by walk_at "all mem")
  clear N2
  refine comp_two hh (by exact rfl) (by decide) rfl (by decide) rfl rfl (by decide) (by decide) (by intro _ _; rfl) ?_
  walk_at "go"
  refine ⟨ha, hs, wss, rfl, isList_keep F2 hha, by (first | lia | omega), by (first | lia | omega), ?_, by (first | lia | omega), ?_⟩
  · intro i hi
    obtain ⟨a, ea, h | ⟨na, h⟩⟩ := hws i (by (first | lia | omega))
    · exact ⟨a, n3, ea, by rw [h.1, h.2]; exact (N3 (hj, _) (.tail _ (.tail _ (.head _)))).1⟩
    · exact ⟨a, na, ea, F2.keep _ _ h⟩
  intro D h4 tk4 k4 hD hd4 sub4
  have F4 := fr_sub F2 sub4
  obtain ⟨N4, l4, l4'⟩ := news_new F2 N3 sub4 hd4 hD
  clear F2 N3
  k_lt l4
  walk_at "go2"
  (rename Fr _ _ _ _ => F5); (rename News _ _ _ _ => N5)
  refine min_L F5 N5 (by exact hh) (unt (a := A.units) hu (by decide)) (N5.isList (.head _)) (hwk.keeps F5.keep) hwne ?_
  intro lv h6 tk6 F6 N6 k6 hlv
  have hlv' : LeastIn g wss.flatten lv := ⟨hlv.1, fun u hu => by
    have := hlv.2 u hu
    rw [((hwk u hu).keeps F5.keep).keyV, ((hwk lv hlv.1).keeps F5.keep).keyV] at this
    exact this⟩
  have elv := hleast lv hlv'
  obtain ⟨ta, k0, k1, k2, k3, xk0, dk, etop, kat, rk2, rk3, rxk, rdk⟩ := hk top (.head _)
  have kal := hwk lv hlv.1
  rw [elv, kat.keyV] at kal
  obtain ⟨la, _, _, _, elv2, -⟩ := id kal
  subst elv2
  have hjh' : hs.getD ((k2.natAbs : Int)).toNat .none = .ref hj := by rw [Int.toNat_natCast, rk2]; exact hjh
  have hi2 : ((k2.natAbs : Int)) < 3 := by (first | lia | omega)
  have N7 := news_of (news' := [(ru, W.listOf us.toArray n1), (lj, W.listOf ls.toArray n2), (hj, W.listOf (top :: hr).toArray n3), (hd, W.listOf (Value.ref hj :: dr).toArray n4), (dj, dictOf ds n6)]) N6 (fun q hq => .tail _ hq)
  clear N6 k6 hlv
  clear F5 N5
  try dsimp only at F6 N7
  walk_at "go2"
  all_goals try (exfalso; (first | lia | omega))
  (rename Fr _ _ _ _ => F8); (rename News _ _ _ _ => N8)
  have hkk : KeysIn g (top :: hr) := KeysIn.of hk
  refine pop_in F8 N8 X T' (u := fun o => [(ru, W.listOf us.toArray n1), (lj, W.listOf ls.toArray n2), (hj, o), (hd, W.listOf (Value.ref hj :: dr).toArray n4), (dj, dictOf ds n6)]) (.tail x3 (.tail x6 (.head ?kU))) (dpt (a := A.depth) hroom (by decide)) (unt (a := A.units) hu (by decide)) (ord_keys (hkk.keeps F8.keep) (N8 (hj, _) (.tail _ (.tail _ (.head _)))).1) ?_ (by (first | lia | omega)) ?_
  case kU =>
    intro q hq
    rcases List.mem_cons.mp hq with rfl | hq
    · exact Ne.symm x10
    rcases List.mem_cons.mp hq with rfl | hq
    · exact Ne.symm y4
    · cases hq
  · rw [hkk.keyV_keeps F8.keep]; exact ho1.mono (Nat.zero_le _)
  intro h9 tk9 hv' F9 N9 k9 p9 o9
  have kv' : KeysIn g hv' := fun v hv => hkk v (.tail _ (p9.mem_iff.mp hv))
  rw [kv'.keyV_keeps F9.keep] at o9
  subst etop
  clear k9
  clear F8 N8
  try dsimp only at N9
  walk_at "go2"
  all_goals try (exfalso; (first | lia | omega))
  (rename Fr _ _ _ _ => Fa); (rename News _ _ _ _ => Na)
  have Ud : UpdF dj (dictOf ds n6) [(ru, W.listOf us.toArray n1), (lj, W.listOf ls.toArray n2), (hj, W.listOf hv'.toArray (n3 + 1)), (hd, W.listOf (Value.ref hj :: dr).toArray n4), (dj, dictOf ds n6)]
      (fun o => [(ru, W.listOf us.toArray n1), (lj, W.listOf ls.toArray n2), (hj, W.listOf hv'.toArray (n3 + 1)), (hd, W.listOf (Value.ref hj :: dr).toArray n4), (dj, o)]) :=
    .tail y1 (.tail y2 (.tail y4 (.tail y5 (.head fun q hq => nomatch hq))))
  have ba : Sub g (hideAll (heapOf Fa) [dj]) := hide_in Fa (updF_at Na Ud).2.2
  refine go_key Fa Na X T' Ud (dpt (a := A.depth) hroom (by decide)) (unt (a := A.units) hu (by decide)) (by exact hh) hra (by (first | lia | omega)) hje (by (first | lia | omega)) (.head _) y1 (by (first | lia | omega)) hej hent (.tail _ (.head _)) y2 (by (first | lia | omega)) ((hk _ (.head _)).keeps ba) (hls.keeps ba) ?_
  intro hb tkb l' es' nb nb' xk exk Fb Nb kb hsl' eb hlb hLb
  try dsimp only at Nb
  rw [((hkk _ (.head _)).keeps Fa.keep).keyV] at exk
  clear ba Ud
  clear Fa Na
  have hlb' : ru < l' ∧ lj < l' ∧ hj < l' ∧ hd < l' ∧ dj < l' := ⟨hlb _ (.head _), hlb _ (.tail _ (.head _)), hlb (hj, _) (.tail _ (.tail _ (.head _))), hlb (hd, _) (.tail _ (.tail _ (.tail _ (.head _)))), hlb (dj, _) (.tail _ (.tail _ (.tail _ (.tail _ (.head _)))))⟩
  obtain ⟨hb1, hb2, hb4, hb5, hb6⟩ := hlb'
  clear hlb
  walk_at "go2"
  all_goals try (exfalso; (first | lia | omega))
  (rename Fr _ _ _ _ => Fc); (rename News _ _ _ _ => Nc)
  have kvt := kat.keyV
  refine key_eq (kat.keeps Fc.keep) (kal.keeps Fc.keep) (unt (a := A.units) hu (by decide)) ?_
  rw [decide_eq_true rfl]
  have hH' : ∀ v ∈ Value.ref hj :: dr, v = .ref hj ∨ HeadG g v := fun v hv => by
    rcases List.mem_cons.mp hv with rfl | hv
    · exact .inl rfl
    · exact .inr (hH v hv)
  have fin : ∀ (h' : Heap) tk' m' (hds' : List Value) k2, Fr g L h' m' → News g L h' [(l', W.listOf (List.filter (refNe xk) ls).toArray nb'), (ru, W.listOf us.toArray n1), (lj, W.listOf ls.toArray n2), (hj, W.listOf hv'.toArray (n3 + 1)), (hd, W.listOf hds'.toArray k2), (dj, dictOf es' nb)] →
      hds'.Perm (if hr = [] then dr else .ref hj :: dr) → HOL kllt 0 (hds'.map (keysV h')) → R (.ok (.ret (.bool true))) { s with heap := h', toks := tk' } := by
    intro h' tk' m' hds' k2 F' N' pd od
    exact post h' tk' l' xk hv' hds' es' _ _ _ _ (keeps_of hg F') (N' _ (.tail _ (.head _))).1 (N' (dj, _) (.tail _ (.tail _ (.tail _ (.tail _ (.tail _ (.head _))))))).1 eb (Nat.le_trans hsL (Nat.le_of_lt hLb)) (by rw [((hkk _ (.head _)).keeps F'.keep).keyV]; exact exk) (N' _ (.head _)).1 (N' (hj, _) (.tail _ (.tail _ (.tail _ (.head _))))).1 p9 (by rw [kv'.keyV_keeps F'.keep]; exact o9) (N' (hd, _) (.tail _ (.tail _ (.tail _ (.tail _ (.head _)))))).1 pd od
  by_cases hve : hr = []
  · have ev : hv' = [] := by rw [hve] at p9; exact p9.eq_nil
    subst ev
    walk_at "go"
    (rename Fr _ _ _ _ => Fd); (rename News _ _ _ _ => Nd)
    have Ne := news_of (news' := [(l', W.listOf (List.filter (refNe xk) ls).toArray nb'), (ru, W.listOf us.toArray n1), (lj, W.listOf ls.toArray n2), (hj, W.listOf ([] : List Value).toArray (n3 + 1)), (hd, W.listOf (Value.ref hj :: dr).toArray n4), (dj, dictOf es' nb)]) Nd (fun q hq => .tail _ hq)
    clear Nd
    refine pop_in Fd Ne X T' (u := fun o => [(l', W.listOf (List.filter (refNe xk) ls).toArray nb'), (ru, W.listOf us.toArray n1), (lj, W.listOf ls.toArray n2), (hj, W.listOf ([] : List Value).toArray (n3 + 1)), (hd, o), (dj, dictOf es' nb)]) (.tail (Nat.ne_of_gt hb5) (.tail x4 (.tail x7 (.tail x10 (.head ?kU))))) (dpt (a := A.depth) hroom (by decide)) (unt (a := A.units) hu (by decide))
      (ord_heads (heads_of hH' Fd.keep (Ne (hd, _) (.tail _ (.tail _ (.tail _ (.tail _ (.head _)))))).2.2 x10 (Ne (hj, _) (.tail _ (.tail _ (.tail _ (.head _))))).1 (kv'.keeps Fd.keep)) (Ne (hd, _) (.tail _ (.tail _ (.tail _ (.tail _ (.head _)))))).1) (heads1 ho2 hH Fd.keep) (by (first | lia | omega)) ?_
    case kU =>
      intro q hq
      rcases List.mem_cons.mp hq with rfl | hq
      · exact _root_.Ne.symm y5
      · cases hq
    intro he tke hds' Fe Ne ke pe oe
    clear ke
    clear Fd
    try dsimp only at Ne
    walk_at "go"
    all_goals (refine fin _ _ _ _ _ (by assumption) (by assumption) ?_ oe; rw [if_pos hve]; exact pe)
  · have hv0 : hv' ≠ [] := fun e => hve (by rw [e] at p9; exact p9.symm.eq_nil)
    obtain ⟨v0, vr, e0⟩ : ∃ a r, hv' = a :: r := ⟨_, _, (List.cons_head_tail hv0).symm⟩
    subst e0
    walk_at "go"
    (rename Fr _ _ _ _ => Fd); (rename News _ _ _ _ => Nd)
    have Ne := news_of (news' := [(l', W.listOf (List.filter (refNe xk) ls).toArray nb'), (ru, W.listOf us.toArray n1), (lj, W.listOf ls.toArray n2), (hj, W.listOf (v0 :: vr).toArray (n3 + 1)), (hd, W.listOf (Value.ref hj :: dr).toArray n4), (dj, dictOf es' nb)]) Nd (fun q hq => .tail _ hq)
    clear Nd
    refine replace_in Fd Ne X T' (u := fun o => [(l', W.listOf (List.filter (refNe xk) ls).toArray nb'), (ru, W.listOf us.toArray n1), (lj, W.listOf ls.toArray n2), (hj, W.listOf (v0 :: vr).toArray (n3 + 1)), (hd, o), (dj, dictOf es' nb)]) (.tail (Nat.ne_of_gt hb5) (.tail x4 (.tail x7 (.tail x10 (.head ?kU))))) (dpt (a := A.depth) hroom (by decide)) (unt (a := A.units) hu (by decide))
      (ord_heads (heads_of hH' Fd.keep (Ne (hd, _) (.tail _ (.tail _ (.tail _ (.tail _ (.head _)))))).2.2 x10 (Ne (hj, _) (.tail _ (.tail _ (.tail _ (.head _))))).1 (kv'.keeps Fd.keep)) (Ne (hd, _) (.tail _ (.tail _ (.tail _ (.tail _ (.head _)))))).1) (heads1 ho2 hH Fd.keep) (by (first | lia | omega)) ?_
    case kU =>
      intro q hq
      rcases List.mem_cons.mp hq with rfl | hq
      · exact _root_.Ne.symm y5
      · cases hq
    intro he tke hds' Fe Ne ke pe oe
    clear ke
    clear Fd
    try dsimp only at Ne
    walk_at "go"
    all_goals (refine fin _ _ _ _ _ (by assumption) (by assumption) ?_ oe; rw [if_neg hve]; exact pe)
theorem lay_T5 : True := by
  k_with_none
  w_top off
  k_with "m_look" => first | with_reducible assumption | exact rfl | exact upd_eq | (refine upd_ne ?_ (by decide); walk_at "m_look")
  k_with "eval Name" => (k_here; (with_reducible rename Fr _ _ _ _ => kFZz); with_unfolding_all refine guard_global (by rfl) ?_; k_dflt (refine' name_B kFZz ?k1 ?k2 ?k3 ?k4 ?k5 ?_; (case k1 => k_asm); (case k2 => k_asm); (case k3 => exact rfl); (case k4 => boot_fast); (case k5 => decide); k_whole))
  k_with "eval Name" => (k_here; (with_reducible rename Fr _ _ _ _ => kFZz); with_unfolding_all refine guard_global (by rfl) ?_; k_dflt (refine' name_K kFZz ?k1 ?k2 ?k3 ?_; (case k1 => k_asm); (case k2 => k_asm); (case k3 => exact rfl); k_whole))
  k_with "callWith ref" => (k_here; k_dflt (first
      | refine' callWith_K ?k1 ?k2 ?_; (case k1 => k_asm); (case k2 => exact rfl); k_whole
      | refine' callWith_K0 ?k1 ?k2 ?_; (case k1 => k_in); (case k2 => exact rfl); k_whole))
  k_with "eval Name" => (k_here; k_dflt (refine' ld ?k1 ?k2 ?_; (case k1 => k_asm); (case k2 => walk_at "m_look"); k_whole))
  k_with "subscriptTail" => (k_here; (with_reducible show wpAny _ _ (subscriptTail _ _ (Value.ref _) (Value.int _ _)) _ _ _); k_dflt (refine' item_get ?k1 ?k2 ?k3 ?k4 ?_; (case k1 => exact News.isList (by k_asm) (by k_mem)); (case k2 => omega); (case k3 => omega); (case k4 => omega); k_whole))
  k_with "setItem ref int" => (k_here; k_dflt (refine' item_set ?k1 ?k2 ?k3 ?k4 ?k5 ?k6 ?_; (case k1 => k_asm); (case k2 => k_asm); (case k3 => k_upd); (case k4 => omega); (case k5 => omega); (case k6 => omega); k_whole); intro hZz FZz NZz; (try k_sweep))
  k_with "binaryOp RShift int int" => (k_here; k_dflt (refine' wpAny_rshift1_int ?k1 ?_; (case k1 => omega); k_whole))
  k_with "call builtin:len" => (k_here; (with_reducible show wpAny _ _ (call (Value.builtin _) [Value.ref _]) _ _ _); k_dflt (refine' len_L ?k1 ?k2 ?_; (case k1 => exact News.isList (by k_asm) (by k_mem)); (case k2 => ((try simp only [List.length_append, List.length_cons, List.length_nil]); omega)); k_whole))
  k_with "call builtin:list.append" => (k_here; (with_reducible show wpAny _ _ (call (Value.builtin _) [Value.ref _, _]) _ _ _); k_dflt (refine' append_L ?k1 ?k2 ?k3 ?k4 ?_; (case k1 => k_asm); (case k2 => k_asm); (case k3 => k_upd); (case k4 => ((try simp only [List.length_append, List.length_cons, List.length_nil]); omega)); k_whole); intro hZz FZz NZz; (try k_sweep))
  k_with "call builtin:list.pop" => (k_here; (with_reducible show wpAny _ _ (call (Value.builtin _) [Value.ref _]) _ _ _); k_dflt (refine' pop_L ?k1 ?k2 ?k3 ?k4 ?_; (case k1 => k_asm); (case k2 => k_asm); (case k3 => k_upd); (case k4 => omega); k_whole); intro hZz FZz NZz; (try k_sweep))
  k_with "assign Tuple" => (k_here; (with_reducible show wpAny _ _ (assign (Expr.Tuple _ _ _) _ (Value.ref _)) _ _ _); k_dflt (refine' unpackN_ ?F ?N ?T ?k1 ?k2 ?k3 ?_; (case F => k_asm); (case N => k_asm); (case T => first | with_reducible assumption | (refine News.isTup (by k_asm) (by k_mem))); (case k1 => assumption); (case k2 => exact rfl); (case k3 => exact rfl)); intro hZz FZz NZz; (try k_sweep))
  k_with "call type:range" => (k_here; (with_reducible show wpAny _ _ (call _ [Value.int _ _]) _ _ _); k_dflt (refine' range_L ?k1 ?k2 ?_; (case k1 => k_asm); (case k2 => k_asm); k_whole); intro rZz hZz uZz vZz FZz NZz l1Zz; (try k_lt l1Zz); (try k_sweep))
  k_with "call type:reversed" => (k_here; k_dflt (refine' reversed_L ?k1 ?k2 ?k3 ?k4 ?k5 ?_; (case k1 => k_asm); (case k2 => k_asm); (case k3 => k_mem); (case k4 => omega); (case k5 => omega); k_whole); intro iZz hZz FZz NZz l1Zz; (try k_lt l1Zz); (try k_sweep))
  k_with "binaryOp FloorDiv int int" => (k_here; k_dflt (refine' fdiv_pos ?k1 ?k2 ?_; (case k1 => decide); (case k2 => exact PyProof.noPylong_of_log2 (by decide +kernel)); k_whole))
  k_with "binaryOp Mod int int" => (k_here; k_dflt (refine' fmod_pos ?k1 ?_; (case k1 => decide); k_whole))
  k_with "ent inst" => first | exact Fr.keep (by k_asm) _ _ (by assumption) | exact News.get (by k_asm) (by k_mem)
  k_with "setAttr ref" => (k_here; k_dflt (refine' ent_set ?k1 ?k2 ?k3 ?k4 ?k5 ?k6 ?k7 ?_ ?k8; (case k8 => exact rfl); (case k1 => k_asm); (case k2 => k_asm); (case k3 => k_asm); (case k4 => walk_at "ent inst"); (case k5 => k_updF); (case k6 => assumption); (case k7 => exact Nat.le_of_ble_eq_true rfl); k_whole); intro hZz eZz nZz FZz NZz EZz; (try dsimp only at NZz); (try k_sweep))
  k_with "newList" => (k_here; k_dflt (refine' newList_L ?k1 ?k2 ?_ ?k3; (case k1 => k_asm); (case k2 => k_asm); (case k3 => first | exact Nat.le_of_ble_eq_true rfl | omega); k_whole); intro lZz hZz FZz NZz l1Zz l2Zz; (try k_lt l1Zz); (try k_lt2 l2Zz); (try k_sweep))
  k_with "is cells" => first | (with_reducible show wpAny _ _ (eval (Expr.Name _ _) (envOfC _ _ _ _ _)) _ _ _) | (with_reducible show wpAny _ _ (eval (Expr.Name _ _) (envX _ _ _ _ _ _)) _ _ _) | (with_reducible show wpAny _ _ (storeName (envOfC _ _ _ _ _) _ _) _ _ _)
  k_with "eval Name" => (k_here; walk_at "is cells"; k_dflt (first
      | (refine' nameX_L ?F ?v ?_ ?a ?b; (case F => k_asm); (case a => rfl); (case b => rfl); (case v => walk_at "m_look"); k_whole)
      | (refine' nameX_C ?N ?c ?m ?d ?_ ?a ?b; (case a => rfl); (case b => rfl); (case N => k_asm); (case c => rfl); (case m => k_mem); (case d => k_asm); k_whole)
      | (refine' nameX_F ?N ?c ?m ?d ?_ ?a ?b; (case a => rfl); (case b => rfl); (case N => k_asm); (case c => rfl); (case m => k_mem); (case d => k_asm); k_whole)
      | (refine' nameX_K ?F ?X ?T ?e ?_ ?a ?b; (case F => k_asm); (case X => k_asm); (case T => k_asm); (case a => rfl); (case b => rfl); (case e => exact rfl); k_whole)
      | (refine' nameX_B ?F ?X ?T ?e ?v ?n ?_ ?a ?b; (case F => k_asm); (case X => k_asm); (case T => k_asm); (case a => rfl); (case b => rfl); (case e => exact rfl); (case v => boot_fast); (case n => decide); k_whole)))
  k_with "eval Lambda" => (k_here; k_dflt (refine' kla_eval ?d0 ?_; (case d0 => exact rfl)); (first
      | (k_dflt (refine' kla_nest ?F ?N ?T ?C ?cd ?U ?t ?n ?cl ?_; (case F => k_asm); (case N => k_asm); (case T => k_asm); (case cd => exact rfl); (case C => k_asm); (case U => k_updF); (case t => kn_triples); (case n => kn_among); (case cl => exact rfl); k_whole); intro fZz cZz ocZz vsZz tZz ctZz hZz tkZz FZz NZz d1Zz d2Zz l1Zz l2Zz; (try dsimp only at NZz); (try k_lt l1Zz); (try k_lt2 l2Zz))
      | (k_dflt (refine' kla_hit ?F ?N ?T ?C ?cd ?mem ?t ?n ?cl ?_; (case F => k_asm); (case N => k_asm); (case T => k_asm); (case cd => exact rfl); (case C => k_asm); (case mem => k_mem); (case t => kn_triples); (case n => kn_among); (case cl => exact rfl); k_whole); intro fZz ctZz hZz tkZz FZz NZz l1Zz; (try k_lt l1Zz))))
  k_with "is list" => first | exact News.isList (by k_asm) (by k_mem) | exact isList_keep (by k_asm) (by assumption)
  k_with "subscriptTail" => (k_here; (with_reducible show wpAny _ _ (subscriptTail _ _ (Value.ref _) (Value.int _ _)) _ _ _); k_dflt (refine' item_getv ?k1 ?k2 ?k3 ?k4 ?k5 ?_; (case k1 => walk_at "is list"); (case k2 => omega); (case k3 => ((try simp only [List.length_cons, List.length_nil]); omega)); (case k4 => ((try simp only [List.length_cons, List.length_nil]); omega)); (case k5 => first | with_reducible assumption | exact rfl); k_whole))
  k_with "ent at" => first | exact EntAt.keeps (by assumption) (Fr.keep (by k_asm)) | exact ⟨Fr.keep (by k_asm) _ _ (by assumption), _, _, News.get (by k_asm) (by k_mem), by assumption⟩ | exact ⟨News.get (by k_asm) (by k_mem), _, _, News.get (by k_asm) (by k_mem), by assumption⟩
  k_with "getAttr ref" => (k_here; k_dflt (refine' ent_get ?k1 ?k2 ?k3 ?k4 ?_ ?k5 ?k6 ?k7 ?k8 ?k9; (case k5 => exact rfl); (case k6 => exact rfl); (case k7 => exact rfl); (case k8 => exact rfl); (case k9 => exact rfl); (case k1 => exact Frag.In.keeps (by k_asm) (Fr.keep (by k_asm))); (case k2 => walk_at "ent at"); (case k3 => first | assumption | exact rfl); (case k4 => exact rfl); k_whole))
  k_with "subscriptTail" => (k_here; (with_reducible show wpAny _ _ (subscriptTail _ _ (Value.ref _) (Value.str _ _)) _ _ _); k_dflt (refine' reach_item ?k1 ?k2 ?_; (case k1 => first | exact ReachAt.keeps (by assumption) (Fr.keep (by k_asm)) | exact ⟨_, _, Heap.dictOf_iff.mpr ⟨_, News.get (by k_asm) (by k_mem), by assumption⟩⟩); (case k2 => assumption); k_whole); intro _)
  k_with "getMethod ref" => (k_here; k_dflt (refine' ent_meth ?k1 ?k2 ?k3 ?k4 ?_ ?k5 ?k6 ?k7 ?k10 ?k8 ?k9; (case k5 => exact rfl); (case k6 => exact rfl); (case k7 => exact rfl); (case k10 => exact rfl); (case k8 => exact rfl); (case k9 => exact rfl); (case k1 => exact Frag.In.keeps (by k_asm) (Fr.keep (by k_asm))); (case k2 => walk_at "ent at"); (case k3 => first | assumption | exact rfl); (case k4 => exact rfl); k_whole))
  k_with "fn at" => exact ⟨_, _, _, _, Fr.keep (by k_asm) _ _ (by assumption)⟩
  k_with "callWith ref" => (k_here; k_dflt (refine' callWith_F ?k1 ?_; (case k1 => walk_at "fn at"); k_whole))
  k_with "And" => (k_dflt (refine And.intro ?kfn ?_; (case kfn => walk_at "fn at"); (try dsimp only [List.nil_append, List.cons_append])))
  k_with "subscriptTail" => (k_here; (with_reducible show wpAny _ _ (subscriptTail _ _ (Value.ref _) (Value.int _ _)) _ _ _); k_dflt (refine' key_at4 ?k1 ?k2 ?_; (case k1 => exact KeyAt.keeps (by assumption) (Fr.keep (by k_asm))); (case k2 => first | exact .i0 | exact .i1 | exact .i2 | exact .i3); k_whole); intro _)
  k_with "call builtin:abs" => (k_here; k_dflt (refine' abs_L ?_; k_whole); intro _ _)
  k_with "eval Name" => (k_here; (with_reducible show wpAny _ _ (eval (Expr.Name _ _) (compEnvC _ _ _ _)) _ _ _); k_dflt (first
      | (refine' nameY_L ?F ?v ?_ ?a ?b; (case F => k_asm); (case a => rfl); (case b => rfl); (case v => walk_at "m_look"); k_whole)
      | (refine' nameY_C ?F ?N ?c ?m ?d ?_ ?a ?b; (case a => rfl); (case b => rfl); (case F => k_asm); (case N => k_asm); (case c => rfl); (case m => k_mem); (case d => first | k_asm | rfl); k_whole)
      | (refine' nameY_K ?F ?X ?T ?e ?_ ?z ?a ?b; (case F => k_asm); (case X => k_asm); (case T => k_asm); (case z => rfl); (case a => rfl); (case b => rfl); (case e => exact rfl); k_whole)
      | (refine' nameY_B ?F ?X ?T ?e ?v ?n ?_ ?z ?y ?a ?b; (case F => k_asm); (case X => k_asm); (case T => k_asm); (case z => rfl); (case y => rfl); (case a => rfl); (case b => rfl); (case e => exact rfl); (case v => boot_fast); (case n => decide); k_whole)))
  k_with "call type:set cons nil" => (k_here; k_dflt (refine' set_L ?k1 ?k2 ?k3 ?k4 ?_; (case k1 => k_asm); (case k2 => k_asm); (case k3 => first | exact rfl | assumption); (case k4 => assumption); k_whole); intro xZz hZz tkZz oZz FZz NZz l1Zz l2Zz hsZz; (try k_lt l1Zz); (try k_lt2 l2Zz); (try k_sweep))
  k_with "getAttr ref" => (k_here; (with_reducible show wpAny _ _ (getAttr (Value.ref _) (PySem.Str.ofString "__contains__") _) _ _ _); obtain ⟨_, _, hs0Zz⟩ := (by assumption : ∃ S n, PySem.Obj.SetObjOf (intKind _ _) _ S n); k_dflt (refine' set_attr_N ?k1 ?k2 ?k3 ?k4 ?_; (case k1 => k_asm); (case k2 => k_asm); (case k4 => exact hs0Zz); (case k3 => k_mem); k_whole); intro xZz hZz tkZz FZz NZz l1Zz l2Zz; (try k_lt l1Zz); (try k_lt2 l2Zz); (try k_sweep))
  k_with "call type:filter" => (k_here; k_dflt (refine' filter_new ?k1 ?k2 ?k3 ?_; (case k1 => k_asm); (case k2 => k_asm); (case k3 => exact Fr.keep (by k_asm) _ _ (by assumption)); k_whole); intro iZz xZz hZz FZz NZz l1Zz l2Zz l3Zz; (try k_lt l1Zz); (try k_lt2 l2Zz); (try k_lt2 l3Zz))
  k_with "call type:list" => (k_here; k_dflt (refine' list_filter2 ?k1 ?k2 ?k3 ?k4 ?k5 ?_; (case k1 => k_asm); (case k2 => k_asm); (case k3 => first | exact rfl | assumption); (case k4 => assumption); (case k5 => walk_at "apart"); k_whole); intro xZz nZz hZz tkZz FZz NZz l1Zz l2Zz; (try k_lt l1Zz); (try k_lt2 l2Zz); (try k_sweep))
  k_with "apart" => repeat' (first | exact List.forall_mem_nil _ | (refine List.forall_mem_cons.mpr ⟨by k_ne, ?_⟩))
  k_with "binaryOp Add ref ref" => (k_here; k_dflt (refine' add_L ?k1 ?k2 ?k3 ?k4 ?k5 ?_; (case k1 => k_asm); (case k2 => k_asm); (case k3 => walk_at "is list"); (case k4 => walk_at "is list"); (case k5 => ((try simp only [List.length_append, List.length_cons, List.length_nil]); omega)); k_whole); intro xZz hZz FZz NZz l1Zz l2Zz; (try k_lt l1Zz); (try k_lt2 l2Zz); (try k_sweep))
  k_with "getMethod ref" => (k_here; k_dflt (refine' ent_methC ?k1 ?k2 ?k3 ?k4 ?_ ?k5 ?k6 ?k7; (case k1 => k_asm); (case k2 => k_asm); (case k3 => walk_at "ent at"); (case k4 => exact rfl); (case k5 => exact rfl); (case k6 => exact rfl); (case k7 => exact rfl); k_whole))
  k_with "all mem" => repeat' (first | exact List.forall_mem_nil _ | (refine List.forall_mem_cons.mpr ⟨by k_mem, ?_⟩))
  k_with "list obj" => first | exact News.get (by k_asm) (by k_mem) | exact Fr.keep (by k_asm) _ _ (by assumption)
  k_with "compareOp NotEq ref ref" => (k_here; (with_reducible show wpAny _ _ (compareOp CmpOp.NotEq (Value.ref _) (Value.ref _)) _ _ _); k_dflt (refine' ne_empty ?k1 ?k2 ?k3 ?_; (case k1 => walk_at "list obj"); (case k2 => exact News.get (by k_asm) (by k_mem)); (case k3 => (simp only [PySem.Around.deeper_units]; omega)); k_whole); (try simp only [List.isEmpty_cons, List.isEmpty_nil, Bool.not_false, Bool.not_true]))
  k_with "compareOp Eq ref ref" => (k_here; (with_reducible show wpAny _ _ (compareOp CmpOp.Eq (Value.ref _) (Value.ref _)) _ _ _); k_dflt (refine' eq_empty ?k1 ?k2 ?k3 ?_; (case k1 => walk_at "list obj"); (case k2 => exact News.get (by k_asm) (by k_mem)); (case k3 => (simp only [PySem.Around.deeper_units]; omega)); k_whole); (try simp only [List.isEmpty_cons, List.isEmpty_nil, Bool.not_false, Bool.not_true]))
  k_with "no loop" => ((fail_if_success (with_reducible show wpAny _ _ (exec (Stmt.While _ _ _ _) _) _ _ _)); (fail_if_success (with_reducible show wpAny _ _ (exec (Stmt.For _ _ _ _ _) _) _ _ _)); (fail_if_success (with_reducible show wpAny _ _ (call (Value.ref _) _ _) _ _ _)); (fail_if_success (with_reducible show wpAny _ _ (pyIter _) _ _ _)); (fail_if_success (with_reducible show wpAny _ _ (eval (Expr.ListComp _ _ _ _) _) _ _ _)); (fail_if_success (with_reducible show wpAny _ _ (exec (Stmt.Assign [Expr.Name _ _] (Expr.ListComp _ _ _ _) _) _) _ _ _)))
  k_with "go" => repeat' (first | (walk_at "no loop"; walk1; try dsimp only) | (walk_at "no loop"; dsimp only; walk1))
  k_with "no more" => (walk_at "no loop"; (fail_if_success (with_reducible show wpAny _ _ (call (Value.builtin "min") _ _) _ _ _)); (fail_if_success (with_reducible show wpAny _ _ (compareOp CmpOp.Eq (Value.ref _) (Value.ref _)) _ _ _)); (fail_if_success (with_reducible show wpAny _ _ (compareOp CmpOp.Eq _ (Value.ref _)) _ _ _)))
  k_with "go2" => repeat' (first | (walk_at "no more"; walk1; try dsimp only) | (walk_at "no more"; dsimp only; walk1))
  exact True.intro
theorem replace_code {prog : Program} {w : World} {p : Program} {loose : List Str} {mean : ExcName → Option Value} {mg mb : Str → Option Value} {A : Around} {R : Result → Shared → Prop} {s : Shared} {ra ha hd ru lj hj ej dj uj : Addr} {es hs us ls hr dr : List Value} {n0 n1 n2 n3 n4 n5 n6 jn : Nat} {ds : List DictEntry} {n : Int} {tn tm : Tok} {name : Str} {top : Value} {wss : List (List Value)} {tab : Option Addr}
  (X : (KK w).In (hideAll s.heap [ru, lj, 114, hj, hd, dj])) (T : Top p loose mean mg mb (hideAll s.heap [ru, lj, 114, hj, hd, dj])) (C : CodeHd (hideAll s.heap [ru, lj, 114, hj, hd, dj]) 118 114) (hroom : A.depth < 800) (hu : A.units < 100) (hh : A.handled = none)
  (hru : s.heap.get? ru = some (W.listOf us.toArray n1)) (hlj : s.heap.get? lj = some (W.listOf ls.toArray n2)) (htab : s.heap.get? 114 = some (tabOf tab)) (hhj : s.heap.get? hj = some (W.listOf (top :: hr).toArray n3)) (hhd : s.heap.get? hd = some (W.listOf (Value.ref hj :: dr).toArray n4)) (hdj : s.heap.get? dj = some (dictOf ds n6))
  (hra : (hideAll s.heap [ru, lj, 114, hj, hd, dj]).get? ra = some (W.listOf es.toArray n0)) (hha : (hideAll s.heap [ru, lj, 114, hj, hd, dj]).get? ha = some (W.listOf hs.toArray n5)) (hej : (hideAll s.heap [ru, lj, 114, hj, hd, dj]).get? ej = some (instObj 52 dj)) (hent : EntsAre w ds (recL uj lj))
  (hn : n % 10 = 8) (hel : es.length = 3) (hhl : hs.length = 3) (hjn : jn < 3) (hje : es.getD jn .none = .ref ej) (hjh : hs.getD jn .none = .ref hj)
  (x1 : ru ≠ lj) (x2 : ru ≠ 114) (x5 : lj ≠ 114) (x8 : hj ≠ 114) (x9 : hd ≠ 114) (y3 : dj ≠ 114) (hname : name = Str.ofString "" ∨ name = Str.ofString "/A%41") (x3 : ru ≠ hj) (x4 : ru ≠ hd) (x6 : lj ≠ hj) (x7 : lj ≠ hd) (x10 : hj ≠ hd) (y1 : ru ≠ dj) (y2 : lj ≠ dj) (y4 : hj ≠ dj) (y5 : hd ≠ dj)
  (hul : us.length ≤ 100) (hll : ls.length ≤ 100) (hvl : hr.length ≤ 100) (hdl : dr.length ≤ 10)
  (hwl : wss.length = 3) (hws : ∀ i, i < 3 → ∃ a, hs.getD i .none = .ref a ∧ ((a = hj ∧ wss.getD i [] = top :: hr) ∨ ∃ n, (hideAll s.heap [ru, lj, 114, hj, hd, dj]).get? a = some (W.listOf (wss.getD i []).toArray n))) (hwf : wss.flatten.length ≤ 300) (hwne : wss.flatten ≠ []) (hwk : KeysIn (hideAll s.heap [ru, lj, 114, hj, hd, dj]) wss.flatten)
  (hleast : ∀ v, LeastIn (hideAll s.heap [ru, lj, 114, hj, hd, dj]) wss.flatten v → keyV (hideAll s.heap [ru, lj, 114, hj, hd, dj]) v = keyV (hideAll s.heap [ru, lj, 114, hj, hd, dj]) top)
  (hk : ∀ v ∈ top :: hr, KeyTo (hideAll s.heap [ru, lj, 114, hj, hd, dj]) us jn v) (hls : RulesIn (hideAll s.heap [ru, lj, 114, hj, hd, dj]) ls) (hH : ∀ v ∈ dr, HeadG (hideAll s.heap [ru, lj, 114, hj, hd, dj]) v) (ho1 : HOL klt 0 ((top :: hr).map (keyV (hideAll s.heap [ru, lj, 114, hj, hd, dj])))) (ho2 : HOL kllt 1 ((Value.ref hj :: dr).map (keysV (hideAll s.heap [ru, lj, 114, hj, hd, dj]))))
  (post : ∀ h' tk (x al t c' l' xk : Addr) (hv' hds' : List Value) es' k1 k2 k3 k4, Keeps [ru, lj, 114, hj, hd, dj] s.heap h' → h'.get? ru = some (W.listOf (us ++ [Value.ref x]).toArray (n1 + 1)) → h'.get? dj = some (dictOf es' k3) → EntsAre w es' (recL uj l') → s.heap.objs.size ≤ l' → (us ++ [Value.ref x]).getD ((keyV h' top).getD 3 0).natAbs .none = .ref xk →
    h'.get? l' = some (W.listOf ((ls ++ [Value.ref x]).filter (refNe xk)).toArray k4) → h'.get? 114 = some (tabOf (some c')) → h'.get? hj = some (W.listOf hv'.toArray k1) → hv'.Perm (.ref t :: hr) → HOL klt 0 (hv'.map (keyV h')) → h'.get? hd = some (W.listOf hds'.toArray k2) → hds'.Perm (.ref hj :: dr) → HOL kllt 0 (hds'.map (keysV h')) →
    (∀ c, tab = some c → c' = c) → NewRule prog w name us (jn : Int) (n / 10) tab c' x al t (hideAll h' (l' :: List.range s.heap.objs.size)) → R (.ok (.ret (.bool true))) { s with heap := h', toks := tk }) :
  codeAny (model prog w) A (.call (.ref 129) ⟨[.ref ra, .ref ha, .ref hd, .ref ru, .int n tn, .str name tm], []⟩) R s := by
  obtain ⟨g, hg⟩ : ∃ g, g = hideAll s.heap [ru, lj, 114, hj, hd, dj] := ⟨_, rfl⟩
  rw [← hg] at X T C hra hha hej hk hH ho1 ho2 hls hws hwk hleast
  have T' := topRead_of T
  refine enter (news := [(ru, W.listOf us.toArray n1), (lj, W.listOf ls.toArray n2), (114, tabOf tab), (hj, W.listOf (top :: hr).toArray n3), (hd, W.listOf (Value.ref hj :: dr).toArray n4), (dj, dictOf ds n6)]) (K := KK w) hg X T' ?_ rfl rfl (Nat.lt_of_lt_of_le hroom (by decide)) (BindsTo.of_eq rfl) (locs rfl) ?_
  · intro q hq
    rcases List.mem_cons.mp hq with rfl | hq
    · exact hru
    rcases List.mem_cons.mp hq with rfl | hq
    · exact hlj
    rcases List.mem_cons.mp hq with rfl | hq
    · exact htab
    rcases List.mem_cons.mp hq with rfl | hq
    · exact hhj
    rcases List.mem_cons.mp hq with rfl | hq
    · exact hhd
    rcases List.mem_cons.mp hq with rfl | hq
    · exact hdj
    · cases hq
  intro L h₁ tk F N lt0
  k_lt lt0
  have hsL : s.heap.objs.size ≤ L := by have := F.above; rw [hg, hideAll_size] at this; exact this
  have hm : (([6, 8] : List Int).any fun x => x == n % 10) = true := by
    simp only [List.any_cons, List.any_nil, Bool.or_false, Bool.or_eq_true, beq_iff_eq]
    (first | lia | omega)
  try dsimp only
  walk_at "go"
  all_goals try (exfalso; (first | lia | omega))
  all_goals try (rename (List.any _ _ = false) => hax; rw [hm] at hax; cases hax)
  (rename Fr _ _ _ _ => F2); (rename News _ _ _ _ => N2)
  have N3 := news_of (news' := [(ru, W.listOf us.toArray n1), (lj, W.listOf ls.toArray n2), (114, tabOf tab), (hj, W.listOf (top :: hr).toArray n3), (hd, W.listOf (Value.ref hj :: dr).toArray n4), (dj, dictOf ds n6)]) N2 (by walk_at "all mem")
  clear N2
  refine comp_two hh (by exact rfl) (by decide) rfl (by decide) rfl rfl (by decide) (by decide) (by intro _ _; rfl) ?_
  walk_at "go"
  refine ⟨ha, hs, wss, rfl, isList_keep F2 hha, by (first | lia | omega), by (first | lia | omega), ?_, by (first | lia | omega), ?_⟩
  · intro i hi
    obtain ⟨a, ea, h | ⟨na, h⟩⟩ := hws i (by (first | lia | omega))
    · exact ⟨a, n3, ea, by rw [h.1, h.2]; exact (N3 (hj, _) (.tail _ (.tail _ (.tail _ (.head _))))).1⟩
    · exact ⟨a, na, ea, F2.keep _ _ h⟩
  intro D h4 tk4 k4 hD hd4 sub4
  have F4 := fr_sub F2 sub4
  obtain ⟨N4, l4, l4'⟩ := news_new F2 N3 sub4 hd4 hD
  clear F2 N3
  k_lt l4
  walk_at "go2"
  (rename Fr _ _ _ _ => F5); (rename News _ _ _ _ => N5)
  refine min_L F5 N5 (by exact hh) (unt (a := A.units) hu (by decide)) (N5.isList (.head _)) (hwk.keeps F5.keep) hwne ?_
  intro lv h6 tk6 F6 N6 k6 hlv
  have hlv' : LeastIn g wss.flatten lv := ⟨hlv.1, fun u hu => by
    have := hlv.2 u hu
    rw [((hwk u hu).keeps F5.keep).keyV, ((hwk lv hlv.1).keeps F5.keep).keyV] at this
    exact this⟩
  have elv := hleast lv hlv'
  obtain ⟨ta, k0, k1, k2, k3, xk0, dk, etop, kat, rk2, rk3, rxk, rdk⟩ := hk top (.head _)
  have kal := hwk lv hlv.1
  rw [elv, kat.keyV] at kal
  obtain ⟨la, _, _, _, elv2, -⟩ := id kal
  subst elv2
  have hjh' : hs.getD ((k2.natAbs : Int)).toNat .none = .ref hj := by rw [Int.toNat_natCast, rk2]; exact hjh
  have hi2 : ((k2.natAbs : Int)) < 3 := by (first | lia | omega)
  have N7 := news_of (news' := [(ru, W.listOf us.toArray n1), (lj, W.listOf ls.toArray n2), (114, tabOf tab), (hj, W.listOf (top :: hr).toArray n3), (hd, W.listOf (Value.ref hj :: dr).toArray n4), (dj, dictOf ds n6)]) N6 (fun q hq => .tail _ hq)
  clear N6 k6 hlv
  clear F5 N5
  try dsimp only at F6 N7
  walk_at "go2"
  all_goals try (exfalso; (first | lia | omega))
  (rename Fr _ _ _ _ => F8); (rename News _ _ _ _ => N8)
  have hkk : KeysIn g (top :: hr) := KeysIn.of hk
  have hej' : EntAt w (hideAll (heapOf F8) [ru, lj, 114]) ej dj (recL uj lj) := ⟨base_in F8 (fun b hb => by
    rcases List.mem_cons.mp hb with rfl | hb
    · exact (N8 _ (.head _)).2.2
    rcases List.mem_cons.mp hb with rfl | hb
    · exact (N8 _ (.tail _ (.head _))).2.2
    rcases List.mem_cons.mp hb with rfl | hb
    · exact (N8 _ (.tail _ (.tail _ (.head _)))).2.2
    · cases hb) _ _ hej, _, _, hideAll_get _ (N8 (dj, _) (.tail _ (.tail _ (.tail _ (.tail _ (.tail _ (.head _))))))).1 (by simp [Ne.symm y1, Ne.symm y2, y3]), hent⟩
  refine come_in2 (j := (k2.natAbs : Int)) (lj := lj) (ej := ej) F8 N8 X T C (dpt (a := A.depth) hroom (by decide)) (unt (a := A.units) hu (by decide)) hra (by rw [Int.toNat_natCast, rk2]; exact hje) (by (first | lia | omega)) (by (first | lia | omega)) (by (first | lia | omega)) hej' rfl ⟨x1, x2, x5⟩ ?_ (by (first | lia | omega)) (by (first | lia | omega)) hname ?_
  · intro q hq
    rcases List.mem_cons.mp hq with rfl | hq
    · exact ⟨Ne.symm x3, Ne.symm x6, x8⟩
    rcases List.mem_cons.mp hq with rfl | hq
    · exact ⟨Ne.symm x4, Ne.symm x7, x9⟩
    rcases List.mem_cons.mp hq with rfl | hq
    · exact ⟨Ne.symm y1, Ne.symm y2, y3⟩
    · cases hq
  rw [rk2]
  intro h4 tk4 x al t c' lr F4 N4 k4 hc1 hbig hnew
  simp only [List.cons_append, List.nil_append] at N4
  have hjb : ∀ q ∈ lr, q.1 ≠ hj ∧ q.1 ≠ hd ∧ q.1 ≠ dj := fun q hq => by
    have b1 := hbig q hq
    have b2 := Heap.lt_size (N8 (hj, _) (.tail _ (.tail _ (.tail _ (.head _))))).1
    have b3 := Heap.lt_size (N8 (hd, _) (.tail _ (.tail _ (.tail _ (.tail _ (.head _)))))).1
    have b4 := Heap.lt_size (N8 (dj, _) (.tail _ (.tail _ (.tail _ (.tail _ (.tail _ (.head _))))))).1
    exact ⟨Nat.ne_of_gt (Nat.lt_of_lt_of_le b2 b1), Nat.ne_of_gt (Nat.lt_of_lt_of_le b3 b1), Nat.ne_of_gt (Nat.lt_of_lt_of_le b4 b1)⟩
  have hbig' : ∀ q ∈ lr, s.heap.objs.size ≤ q.1 := fun q hq => Nat.le_trans hsL (Nat.le_trans (Nat.le_of_lt F8.ns.lt) (hbig q hq))
  have kt5 : ∀ (h' : Heap), Sub g h' → (∀ q ∈ lr, h'.get? q.1 = some q.2) → ∀ v ∈ Value.ref t :: top :: hr, KeyTo h' (us ++ [.ref x]) jn v := by
    intro h' k1 k2 v hv
    rcases List.mem_cons.mp hv with rfl | hv
    · exact (hnew h' k2).keyTo
    · exact ((hk v hv).keeps k1).grow _
  have kv : ∀ h' h'' : Heap, Sub g h' → (∀ q ∈ lr, h'.get? q.1 = some q.2) → Sub g h'' → (∀ q ∈ lr, h''.get? q.1 = some q.2) → ∀ v ∈ Value.ref t :: top :: hr, keyV h' v = keyV h'' v := by
    intro h' h'' k1 k2 k3 k4 v hv
    rcases List.mem_cons.mp hv with rfl | hv
    · rw [(hnew h' k2).2.1.keyV, (hnew h'' k4).2.1.keyV]
    · have := (hk v hv).key
      rw [(this.keeps k1).keyV, (this.keeps k3).keyV]
  clear hej' k4
  clear F8 N8
  walk_at "go2"
  all_goals try (exfalso; (first | lia | omega))
  (rename Fr _ _ _ _ => Fb); (rename News _ _ _ _ => Nb)
  have lrb : ∀ q ∈ lr, (heapOf Fb).get? q.1 = some q.2 := fun q hq => (Nb q (.tail _ (.tail _ (.tail _ (.tail _ (.tail _ (.tail _ hq))))))).1
  have ktb : ∀ v ∈ Value.ref t :: hr, KeyTo (heapOf Fb) (us ++ [.ref x]) jn v := fun v hv => kt5 _ Fb.keep lrb v (by
    rcases List.mem_cons.mp hv with rfl | hv
    · exact .head _
    · exact .tail _ (.tail _ hv))
  refine replace_in (x := top) Fb Nb X T' (u := fun o => (ru, W.listOf (us ++ [Value.ref x]).toArray (n1 + 1)) :: (lj, W.listOf (ls ++ [Value.ref x]).toArray (n2 + 1)) :: (114, tabOf (some c')) :: (hj, o) :: (hd, W.listOf (Value.ref hj :: dr).toArray n4) :: (dj, dictOf ds n6) :: lr) (.tail x3 (.tail x6 (.tail (Ne.symm x8) (.head ?kU)))) (dpt (a := A.depth) hroom (by decide)) (unt (a := A.units) hu (by decide)) (ord_keys (KeysIn.of ktb) (Nb (hj, _) (.tail _ (.tail _ (.tail _ (.head _))))).1) ?_ (by (first | lia | omega)) ?_
  case kU =>
    intro q hq
    rcases List.mem_cons.mp hq with rfl | hq
    · exact Ne.symm x10
    rcases List.mem_cons.mp hq with rfl | hq
    · exact Ne.symm y4
    · exact (hjb q hq).1
  · rw [hkk.keyV_keeps Fb.keep]; exact ho1.mono (Nat.zero_le _)
  intro h9 tk9 hv' F9 N9 k9 p9 o9
  have lr9 : ∀ q ∈ lr, h9.get? q.1 = some q.2 := fun q hq => (N9 q (.tail _ (.tail _ (.tail _ (.tail _ (.tail _ (.tail _ hq))))))).1
  have mem9 : ∀ v ∈ hv', v ∈ Value.ref t :: top :: hr := fun v hv => by
    rcases List.mem_cons.mp (p9.mem_iff.mp hv) with rfl | hv
    · exact .head _
    · exact .tail _ (.tail _ hv)
  have o9' : ∀ h' : Heap, Sub g h' → (∀ q ∈ lr, h'.get? q.1 = some q.2) → HOL klt 0 (hv'.map (keyV h')) := by
    intro h' k1 k2
    rw [List.map_congr_left fun v hv => kv h' _ k1 k2 F9.keep lr9 v (mem9 v hv)]
    exact o9
  subst etop
  clear k9 ktb lrb
  clear Fb Nb
  try dsimp only at N9
  walk_at "go2"
  all_goals try (exfalso; (first | lia | omega))
  (rename Fr _ _ _ _ => Fa); (rename News _ _ _ _ => Na)
  have Ud : UpdF dj (dictOf ds n6) ((ru, W.listOf (us ++ [Value.ref x]).toArray (n1 + 1)) :: (lj, W.listOf (ls ++ [Value.ref x]).toArray (n2 + 1)) :: (114, tabOf (some c')) :: (hj, W.listOf hv'.toArray n3) :: (hd, W.listOf (Value.ref hj :: dr).toArray n4) :: (dj, dictOf ds n6) :: lr)
      (fun o => (ru, W.listOf (us ++ [Value.ref x]).toArray (n1 + 1)) :: (lj, W.listOf (ls ++ [Value.ref x]).toArray (n2 + 1)) :: (114, tabOf (some c')) :: (hj, W.listOf hv'.toArray n3) :: (hd, W.listOf (Value.ref hj :: dr).toArray n4) :: (dj, o) :: lr) :=
    .tail y1 (.tail y2 (.tail (Ne.symm y3) (.tail y4 (.tail y5 (.head fun q hq => (hjb q hq).2.2)))))
  have ba : Sub g (hideAll (heapOf Fa) [dj]) := hide_in Fa (updF_at Na Ud).2.2
  have lra : ∀ q ∈ lr, (hideAll (heapOf Fa) [dj]).get? q.1 = some q.2 := fun q hq => hideAll_get _ (Na q (.tail _ (.tail _ (.tail _ (.tail _ (.tail _ (.tail _ hq))))))).1 (by simpa using (hjb q hq).2.2)
  have lsa : RulesIn (hideAll (heapOf Fa) [dj]) (ls ++ [.ref x]) := (hls.keeps ba).append fun v hv => by
    rw [List.mem_singleton.mp hv]
    obtain ⟨d, hd⟩ := (hnew _ lra).inst
    exact ⟨x, d, rfl, hd⟩
  refine go_key Fa Na X T' Ud (dpt (a := A.depth) hroom (by decide)) (unt (a := A.units) hu (by decide)) (by exact hh) hra (by (first | lia | omega)) hje (by (first | lia | omega)) (.head _) y1 (by simp; (first | lia | omega)) hej hent (.tail _ (.head _)) y2 (by simp; (first | lia | omega)) (((hk _ (.head _)).keeps ba).grow _) lsa ?_
  intro hb tkb l' es' nb nb' xk exk Fb Nb kb hsl' eb hlb hLb
  try dsimp only at Nb
  rw [((hkk _ (.head _)).keeps Fa.keep).keyV] at exk
  clear lsa lra ba Ud
  clear Fa Na
  have hlb' : ru < l' ∧ lj < l' ∧ (114 : Addr) < l' ∧ hj < l' ∧ hd < l' ∧ dj < l' := ⟨hlb _ (.head _), hlb _ (.tail _ (.head _)), hlb _ (.tail _ (.tail _ (.head _))), hlb (hj, _) (.tail _ (.tail _ (.tail _ (.head _)))), hlb (hd, _) (.tail _ (.tail _ (.tail _ (.tail _ (.head _))))), hlb (dj, _) (.tail _ (.tail _ (.tail _ (.tail _ (.tail _ (.head _))))))⟩
  have hll' : ∀ q ∈ lr, q.1 ≠ l' := fun q hq => Nat.ne_of_lt (hlb q (.tail _ (.tail _ (.tail _ (.tail _ (.tail _ (.tail _ hq)))))))
  obtain ⟨hb1, hb2, hb3, hb4, hb5, hb6⟩ := hlb'
  clear hlb
  walk_at "go2"
  all_goals try (exfalso; (first | lia | omega))
  (rename Fr _ _ _ _ => Fc); (rename News _ _ _ _ => Nc)
  refine key_eq (kat.keeps Fc.keep) (kal.keeps Fc.keep) (unt (a := A.units) hu (by decide)) ?_
  rw [decide_eq_true rfl]
  have hH' : ∀ v ∈ Value.ref hj :: dr, v = .ref hj ∨ HeadG g v := fun v hv => by
    rcases List.mem_cons.mp hv with rfl | hv
    · exact .inl rfl
    · exact .inr (hH v hv)
  have hv0 : hv' ≠ [] := fun e => by rw [e] at p9; exact absurd p9.length_eq (by simp)
  obtain ⟨v0, vr, e0⟩ : ∃ a r, hv' = a :: r := ⟨_, _, (List.cons_head_tail hv0).symm⟩
  subst e0
  walk_at "go"
  (rename Fr _ _ _ _ => Fd); (rename News _ _ _ _ => Nd)
  have Nx := news_of (news' := (l', W.listOf (List.filter (refNe xk) (ls ++ [Value.ref x])).toArray nb') :: (ru, W.listOf (us ++ [Value.ref x]).toArray (n1 + 1)) :: (lj, W.listOf (ls ++ [Value.ref x]).toArray (n2 + 1)) :: (114, tabOf (some c')) :: (hj, W.listOf (v0 :: vr).toArray n3) :: (hd, W.listOf (Value.ref hj :: dr).toArray n4) :: (dj, dictOf es' nb) :: lr) Nd (fun q hq => .tail _ hq)
  clear Nd
  have lrd : ∀ q ∈ lr, (heapOf Fd).get? q.1 = some q.2 := fun q hq => (Nx q (.tail _ (.tail _ (.tail _ (.tail _ (.tail _ (.tail _ (.tail _ hq)))))))).1
  have kvd : KeysIn (heapOf Fd) (v0 :: vr) := fun v hv => (kt5 _ Fd.keep lrd v (mem9 v hv)).key
  refine replace_in Fd Nx X T' (u := fun o => (l', W.listOf (List.filter (refNe xk) (ls ++ [Value.ref x])).toArray nb') :: (ru, W.listOf (us ++ [Value.ref x]).toArray (n1 + 1)) :: (lj, W.listOf (ls ++ [Value.ref x]).toArray (n2 + 1)) :: (114, tabOf (some c')) :: (hj, W.listOf (v0 :: vr).toArray n3) :: (hd, o) :: (dj, dictOf es' nb) :: lr) (.tail (Nat.ne_of_gt hb5) (.tail x4 (.tail x7 (.tail (_root_.Ne.symm x9) (.tail x10 (.head ?kU)))))) (dpt (a := A.depth) hroom (by decide)) (unt (a := A.units) hu (by decide))
    (ord_heads (heads_of hH' Fd.keep (Nx (hd, _) (.tail _ (.tail _ (.tail _ (.tail _ (.tail _ (.head _))))))).2.2 x10 (Nx (hj, _) (.tail _ (.tail _ (.tail _ (.tail _ (.head _)))))).1 kvd) (Nx (hd, _) (.tail _ (.tail _ (.tail _ (.tail _ (.tail _ (.head _))))))).1) (heads1 ho2 hH Fd.keep) (by (first | lia | omega)) ?_
  case kU =>
    intro q hq
    rcases List.mem_cons.mp hq with rfl | hq
    · exact _root_.Ne.symm y5
    · exact (hjb q hq).2.1
  intro he tke hds' Fe Ne ke pe oe
  clear ke lrd kvd
  clear Fd Nx
  try dsimp only at Ne
  walk_at "go"
  (rename Fr _ _ _ _ => Fz); (rename News _ _ _ _ => Nz)
  have lrz : ∀ q ∈ lr, (heapOf Fz).get? q.1 = some q.2 := fun q hq => (Nz q (.tail _ (.tail _ (.tail _ (.tail _ (.tail _ (.tail _ (.tail _ hq)))))))).1
  refine post _ _ x al t c' l' xk (v0 :: vr) hds' es' _ _ _ _ (keeps_of hg Fz) (Nz _ (.tail _ (.head _))).1 (Nz (dj, _) (.tail _ (.tail _ (.tail _ (.tail _ (.tail _ (.tail _ (.head _)))))))).1 eb (Nat.le_trans hsL (Nat.le_of_lt hLb)) (by rw [((hkk _ (.head _)).keeps Fz.keep).keyV]; exact exk) (Nz _ (.head _)).1 (Nz _ (.tail _ (.tail _ (.tail _ (.head _))))).1
    (Nz (hj, _) (.tail _ (.tail _ (.tail _ (.tail _ (.head _)))))).1 p9 (o9' _ Fz.keep lrz) (Nz (hd, _) (.tail _ (.tail _ (.tail _ (.tail _ (.tail _ (.head _))))))).1 pe oe hc1 (hnew _ fun q hq => ?_)
  refine hideAll_get _ (lrz q hq) fun q' => ?_
  rcases List.mem_cons.mp q' with e | q'
  · exact hll' q hq e
  · exact Nat.lt_irrefl _ (Nat.lt_of_lt_of_le (List.mem_range.mp q') (hbig' q hq))
theorem lay_T6 : True := by
  k_with_none
  w_top off
  k_with "m_look" => first | with_reducible assumption | exact rfl | exact upd_eq | (refine upd_ne ?_ (by decide); walk_at "m_look")
  k_with "eval Name" => (k_here; (with_reducible rename Fr _ _ _ _ => kFZz); with_unfolding_all refine guard_global (by rfl) ?_; k_dflt (refine' name_B kFZz ?k1 ?k2 ?k3 ?k4 ?k5 ?_; (case k1 => k_asm); (case k2 => k_asm); (case k3 => exact rfl); (case k4 => boot_fast); (case k5 => decide); k_whole))
  k_with "eval Name" => (k_here; (with_reducible rename Fr _ _ _ _ => kFZz); with_unfolding_all refine guard_global (by rfl) ?_; k_dflt (refine' name_K kFZz ?k1 ?k2 ?k3 ?_; (case k1 => k_asm); (case k2 => k_asm); (case k3 => exact rfl); k_whole))
  k_with "callWith ref" => (k_here; k_dflt (first
      | refine' callWith_K ?k1 ?k2 ?_; (case k1 => k_asm); (case k2 => exact rfl); k_whole
      | refine' callWith_K0 ?k1 ?k2 ?_; (case k1 => k_in); (case k2 => exact rfl); k_whole))
  k_with "eval Name" => (k_here; k_dflt (refine' ld ?k1 ?k2 ?_; (case k1 => k_asm); (case k2 => walk_at "m_look"); k_whole))
  k_with "subscriptTail" => (k_here; (with_reducible show wpAny _ _ (subscriptTail _ _ (Value.ref _) (Value.int _ _)) _ _ _); k_dflt (refine' item_get ?k1 ?k2 ?k3 ?k4 ?_; (case k1 => exact News.isList (by k_asm) (by k_mem)); (case k2 => omega); (case k3 => omega); (case k4 => omega); k_whole))
  k_with "setItem ref int" => (k_here; k_dflt (refine' item_set ?k1 ?k2 ?k3 ?k4 ?k5 ?k6 ?_; (case k1 => k_asm); (case k2 => k_asm); (case k3 => k_upd); (case k4 => omega); (case k5 => omega); (case k6 => omega); k_whole); intro hZz FZz NZz; (try k_sweep))
  k_with "binaryOp RShift int int" => (k_here; k_dflt (refine' wpAny_rshift1_int ?k1 ?_; (case k1 => omega); k_whole))
  k_with "call builtin:len" => (k_here; (with_reducible show wpAny _ _ (call (Value.builtin _) [Value.ref _]) _ _ _); k_dflt (refine' len_L ?k1 ?k2 ?_; (case k1 => exact News.isList (by k_asm) (by k_mem)); (case k2 => ((try simp only [List.length_append, List.length_cons, List.length_nil]); omega)); k_whole))
  k_with "call builtin:list.append" => (k_here; (with_reducible show wpAny _ _ (call (Value.builtin _) [Value.ref _, _]) _ _ _); k_dflt (refine' append_L ?k1 ?k2 ?k3 ?k4 ?_; (case k1 => k_asm); (case k2 => k_asm); (case k3 => k_upd); (case k4 => ((try simp only [List.length_append, List.length_cons, List.length_nil]); omega)); k_whole); intro hZz FZz NZz; (try k_sweep))
  k_with "call builtin:list.pop" => (k_here; (with_reducible show wpAny _ _ (call (Value.builtin _) [Value.ref _]) _ _ _); k_dflt (refine' pop_L ?k1 ?k2 ?k3 ?k4 ?_; (case k1 => k_asm); (case k2 => k_asm); (case k3 => k_upd); (case k4 => omega); k_whole); intro hZz FZz NZz; (try k_sweep))
  k_with "assign Tuple" => (k_here; (with_reducible show wpAny _ _ (assign (Expr.Tuple _ _ _) _ (Value.ref _)) _ _ _); k_dflt (refine' unpackN_ ?F ?N ?T ?k1 ?k2 ?k3 ?_; (case F => k_asm); (case N => k_asm); (case T => first | with_reducible assumption | (refine News.isTup (by k_asm) (by k_mem))); (case k1 => assumption); (case k2 => exact rfl); (case k3 => exact rfl)); intro hZz FZz NZz; (try k_sweep))
  k_with "call type:range" => (k_here; (with_reducible show wpAny _ _ (call _ [Value.int _ _]) _ _ _); k_dflt (refine' range_L ?k1 ?k2 ?_; (case k1 => k_asm); (case k2 => k_asm); k_whole); intro rZz hZz uZz vZz FZz NZz l1Zz; (try k_lt l1Zz); (try k_sweep))
  k_with "call type:reversed" => (k_here; k_dflt (refine' reversed_L ?k1 ?k2 ?k3 ?k4 ?k5 ?_; (case k1 => k_asm); (case k2 => k_asm); (case k3 => k_mem); (case k4 => omega); (case k5 => omega); k_whole); intro iZz hZz FZz NZz l1Zz; (try k_lt l1Zz); (try k_sweep))
  k_with "binaryOp FloorDiv int int" => (k_here; k_dflt (refine' fdiv_pos ?k1 ?k2 ?_; (case k1 => decide); (case k2 => exact PyProof.noPylong_of_log2 (by decide +kernel)); k_whole))
  k_with "binaryOp Mod int int" => (k_here; k_dflt (refine' fmod_pos ?k1 ?_; (case k1 => decide); k_whole))
  k_with "ent inst" => first | exact Fr.keep (by k_asm) _ _ (by assumption) | exact News.get (by k_asm) (by k_mem)
  k_with "setAttr ref" => (k_here; k_dflt (refine' ent_set ?k1 ?k2 ?k3 ?k4 ?k5 ?k6 ?k7 ?_ ?k8; (case k8 => exact rfl); (case k1 => k_asm); (case k2 => k_asm); (case k3 => k_asm); (case k4 => walk_at "ent inst"); (case k5 => k_updF); (case k6 => assumption); (case k7 => exact Nat.le_of_ble_eq_true rfl); k_whole); intro hZz eZz nZz FZz NZz EZz; (try dsimp only at NZz); (try k_sweep))
  k_with "newList" => (k_here; k_dflt (refine' newList_L ?k1 ?k2 ?_ ?k3; (case k1 => k_asm); (case k2 => k_asm); (case k3 => first | exact Nat.le_of_ble_eq_true rfl | omega); k_whole); intro lZz hZz FZz NZz l1Zz l2Zz; (try k_lt l1Zz); (try k_lt2 l2Zz); (try k_sweep))
  k_with "is cells" => first | (with_reducible show wpAny _ _ (eval (Expr.Name _ _) (envOfC _ _ _ _ _)) _ _ _) | (with_reducible show wpAny _ _ (eval (Expr.Name _ _) (envX _ _ _ _ _ _)) _ _ _) | (with_reducible show wpAny _ _ (storeName (envOfC _ _ _ _ _) _ _) _ _ _)
  k_with "eval Name" => (k_here; walk_at "is cells"; k_dflt (first
      | (refine' nameX_L ?F ?v ?_ ?a ?b; (case F => k_asm); (case a => rfl); (case b => rfl); (case v => walk_at "m_look"); k_whole)
      | (refine' nameX_C ?N ?c ?m ?d ?_ ?a ?b; (case a => rfl); (case b => rfl); (case N => k_asm); (case c => rfl); (case m => k_mem); (case d => k_asm); k_whole)
      | (refine' nameX_F ?N ?c ?m ?d ?_ ?a ?b; (case a => rfl); (case b => rfl); (case N => k_asm); (case c => rfl); (case m => k_mem); (case d => k_asm); k_whole)
      | (refine' nameX_K ?F ?X ?T ?e ?_ ?a ?b; (case F => k_asm); (case X => k_asm); (case T => k_asm); (case a => rfl); (case b => rfl); (case e => exact rfl); k_whole)
      | (refine' nameX_B ?F ?X ?T ?e ?v ?n ?_ ?a ?b; (case F => k_asm); (case X => k_asm); (case T => k_asm); (case a => rfl); (case b => rfl); (case e => exact rfl); (case v => boot_fast); (case n => decide); k_whole)))
  k_with "eval Lambda" => (k_here; k_dflt (refine' kla_eval ?d0 ?_; (case d0 => exact rfl)); (first
      | (k_dflt (refine' kla_nest ?F ?N ?T ?C ?cd ?U ?t ?n ?cl ?_; (case F => k_asm); (case N => k_asm); (case T => k_asm); (case cd => exact rfl); (case C => k_asm); (case U => k_updF); (case t => kn_triples); (case n => kn_among); (case cl => exact rfl); k_whole); intro fZz cZz ocZz vsZz tZz ctZz hZz tkZz FZz NZz d1Zz d2Zz l1Zz l2Zz; (try dsimp only at NZz); (try k_lt l1Zz); (try k_lt2 l2Zz))
      | (k_dflt (refine' kla_hit ?F ?N ?T ?C ?cd ?mem ?t ?n ?cl ?_; (case F => k_asm); (case N => k_asm); (case T => k_asm); (case cd => exact rfl); (case C => k_asm); (case mem => k_mem); (case t => kn_triples); (case n => kn_among); (case cl => exact rfl); k_whole); intro fZz ctZz hZz tkZz FZz NZz l1Zz; (try k_lt l1Zz))))
  k_with "is list" => first | exact News.isList (by k_asm) (by k_mem) | exact isList_keep (by k_asm) (by assumption)
  k_with "subscriptTail" => (k_here; (with_reducible show wpAny _ _ (subscriptTail _ _ (Value.ref _) (Value.int _ _)) _ _ _); k_dflt (refine' item_getv ?k1 ?k2 ?k3 ?k4 ?k5 ?_; (case k1 => walk_at "is list"); (case k2 => omega); (case k3 => ((try simp only [List.length_cons, List.length_nil]); omega)); (case k4 => ((try simp only [List.length_cons, List.length_nil]); omega)); (case k5 => first | with_reducible assumption | exact rfl); k_whole))
  k_with "ent at" => first | exact EntAt.keeps (by assumption) (Fr.keep (by k_asm)) | exact ⟨Fr.keep (by k_asm) _ _ (by assumption), _, _, News.get (by k_asm) (by k_mem), by assumption⟩ | exact ⟨News.get (by k_asm) (by k_mem), _, _, News.get (by k_asm) (by k_mem), by assumption⟩
  k_with "getAttr ref" => (k_here; k_dflt (refine' ent_get ?k1 ?k2 ?k3 ?k4 ?_ ?k5 ?k6 ?k7 ?k8 ?k9; (case k5 => exact rfl); (case k6 => exact rfl); (case k7 => exact rfl); (case k8 => exact rfl); (case k9 => exact rfl); (case k1 => exact Frag.In.keeps (by k_asm) (Fr.keep (by k_asm))); (case k2 => walk_at "ent at"); (case k3 => first | assumption | exact rfl); (case k4 => exact rfl); k_whole))
  k_with "subscriptTail" => (k_here; (with_reducible show wpAny _ _ (subscriptTail _ _ (Value.ref _) (Value.str _ _)) _ _ _); k_dflt (refine' reach_item ?k1 ?k2 ?_; (case k1 => first | exact ReachAt.keeps (by assumption) (Fr.keep (by k_asm)) | exact ⟨_, _, Heap.dictOf_iff.mpr ⟨_, News.get (by k_asm) (by k_mem), by assumption⟩⟩); (case k2 => assumption); k_whole); intro _)
  k_with "getMethod ref" => (k_here; k_dflt (refine' ent_meth ?k1 ?k2 ?k3 ?k4 ?_ ?k5 ?k6 ?k7 ?k10 ?k8 ?k9; (case k5 => exact rfl); (case k6 => exact rfl); (case k7 => exact rfl); (case k10 => exact rfl); (case k8 => exact rfl); (case k9 => exact rfl); (case k1 => exact Frag.In.keeps (by k_asm) (Fr.keep (by k_asm))); (case k2 => walk_at "ent at"); (case k3 => first | assumption | exact rfl); (case k4 => exact rfl); k_whole))
  k_with "fn at" => exact ⟨_, _, _, _, Fr.keep (by k_asm) _ _ (by assumption)⟩
  k_with "callWith ref" => (k_here; k_dflt (refine' callWith_F ?k1 ?_; (case k1 => walk_at "fn at"); k_whole))
  k_with "And" => (k_dflt (refine And.intro ?kfn ?_; (case kfn => walk_at "fn at"); (try dsimp only [List.nil_append, List.cons_append])))
  k_with "subscriptTail" => (k_here; (with_reducible show wpAny _ _ (subscriptTail _ _ (Value.ref _) (Value.int _ _)) _ _ _); k_dflt (refine' key_at4 ?k1 ?k2 ?_; (case k1 => exact KeyAt.keeps (by assumption) (Fr.keep (by k_asm))); (case k2 => first | exact .i0 | exact .i1 | exact .i2 | exact .i3); k_whole); intro _)
  k_with "call builtin:abs" => (k_here; k_dflt (refine' abs_L ?_; k_whole); intro _ _)
  k_with "eval Name" => (k_here; (with_reducible show wpAny _ _ (eval (Expr.Name _ _) (compEnvC _ _ _ _)) _ _ _); k_dflt (first
      | (refine' nameY_L ?F ?v ?_ ?a ?b; (case F => k_asm); (case a => rfl); (case b => rfl); (case v => walk_at "m_look"); k_whole)
      | (refine' nameY_C ?F ?N ?c ?m ?d ?_ ?a ?b; (case a => rfl); (case b => rfl); (case F => k_asm); (case N => k_asm); (case c => rfl); (case m => k_mem); (case d => first | k_asm | rfl); k_whole)
      | (refine' nameY_K ?F ?X ?T ?e ?_ ?z ?a ?b; (case F => k_asm); (case X => k_asm); (case T => k_asm); (case z => rfl); (case a => rfl); (case b => rfl); (case e => exact rfl); k_whole)
      | (refine' nameY_B ?F ?X ?T ?e ?v ?n ?_ ?z ?y ?a ?b; (case F => k_asm); (case X => k_asm); (case T => k_asm); (case z => rfl); (case y => rfl); (case a => rfl); (case b => rfl); (case e => exact rfl); (case v => boot_fast); (case n => decide); k_whole)))
  k_with "call type:set cons nil" => (k_here; k_dflt (refine' set_L ?k1 ?k2 ?k3 ?k4 ?_; (case k1 => k_asm); (case k2 => k_asm); (case k3 => first | exact rfl | assumption); (case k4 => assumption); k_whole); intro xZz hZz tkZz oZz FZz NZz l1Zz l2Zz hsZz; (try k_lt l1Zz); (try k_lt2 l2Zz); (try k_sweep))
  k_with "getAttr ref" => (k_here; (with_reducible show wpAny _ _ (getAttr (Value.ref _) (PySem.Str.ofString "__contains__") _) _ _ _); obtain ⟨_, _, hs0Zz⟩ := (by assumption : ∃ S n, PySem.Obj.SetObjOf (intKind _ _) _ S n); k_dflt (refine' set_attr_N ?k1 ?k2 ?k3 ?k4 ?_; (case k1 => k_asm); (case k2 => k_asm); (case k4 => exact hs0Zz); (case k3 => k_mem); k_whole); intro xZz hZz tkZz FZz NZz l1Zz l2Zz; (try k_lt l1Zz); (try k_lt2 l2Zz); (try k_sweep))
  k_with "call type:filter" => (k_here; k_dflt (refine' filter_new ?k1 ?k2 ?k3 ?_; (case k1 => k_asm); (case k2 => k_asm); (case k3 => exact Fr.keep (by k_asm) _ _ (by assumption)); k_whole); intro iZz xZz hZz FZz NZz l1Zz l2Zz l3Zz; (try k_lt l1Zz); (try k_lt2 l2Zz); (try k_lt2 l3Zz))
  k_with "call type:list" => (k_here; k_dflt (refine' list_filter2 ?k1 ?k2 ?k3 ?k4 ?k5 ?_; (case k1 => k_asm); (case k2 => k_asm); (case k3 => first | exact rfl | assumption); (case k4 => assumption); (case k5 => walk_at "apart"); k_whole); intro xZz nZz hZz tkZz FZz NZz l1Zz l2Zz; (try k_lt l1Zz); (try k_lt2 l2Zz); (try k_sweep))
  k_with "apart" => repeat' (first | exact List.forall_mem_nil _ | (refine List.forall_mem_cons.mpr ⟨by k_ne, ?_⟩))
  k_with "binaryOp Add ref ref" => (k_here; k_dflt (refine' add_L ?k1 ?k2 ?k3 ?k4 ?k5 ?_; (case k1 => k_asm); (case k2 => k_asm); (case k3 => walk_at "is list"); (case k4 => walk_at "is list"); (case k5 => ((try simp only [List.length_append, List.length_cons, List.length_nil]); omega)); k_whole); intro xZz hZz FZz NZz l1Zz l2Zz; (try k_lt l1Zz); (try k_lt2 l2Zz); (try k_sweep))
  k_with "getMethod ref" => (k_here; k_dflt (refine' ent_methC ?k1 ?k2 ?k3 ?k4 ?_ ?k5 ?k6 ?k7; (case k1 => k_asm); (case k2 => k_asm); (case k3 => walk_at "ent at"); (case k4 => exact rfl); (case k5 => exact rfl); (case k6 => exact rfl); (case k7 => exact rfl); k_whole))
  k_with "all mem" => repeat' (first | exact List.forall_mem_nil _ | (refine List.forall_mem_cons.mpr ⟨by k_mem, ?_⟩))
  k_with "list obj" => first | exact News.get (by k_asm) (by k_mem) | exact Fr.keep (by k_asm) _ _ (by assumption)
  k_with "compareOp NotEq ref ref" => (k_here; (with_reducible show wpAny _ _ (compareOp CmpOp.NotEq (Value.ref _) (Value.ref _)) _ _ _); k_dflt (refine' ne_empty ?k1 ?k2 ?k3 ?_; (case k1 => walk_at "list obj"); (case k2 => exact News.get (by k_asm) (by k_mem)); (case k3 => (simp only [PySem.Around.deeper_units]; omega)); k_whole); (try simp only [List.isEmpty_cons, List.isEmpty_nil, Bool.not_false, Bool.not_true]))
  k_with "compareOp Eq ref ref" => (k_here; (with_reducible show wpAny _ _ (compareOp CmpOp.Eq (Value.ref _) (Value.ref _)) _ _ _); k_dflt (refine' eq_empty ?k1 ?k2 ?k3 ?_; (case k1 => walk_at "list obj"); (case k2 => exact News.get (by k_asm) (by k_mem)); (case k3 => (simp only [PySem.Around.deeper_units]; omega)); k_whole); (try simp only [List.isEmpty_cons, List.isEmpty_nil, Bool.not_false, Bool.not_true]))
  k_with "no loop" => ((fail_if_success (with_reducible show wpAny _ _ (exec (Stmt.While _ _ _ _) _) _ _ _)); (fail_if_success (with_reducible show wpAny _ _ (exec (Stmt.For _ _ _ _ _) _) _ _ _)); (fail_if_success (with_reducible show wpAny _ _ (call (Value.ref _) _ _) _ _ _)); (fail_if_success (with_reducible show wpAny _ _ (pyIter _) _ _ _)); (fail_if_success (with_reducible show wpAny _ _ (eval (Expr.ListComp _ _ _ _) _) _ _ _)); (fail_if_success (with_reducible show wpAny _ _ (exec (Stmt.Assign [Expr.Name _ _] (Expr.ListComp _ _ _ _) _) _) _ _ _)))
  k_with "go" => repeat' (first | (walk_at "no loop"; walk1; try dsimp only) | (walk_at "no loop"; dsimp only; walk1))
  exact True.intro
theorem idle_code {prog : Program} {w : World} {p : Program} {loose : List Str} {mean : ExcName → Option Value} {mg mb : Str → Option Value} {A : Around} {R : Result → Shared → Prop} {s : Shared} {ra ha hd ru : Addr} {n4 : Nat} {n : Int} {tn tm : Tok} {name : Str}
  (X : (KK w).In (hideAll s.heap [])) (T : Top p loose mean mg mb (hideAll s.heap [])) (hroom : A.depth < 800) (hu : A.units < 100) (hh : A.handled = none)
  (hhd : (hideAll s.heap []).get? hd = some (W.listOf ([] : List Value).toArray n4)) (hn : n % 10 = 6 ∨ n % 10 = 8)
  (post : ∀ h' tk, Keeps [] s.heap h' → R (.ok (.ret (.bool true))) { s with heap := h', toks := tk }) :
  codeAny (model prog w) A (.call (.ref 129) ⟨[.ref ra, .ref ha, .ref hd, .ref ru, .int n tn, .str name tm], []⟩) R s := by
  obtain ⟨g, hg⟩ : ∃ g, g = hideAll s.heap [] := ⟨_, rfl⟩
  rw [← hg] at X T hhd
  have T' := topRead_of T
  refine enter (news := []) (K := KK w) hg X T' (fun q hq => nomatch hq) rfl rfl (Nat.lt_of_lt_of_le hroom (by decide)) (BindsTo.of_eq rfl) (locs rfl) ?_
  intro L h₁ tk F N lt0
  have hm : (([6, 8] : List Int).any fun x => x == n % 10) = true := by
    simp only [List.any_cons, List.any_nil, Bool.or_false, Bool.or_eq_true, beq_iff_eq]
    omega
  try dsimp only
  walk_at "go"
  all_goals try (exfalso; omega)
  all_goals try (rename (List.any _ _ = false) => hax; rw [hm] at hax; cases hax)
  (rename Fr _ _ _ _ => F5)
  exact post _ _ (keeps_of hg F5)
theorem lay_K3 : True := by
  k_with_none
  w_top off
  exact True.intro
section
variable {M : Model} {A : Around} {E : Value → Shared → Prop} {s : Shared} {env : Env}
theorem callWith_kwB0 {pos : Pos} {id : String} {first : List Value} {kws : List Keyword} {Q : Value → Shared → Prop}
    (h : wpAny M A (evalAll ((backToKw pos (keywordEach kws env)).map (·.2))) (fun kvs s₂ => wpAny M A (call (.builtin id) (first ++ []) (((backToKw pos (keywordEach kws env)).filterMap (·.1)).zip kvs)) Q E s₂) E s)
    (hall : (backToKw pos (keywordEach kws env)).all (·.1.isSome) = true := by rfl)
    (hkw : (backToKw pos (keywordEach kws env)).any (·.1.isNone) = false := by rfl) :
    wpAny M A (callWith pos (.builtin id) first (backTo pos (starEach [] env)) (backToKw pos (keywordEach kws env))) Q E s :=
  callWith_builtin_kwB rfl hkw (evalArgs_kw2_nil hall h)
end

section
variable {prog : Program} {w : World} {A : Around} {E : Value → Shared → Prop} {s : Shared} {g : Heap} {L a f : Addr} {m : Str → Option Value} {news : List (Addr × Obj)} {u : Obj → List (Addr × Obj)} {vs : List Value} {kz : List Int} {n : Nat} {Q : Value → Shared → Prop}
theorem kskOut_perm {vs out : List Value} {kz : List Int} {b : Bool} (h : KskOut b kz vs out) (hl : kz.length = vs.length) : out.Perm vs := by
  obtain ⟨ps, hp, rfl, -⟩ := h
  have := hp.map Prod.snd
  rwa [List.map_snd_zip (by omega)] at this
theorem sort_L (F : Fr g L s.heap m) (N : News g L s.heap news) (U : UpdF a (W.listOf vs.toArray n) news u) (hlen : kz.length = vs.length) (h64 : vs.length < 64)
    (turn : ∀ (i : Nat) (v : Value) (k : Int), vs[i]? = some v → kz[i]? = some k → ∀ (h : Heap) (tk : Nat), Sub g h → (∀ q ∈ news, q.1 ≠ a → h.get? q.1 = some q.2) →
      wpAny (model prog w) A.in1 (call (.ref f) [v]) (fun r s2 => ∃ h' tk' t, s2 = { s with heap := h', toks := tk' } ∧ r = .int k t ∧ Sub h h') (fun _ _ => False) { s with heap := h, toks := tk })
    (h : ∀ h' tk (out : List Value) c, Fr g L h' m → News g L h' (u (W.listOf out.toArray c)) → out.Perm vs → Q .none { s with heap := h', toks := tk }) :
    wpAny (model prog w) A (call (.builtin "list.sort") [.ref a] [(Str.ofString "key", .ref f)]) Q E s := by
  have z := updF_at N U
  obtain ⟨pre, post, rfl, hu, h1, h2⟩ := U.split
  have N0 : News g L s.heap (pre ++ post) := fun q hq => N q (by
    rcases List.mem_append.mp hq with hq | hq
    · exact List.mem_append_left _ hq
    · exact List.mem_append_right _ (.tail _ hq))
  refine wpAny_call_entry_kw slot_list_sort ⟨_, z.1, rfl⟩ entry_list_sort ?_ (ksk_l1 _ _)
  rw [ksk_t1]
  refine ksk_sort (kz := kz) F N0 z.1 z.2.1 z.2.2 (fun p hp => ?_) hlen h64 (fun i v k hv hk hh tk own F' N' => ?_) fun h' tk out c F' N' ko => ⟨_, rfl, ?_⟩
  · rcases List.mem_append.mp hp with hp | hp
    · exact h1 p hp
    · exact h2 p hp
  · refine wpAny_mono (turn i v k hv hk hh tk F'.keep fun q hq hne => ?_) (fun r s2 hr => ?_) fun _ _ x => x
    · refine (N' q (List.mem_append_left _ ?_)).1
      rcases List.mem_append.mp hq with hq | hq
      · exact List.mem_append_left _ hq
      · rcases List.mem_cons.mp hq with rfl | hq
        · exact absurd rfl hne
        · exact List.mem_append_right _ hq
    · obtain ⟨h', tk', t, rfl, rfl, k⟩ := hr
      exact ⟨h', tk', t, rfl, rfl, fr_sub F' k, news_sub N' k⟩
  · have e : seqObj "list" out c = W.listOf out.toList.toArray c := by rw [Array.toArray_toList]
    refine h h' tk out.toList c F' ?_ (kskOut_perm ko hlen)
    rw [hu]
    intro q hq
    rcases List.mem_append.mp hq with hq | hq
    · exact N' q (.tail _ (List.mem_append_left _ hq))
    · rcases List.mem_cons.mp hq with rfl | hq
      · rw [← e]; exact N' _ (.head _)
      · exact N' q (.tail _ (List.mem_append_right _ hq))
end
theorem lay_T7 : True := by
  k_with_none
  w_top off
  k_with "m_look" => first | with_reducible assumption | exact rfl | exact upd_eq | (refine upd_ne ?_ (by decide); walk_at "m_look")
  k_with "eval Name" => (k_here; (with_reducible rename Fr _ _ _ _ => kFZz); with_unfolding_all refine guard_global (by rfl) ?_; k_dflt (refine' name_B kFZz ?k1 ?k2 ?k3 ?k4 ?k5 ?_; (case k1 => k_asm); (case k2 => k_asm); (case k3 => exact rfl); (case k4 => boot_fast); (case k5 => decide); k_whole))
  k_with "eval Name" => (k_here; (with_reducible rename Fr _ _ _ _ => kFZz); with_unfolding_all refine guard_global (by rfl) ?_; k_dflt (refine' name_K kFZz ?k1 ?k2 ?k3 ?_; (case k1 => k_asm); (case k2 => k_asm); (case k3 => exact rfl); k_whole))
  k_with "callWith ref" => (k_here; k_dflt (first
      | refine' callWith_K ?k1 ?k2 ?_; (case k1 => k_asm); (case k2 => exact rfl); k_whole
      | refine' callWith_K0 ?k1 ?k2 ?_; (case k1 => k_in); (case k2 => exact rfl); k_whole))
  k_with "eval Name" => (k_here; k_dflt (refine' ld ?k1 ?k2 ?_; (case k1 => k_asm); (case k2 => walk_at "m_look"); k_whole))
  k_with "subscriptTail" => (k_here; (with_reducible show wpAny _ _ (subscriptTail _ _ (Value.ref _) (Value.int _ _)) _ _ _); k_dflt (refine' item_get ?k1 ?k2 ?k3 ?k4 ?_; (case k1 => exact News.isList (by k_asm) (by k_mem)); (case k2 => omega); (case k3 => omega); (case k4 => omega); k_whole))
  k_with "setItem ref int" => (k_here; k_dflt (refine' item_set ?k1 ?k2 ?k3 ?k4 ?k5 ?k6 ?_; (case k1 => k_asm); (case k2 => k_asm); (case k3 => k_upd); (case k4 => omega); (case k5 => omega); (case k6 => omega); k_whole); intro hZz FZz NZz; (try k_sweep))
  k_with "binaryOp RShift int int" => (k_here; k_dflt (refine' wpAny_rshift1_int ?k1 ?_; (case k1 => omega); k_whole))
  k_with "call builtin:len" => (k_here; (with_reducible show wpAny _ _ (call (Value.builtin _) [Value.ref _]) _ _ _); k_dflt (refine' len_L ?k1 ?k2 ?_; (case k1 => exact News.isList (by k_asm) (by k_mem)); (case k2 => ((try simp only [List.length_append, List.length_cons, List.length_nil]); omega)); k_whole))
  k_with "call builtin:list.append" => (k_here; (with_reducible show wpAny _ _ (call (Value.builtin _) [Value.ref _, _]) _ _ _); k_dflt (refine' append_L ?k1 ?k2 ?k3 ?k4 ?_; (case k1 => k_asm); (case k2 => k_asm); (case k3 => k_upd); (case k4 => ((try simp only [List.length_append, List.length_cons, List.length_nil]); omega)); k_whole); intro hZz FZz NZz; (try k_sweep))
  k_with "call builtin:list.pop" => (k_here; (with_reducible show wpAny _ _ (call (Value.builtin _) [Value.ref _]) _ _ _); k_dflt (refine' pop_L ?k1 ?k2 ?k3 ?k4 ?_; (case k1 => k_asm); (case k2 => k_asm); (case k3 => k_upd); (case k4 => omega); k_whole); intro hZz FZz NZz; (try k_sweep))
  k_with "assign Tuple" => (k_here; (with_reducible show wpAny _ _ (assign (Expr.Tuple _ _ _) _ (Value.ref _)) _ _ _); k_dflt (refine' unpackN_ ?F ?N ?T ?k1 ?k2 ?k3 ?_; (case F => k_asm); (case N => k_asm); (case T => first | with_reducible assumption | (refine News.isTup (by k_asm) (by k_mem))); (case k1 => assumption); (case k2 => exact rfl); (case k3 => exact rfl)); intro hZz FZz NZz; (try k_sweep))
  k_with "call type:range" => (k_here; (with_reducible show wpAny _ _ (call _ [Value.int _ _]) _ _ _); k_dflt (refine' range_L ?k1 ?k2 ?_; (case k1 => k_asm); (case k2 => k_asm); k_whole); intro rZz hZz uZz vZz FZz NZz l1Zz; (try k_lt l1Zz); (try k_sweep))
  k_with "call type:reversed" => (k_here; k_dflt (refine' reversed_L ?k1 ?k2 ?k3 ?k4 ?k5 ?_; (case k1 => k_asm); (case k2 => k_asm); (case k3 => k_mem); (case k4 => omega); (case k5 => omega); k_whole); intro iZz hZz FZz NZz l1Zz; (try k_lt l1Zz); (try k_sweep))
  k_with "binaryOp FloorDiv int int" => (k_here; k_dflt (refine' fdiv_pos ?k1 ?k2 ?_; (case k1 => decide); (case k2 => exact PyProof.noPylong_of_log2 (by decide +kernel)); k_whole))
  k_with "binaryOp Mod int int" => (k_here; k_dflt (refine' fmod_pos ?k1 ?_; (case k1 => decide); k_whole))
  k_with "ent inst" => first | exact Fr.keep (by k_asm) _ _ (by assumption) | exact News.get (by k_asm) (by k_mem)
  k_with "setAttr ref" => (k_here; k_dflt (refine' ent_set ?k1 ?k2 ?k3 ?k4 ?k5 ?k6 ?k7 ?_ ?k8; (case k8 => exact rfl); (case k1 => k_asm); (case k2 => k_asm); (case k3 => k_asm); (case k4 => walk_at "ent inst"); (case k5 => k_updF); (case k6 => assumption); (case k7 => exact Nat.le_of_ble_eq_true rfl); k_whole); intro hZz eZz nZz FZz NZz EZz; (try dsimp only at NZz); (try k_sweep))
  k_with "newList" => (k_here; k_dflt (refine' newList_L ?k1 ?k2 ?_ ?k3; (case k1 => k_asm); (case k2 => k_asm); (case k3 => first | exact Nat.le_of_ble_eq_true rfl | omega); k_whole); intro lZz hZz FZz NZz l1Zz l2Zz; (try k_lt l1Zz); (try k_lt2 l2Zz); (try k_sweep))
  k_with "is cells" => first | (with_reducible show wpAny _ _ (eval (Expr.Name _ _) (envOfC _ _ _ _ _)) _ _ _) | (with_reducible show wpAny _ _ (eval (Expr.Name _ _) (envX _ _ _ _ _ _)) _ _ _) | (with_reducible show wpAny _ _ (storeName (envOfC _ _ _ _ _) _ _) _ _ _)
  k_with "eval Name" => (k_here; walk_at "is cells"; k_dflt (first
      | (refine' nameX_L ?F ?v ?_ ?a ?b; (case F => k_asm); (case a => rfl); (case b => rfl); (case v => walk_at "m_look"); k_whole)
      | (refine' nameX_C ?N ?c ?m ?d ?_ ?a ?b; (case a => rfl); (case b => rfl); (case N => k_asm); (case c => rfl); (case m => k_mem); (case d => k_asm); k_whole)
      | (refine' nameX_F ?N ?c ?m ?d ?_ ?a ?b; (case a => rfl); (case b => rfl); (case N => k_asm); (case c => rfl); (case m => k_mem); (case d => k_asm); k_whole)
      | (refine' nameX_K ?F ?X ?T ?e ?_ ?a ?b; (case F => k_asm); (case X => k_asm); (case T => k_asm); (case a => rfl); (case b => rfl); (case e => exact rfl); k_whole)
      | (refine' nameX_B ?F ?X ?T ?e ?v ?n ?_ ?a ?b; (case F => k_asm); (case X => k_asm); (case T => k_asm); (case a => rfl); (case b => rfl); (case e => exact rfl); (case v => boot_fast); (case n => decide); k_whole)))
  k_with "eval Lambda" => (k_here; k_dflt (refine' kla_eval ?d0 ?_; (case d0 => exact rfl)); (first
      | (k_dflt (refine' kla_nest ?F ?N ?T ?C ?cd ?U ?t ?n ?cl ?_; (case F => k_asm); (case N => k_asm); (case T => k_asm); (case cd => exact rfl); (case C => k_asm); (case U => k_updF); (case t => kn_triples); (case n => kn_among); (case cl => exact rfl); k_whole); intro fZz cZz ocZz vsZz tZz ctZz hZz tkZz FZz NZz d1Zz d2Zz l1Zz l2Zz; (try dsimp only at NZz); (try k_lt l1Zz); (try k_lt2 l2Zz))
      | (k_dflt (refine' kla_hit ?F ?N ?T ?C ?cd ?mem ?t ?n ?cl ?_; (case F => k_asm); (case N => k_asm); (case T => k_asm); (case cd => exact rfl); (case C => k_asm); (case mem => k_mem); (case t => kn_triples); (case n => kn_among); (case cl => exact rfl); k_whole); intro fZz ctZz hZz tkZz FZz NZz l1Zz; (try k_lt l1Zz))))
  k_with "is list" => first | exact News.isList (by k_asm) (by k_mem) | exact isList_keep (by k_asm) (by assumption)
  k_with "subscriptTail" => (k_here; (with_reducible show wpAny _ _ (subscriptTail _ _ (Value.ref _) (Value.int _ _)) _ _ _); k_dflt (refine' item_getv ?k1 ?k2 ?k3 ?k4 ?k5 ?_; (case k1 => walk_at "is list"); (case k2 => omega); (case k3 => ((try simp only [List.length_cons, List.length_nil]); omega)); (case k4 => ((try simp only [List.length_cons, List.length_nil]); omega)); (case k5 => first | with_reducible assumption | exact rfl); k_whole))
  k_with "ent at" => first | exact EntAt.keeps (by assumption) (Fr.keep (by k_asm)) | exact ⟨Fr.keep (by k_asm) _ _ (by assumption), _, _, News.get (by k_asm) (by k_mem), by assumption⟩ | exact ⟨News.get (by k_asm) (by k_mem), _, _, News.get (by k_asm) (by k_mem), by assumption⟩
  k_with "getAttr ref" => (k_here; k_dflt (refine' ent_get ?k1 ?k2 ?k3 ?k4 ?_ ?k5 ?k6 ?k7 ?k8 ?k9; (case k5 => exact rfl); (case k6 => exact rfl); (case k7 => exact rfl); (case k8 => exact rfl); (case k9 => exact rfl); (case k1 => exact Frag.In.keeps (by k_asm) (Fr.keep (by k_asm))); (case k2 => walk_at "ent at"); (case k3 => first | assumption | exact rfl); (case k4 => exact rfl); k_whole))
  k_with "subscriptTail" => (k_here; (with_reducible show wpAny _ _ (subscriptTail _ _ (Value.ref _) (Value.str _ _)) _ _ _); k_dflt (refine' reach_item ?k1 ?k2 ?_; (case k1 => first | exact ReachAt.keeps (by assumption) (Fr.keep (by k_asm)) | exact ⟨_, _, Heap.dictOf_iff.mpr ⟨_, News.get (by k_asm) (by k_mem), by assumption⟩⟩); (case k2 => assumption); k_whole); intro _)
  k_with "getMethod ref" => (k_here; k_dflt (refine' ent_meth ?k1 ?k2 ?k3 ?k4 ?_ ?k5 ?k6 ?k7 ?k10 ?k8 ?k9; (case k5 => exact rfl); (case k6 => exact rfl); (case k7 => exact rfl); (case k10 => exact rfl); (case k8 => exact rfl); (case k9 => exact rfl); (case k1 => exact Frag.In.keeps (by k_asm) (Fr.keep (by k_asm))); (case k2 => walk_at "ent at"); (case k3 => first | assumption | exact rfl); (case k4 => exact rfl); k_whole))
  k_with "fn at" => exact ⟨_, _, _, _, Fr.keep (by k_asm) _ _ (by assumption)⟩
  k_with "callWith ref" => (k_here; k_dflt (refine' callWith_F ?k1 ?_; (case k1 => walk_at "fn at"); k_whole))
  k_with "And" => (k_dflt (refine And.intro ?kfn ?_; (case kfn => walk_at "fn at"); (try dsimp only [List.nil_append, List.cons_append])))
  k_with "subscriptTail" => (k_here; (with_reducible show wpAny _ _ (subscriptTail _ _ (Value.ref _) (Value.int _ _)) _ _ _); k_dflt (refine' key_at4 ?k1 ?k2 ?_; (case k1 => exact KeyAt.keeps (by assumption) (Fr.keep (by k_asm))); (case k2 => first | exact .i0 | exact .i1 | exact .i2 | exact .i3); k_whole); intro _)
  k_with "call builtin:abs" => (k_here; k_dflt (refine' abs_L ?_; k_whole); intro _ _)
  k_with "eval Name" => (k_here; (with_reducible show wpAny _ _ (eval (Expr.Name _ _) (compEnvC _ _ _ _)) _ _ _); k_dflt (first
      | (refine' nameY_L ?F ?v ?_ ?a ?b; (case F => k_asm); (case a => rfl); (case b => rfl); (case v => walk_at "m_look"); k_whole)
      | (refine' nameY_C ?F ?N ?c ?m ?d ?_ ?a ?b; (case a => rfl); (case b => rfl); (case F => k_asm); (case N => k_asm); (case c => rfl); (case m => k_mem); (case d => first | k_asm | rfl); k_whole)
      | (refine' nameY_K ?F ?X ?T ?e ?_ ?z ?a ?b; (case F => k_asm); (case X => k_asm); (case T => k_asm); (case z => rfl); (case a => rfl); (case b => rfl); (case e => exact rfl); k_whole)
      | (refine' nameY_B ?F ?X ?T ?e ?v ?n ?_ ?z ?y ?a ?b; (case F => k_asm); (case X => k_asm); (case T => k_asm); (case z => rfl); (case y => rfl); (case a => rfl); (case b => rfl); (case e => exact rfl); (case v => boot_fast); (case n => decide); k_whole)))
  k_with "call type:set cons nil" => (k_here; k_dflt (refine' set_L ?k1 ?k2 ?k3 ?k4 ?_; (case k1 => k_asm); (case k2 => k_asm); (case k3 => first | exact rfl | assumption); (case k4 => assumption); k_whole); intro xZz hZz tkZz oZz FZz NZz l1Zz l2Zz hsZz; (try k_lt l1Zz); (try k_lt2 l2Zz); (try k_sweep))
  k_with "getAttr ref" => (k_here; (with_reducible show wpAny _ _ (getAttr (Value.ref _) (PySem.Str.ofString "__contains__") _) _ _ _); obtain ⟨_, _, hs0Zz⟩ := (by assumption : ∃ S n, PySem.Obj.SetObjOf (intKind _ _) _ S n); k_dflt (refine' set_attr_N ?k1 ?k2 ?k3 ?k4 ?_; (case k1 => k_asm); (case k2 => k_asm); (case k4 => exact hs0Zz); (case k3 => k_mem); k_whole); intro xZz hZz tkZz FZz NZz l1Zz l2Zz; (try k_lt l1Zz); (try k_lt2 l2Zz); (try k_sweep))
  k_with "call type:filter" => (k_here; k_dflt (refine' filter_new ?k1 ?k2 ?k3 ?_; (case k1 => k_asm); (case k2 => k_asm); (case k3 => exact Fr.keep (by k_asm) _ _ (by assumption)); k_whole); intro iZz xZz hZz FZz NZz l1Zz l2Zz l3Zz; (try k_lt l1Zz); (try k_lt2 l2Zz); (try k_lt2 l3Zz))
  k_with "call type:list" => (k_here; k_dflt (refine' list_filter2 ?k1 ?k2 ?k3 ?k4 ?k5 ?_; (case k1 => k_asm); (case k2 => k_asm); (case k3 => first | exact rfl | assumption); (case k4 => assumption); (case k5 => walk_at "apart"); k_whole); intro xZz nZz hZz tkZz FZz NZz l1Zz l2Zz; (try k_lt l1Zz); (try k_lt2 l2Zz); (try k_sweep))
  k_with "apart" => repeat' (first | exact List.forall_mem_nil _ | (refine List.forall_mem_cons.mpr ⟨by k_ne, ?_⟩))
  k_with "binaryOp Add ref ref" => (k_here; k_dflt (refine' add_L ?k1 ?k2 ?k3 ?k4 ?k5 ?_; (case k1 => k_asm); (case k2 => k_asm); (case k3 => walk_at "is list"); (case k4 => walk_at "is list"); (case k5 => ((try simp only [List.length_append, List.length_cons, List.length_nil]); omega)); k_whole); intro xZz hZz FZz NZz l1Zz l2Zz; (try k_lt l1Zz); (try k_lt2 l2Zz); (try k_sweep))
  k_with "getMethod ref" => (k_here; k_dflt (refine' ent_methC ?k1 ?k2 ?k3 ?k4 ?_ ?k5 ?k6 ?k7; (case k1 => k_asm); (case k2 => k_asm); (case k3 => walk_at "ent at"); (case k4 => exact rfl); (case k5 => exact rfl); (case k6 => exact rfl); (case k7 => exact rfl); k_whole))
  k_with "all mem" => repeat' (first | exact List.forall_mem_nil _ | (refine List.forall_mem_cons.mpr ⟨by k_mem, ?_⟩))
  k_with "list obj" => first | exact News.get (by k_asm) (by k_mem) | exact Fr.keep (by k_asm) _ _ (by assumption)
  k_with "compareOp NotEq ref ref" => (k_here; (with_reducible show wpAny _ _ (compareOp CmpOp.NotEq (Value.ref _) (Value.ref _)) _ _ _); k_dflt (refine' ne_empty ?k1 ?k2 ?k3 ?_; (case k1 => walk_at "list obj"); (case k2 => exact News.get (by k_asm) (by k_mem)); (case k3 => (simp only [PySem.Around.deeper_units]; omega)); k_whole); (try simp only [List.isEmpty_cons, List.isEmpty_nil, Bool.not_false, Bool.not_true]))
  k_with "compareOp Eq ref ref" => (k_here; (with_reducible show wpAny _ _ (compareOp CmpOp.Eq (Value.ref _) (Value.ref _)) _ _ _); k_dflt (refine' eq_empty ?k1 ?k2 ?k3 ?_; (case k1 => walk_at "list obj"); (case k2 => exact News.get (by k_asm) (by k_mem)); (case k3 => (simp only [PySem.Around.deeper_units]; omega)); k_whole); (try simp only [List.isEmpty_cons, List.isEmpty_nil, Bool.not_false, Bool.not_true]))
  k_with "no loop" => ((fail_if_success (with_reducible show wpAny _ _ (exec (Stmt.While _ _ _ _) _) _ _ _)); (fail_if_success (with_reducible show wpAny _ _ (exec (Stmt.For _ _ _ _ _) _) _ _ _)); (fail_if_success (with_reducible show wpAny _ _ (call (Value.ref _) _ _) _ _ _)); (fail_if_success (with_reducible show wpAny _ _ (pyIter _) _ _ _)); (fail_if_success (with_reducible show wpAny _ _ (eval (Expr.ListComp _ _ _ _) _) _ _ _)); (fail_if_success (with_reducible show wpAny _ _ (exec (Stmt.Assign [Expr.Name _ _] (Expr.ListComp _ _ _ _) _) _) _ _ _)))
  k_with "go" => repeat' (first | (walk_at "no loop"; walk1; try dsimp only) | (walk_at "no loop"; dsimp only; walk1))
  exact True.intro
theorem name_fo {P : Prop} {g h : Heap} {L f : Addr} {o : Obj} {news : List (Addr × Obj)} (_ : News g L h ((f, o) :: news)) (k : ∀ q : Obj, q = o → P) : P := k o rfl
def tab2Of : Option Addr → Obj
  | none => tabObj #[]
  | some c => tabObj #[rawInt 129, rawInt 26, .ref c]
theorem sort_step {prog : Program} {w : World} {p : Program} {loose : List Str} {mean : ExcName → Option Value} {mg mb : Str → Option Value} {A : Around} {R : Result → Shared → Prop} {s : Shared} {ra ha hd ru : Addr} {hp : Nat → Addr} {hvs : Nat → List Value} {hds : List Value} {ks : Nat → Nat} {n4 n5 : Nat} {tab : Option Addr} {n : Int} {tn tm : Tok} {name : Str}
  (X : (KK w).In (hideAll s.heap [hp 0, hp 1, hp 2, hd, 126])) (T : Top p loose mean mg mb (hideAll s.heap [hp 0, hp 1, hp 2, hd, 126])) (C : CodeHd (hideAll s.heap [hp 0, hp 1, hp 2, hd, 126]) 128 126) (hroom : A.depth < 800) (hu : A.units < 100) (hh : A.handled = none)
  (hhp : ∀ i, i < 3 → s.heap.get? (hp i) = some (W.listOf (hvs i).toArray (ks i))) (htab : s.heap.get? 126 = some (tab2Of tab)) (hhd : s.heap.get? hd = some (W.listOf hds.toArray n4))
  (hha : (hideAll s.heap [hp 0, hp 1, hp 2, hd, 126]).get? ha = some (W.listOf ([Value.ref (hp 0), .ref (hp 1), .ref (hp 2)]).toArray n5))
  (hn : n % 10 = 7) (hcode : ∀ c, tab = some c → (hideAll s.heap [hp 0, hp 1, hp 2, hd, 126]).CodeRec (.ref c) "_law_step.<locals>.<lambda>")
  (xp : ∀ i j, i < 3 → j < 3 → i ≠ j → hp i ≠ hp j) (xd : ∀ i, i < 3 → hp i ≠ hd ∧ hp i ≠ 126) (x9 : hd ≠ 126) (hvl : ∀ i, i < 3 → (hvs i).length ≤ 60) (hdl : hds.length ≤ 10)
  (hk : ∀ i, i < 3 → ∀ v ∈ hvs i, ∃ k0 k1 k2 k3, KeyAt (hideAll s.heap [hp 0, hp 1, hp 2, hd, 126]) v [k0, k1, k2, k3]) (hH : ∀ v ∈ hds, ∃ i, i < 3 ∧ v = .ref (hp i))
  (post : ∀ h' tk (hvs' : Nat → List Value) (ks' : Nat → Nat) (hds' : List Value) k2 tab', Keeps [hp 0, hp 1, hp 2, hd, 126] s.heap h' → (∀ i, i < 3 → h'.get? (hp i) = some (W.listOf (hvs' i).toArray (ks' i)) ∧ (hvs' i).Perm (hvs i) ∧ HOL klt 0 ((hvs' i).map (keyV h'))) → h'.get? 126 = some (tab2Of tab') → h'.get? hd = some (W.listOf hds'.toArray k2) → hds'.Perm hds → HOL kllt 0 (hds'.map (keysV h')) → (∀ c, tab' = some c → tab = some c ∨ (hideAll h' (List.range s.heap.objs.size)).CodeRec (.ref c) "_law_step.<locals>.<lambda>") →
    R (.ok (.ret (.bool true))) { s with heap := h', toks := tk }) :
  codeAny (model prog w) A (.call (.ref 129) ⟨[.ref ra, .ref ha, .ref hd, .ref ru, .int n tn, .str name tm], []⟩) R s := by
  obtain ⟨g, hg⟩ : ∃ g, g = hideAll s.heap [hp 0, hp 1, hp 2, hd, 126] := ⟨_, rfl⟩
  rw [← hg] at X T C hha hk hcode
  have T' := topRead_of T
  refine enter (news := [(hp 0, W.listOf (hvs 0).toArray (ks 0)), (hp 1, W.listOf (hvs 1).toArray (ks 1)), (hp 2, W.listOf (hvs 2).toArray (ks 2)), (hd, W.listOf hds.toArray n4), (126, tab2Of tab)]) (K := KK w) hg X T' ?_ rfl rfl (Nat.lt_of_lt_of_le hroom (by decide)) (BindsTo.of_eq rfl) (locs rfl) ?_
  · intro q hq
    rcases List.mem_cons.mp hq with rfl | hq
    · exact hhp 0 (by decide)
    rcases List.mem_cons.mp hq with rfl | hq
    · exact hhp 1 (by decide)
    rcases List.mem_cons.mp hq with rfl | hq
    · exact hhp 2 (by decide)
    rcases List.mem_cons.mp hq with rfl | hq
    · exact hhd
    rcases List.mem_cons.mp hq with rfl | hq
    · exact htab
    · cases hq
  intro L h₁ tk F N lt0
  k_lt lt0
  have hsL : s.heap.objs.size ≤ L := by have := F.above; rw [hg, hideAll_size] at this; exact this
  try dsimp only
  walk_at "go"
  all_goals try (exfalso; (first | lia | omega))
  refine wpAny_For ?_ (by intro _; rfl)
  walk_at "go"
  (rename Fr _ _ _ _ => F2); (rename News _ _ _ _ => N2)
  refine for_list (fun it i m news => ∃ (hv : Nat → List Value) (kv : Nat → Nat) (tb : Option Addr) (lr : List (Addr × Obj)), news = (hp 0, W.listOf (hv 0).toArray (kv 0)) :: (hp 1, W.listOf (hv 1).toArray (kv 1)) :: (hp 2, W.listOf (hv 2).toArray (kv 2)) :: (hd, W.listOf hds.toArray n4) :: (126, tab2Of tb) :: lr ∧
      (∀ j, j < 3 → (hv j).Perm (hvs j)) ∧ (∀ j, j < i → j < 3 → HOL klt 0 ((hv j).map (keyV g))) ∧ m (Str.ofString "heads") = some (.ref hd) ∧ (∀ q ∈ lr, L < q.1) ∧ L < it ∧ (∀ c, tb = some c → tab = some c ∨ ∀ h2 : Heap, (∀ q ∈ lr, h2.get? q.1 = some q.2) → h2.CodeRec (.ref c) "_law_step.<locals>.<lambda>"))
    (isList_keep F2 hha) hh F2 N2 ?_ (fun _ _ _ _ _ _ F3 _ _ => isList_keep F3 hha) ?_ ?_
  · intro it _ hLit
    exact ⟨hvs, ks, tab, [], rfl, fun _ _ => .refl _, fun j h _ => absurd h (by (first | lia | omega)), by walk_at "m_look", (fun _ h => nomatch h), hLit, fun c h => .inl h⟩
  · rintro it i m3 news3 h3 tk3 t3 oi hi F3 N3 ne3 ⟨hv, kv, tb, lr, rfl, hpm, hord, mh, hlr, hLit, htb⟩
    clear F2 N2
    have hi3 : i < 3 := hi
    have hvi : ([Value.ref (hp 0), .ref (hp 1), .ref (hp 2)] : List Value).getD i .none = .ref (hp i) := by
      obtain rfl | rfl | rfl : i = 0 ∨ i = 1 ∨ i = 2 := by (first | lia | omega)
      all_goals rfl
    obtain ⟨j1, j2, a1, a2, a3, a4, a5, a6⟩ : ∃ j1 j2, j1 < 3 ∧ j2 < 3 ∧ i ≠ j1 ∧ i ≠ j2 ∧ j1 ≠ j2 ∧ ∀ k, k < 3 → k = i ∨ k = j1 ∨ k = j2 := by
      obtain rfl | rfl | rfl : i = 0 ∨ i = 1 ∨ i = 2 := by (first | lia | omega)
      · exact ⟨1, 2, by (first | lia | omega), by (first | lia | omega), by (first | lia | omega), by (first | lia | omega), by (first | lia | omega), fun k hk => by (first | lia | omega)⟩
      · exact ⟨0, 2, by (first | lia | omega), by (first | lia | omega), by (first | lia | omega), by (first | lia | omega), by (first | lia | omega), fun k hk => by (first | lia | omega)⟩
      · exact ⟨0, 1, by (first | lia | omega), by (first | lia | omega), by (first | lia | omega), by (first | lia | omega), by (first | lia | omega), fun k hk => by (first | lia | omega)⟩
    dsimp only at F3
    rw [hvi] at F3
    have N4 : News g L h3 ((it, oi) :: (hp i, W.listOf (hv i).toArray (kv i)) :: (hp j1, W.listOf (hv j1).toArray (kv j1)) :: (hp j2, W.listOf (hv j2).toArray (kv j2)) :: (hd, W.listOf hds.toArray n4) :: (126, tab2Of tb) :: lr) := by
      have all : ∀ j, j < 3 → (hp j, W.listOf (hv j).toArray (kv j)) ∈ (it, oi) :: (hp 0, W.listOf (hv 0).toArray (kv 0)) :: (hp 1, W.listOf (hv 1).toArray (kv 1)) :: (hp 2, W.listOf (hv 2).toArray (kv 2)) :: (hd, W.listOf hds.toArray n4) :: (126, tab2Of tb) :: lr := by
        intro j hj
        obtain rfl | rfl | rfl : j = 0 ∨ j = 1 ∨ j = 2 := by (first | lia | omega)
        · exact .tail _ (.head _)
        · exact .tail _ (.tail _ (.head _))
        · exact .tail _ (.tail _ (.tail _ (.head _)))
      refine news_of N3 fun q hq => ?_
      rcases List.mem_cons.mp hq with rfl | hq
      · exact .head _
      rcases List.mem_cons.mp hq with rfl | hq
      · exact all i hi3
      rcases List.mem_cons.mp hq with rfl | hq
      · exact all j1 a1
      rcases List.mem_cons.mp hq with rfl | hq
      · exact all j2 a2
      · exact .tail _ (.tail _ (.tail _ (.tail _ hq)))
    have ne4 : it ≠ hp i ∧ it ≠ hp j1 ∧ it ≠ hp j2 ∧ it ≠ hd ∧ it ≠ 126 ∧ ∀ q ∈ lr, q.1 ≠ it := by
      have all : ∀ j, j < 3 → it ≠ hp j := by
        intro j hj
        obtain rfl | rfl | rfl : j = 0 ∨ j = 1 ∨ j = 2 := by (first | lia | omega)
        · exact Ne.symm (ne3 _ (.head _))
        · exact Ne.symm (ne3 (hp 1, _) (.tail _ (.head _)))
        · exact Ne.symm (ne3 (hp 2, _) (.tail _ (.tail _ (.head _))))
      exact ⟨all i hi3, all j1 a1, all j2 a2, Ne.symm (ne3 (hd, _) (.tail _ (.tail _ (.tail _ (.head _))))), Ne.symm (ne3 (126, _) (.tail _ (.tail _ (.tail _ (.tail _ (.head _)))))), fun q hq => ne3 q (.tail _ (.tail _ (.tail _ (.tail _ (.tail _ hq)))))⟩
    clear N3 ne3
    obtain ⟨m1, m2, m3', m4, m5, m6⟩ := ne4
    obtain ⟨y1, y1'⟩ := xd i hi3
    obtain ⟨y2, y2'⟩ := xd j1 a1
    obtain ⟨y3, y3'⟩ := xd j2 a2
    have z1 := xp i j1 hi3 a1 a3
    have z2 := xp i j2 hi3 a2 a4
    walk_at "go"
    (rename Fr _ _ _ _ => F5); (rename News _ _ _ _ => N5)
    refine callWith_kwB0 (kws_cons ?_)
    refine kla_eval (by rfl) ?_
    refine kla_any F5 N5 T C rfl (tf := tab2Of) (u := fun o => (it, oi) :: (hp i, W.listOf (hv i).toArray (kv i)) :: (hp j1, W.listOf (hv j1).toArray (kv j1)) :: (hp j2, W.listOf (hv j2).toArray (kv j2)) :: (hd, W.listOf hds.toArray n4) :: (126, o) :: lr) (clos := []) (.tail m5 (.tail y1' (.tail y2' (.tail y3' (.tail x9 (.head ?kU)))))) rfl (fun _ => rfl) ?kt (fun _ => rfl) ?kcl ?_
    case kU => exact fun q hq => Nat.ne_of_gt (Nat.lt_trans lt0.2.2.2.2.1 (hlr q hq))
    case kt => exact fun _ => by kn_triples
    case kcl => exact rfl
    intro f' z9 oz9 c1 ct' h' tk' F6 N6 ec1 d1 l1 l2
    have N7 := news_of (news' := (f', _) :: (it, oi) :: (hp i, W.listOf (hv i).toArray (kv i)) :: (hp j1, W.listOf (hv j1).toArray (kv j1)) :: (hp j2, W.listOf (hv j2).toArray (kv j2)) :: (hd, W.listOf hds.toArray n4) :: (126, tab2Of (some c1)) :: (z9, oz9) :: lr) N6 (by
      intro q hq
      rcases List.mem_cons.mp hq with rfl | hq
      · exact .head _
      rcases List.mem_cons.mp hq with rfl | hq
      · exact .tail _ (.tail _ (.head _))
      rcases List.mem_cons.mp hq with rfl | hq
      · exact .tail _ (.tail _ (.tail _ (.head _)))
      rcases List.mem_cons.mp hq with rfl | hq
      · exact .tail _ (.tail _ (.tail _ (.tail _ (.head _))))
      rcases List.mem_cons.mp hq with rfl | hq
      · exact .tail _ (.tail _ (.tail _ (.tail _ (.tail _ (.head _)))))
      rcases List.mem_cons.mp hq with rfl | hq
      · exact .tail _ (.tail _ (.tail _ (.tail _ (.tail _ (.tail _ (.head _))))))
      rcases List.mem_cons.mp hq with rfl | hq
      · exact .tail _ (.tail _ (.tail _ (.tail _ (.tail _ (.tail _ (.tail _ (.head _)))))))
      rcases List.mem_cons.mp hq with rfl | hq
      · exact .tail _ (.head _)
      · exact .tail _ (.tail _ (.tail _ (.tail _ (.tail _ (.tail _ (.tail _ (.tail _ hq))))))))
    have hLc : L < z9 := Nat.lt_trans hLit (l1 (it, oi) (.head _))
    have hfl : hp i < f' ∧ hp j1 < f' ∧ hp j2 < f' ∧ hd < f' ∧ (126 : Addr) < f' ∧ it < f' ∧ L < f' := ⟨l2 (hp i, _) (.tail _ (.head _)), l2 (hp j1, _) (.tail _ (.tail _ (.head _))), l2 (hp j2, _) (.tail _ (.tail _ (.tail _ (.head _)))), l2 (hd, _) (.tail _ (.tail _ (.tail _ (.tail _ (.head _))))), l2 (126, _) (.tail _ (.tail _ (.tail _ (.tail _ (.tail _ (.head _)))))), l2 (it, _) (.head _), Nat.lt_trans hLit (l2 (it, _) (.head _))⟩
    have hlr1 : ∀ q ∈ (z9, oz9) :: lr, L < q.1 := fun q hq => by
      rcases List.mem_cons.mp hq with rfl | hq
      · exact hLc
      · exact hlr q hq
    have hitl : ∀ q ∈ (z9, oz9) :: lr, q.1 ≠ it := fun q hq => by
      rcases List.mem_cons.mp hq with rfl | hq
      · exact Nat.ne_of_gt (l1 (it, oi) (.head _))
      · exact m6 q hq
    have hcd0 : (tab = some c1) ∨ ∀ h2 : Heap, (∀ q ∈ (z9, oz9) :: lr, h2.get? q.1 = some q.2) → h2.CodeRec (.ref c1) "_law_step.<locals>.<lambda>" := by
      rcases Option.eq_none_or_eq_some tb with e | ⟨c, e⟩
      · exact .inr fun h2 k => d1 e h2 (k _ (.head _))
      · obtain rfl := ec1 c e
        exact (htb _ e).imp id fun e h2 k => e h2 fun q hq => k q (.tail _ hq)
    have hcd1 : ∀ h2 : Heap, Sub g h2 → (∀ q ∈ (z9, oz9) :: lr, h2.get? q.1 = some q.2) → h2.CodeRec (.ref c1) "_law_step.<locals>.<lambda>" := fun h2 k1 k2 => hcd0.elim (fun e => (hcode _ e).keeps k1) fun e => e h2 k2
    have htb1 : ∀ c, some c1 = some c → tab = some c ∨ ∀ h2 : Heap, (∀ q ∈ (z9, oz9) :: lr, h2.get? q.1 = some q.2) → h2.CodeRec (.ref c) "_law_step.<locals>.<lambda>" := fun c e => Option.some.inj e ▸ hcd0
    revert hlr1 hitl hcd1 htb1 N7
    generalize (z9, oz9) :: lr = lr1
    intro N7 hlr1 hitl hcd1 htb1
    clear N6 ec1 d1 l1 l2 hLc hcd0
    clear F5 N5
    all_goals (
      refine name_fo N7 (fun fo hfo => ?_)
      rw [← hfo] at N7
      obtain ⟨w1, w2, w3, w4, w5, w6, w7⟩ := hfl
      refine kws_nil ?_
      show wpAny _ _ (call (.builtin "list.sort") [.ref (hp i)] [(Str.ofString "key", .ref f')]) _ _ _
      have hci : ∀ v ∈ hv i, ∃ a k0 k1 k2 k3, v = .ref a ∧ KeyAt g v [k0, k1, k2, k3] := fun v hv => by
        obtain ⟨k0, k1, k2, k3, hka⟩ := hk i hi3 v ((hpm i hi3).mem_iff.mp hv)
        obtain ⟨a, _, _, _, e, -⟩ := id hka
        exact ⟨a, k0, k1, k2, k3, e, hka⟩
      have hln : (hv i).length ≤ 60 := by rw [(hpm i hi3).length_eq]; exact hvl i hi3
      refine sort_L (f := f') (kz := (hv i).map fun v => -(((keyV g v).getD 3 0).natAbs : Int)) F6 N7 (u := fun o => (f', fo) :: (it, oi) :: (hp i, o) :: (hp j1, W.listOf (hv j1).toArray (kv j1)) :: (hp j2, W.listOf (hv j2).toArray (kv j2)) :: (hd, W.listOf hds.toArray n4) :: (126, tab2Of (some c1)) :: lr1) (.tail (Nat.ne_of_gt w1) (.tail m1 (.head ?kU))) (by simp) (by (first | lia | omega)) ?turn ?_
      case kU =>
        intro q hq
        rcases List.mem_cons.mp hq with rfl | hq
        · exact Ne.symm z1
        rcases List.mem_cons.mp hq with rfl | hq
        · exact Ne.symm z2
        rcases List.mem_cons.mp hq with rfl | hq
        · exact Ne.symm y1
        rcases List.mem_cons.mp hq with rfl | hq
        · exact Ne.symm y1'
        · have e1 := hlr1 q hq
          have e2 : hp i < L := by
            obtain rfl | rfl | rfl : i = 0 ∨ i = 1 ∨ i = 2 := by (first | lia | omega)
            · exact lt0.1
            · exact lt0.2.1
            · exact lt0.2.2.1
          exact Nat.ne_of_gt (Nat.lt_trans e2 e1)
      case turn =>
        intro ix v k hvx hkz hq tkq hsub hnw
        have hvm : v ∈ hv i := List.mem_of_getElem? hvx
        rw [List.getElem?_map, hvx] at hkz
        obtain ⟨a, k0, k1, k2, k3, rfl, hka⟩ := hci v hvm
        have hkz' : -(((keyV g (.ref a)).getD 3 0).natAbs : Int) = k := Option.some.inj hkz
        rw [hka.keyV] at hkz'
        have hlq : ∀ q ∈ lr1, q.1 ≠ hp i := fun q hq => by
          have e1 := hlr1 q hq
          have e2 : hp i < L := by
            obtain rfl | rfl | rfl : i = 0 ∨ i = 1 ∨ i = 2 := by (first | lia | omega)
            · exact lt0.1
            · exact lt0.2.1
            · exact lt0.2.2.1
          exact Nat.ne_of_gt (Nat.lt_trans e2 e1)
        have hcd := hcd1 hq hsub (fun q hq' => hnw q (.tail _ (.tail _ (.tail _ (.tail _ (.tail _ (.tail _ (.tail _ hq'))))))) (hlq q hq'))
        have ho := hnw (f', fo) (.head _) (Nat.ne_of_gt w1)
        rw [hfo] at ho
        have hab : g.objs.size ≤ hq.objs.size := Nat.le_trans F6.above (Nat.le_of_lt (Nat.lt_trans w7 (Heap.lt_size ho)))
        refine wpAny_call (enterLam ho hcd (dpt (a := A.depth) hroom (by decide)) (T.nolimit.keeps hsub) (binds := [(Str.ofString "one", Value.ref a)]) rfl (locs rfl) ?_ (by decide))
        intro L2 h2 tk2 hns hk2 hL2
        have F2' : Fr g L2 h2 _ := ⟨hns, fun b o e => hk2 _ _ (hsub b o e), Nat.le_trans hab hL2⟩
        have N2' : News g L2 h2 [] := fun _ h => nomatch h
        clear F6 N7
        try dsimp only
        focus walk_at "go"
        all_goals first
          | exact congrArg (fun z => Value.int z _) hkz'
          | exact hk2 _ _ (by with_reducible assumption)
          | exact hk2 _ _ (by assumption)
          | exact fun b o e => hk2 b o e
      intro h9 tk9 out c9 F9 N9 p9
      clear F6 N7
      try dsimp only at N9
      focus walk_at "go"
      (rename Fr _ _ _ _ => Fa); (rename News _ _ _ _ => Na)
      have kout : KeysIn g out := fun v hv => by
        obtain ⟨a, k0, k1, k2, k3, rfl, hka⟩ := hci v (p9.mem_iff.mp hv)
        rw [hka.keyV]; exact hka
      refine heapify_in Fa Na X T' (u := fun o => (f', fo) :: (it, oi) :: (hp i, o) :: (hp j1, W.listOf (hv j1).toArray (kv j1)) :: (hp j2, W.listOf (hv j2).toArray (kv j2)) :: (hd, W.listOf hds.toArray n4) :: (126, tab2Of (some c1)) :: lr1) (.tail (Nat.ne_of_gt w1) (.tail m1 (.head ?kU2))) (dpt (a := A.depth) hroom (by decide)) (unt (a := A.units) hu (by decide)) (by exact hh) (ord_keys (kout.keeps Fa.keep) (Na (hp i, _) (.tail _ (.tail _ (.head _)))).1) (by rw [p9.length_eq]; (first | lia | omega)) ?_
      case kU2 =>
        intro q hq
        rcases List.mem_cons.mp hq with rfl | hq
        · exact Ne.symm z1
        rcases List.mem_cons.mp hq with rfl | hq
        · exact Ne.symm z2
        rcases List.mem_cons.mp hq with rfl | hq
        · exact Ne.symm y1
        rcases List.mem_cons.mp hq with rfl | hq
        · exact Ne.symm y1'
        · have e1 := hlr1 q hq
          have e2 : hp i < L := by
            obtain rfl | rfl | rfl : i = 0 ∨ i = 1 ∨ i = 2 := by (first | lia | omega)
            · exact lt0.1
            · exact lt0.2.1
            · exact lt0.2.2.1
          exact Nat.ne_of_gt (Nat.lt_trans e2 e1)
      intro hb tkb out2 Fb Nb kb pb ob
      have Fb0 := Fb.keep
      clear Fa Na kb
      try dsimp only at Nb
      focus walk_at "go"
      (rename Fr _ _ _ _ => Fc); (rename News _ _ _ _ => Nc)
      refine ⟨_, _, _, (hp 0, W.listOf ((fun k => if k = i then out2 else hv k) 0).toArray ((fun k => if k = i then c9 else kv k) 0)) :: (hp 1, W.listOf ((fun k => if k = i then out2 else hv k) 1).toArray ((fun k => if k = i then c9 else kv k) 1)) :: (hp 2, W.listOf ((fun k => if k = i then out2 else hv k) 2).toArray ((fun k => if k = i then c9 else kv k) 2)) :: (hd, W.listOf hds.toArray n4) :: (126, tab2Of (some c1)) :: lr1, rfl, Fc, ?_, ?_, (fun k => if k = i then out2 else hv k), (fun k => if k = i then c9 else kv k), some c1, lr1, rfl, ?_, ?_, by walk_at "m_look", hlr1, hLit, htb1⟩
      · have all : ∀ k, k < 3 → (hp k, W.listOf ((fun k => if k = i then out2 else hv k) k).toArray ((fun k => if k = i then c9 else kv k) k)) ∈ (f', fo) :: (it, oi) :: (hp i, W.listOf out2.toArray c9) :: (hp j1, W.listOf (hv j1).toArray (kv j1)) :: (hp j2, W.listOf (hv j2).toArray (kv j2)) :: (hd, W.listOf hds.toArray n4) :: (126, tab2Of (some c1)) :: lr1 := by
          intro k hk3
          rcases a6 k hk3 with rfl | rfl | rfl
          · simp
          · simp [Ne.symm a3]
          · simp [Ne.symm a4]
        refine news_of Nc fun q hq => ?_
        rcases List.mem_cons.mp hq with rfl | hq
        · exact .tail _ (.head _)
        rcases List.mem_cons.mp hq with rfl | hq
        · exact all 0 (by decide)
        rcases List.mem_cons.mp hq with rfl | hq
        · exact all 1 (by decide)
        rcases List.mem_cons.mp hq with rfl | hq
        · exact all 2 (by decide)
        · exact .tail _ (.tail _ (.tail _ (.tail _ (.tail _ hq))))
      · have hpit : ∀ j, j < 3 → hp j ≠ it := by
          intro j hj
          rcases a6 j hj with rfl | rfl | rfl
          · exact Ne.symm m1
          · exact Ne.symm m2
          · exact Ne.symm m3'
        intro q hq
        rcases List.mem_cons.mp hq with rfl | hq
        · exact hpit 0 (by decide)
        rcases List.mem_cons.mp hq with rfl | hq
        · exact hpit 1 (by decide)
        rcases List.mem_cons.mp hq with rfl | hq
        · exact hpit 2 (by decide)
        rcases List.mem_cons.mp hq with rfl | hq
        · exact Ne.symm m4
        rcases List.mem_cons.mp hq with rfl | hq
        · exact Ne.symm m5
        · exact hitl q hq
      · intro j hj
        by_cases e : j = i
        · subst e
          simp only [if_true]
          exact (pb.trans p9).trans (hpm j hj)
        · simp only [if_neg e]
          exact hpm j hj
      · intro j hj hj3
        by_cases e : j = i
        · subst e
          simp only [if_true]
          have kv2 : KeysIn g out2 := kout.perm pb
          rw [← kv2.keyV_keeps Fb0]
          exact ob
        · simp only [if_neg e]
          exact hord j (by (first | lia | omega)) hj3)
  · rintro it m5 news5 h5 tk5 F5 N5 ⟨hv, kv, tb, lr, rfl, hpm, hord, mh, hlr, hLit, htb⟩
    clear F2 N2
    focus walk_at "go"
    (rename Fr _ _ _ _ => Fa); (rename News _ _ _ _ => Na)
    have hlt : ∀ j, j < 3 → hp j < L := by
      intro j hj
      obtain rfl | rfl | rfl : j = 0 ∨ j = 1 ∨ j = 2 := by (first | lia | omega)
      · exact lt0.1
      · exact lt0.2.1
      · exact lt0.2.2.1
    have u0 := xd 0 (by decide)
    have u1 := xd 1 (by decide)
    have u2 := xd 2 (by decide)
    have hrest : ∀ q ∈ (126, tab2Of tb) :: lr, q.1 ≠ hd := by
      intro q hq
      rcases List.mem_cons.mp hq with rfl | hq
      · exact Ne.symm x9
      · exact Nat.ne_of_gt (Nat.lt_trans lt0.2.2.2.1 (hlr q hq))
    refine kl_reverse Fa Na (l := hds.reverse) (by simp) (news' := (hp 0, W.listOf (hv 0).toArray (kv 0)) :: (hp 1, W.listOf (hv 1).toArray (kv 1)) :: (hp 2, W.listOf (hv 2).toArray (kv 2)) :: (hd, W.listOf hds.reverse.toArray n4) :: (126, tab2Of tb) :: lr) (.tail u0.1 (.tail u1.1 (.tail u2.1 (.head hrest)))) (by rw [sizeLine_eq]; simp; (first | lia | omega)) ?_
    intro hb Fb Nb
    clear Fa Na
    focus walk_at "go"
    (rename Fr _ _ _ _ => Fc); (rename News _ _ _ _ => Nc)
    have kin : ∀ j, j < 3 → KeysIn g (hv j) := fun j hj v hv => by
      obtain ⟨k0, k1, k2, k3, hka⟩ := hk j hj v ((hpm j hj).mem_iff.mp hv)
      rw [hka.keyV]; exact hka
    have mem : ∀ (o : Obj) j, j < 3 → (hp j, W.listOf (hv j).toArray (kv j)) ∈ (hp 0, W.listOf (hv 0).toArray (kv 0)) :: (hp 1, W.listOf (hv 1).toArray (kv 1)) :: (hp 2, W.listOf (hv 2).toArray (kv 2)) :: (hd, o) :: (126, tab2Of tb) :: lr := by
      intro o j hj
      obtain rfl | rfl | rfl : j = 0 ∨ j = 1 ∨ j = 2 := by (first | lia | omega)
      · exact .head _
      · exact .tail _ (.head _)
      · exact .tail _ (.tail _ (.head _))
    have hHc : HeadsIn (heapOf Fc) hd hds.reverse := fun v hv => by
      obtain ⟨j, hj, rfl⟩ := hH v (List.mem_reverse.mp hv)
      exact ⟨hp j, _, _, rfl, (xd j hj).1, (Nc _ (mem _ j hj)).1, (kin j hj).keeps Fc.keep⟩
    refine heapify_in Fc Nc X T' (u := fun o => (hp 0, W.listOf (hv 0).toArray (kv 0)) :: (hp 1, W.listOf (hv 1).toArray (kv 1)) :: (hp 2, W.listOf (hv 2).toArray (kv 2)) :: (hd, o) :: (126, tab2Of tb) :: lr) (.tail u0.1 (.tail u1.1 (.tail u2.1 (.head hrest)))) (dpt (a := A.depth) hroom (by decide)) (unt (a := A.units) hu (by decide)) (by exact hh) (ord_heads hHc (Nc (hd, _) (.tail _ (.tail _ (.tail _ (.head _))))).1) (by simp; (first | lia | omega)) ?_
    intro he tke hds' Fe Ne ke pe oe
    clear hHc ke
    clear Fc Nc
    try dsimp only at Ne
    focus walk_at "go"
    (rename Fr _ _ _ _ => Fz); (rename News _ _ _ _ => Nz)
    refine post _ _ hv kv hds' _ tb (keeps_of hg Fz) (fun j hj => ⟨(Nz _ (mem _ j hj)).1, hpm j hj, ?_⟩) (Nz (126, _) (.tail _ (.tail _ (.tail _ (.tail _ (.head _)))))).1 (Nz (hd, _) (.tail _ (.tail _ (.tail _ (.head _))))).1 (pe.trans (List.reverse_perm _)) oe ?_
    · rw [(kin j hj).keyV_keeps Fz.keep]; exact hord j hj hj
    · intro c ec
      rcases htb c ec with e | e
      · exact .inl e
      · refine .inr (e _ fun q hq => hideAll_get _ (Nz q (.tail _ (.tail _ (.tail _ (.tail _ (.tail _ hq)))))).1 fun q' => ?_)
        exact Nat.lt_irrefl _ (Nat.lt_of_lt_of_le (List.mem_range.mp q') (Nat.le_trans hsL (Nat.le_of_lt (hlr q hq))))
theorem lay_Q1 : True := by
  k_with_none
  w_top off
  exact True.intro
def keyOf (name : Str) (j : Nat) (r : RD) : List Int := if r.ok = true then [-(rch name r.a r.b), 0, j, r.i] else [-(rch name r.a r.b), 1, -(j : Int), -(r.i : Int)]
theorem klt_nil : klt [] [] = false := rfl
theorem klt_cons {a b : Int} {x y : List Int} : klt (a :: x) (b :: y) = true ↔ a < b ∨ a = b ∧ klt x y = true := by
  unfold klt
  rw [lexB_cons]
  by_cases h : a = b
  · rw [if_pos h]
    exact ⟨fun q => .inr ⟨h, q⟩, fun q => q.elim (fun q => absurd h (Int.ne_of_lt q)) (·.2)⟩
  · rw [if_neg h, decide_eq_true_iff]
    exact ⟨.inl, fun q => q.elim id fun q => absurd q.1 h⟩
theorem klt4 {a0 a1 a2 a3 b0 b1 b2 b3 : Int} : klt [a0, a1, a2, a3] [b0, b1, b2, b3] = true ↔ a0 < b0 ∨ a0 = b0 ∧ (a1 < b1 ∨ a1 = b1 ∧ (a2 < b2 ∨ a2 = b2 ∧ a3 < b3)) := by
  have h : (a3 < b3 ∨ a3 = b3 ∧ klt [] [] = true) ↔ a3 < b3 := or_iff_left fun q => nomatch (q.2 : false = true)
  rw [klt_cons, klt_cons, klt_cons, klt_cons, h]
theorem keyOf_new (name : Str) (us : List Value) (j : Nat) (al : Addr) (r : Int) : keyOf name j ⟨us.length, al, decide (r % 2 = 1), r / 2 % 4, r / 2⟩ = newKey name us.length j r := by
  unfold keyOf newKey
  by_cases h : r % 2 = 1
  · simp [h]
  · simp [h]
theorem keyOf_four (name : Str) (j : Nat) (r : RD) : ∃ k0 k1 k2 k3, keyOf name j r = [k0, k1, k2, k3] ∧ k0 = -(rch name r.a r.b) ∧ k2.natAbs = j ∧ k3.natAbs = r.i := by
  unfold keyOf
  split
  · exact ⟨_, _, _, _, rfl, rfl, rfl, rfl⟩
  · exact ⟨_, _, _, _, rfl, rfl, Int.natAbs_neg _, Int.natAbs_neg _⟩
theorem keyOf_inj {name : Str} {j j' : Nat} {r r' : RD} (h : keyOf name j r = keyOf name j' r') : j = j' ∧ r.i = r'.i := by
  obtain ⟨_, _, _, _, e, -, e1, e2⟩ := keyOf_four name j r
  obtain ⟨_, _, _, _, e', -, e1', e2'⟩ := keyOf_four name j' r'
  rw [e, e'] at h
  injection h with _ h; injection h with _ h; injection h with h2 h; injection h with h3
  subst h2 h3
  exact ⟨by rw [← e1, ← e1'], by rw [← e2, ← e2']⟩

abbrev JR := Nat × RD
def jlt (x y : JR) : Prop := x.1 < y.1 ∨ x.1 = y.1 ∧ x.2.i < y.2.i
abbrev mOf (name : Str) (x : JR) : Int := rch name x.2.a x.2.b
abbrev kOf (name : Str) (x : JR) : List Int := keyOf name x.1 x.2
/-- how it stands behind some of the rules -/
def Stands (name : Str) (pre : List JR) (c : Cur) : Prop :=
  ((∀ x ∈ pre, mOf name x ≤ 0) ∧ c = (-1, none)) ∨ ∃ x ∈ pre, 0 < mOf name x ∧ c = (mOf name x, some x.2) ∧ ∀ y ∈ pre, klt (kOf name y) (kOf name x) = false
theorem klt_false {a b : List Int} (h : ¬ klt a b = true) : klt a b = false := by simpa using h
theorem klt_first {name : Str} {x y : JR} (h : mOf name y < mOf name x) : klt (kOf name y) (kOf name x) = false := by
  refine klt_false fun q => ?_
  obtain ⟨a0, a1, a2, a3, e, f, -⟩ := keyOf_four name y.1 y.2
  obtain ⟨b0, b1, b2, b3, e', f', -⟩ := keyOf_four name x.1 x.2
  unfold kOf at q
  rw [e, e', klt4, f, f'] at q
  rcases q with q | ⟨q, -⟩
  · exact absurd h (Int.not_lt.mpr (Int.le_of_lt (Int.lt_of_neg_lt_neg q)))
  · exact absurd (Int.neg_inj.mp q) (Int.ne_of_lt h)
theorem klt_no {name : Str} {x y : JR} (he : mOf name y = mOf name x) (hx : x.2.ok = false) (h : jlt x y) : klt (kOf name y) (kOf name x) = true := by
  unfold kOf keyOf
  unfold mOf at he
  rw [hx, if_neg (show ¬ (false = true) from Bool.false_ne_true), he]
  split
  · exact klt4.mpr (.inr ⟨rfl, .inl (by decide)⟩)
  · refine klt4.mpr (.inr ⟨rfl, .inr ⟨rfl, h.elim (fun q => .inl (Int.neg_lt_neg (Int.ofNat_lt.mpr q))) fun q => .inr ⟨by rw [q.1], Int.neg_lt_neg (Int.ofNat_lt.mpr q.2)⟩⟩⟩)
theorem klt_ok {name : Str} {x y : JR} (he : mOf name y = mOf name x) (hx : x.2.ok = true) (h : jlt x y) : klt (kOf name x) (kOf name y) = true := by
  unfold kOf keyOf
  unfold mOf at he
  rw [if_pos hx, he]
  split
  · refine klt4.mpr (.inr ⟨rfl, .inr ⟨rfl, h.elim (fun q => .inl (Int.ofNat_lt.mpr q)) fun q => .inr ⟨by rw [q.1], Int.ofNat_lt.mpr q.2⟩⟩⟩)
  · exact klt4.mpr (.inr ⟨rfl, .inl (by decide)⟩)
theorem klt_self (a : List Int) : klt a a = false := linO_key.irr a
theorem stands_step {name : Str} {pre : List JR} {c : Cur} {y : JR} (h : Stands name pre c) (hlt : ∀ x ∈ pre, jlt x y) : Stands name (pre ++ [y]) (curStep name c y.2) := by
  rcases h with ⟨h, rfl⟩ | ⟨x, hx, hm, rfl, hl⟩
  · by_cases hy : mOf name y ≤ 0
    · refine .inl ⟨fun x hx => ?_, cs_same ?_⟩
      · rcases List.mem_append.mp hx with hx | hx
        · exact h x hx
        · rw [List.mem_singleton.mp hx]; exact hy
      · by_cases h0 : mOf name y = 0
        · exact .inl h0
        · refine .inr ⟨?_, .inr rfl⟩
          show ¬ (-1 : Int) < mOf name y
          omega
    · have hy := Int.not_le.mp hy
      refine .inr ⟨y, by simp, hy, cs_new (show mOf name y ≠ 0 from Int.ne_of_gt hy) (show (-1 : Int) < mOf name y from Int.lt_trans (by decide) hy), fun z hz => ?_⟩
      rcases List.mem_append.mp hz with hz | hz
      · have := h z hz
        exact klt_first (Int.lt_of_le_of_lt this hy)
      · rw [List.mem_singleton.mp hz]; exact klt_self _
  · have hxy := hlt x hx
    by_cases hy : mOf name y ≤ 0 ∨ mOf name y < mOf name x
    · refine .inr ⟨x, List.mem_append_left _ hx, hm, cs_same ?_, fun z hz => ?_⟩
      · by_cases h0 : mOf name y = 0
        · exact .inl h0
        · refine .inr ⟨?_, .inl ?_⟩
          · show ¬ mOf name x < mOf name y
            exact hy.elim (fun q r => absurd (Int.lt_of_lt_of_le (Int.lt_trans hm r) q) (Int.lt_irrefl _)) fun q => Int.not_lt.mpr (Int.le_of_lt q)
          · show mOf name y ≠ mOf name x
            exact hy.elim (fun q r => absurd (Int.lt_of_lt_of_le (r ▸ hm) q) (Int.lt_irrefl _)) Int.ne_of_lt
      · rcases List.mem_append.mp hz with hz | hz
        · exact hl z hz
        · rw [List.mem_singleton.mp hz]; exact klt_first (hy.elim (fun q => Int.lt_of_le_of_lt q hm) id)
    · by_cases hgt : mOf name x < mOf name y
      · have h0y := Int.lt_trans hm hgt
        refine .inr ⟨y, by simp, h0y, cs_new (show mOf name y ≠ 0 from Int.ne_of_gt h0y) hgt, fun z hz => ?_⟩
        rcases List.mem_append.mp hz with hz | hz
        · have h1 := hl z hz
          refine klt_first (Int.lt_of_le_of_lt ?_ hgt)
          refine Int.not_lt.mp fun q => ?_
          have h2 := klt_first (name := name) (x := z) (y := x) q
          have h3 := linO_key.tri _ _ h1 h2
          obtain ⟨a0, a1, a2, a3, e, f, -⟩ := keyOf_four name z.1 z.2
          obtain ⟨b0, b1, b2, b3, e', f', -⟩ := keyOf_four name x.1 x.2
          unfold kOf at h3
          rw [e, e'] at h3
          injection h3 with h3
          rw [f, f'] at h3
          exact absurd (Int.neg_inj.mp h3) (Int.ne_of_gt q)
        · rw [List.mem_singleton.mp hz]; exact klt_self _
      · have heq : mOf name y = mOf name x := Int.le_antisymm (Int.not_lt.mp hgt) (Int.not_lt.mp fun q => hy (.inr q))
        have h0y : 0 < mOf name y := heq ▸ hm
        have hne : mOf name y ≠ 0 := Int.ne_of_gt h0y
        cases hok : x.2.ok
        · refine .inr ⟨y, by simp, h0y, ?_, fun z hz => ?_⟩
          · rw [cs_eq hne hgt heq (by show (Option.all (fun q => q.ok) (some x.2)) = false; simp [hok])]
            show (mOf name x, some y.2) = (mOf name y, some y.2)
            rw [heq]
          · rcases List.mem_append.mp hz with hz | hz
            · have h1 := hl z hz
              exact linO_key.trans _ _ _ (linO_key.asym _ _ (klt_no heq hok hxy)) h1
            · rw [List.mem_singleton.mp hz]; exact klt_self _
        · refine .inr ⟨x, List.mem_append_left _ hx, hm, cs_same (.inr ⟨hgt, .inr (by show (Option.all (fun q => q.ok) (some x.2)) = true; simp [hok])⟩), fun z hz => ?_⟩
          rcases List.mem_append.mp hz with hz | hz
          · exact hl z hz
          · rw [List.mem_singleton.mp hz]
            exact linO_key.asym _ _ (klt_ok heq hok hxy)
theorem stands_all {name : Str} (xs : List JR) (hs : xs.Pairwise jlt) : Stands name xs (curOf name (xs.map (·.2))) := by
  have go : ∀ (post pre : List JR) (c : Cur), (pre ++ post).Pairwise jlt → Stands name pre c → Stands name (pre ++ post) ((post.map (·.2)).foldl (curStep name) c) := by
    intro post
    induction post with
    | nil => intro pre c _ h; simpa using h
    | cons y r ih =>
      intro pre c hp h
      have e : pre ++ y :: r = (pre ++ [y]) ++ r := by simp
      rw [e] at hp ⊢
      refine ih (pre ++ [y]) _ hp (stands_step h fun x hx => ?_)
      have := (List.pairwise_append.mp (List.pairwise_append.mp hp).1).2.2
      exact this x hx y (by simp)
  exact go xs [] _ (by simpa using hs) (.inl ⟨(fun _ h => nomatch h), rfl⟩)

/-- the verdict of the least key -/
theorem verdict {name : Str} {xs : List JR} {rules : List RD} {ks : List (List Int)} (hs : xs.Pairwise jlt) (hr : ∀ x ∈ xs, rules[x.2.i]? = some x.2)
    (hk : (xs = [] ∧ ks = []) ∨ ∃ x ∈ xs, ∃ r, ks = kOf name x :: r ∧ ∀ y ∈ xs, klt (kOf name y) (kOf name x) = false) : curVal (curOf name (xs.map (·.2))) = dueOf rules ks := by
  have hst := stands_all (name := name) xs hs
  rcases hk with ⟨rfl, rfl⟩ | ⟨x, hx, r, rfl, hl⟩
  · rfl
  · obtain ⟨k0, k1, k2, k3, e, e0, e2, e3⟩ := keyOf_four name x.1 x.2
    rcases hst with ⟨h, e'⟩ | ⟨y, hy, hm, e', hl'⟩
    · rw [e']
      have := h x hx
      unfold kOf
      rw [e]
      show Value.bool true = if k0 < 0 then _ else _
      rw [if_neg (by rw [e0]; exact fun q => Int.not_lt.mpr this (Int.neg_lt_zero_iff.mp q))]
    · have hxy : kOf name x = kOf name y := linO_key.tri _ _ (hl' x hx) (hl y hy)
      have hi := (keyOf_inj hxy).2
      rw [e']
      have hy' := hr y hy
      unfold kOf at hxy ⊢
      rw [e]
      show Value.ref y.2.al = if k0 < 0 then .ref ((rules.map (·.al)).getD k3.natAbs 0) else _
      have hk0 : k0 < 0 := by
        obtain ⟨b0, b1, b2, b3, f, f0, -⟩ := keyOf_four name y.1 y.2
        rw [e, f] at hxy
        injection hxy with hxy
        rw [hxy, f0]
        exact Int.neg_lt_zero_iff.mpr hm
      rw [if_pos hk0, e3, hi, List.getD_eq_getElem?_getD, List.getElem?_map, hy']
      rfl
theorem lay_Q4 : True := by
  k_with_none
  w_top off
  exact True.intro
theorem refNe_iff {a b : Addr} : refNe a (.ref b) = true ↔ b ≠ a := by
  unfold refNe; simp
/-- the new rule -/
abbrev newRD (n : Nat) (al : Addr) (r : Int) : RD := ⟨n, al, decide (r % 2 = 1), r / 2 % 4, r / 2⟩
theorem perm_out {rs : List RD} (hs : rs.Pairwise fun x y => x.i < y.i) {r : RD} (hr : r ∈ rs) : rs.Perm (r :: rs.filter fun q => decide (q.i ≠ r.i)) := by
  induction rs with
  | nil => cases hr
  | cons a t ih =>
    obtain ⟨h1, h2⟩ := List.pairwise_cons.mp hs
    by_cases e : a = r
    · subst e
      rw [List.filter_cons, if_neg (by simp), List.filter_eq_self.mpr fun q hq => decide_eq_true (Nat.ne_of_gt (h1 q hq))]
    · have hrt : r ∈ t := (List.mem_cons.mp hr).resolve_left fun q => e q.symm
      rw [List.filter_cons, if_pos (decide_eq_true (Nat.ne_of_lt (h1 r hrt)))]
      exact ((ih h2 hrt).cons a).trans (.swap _ _ _)
theorem getD_append {us : List Value} (ux : List Value) {i : Nat} (h : i < us.length) : (us ++ ux).getD i .none = us.getD i .none := by
  rw [List.getD_eq_getElem?_getD, List.getElem?_append_left h, ← List.getD_eq_getElem?_getD]
theorem nodup_get {us : List Value} (hn : us.Nodup) {i k : Nat} (hi : i < us.length) (hk : k < us.length) (e : us.getD i .none = us.getD k .none) : i = k := by
  rw [List.getD_eq_getElem?_getD, List.getD_eq_getElem?_getD, List.getElem?_eq_getElem hi, List.getElem?_eq_getElem hk] at e
  have hp := List.pairwise_iff_getElem.mp hn
  have e' : us[i] = us[k] := e
  rcases Nat.lt_trichotomy i k with q | q | q
  · exact absurd e' (hp i k hi hk q)
  · exact q
  · exact absurd e'.symm (hp k i hk hi q)
/-- what goes, goes from the record's list and from its heap -/
theorem go_plain {name : Str} {j : Nat} {us : List Value} {rs : List RD} {ks : List (List Int)} {kv : List Int} {xk : Addr} (hnd : us.Nodup) (hs : rs.Pairwise fun x y => x.i < y.i) (hlt : ∀ r ∈ rs, r.i < us.length) (href : ∀ r ∈ rs, ∃ a, us.getD r.i .none = .ref a)
    (hk : (kv :: ks).Perm (rs.map (keyOf name j))) (hx : us.getD (kv.getD 3 0).natAbs .none = .ref xk) :
    ∃ r ∈ rs, kv = keyOf name j r ∧ (rs.map fun r => us.getD r.i .none).filter (refNe xk) = (rs.filter fun q => decide (q.i ≠ r.i)).map (fun r => us.getD r.i .none) ∧ ks.Perm ((rs.filter fun q => decide (q.i ≠ r.i)).map (keyOf name j)) := by
  obtain ⟨r, hr, e⟩ := List.mem_map.mp (hk.mem_iff.mp (.head _))
  refine ⟨r, hr, e.symm, ?_, ?_⟩
  · obtain ⟨k0, k1, k2, k3, f, -, f2, f3⟩ := keyOf_four name j r
    rw [← e, f] at hx
    have hx' : us.getD r.i .none = .ref xk := by rw [← f3]; exact hx
    rw [List.filter_map]
    congr 1
    refine List.filter_congr fun q hq => ?_
    obtain ⟨b, hb⟩ := href q hq
    show refNe xk (us.getD q.i .none) = _
    rw [hb, Bool.eq_iff_iff, refNe_iff, decide_eq_true_iff]
    refine not_congr ⟨fun e2 => ?_, fun e2 => ?_⟩
    · refine nodup_get hnd (hlt q hq) (hlt r hr) ?_
      rw [hb, hx', e2]
    · rw [e2, hx'] at hb
      injection hb with hb; exact hb.symm
  · have := hk.trans ((perm_out hs hr).map (keyOf name j))
    rw [List.map_cons, e] at this
    exact this.cons_inv
theorem rulesAt_snoc {prog : Program} {w : World} {g : Heap} {c : Addr} {us : List Value} {rules : List RD} {x al : Addr} {r : Int} (R : RulesAt prog w g c us rules) (hl : us.length = rules.length)
    (z : RuleAt prog w g c (.ref x) us.length al (decide (r % 2 = 1)) (r / 2 % 4) (r / 2)) : RulesAt prog w g c (us ++ [.ref x]) (rules ++ [newRD us.length al r]) := R.append (.cons z .nil)
theorem idx_snoc {rules : List RD} {n : Nat} (hl : n = rules.length) (h : ∀ (i : Nat) (r : RD), rules[i]? = some r → r.i = i) (rd : RD) (hr : rd.i = n) : ∀ (i : Nat) (r : RD), (rules ++ [rd])[i]? = some r → r.i = i := fun i r e => by
  rcases Nat.lt_or_ge i rules.length with q | q
  · rw [List.getElem?_append_left q] at e; exact h i r e
  · rw [List.getElem?_append_right q] at e
    obtain ⟨k, hk⟩ : ∃ k, i - rules.length = k := ⟨_, rfl⟩
    rw [hk] at e
    cases k with
    | zero => cases e; omega
    | succ k => cases e
theorem rsub_snoc {rules rs : List RD} {n : Nat} (hl : n = rules.length) (h : ∀ r ∈ rs, rules[r.i]? = some r) (rd : RD) (hr : rd.i = n) : ∀ r ∈ rs ++ [rd], (rules ++ [rd])[r.i]? = some r := fun r hm => by
  rcases List.mem_append.mp hm with hm | hm
  · have := h r hm
    rcases Nat.lt_or_ge r.i rules.length with q | q
    · rw [List.getElem?_append_left q]; exact this
    · rw [List.getElem?_eq_none q] at this; cases this
  · rw [List.mem_singleton.mp hm, hr, hl]; simp
theorem sorted_snoc {rules rs : List RD} {n : Nat} (hl : n = rules.length) (h : ∀ r ∈ rs, rules[r.i]? = some r) (hs : rs.Pairwise fun x y => x.i < y.i) (rd : RD) (hr : rd.i = n) : (rs ++ [rd]).Pairwise fun x y => x.i < y.i := by
  refine List.pairwise_append.mpr ⟨hs, List.pairwise_singleton _ _, fun a ha b hb => ?_⟩
  rw [List.mem_singleton.mp hb, hr, hl]
  have := h a ha
  rcases Nat.lt_or_ge a.i rules.length with q | q
  · exact q
  · rw [List.getElem?_eq_none q] at this; cases this
theorem lsv_snoc {us ls : List Value} {rs : List RD} (hl : ∀ r ∈ rs, r.i < us.length) (h : ls = rs.map fun r => us.getD r.i .none) (x : Value) (rd : RD) (hr : rd.i = us.length) : ls ++ [x] = (rs ++ [rd]).map fun r => (us ++ [x]).getD r.i .none := by
  rw [List.map_append, h]
  congr 1
  · exact List.map_congr_left fun r hm => (getD_append _ (hl r hm)).symm
  · simp [hr]
theorem nodup_snoc {us : List Value} (h : us.Nodup) {x : Value} (hx : x ∉ us) : (us ++ [x]).Nodup := by
  rw [List.nodup_append]
  refine ⟨h, by simp, fun a ha b hb e => hx ?_⟩
  rw [← List.mem_singleton.mp hb, ← e]; exact ha
theorem lay_Q2 : True := by
  k_with_none
  w_top off
  exact True.intro
structure Fix where
  ra : Addr
  ha : Addr
  hd : Addr
  ru : Addr
  n0 : Nat
  n5 : Nat
  ej : Nat → Addr
  dj : Nat → Addr
  uj : Nat → Addr
  hp : Nat → Addr
  xs : List Addr
structure St where
  lj : Nat → Addr
  us : List Value
  rules : List RD
  ls : Nat → List Value
  rs : Nat → List RD
  hv : Nat → List Value
  hds : List Value
  c1 : Option Addr
  c2 : Option Addr
abbrev Fix.D (F : Fix) (lj : Nat → Addr) : List Addr := [F.ru, 114, 126, F.hd, F.dj 0, F.dj 1, F.dj 2, lj 0, lj 1, lj 2, F.hp 0, F.hp 1, F.hp 2]
abbrev Fix.M (F : Fix) (lj : Nat → Addr) : List Addr := F.D lj ++ F.xs
abbrev Fix.G (F : Fix) (h : Heap) (lj : Nat → Addr) : Heap := hideAll h (F.M lj)
theorem D_dj (F : Fix) (lj : Nat → Addr) {j : Nat} (hj : j < 3) : F.dj j ∈ F.D lj := by
  obtain rfl | rfl | rfl : j = 0 ∨ j = 1 ∨ j = 2 := by (first | lia | omega)
  all_goals simp
theorem D_lj (F : Fix) (lj : Nat → Addr) {j : Nat} (hj : j < 3) : lj j ∈ F.D lj := by
  obtain rfl | rfl | rfl : j = 0 ∨ j = 1 ∨ j = 2 := by (first | lia | omega)
  all_goals simp
theorem D_hp (F : Fix) (lj : Nat → Addr) {j : Nat} (hj : j < 3) : F.hp j ∈ F.D lj := by
  obtain rfl | rfl | rfl : j = 0 ∨ j = 1 ∨ j = 2 := by (first | lia | omega)
  all_goals simp
theorem D_iff {F : Fix} {lj : Nat → Addr} {a : Addr} : a ∈ F.D lj ↔ a = F.ru ∨ a = 114 ∨ a = 126 ∨ a = F.hd ∨ ∃ j, j < 3 ∧ (a = F.dj j ∨ a = lj j ∨ a = F.hp j) := by
  constructor
  · intro h
    simp only [List.mem_cons, List.not_mem_nil, or_false] at h
    rcases h with h | h | h | h | h | h | h | h | h | h | h | h | h
    · exact .inl h
    · exact .inr (.inl h)
    · exact .inr (.inr (.inl h))
    · exact .inr (.inr (.inr (.inl h)))
    · exact .inr (.inr (.inr (.inr ⟨0, by (first | lia | omega), .inl h⟩)))
    · exact .inr (.inr (.inr (.inr ⟨1, by (first | lia | omega), .inl h⟩)))
    · exact .inr (.inr (.inr (.inr ⟨2, by (first | lia | omega), .inl h⟩)))
    · exact .inr (.inr (.inr (.inr ⟨0, by (first | lia | omega), .inr (.inl h)⟩)))
    · exact .inr (.inr (.inr (.inr ⟨1, by (first | lia | omega), .inr (.inl h)⟩)))
    · exact .inr (.inr (.inr (.inr ⟨2, by (first | lia | omega), .inr (.inl h)⟩)))
    · exact .inr (.inr (.inr (.inr ⟨0, by (first | lia | omega), .inr (.inr h)⟩)))
    · exact .inr (.inr (.inr (.inr ⟨1, by (first | lia | omega), .inr (.inr h)⟩)))
    · exact .inr (.inr (.inr (.inr ⟨2, by (first | lia | omega), .inr (.inr h)⟩)))
  · rintro (h | h | h | h | ⟨j, hj, h | h | h⟩)
    · rw [h]; simp
    · rw [h]; simp
    · rw [h]; simp
    · rw [h]; simp
    · rw [h]; exact D_dj F lj hj
    · rw [h]; exact D_lj F lj hj
    · rw [h]; exact D_hp F lj hj

theorem memM {F : Fix} {lj : Nat → Addr} {a : Addr} (h : a ∈ F.D lj) : a ∈ F.M lj := List.mem_append_left _ h
/-- the mutable objects are apart -/
structure Apt (F : Fix) (lj : Nat → Addr) : Prop where
  pru : F.ru ≠ 114 ∧ F.ru ≠ 126 ∧ F.ru ≠ F.hd
  phd : F.hd ≠ 114 ∧ F.hd ≠ 126
  pdj : ∀ j, j < 3 → F.dj j ≠ F.ru ∧ F.dj j ≠ 114 ∧ F.dj j ≠ 126 ∧ F.dj j ≠ F.hd
  plj : ∀ j, j < 3 → lj j ≠ F.ru ∧ lj j ≠ 114 ∧ lj j ≠ 126 ∧ lj j ≠ F.hd
  php : ∀ j, j < 3 → F.hp j ≠ F.ru ∧ F.hp j ≠ 114 ∧ F.hp j ≠ 126 ∧ F.hp j ≠ F.hd
  pdd : ∀ i j, i < 3 → j < 3 → i ≠ j → F.dj i ≠ F.dj j
  pll : ∀ i j, i < 3 → j < 3 → i ≠ j → lj i ≠ lj j
  phh : ∀ i j, i < 3 → j < 3 → i ≠ j → F.hp i ≠ F.hp j
  pdl : ∀ i j, i < 3 → j < 3 → F.dj i ≠ lj j
  pdh : ∀ i j, i < 3 → j < 3 → F.dj i ≠ F.hp j
  plh : ∀ i j, i < 3 → j < 3 → lj i ≠ F.hp j

structure RunInv (prog : Program) (w : World) (p : Program) (loose : List Str) (mean : ExcName → Option Value) (mg mb : Str → Option Value) (name : Str) (F : Fix) (h : Heap) (S : St) : Prop where
  X : (KK w).In (F.G h S.lj)
  T : Top p loose mean mg mb (F.G h S.lj)
  C1 : CodeHd (F.G h S.lj) 118 114
  C2 : CodeHd (F.G h S.lj) 128 126
  ra : (F.G h S.lj).get? F.ra = some (W.listOf [Value.ref (F.ej 0), .ref (F.ej 1), .ref (F.ej 2)].toArray F.n0)
  ha : (F.G h S.lj).get? F.ha = some (W.listOf [Value.ref (F.hp 0), .ref (F.hp 1), .ref (F.hp 2)].toArray F.n5)
  ej : ∀ j, j < 3 → (F.G h S.lj).get? (F.ej j) = some (instObj 52 (F.dj j))
  uj : ∀ j, j < 3 → ∃ n, (F.G h S.lj).get? (F.uj j) = some (W.listOf ([] : List Value).toArray n)
  dj : ∀ j, j < 3 → ∃ ds n, h.get? (F.dj j) = some (dictOf ds n) ∧ EntsAre w ds (recL (F.uj j) (S.lj j))
  lj : ∀ j, j < 3 → ∃ n, h.get? (S.lj j) = some (W.listOf (S.ls j).toArray n)
  ru : ∃ n, h.get? F.ru = some (W.listOf S.us.toArray n)
  hp : ∀ j, j < 3 → ∃ n, h.get? (F.hp j) = some (W.listOf (S.hv j).toArray n)
  hd : ∃ n, h.get? F.hd = some (W.listOf S.hds.toArray n)
  t1 : h.get? 114 = some (tabOf S.c1)
  t2 : h.get? 126 = some (tab2Of S.c2)
  code1 : ∀ c, S.c1 = some c → (F.G h S.lj).CodeRec (.ref c) "_law_come.<locals>.<lambda>"
  code2 : ∀ c, S.c2 = some c → (F.G h S.lj).CodeRec (.ref c) "_law_step.<locals>.<lambda>"
  apart : Apt F S.lj
  rules : ∀ c, S.c1 = some c → RulesAt prog w (F.G h S.lj) c S.us S.rules
  noc : S.c1 = none → S.us = [] ∧ S.rules = []
  idx : ∀ (i : Nat) (r : RD), S.rules[i]? = some r → r.i = i
  nodup : S.us.Nodup
  rsub : ∀ j, j < 3 → ∀ r ∈ S.rs j, S.rules[r.i]? = some r
  lsv : ∀ j, j < 3 → S.ls j = (S.rs j).map fun r => S.us.getD r.i .none
  sorted : ∀ j, j < 3 → (S.rs j).Pairwise fun x y => x.i < y.i
  keysIn : ∀ j, j < 3 → KeysIn (F.G h S.lj) (S.hv j)
  keys : ∀ j, j < 3 → ((S.hv j).map (keyV (F.G h S.lj))).Perm ((S.rs j).map (keyOf name j))
  ord : ∀ j, j < 3 → HOL klt 0 ((S.hv j).map (keyV (F.G h S.lj)))
  heads : S.hds.Perm (([0, 1, 2].filter fun j => !(S.hv j).isEmpty).map fun j => Value.ref (F.hp j))
  hord : HOL kllt 0 (S.hds.map (keysV h))
  hname : name = Str.ofString "" ∨ name = Str.ofString "/A%41"
  xat : ∀ a ∈ F.xs, ∃ o, h.get? a = some o
  off : ∀ a ∈ F.xs, a ∉ F.D S.lj

section
variable {prog : Program} {w : World} {p : Program} {loose : List Str} {mean : ExcName → Option Value} {mg mb : Str → Option Value} {name : Str} {F : Fix} {h : Heap} {S : St}
/-- what lies in the base of the state lies in the base of a contract -/
theorem base_sub {h : Heap} {S M : List Addr} (hs : ∀ a ∈ S, a ∈ M) : Sub (hideAll h M) (hideAll h S) := fun b o e => by
  have hb : b ∉ M := fun q => by rw [hideAll_none _ q] at e; cases e
  exact hideAll_get _ (of_hideAll _ e) fun q => hb (hs b q)
theorem base_D {F : Fix} {lj : Nat → Addr} {h : Heap} {S : List Addr} (hs : ∀ a ∈ S, a ∈ F.D lj) : Sub (hideAll h (F.M lj)) (hideAll h S) := base_sub fun a ha => memM (hs a ha)
/-- the base behind a step -/
theorem base_next {h h' : Heap} {S M M' : List Addr} (k : Keeps S h h') (hs : ∀ a ∈ S, a ∈ M) (hm : ∀ a ∈ M', a ∈ M ∨ h.objs.size ≤ a) : Sub (hideAll h M) (hideAll h' M') := fun b o e => by
  have hb : b ∉ M := fun q => by rw [hideAll_none _ q] at e; cases e
  have e' := of_hideAll _ e
  refine hideAll_get _ (k b o (fun q => hb (hs b q)) e') fun q => ?_
  rcases hm b q with q | q
  · exact hb q
  · exact Nat.lt_irrefl _ (Nat.lt_of_lt_of_le (Heap.lt_size e') q)

theorem RunInv.four (V : RunInv prog w p loose mean mg mb name F h S) {j : Nat} (hj : j < 3) : ∀ k ∈ (S.hv j).map (keyV (F.G h S.lj)), ∃ r ∈ S.rs j, k = keyOf name j r := fun k hk => by
  obtain ⟨r, hr, rfl⟩ := List.mem_map.mp ((V.keys j hj).mem_iff.mp hk)
  exact ⟨r, hr, rfl⟩
theorem RunInv.len (V : RunInv prog w p loose mean mg mb name F h S) : S.us.length = S.rules.length := by
  cases e : S.c1 with
  | none => obtain ⟨e1, e2⟩ := V.noc e; rw [e1, e2]; rfl
  | some c => exact (V.rules c e).length
theorem RunInv.inst (V : RunInv prog w p loose mean mg mb name F h S) {i : Nat} (hi : i < S.us.length) : ∃ x d, S.us.getD i .none = .ref x ∧ (F.G h S.lj).get? x = some (instObj 52 d) := by
  cases e : S.c1 with
  | none => rw [(V.noc e).1] at hi; cases hi
  | some c =>
    have := (V.rules c e).get (by rw [← V.len]; exact hi)
    obtain ⟨x, d, u, l, f, c, rd, ti, t3, pm, ctv, oc, P, B, S, e1, ⟨e2, es, n, e2', e2''⟩, -⟩ := this
    exact ⟨x, d, e1, e2⟩
theorem RunInv.keyTo (V : RunInv prog w p loose mean mg mb name F h S) {j : Nat} (hj : j < 3) : ∀ v ∈ S.hv j, KeyTo (F.G h S.lj) S.us j v := fun v hv => by
  obtain ⟨r, hr, e⟩ := V.four hj _ (List.mem_map_of_mem hv)
  obtain ⟨k0, k1, k2, k3, f, -, f2, f3⟩ := keyOf_four name j r
  have hka := V.keysIn j hj v hv
  rw [e, f] at hka
  obtain ⟨a, _, _, _, ea, -⟩ := id hka
  have hri := V.rsub j hj r hr
  have hlt : r.i < S.us.length := by
    rw [V.len]
    rcases Nat.lt_or_ge r.i S.rules.length with q | q
    · exact q
    · rw [List.getElem?_eq_none q] at hri; cases hri
  obtain ⟨x, d, ex, ed⟩ := V.inst hlt
  exact ⟨a, k0, k1, k2, k3, x, d, ea, hka, f2, by (first | lia | omega), by rw [f3]; exact ex, ed⟩
theorem RunInv.rulesIn (V : RunInv prog w p loose mean mg mb name F h S) {j : Nat} (hj : j < 3) : RulesIn (F.G h S.lj) (S.ls j) := fun v hv => by
  rw [V.lsv j hj] at hv
  obtain ⟨r, hr, rfl⟩ := List.mem_map.mp hv
  have hri := V.rsub j hj r hr
  have hlt : r.i < S.us.length := by
    rw [V.len]
    rcases Nat.lt_or_ge r.i S.rules.length with q | q
    · exact q
    · rw [List.getElem?_eq_none q] at hri; cases hri
  obtain ⟨x, d, ex, ed⟩ := V.inst hlt
  exact ⟨x, d, ex, ed⟩
theorem RunInv.hvlen (V : RunInv prog w p loose mean mg mb name F h S) {j : Nat} (hj : j < 3) : (S.hv j).length = (S.rs j).length := by
  have := (V.keys j hj).length_eq
  simpa using this
theorem inc_bound : ∀ {l : List Nat} {m n : Nat}, l.Pairwise (· < ·) → (∀ x ∈ l, m ≤ x ∧ x < n) → l.length ≤ n - m := fun {l} => by
  induction l with
  | nil => intro m n _ _; exact Nat.zero_le _
  | cons a t ih =>
    intro m n hp hb
    obtain ⟨h1, h2⟩ := List.pairwise_cons.mp hp
    have := ih (m := a + 1) (n := n) h2 fun x hx => ⟨h1 x hx, (hb x (.tail _ hx)).2⟩
    have := hb a (.head _)
    simp only [List.length_cons]
    (first | lia | omega)
theorem RunInv.rslen (V : RunInv prog w p loose mean mg mb name F h S) {j : Nat} (hj : j < 3) : (S.rs j).length ≤ S.us.length := by
  rw [V.len]
  have := inc_bound (l := (S.rs j).map (·.i)) (m := 0) (n := S.rules.length) ?_ ?_
  · simpa using this
  · have := V.sorted j hj
    rw [List.pairwise_map]
    exact this
  · intro x hx
    obtain ⟨r, hr, rfl⟩ := List.mem_map.mp hx
    have hri := V.rsub j hj r hr
    rcases Nat.lt_or_ge r.i S.rules.length with q | q
    · exact ⟨Nat.zero_le _, q⟩
    · rw [List.getElem?_eq_none q] at hri; cases hri
theorem RunInv.hdslen (V : RunInv prog w p loose mean mg mb name F h S) : S.hds.length ≤ 3 := by
  rw [V.heads.length_eq, List.length_map]
  exact Nat.le_trans (List.length_filter_le _ _) (by decide)
theorem RunInv.hdsRef (V : RunInv prog w p loose mean mg mb name F h S) : ∀ v ∈ S.hds, ∃ j, j < 3 ∧ v = .ref (F.hp j) ∧ S.hv j ≠ [] := fun v hv => by
  obtain ⟨j, hj, rfl⟩ := List.mem_map.mp (V.heads.mem_iff.mp hv)
  obtain ⟨h1, h2⟩ := List.mem_filter.mp hj
  refine ⟨j, ?_, rfl, fun e => by rw [e] at h2; cases h2⟩
  simp only [List.mem_cons, List.not_mem_nil, or_false] at h1
  (first | lia | omega)
end
theorem lay_Q3 : True := by
  k_with_none
  w_top off
  exact True.intro
def updN {α : Type} (f : Nat → α) (j : Nat) (v : α) : Nat → α := fun i => if i = j then v else f i
theorem updN_self {α : Type} (f : Nat → α) (j : Nat) (v : α) : updN f j v j = v := if_pos rfl
theorem updN_ne {α : Type} (f : Nat → α) {i j : Nat} (v : α) (h : i ≠ j) : updN f j v i = f i := if_neg h
theorem updN_same {α : Type} (f : Nat → α) (j : Nat) : updN f j (f j) = f := funext fun i => by
  by_cases h : i = j
  · rw [h, updN_self]
  · rw [updN_ne _ _ h]
/-- the heads of the heaps that are not empty -/
def headsOf (F : Fix) (b : Nat → Bool) : List Value := ([0, 1, 2].filter b).map fun j => Value.ref (F.hp j)
theorem heads_add (F : Fix) (b : Nat → Bool) {j : Nat} (hj : j < 3) (hb : b j = false) : (headsOf F b ++ [Value.ref (F.hp j)]).Perm (headsOf F (updN b j true)) := by
  obtain rfl | rfl | rfl : j = 0 ∨ j = 1 ∨ j = 2 := by omega
  all_goals
    unfold headsOf
    cases h0 : b 0 <;> cases h1 : b 1 <;> cases h2 : b 2 <;> simp_all [updN, List.filter]
  all_goals first | exact List.Perm.swap _ _ _ | exact (List.perm_append_comm (l₁ := [_, _]) (l₂ := [_])) | exact .cons _ (.swap _ _ _)
theorem heads_del (F : Fix) (b : Nat → Bool) {j : Nat} (hj : j < 3) (hb : b j = true) : (headsOf F b).Perm (Value.ref (F.hp j) :: headsOf F (updN b j false)) := by
  obtain rfl | rfl | rfl : j = 0 ∨ j = 1 ∨ j = 2 := by omega
  all_goals
    unfold headsOf
    cases h0 : b 0 <;> cases h1 : b 1 <;> cases h2 : b 2 <;> simp_all [updN, List.filter]
  all_goals first | exact List.Perm.swap _ _ _ | exact (List.perm_append_comm (l₁ := [_, _]) (l₂ := [_]))
abbrev liveOf (hv : Nat → List Value) : Nat → Bool := fun i => !(hv i).isEmpty
theorem live_upd (hv : Nat → List Value) (j : Nat) (v : List Value) : liveOf (updN hv j v) = updN (liveOf hv) j (!v.isEmpty) := funext fun i => by
  by_cases h : i = j
  · show (!(updN hv j v i).isEmpty) = _
    rw [h, updN_self, updN_self]
  · show (!(updN hv j v i).isEmpty) = _
    rw [updN_ne _ _ h, updN_ne _ _ h]

abbrev St.turn (S : St) (j : Nat) (l' : Addr) (us' : List Value) (rules' : List RD) (ls' : List Value) (rs' : List RD) (hv' hds' : List Value) (c1' : Option Addr) : St :=
  { lj := updN S.lj j l', us := us', rules := rules', ls := updN S.ls j ls', rs := updN S.rs j rs', hv := updN S.hv j hv', hds := hds', c1 := c1', c2 := S.c2 }

section
variable {prog : Program} {w : World} {p : Program} {loose : List Str} {mean : ExcName → Option Value} {mg mb : Str → Option Value} {name : Str} {F : Fix} {h : Heap} {S : St}
theorem RunInv.ltM (V : RunInv prog w p loose mean mg mb name F h S) : ∀ a ∈ F.M S.lj, a < h.objs.size := fun a ha => by
  rcases List.mem_append.mp ha with ha | ha
  rotate_left
  · obtain ⟨o, e⟩ := V.xat a ha; exact Heap.lt_size e
  have cases' := D_iff.mp ha
  rcases cases' with rfl | rfl | rfl | rfl | ⟨j, hj, rfl | rfl | rfl⟩
  · obtain ⟨n, e⟩ := V.ru; exact Heap.lt_size e
  · exact Heap.lt_size V.t1
  · exact Heap.lt_size V.t2
  · obtain ⟨n, e⟩ := V.hd; exact Heap.lt_size e
  · obtain ⟨ds, n, e, -⟩ := V.dj j hj; exact Heap.lt_size e
  · obtain ⟨n, e⟩ := V.lj j hj; exact Heap.lt_size e
  · obtain ⟨n, e⟩ := V.hp j hj; exact Heap.lt_size e
theorem apt_upd (A : Apt F S.lj) (hM : ∀ a ∈ F.D S.lj, a < h.objs.size) {j : Nat} {l' : Addr} (hl : l' = S.lj j ∨ h.objs.size ≤ l') : Apt F (updN S.lj j l') := by
  rcases hl with rfl | hl
  · rw [updN_same]; exact A
  have ne : ∀ a ∈ F.D S.lj, l' ≠ a := fun a ha => Nat.ne_of_gt (Nat.lt_of_lt_of_le (hM a ha) hl)
  refine ⟨A.pru, A.phd, A.pdj, fun i hi => ?_, A.php, A.pdd, fun i k hi hk hik => ?_, A.phh, fun i k hi hk => ?_, A.pdh, fun i k hi hk => ?_⟩
  · by_cases e : i = j
    · rw [e, updN_self]
      exact ⟨ne _ (by simp), ne _ (by simp), ne _ (by simp), ne _ (by simp)⟩
    · rw [updN_ne _ _ e]; exact A.plj i hi
  · by_cases e : i = j
    · by_cases e2 : k = j
      · exact absurd (e.trans e2.symm) hik
      · rw [e, updN_self, updN_ne _ _ e2]; exact ne _ (D_lj F S.lj hk)
    · by_cases e2 : k = j
      · rw [e2, updN_self, updN_ne _ _ e]; exact (ne _ (D_lj F S.lj hi)).symm
      · rw [updN_ne _ _ e, updN_ne _ _ e2]; exact A.pll i k hi hk hik
  · by_cases e2 : k = j
    · rw [e2, updN_self]; exact (ne _ (D_dj F S.lj hi)).symm
    · rw [updN_ne _ _ e2]; exact A.pdl i k hi hk
  · by_cases e : i = j
    · rw [e, updN_self]; exact ne _ (D_hp F S.lj hk)
    · rw [updN_ne _ _ e]; exact A.plh i k hi hk
theorem memJ (F : Fix) (lj : Nat → Addr) {j : Nat} (hj : j < 3) : ∀ a ∈ [F.ru, lj j, 114, F.hp j, F.hd, F.dj j], a ∈ F.D lj := fun a ha => by
  simp only [List.mem_cons, List.not_mem_nil, or_false] at ha
  rcases ha with rfl | rfl | rfl | rfl | rfl | rfl
  · simp
  · exact D_lj F _ hj
  · simp
  · exact D_hp F _ hj
  · simp
  · exact D_dj F _ hj
theorem newD {F : Fix} {lj : Nat → Addr} {j : Nat} {l' : Addr} : ∀ a ∈ F.D (updN lj j l'), a = l' ∨ a ∈ F.D lj := fun a ha => by
  rcases D_iff.mp ha with h1 | h1 | h1 | h1 | ⟨i, hi, h1 | h1 | h1⟩
  · exact .inr (D_iff.mpr (.inl h1))
  · exact .inr (D_iff.mpr (.inr (.inl h1)))
  · exact .inr (D_iff.mpr (.inr (.inr (.inl h1))))
  · exact .inr (D_iff.mpr (.inr (.inr (.inr (.inl h1)))))
  · exact .inr (h1 ▸ D_dj F _ hi)
  · by_cases e : i = j
    · rw [e, updN_self] at h1; exact .inl h1
    · rw [updN_ne _ _ e] at h1; exact .inr (h1 ▸ D_lj F _ hi)
  · exact .inr (h1 ▸ D_hp F _ hi)
theorem nextD {F : Fix} {lj : Nat → Addr} {h : Heap} {j : Nat} (hj : j < 3) {l' : Addr} (hl : l' = lj j ∨ h.objs.size ≤ l') : ∀ a ∈ F.D (updN lj j l'), a ∈ F.D lj ∨ h.objs.size ≤ a := fun a ha => by
  rcases newD a ha with rfl | q
  · rcases hl with hl | hl
    · exact .inl (hl ▸ D_lj F _ hj)
    · exact .inr hl
  · exact .inl q
theorem RunInv.subG (V : RunInv prog w p loose mean mg mb name F h S) {h' : Heap} {j : Nat} (hj : j < 3) {l' : Addr} (k : Keeps [F.ru, S.lj j, 114, F.hp j, F.hd, F.dj j] h h') (hl : l' = S.lj j ∨ h.objs.size ≤ l') : Sub (F.G h S.lj) (F.G h' (updN S.lj j l')) := by
  refine base_next k (fun a ha => memM (memJ F _ hj a ha)) fun a ha => ?_
  rcases List.mem_append.mp ha with ha | ha
  · exact (nextD hj hl a ha).imp_left memM
  · exact .inl (List.mem_append_right _ ha)

theorem RunInv.turn (V : RunInv prog w p loose mean mg mb name F h S) {h' : Heap} {j : Nat} (hj : j < 3) {l' : Addr} (k : Keeps [F.ru, S.lj j, 114, F.hp j, F.hd, F.dj j] h h') (hl : l' = S.lj j ∨ h.objs.size ≤ l')
    {us' ux ls' hv' hds' : List Value} {rules' rx rs' : List RD} {c1' : Option Addr} (hus : us' = S.us ++ ux) (hrx : rules' = S.rules ++ rx)
    (hdj : ∃ ds n, h'.get? (F.dj j) = some (dictOf ds n) ∧ EntsAre w ds (recL (F.uj j) l')) (hlj : ∃ n, h'.get? l' = some (W.listOf ls'.toArray n)) (hru : ∃ n, h'.get? F.ru = some (W.listOf us'.toArray n))
    (hhp : ∃ n, h'.get? (F.hp j) = some (W.listOf hv'.toArray n)) (hhd : ∃ n, h'.get? F.hd = some (W.listOf hds'.toArray n)) (ht1 : h'.get? 114 = some (tabOf c1'))
    (hcode : ∀ c, c1' = some c → (F.G h' (updN S.lj j l')).CodeRec (.ref c) "_law_come.<locals>.<lambda>") (hrules : ∀ c, c1' = some c → RulesAt prog w (F.G h' (updN S.lj j l')) c us' rules') (hnoc : c1' = none → us' = [] ∧ rules' = [])
    (hidx : ∀ (i : Nat) (r : RD), rules'[i]? = some r → r.i = i) (hnd : us'.Nodup) (hrsub : ∀ r ∈ rs', rules'[r.i]? = some r) (hlsv : ls' = rs'.map fun r => us'.getD r.i .none) (hsort : rs'.Pairwise fun x y => x.i < y.i)
    (hki : KeysIn (F.G h' (updN S.lj j l')) hv') (hks : (hv'.map (keyV (F.G h' (updN S.lj j l')))).Perm (rs'.map (keyOf name j))) (hor : HOL klt 0 (hv'.map (keyV h'))) (hhs : hds'.Perm (headsOf F (liveOf (updN S.hv j hv')))) (hho : HOL kllt 0 (hds'.map (keysV h'))) :
    RunInv prog w p loose mean mg mb name F h' (S.turn j l' us' rules' ls' rs' hv' hds' c1') := by
  have sub := V.subG hj k hl
  have A := V.apart
  have gsub : Sub (F.G h' (updN S.lj j l')) h' := fun b o e => of_hideAll _ e
  have hri : ∀ i, i < 3 → ∀ r ∈ S.rs i, r.i < S.us.length := fun i hi r hr => by
    have := V.rsub i hi r hr
    rw [V.len]
    rcases Nat.lt_or_ge r.i S.rules.length with q | q
    · exact q
    · rw [List.getElem?_eq_none q] at this; cases this
  have kd : ∀ i, i < 3 → i ≠ j → ∀ o, h.get? (F.dj i) = some o → h'.get? (F.dj i) = some o := fun i hi hij o e => by
    refine k _ _ ?_ e
    have q := A.pdj i hi
    simp only [List.mem_cons, List.not_mem_nil, or_false, not_or]
    exact ⟨q.1, A.pdl i j hi hj, q.2.1, A.pdh i j hi hj, q.2.2.2, A.pdd i j hi hj hij⟩
  have kl : ∀ i, i < 3 → i ≠ j → ∀ o, h.get? (S.lj i) = some o → h'.get? (S.lj i) = some o := fun i hi hij o e => by
    refine k _ _ ?_ e
    have q := A.plj i hi
    simp only [List.mem_cons, List.not_mem_nil, or_false, not_or]
    exact ⟨q.1, A.pll i j hi hj hij, q.2.1, A.plh i j hi hj, q.2.2.2, (A.pdl j i hj hi).symm⟩
  have kh : ∀ i, i < 3 → i ≠ j → ∀ o, h.get? (F.hp i) = some o → h'.get? (F.hp i) = some o := fun i hi hij o e => by
    refine k _ _ ?_ e
    have q := A.php i hi
    simp only [List.mem_cons, List.not_mem_nil, or_false, not_or]
    exact ⟨q.1, (A.plh j i hj hi).symm, q.2.1, A.phh i j hi hj hij, q.2.2.2, (A.pdh j i hj hi).symm⟩
  refine
    { X := V.X.keeps sub
      T := V.T.keeps sub
      C1 := V.C1.keeps sub
      C2 := V.C2.keeps sub
      ra := sub _ _ V.ra
      ha := sub _ _ V.ha
      ej := fun i hi => sub _ _ (V.ej i hi)
      uj := fun i hi => let ⟨n, e⟩ := V.uj i hi; ⟨n, sub _ _ e⟩
      dj := fun i hi => ?_
      lj := fun i hi => ?_
      ru := hru
      hp := fun i hi => ?_
      hd := hhd
      t1 := ht1
      t2 := k _ _ ?_ V.t2
      code1 := hcode
      code2 := fun c e => (V.code2 c e).keeps sub
      apart := apt_upd A (fun a ha => V.ltM a (memM ha)) hl
      rules := hrules
      noc := hnoc
      idx := hidx
      nodup := hnd
      rsub := fun i hi => ?_
      lsv := fun i hi => ?_
      sorted := fun i hi => ?_
      keysIn := fun i hi => ?_
      keys := fun i hi => ?_
      ord := fun i hi => ?_
      heads := hhs
      hord := hho
      hname := V.hname
      xat := fun a ha => let ⟨o, e⟩ := V.xat a ha; ⟨o, k _ _ (fun q => V.off a ha (memJ F _ hj a q)) e⟩
      off := fun a ha q => ?_ }
  · by_cases e : i = j
    · subst e
      dsimp only
      rw [updN_self]; exact hdj
    · dsimp only
      rw [updN_ne _ _ e]
      obtain ⟨ds, n, e1, e2⟩ := V.dj i hi
      exact ⟨ds, n, kd i hi e _ e1, e2⟩
  · by_cases e : i = j
    · subst e
      dsimp only
      rw [updN_self, updN_self]; exact hlj
    · dsimp only
      rw [updN_ne _ _ e, updN_ne _ _ e]
      obtain ⟨n, e1⟩ := V.lj i hi
      exact ⟨n, kl i hi e _ e1⟩
  · by_cases e : i = j
    · subst e
      dsimp only
      rw [updN_self]; exact hhp
    · dsimp only
      rw [updN_ne _ _ e]
      obtain ⟨n, e1⟩ := V.hp i hi
      exact ⟨n, kh i hi e _ e1⟩
  · simp only [List.mem_cons, List.not_mem_nil, or_false, not_or]
    exact ⟨A.pru.2.1.symm, (A.plj j hj).2.2.1.symm, by decide, (A.php j hj).2.2.1.symm, A.phd.2.symm, (A.pdj j hj).2.2.1.symm⟩
  · by_cases e : i = j
    · subst e
      dsimp only
      rw [updN_self]; exact hrsub
    · dsimp only
      rw [updN_ne _ _ e, hrx]
      intro r hr
      have hlt := hri i hi r hr
      rw [List.getElem?_append_left (by rw [← V.len]; exact hlt)]
      exact V.rsub i hi r hr
  · by_cases e : i = j
    · subst e
      dsimp only
      rw [updN_self, updN_self]; exact hlsv
    · dsimp only
      rw [updN_ne _ _ e, updN_ne _ _ e, hus, V.lsv i hi]
      refine List.map_congr_left fun r hr => ?_
      rw [List.getD_eq_getElem?_getD, List.getD_eq_getElem?_getD, List.getElem?_append_left (hri i hi r hr)]
  · by_cases e : i = j
    · subst e
      dsimp only
      rw [updN_self]; exact hsort
    · dsimp only
      rw [updN_ne _ _ e]; exact V.sorted i hi
  · by_cases e : i = j
    · subst e
      dsimp only
      rw [updN_self]; exact hki
    · dsimp only
      rw [updN_ne _ _ e]; exact (V.keysIn i hi).keeps sub
  · by_cases e : i = j
    · subst e
      dsimp only
      rw [updN_self, updN_self]; exact hks
    · dsimp only
      rw [updN_ne _ _ e, updN_ne _ _ e, (V.keysIn i hi).keyV_keeps sub]; exact V.keys i hi
  · by_cases e : i = j
    · subst e
      dsimp only
      rw [updN_self, ← hki.keyV_keeps gsub]; exact hor
    · dsimp only
      rw [updN_ne _ _ e, (V.keysIn i hi).keyV_keeps sub]; exact V.ord i hi
  · rcases nextD hj hl a q with q | q
    · exact V.off a ha q
    · obtain ⟨o, e⟩ := V.xat a ha
      exact Nat.lt_irrefl _ (Nat.lt_of_lt_of_le (Heap.lt_size e) q)
end
theorem lay_Q5 : True := by
  k_with_none
  w_top off
  exact True.intro
/-- how a step goes on -/
def Next (prog : Program) (w : World) (p : Program) (loose : List Str) (mean : ExcName → Option Value) (mg mb : Str → Option Value) (name : Str) (F : Fix) (h : Heap) (S : St) (h' : Heap) : Prop :=
  ∃ S' : St, RunInv prog w p loose mean mg mb name F h' S' ∧ S'.us.length ≤ S.us.length + 1 ∧ (S.c1 ≠ none → S'.c1 ≠ none) ∧ (∀ a ∈ F.D S'.lj, a ∈ F.D S.lj ∨ h.objs.size ≤ a) ∧ Keeps (F.D S.lj) h h'
theorem es_get {f : Nat → Addr} {j : Nat} (hj : j < 3) : [Value.ref (f 0), .ref (f 1), .ref (f 2)].getD j .none = .ref (f j) := by
  obtain rfl | rfl | rfl : j = 0 ∨ j = 1 ∨ j = 2 := by (first | lia | omega)
  all_goals rfl
theorem range_big {h h' : Heap} {a : Addr} {o : Obj} {l : List Addr} (e : (hideAll h' (l ++ List.range h.objs.size)).get? a = some o) : h.objs.size ≤ a := by
  rcases Nat.lt_or_ge a h.objs.size with lt | ge
  · rw [hideAll_none _ (List.mem_append_right _ (List.mem_range.mpr lt))] at e; cases e
  · exact ge
section
variable {prog : Program} {w : World} {p : Program} {loose : List Str} {mean : ExcName → Option Value} {mg mb : Str → Option Value} {name : Str} {F : Fix} {h : Heap} {S : St}
theorem RunInv.come (V : RunInv prog w p loose mean mg mb name F h S) {h' H2 : Heap} {lj' : Nat → Addr} (sub : Sub (F.G h S.lj) (F.G h' lj')) (sub2 : Sub H2 (F.G h' lj')) {j : Nat} {r : Int} {c' x al t : Addr} (z : NewRule prog w name S.us j r S.c1 c' x al t H2) (hc1 : ∀ c, S.c1 = some c → c' = c)
    (big : ∀ a o, H2.get? a = some o → h.objs.size ≤ a) :
    RulesAt prog w (F.G h' lj') c' (S.us ++ [Value.ref x]) (S.rules ++ [newRD S.us.length al r]) ∧ (F.G h' lj').CodeRec (.ref c') "_law_come.<locals>.<lambda>" ∧ (S.us ++ [Value.ref x]).Nodup ∧ KeyAt (F.G h' lj') (.ref t) (keyOf name j (newRD S.us.length al r)) := by
  obtain ⟨z1, z2, z3⟩ := id z
  refine ⟨?_, ?_, ?_, ?_⟩
  · refine rulesAt_snoc ?_ V.len (z1.keeps sub2)
    cases e : S.c1 with
    | none => rw [(V.noc e).1, (V.noc e).2]; exact .nil
    | some c => rw [hc1 c e]; exact (V.rules c e).keeps sub
  · cases e : S.c1 with
    | none => exact (z3 e).keeps sub2
    | some c => rw [hc1 c e]; exact (V.code1 c e).keeps sub
  · refine nodup_snoc V.nodup fun hm => ?_
    obtain ⟨i, hi, e⟩ := List.getElem_of_mem hm
    obtain ⟨y, d, e1, e2⟩ := V.inst hi
    have e3 : Value.ref x = .ref y := e.symm.trans (Eq.trans (by rw [List.getD_eq_getElem?_getD, List.getElem?_eq_getElem hi, Option.getD_some]) e1)
    injection e3 with e1
    obtain ⟨d', ed⟩ := z.inst
    have b1 := big _ _ ed
    have b2 := Heap.lt_size (of_hideAll _ e2)
    rw [← e1] at b2
    exact Nat.lt_irrefl _ (Nat.lt_of_lt_of_le b2 b1)
  · rw [keyOf_new]; exact z2.keeps sub2
theorem RunInv.hplen (V : RunInv prog w p loose mean mg mb name F h S) {j : Nat} (hj : j < 3) : (S.hv j).length ≤ S.us.length := by
  rw [V.hvlen hj]; exact V.rslen hj
theorem RunInv.lslen (V : RunInv prog w p loose mean mg mb name F h S) {j : Nat} (hj : j < 3) : (S.ls j).length ≤ S.us.length := by
  rw [V.lsv j hj, List.length_map]; exact V.rslen hj
theorem RunInv.rlt (V : RunInv prog w p loose mean mg mb name F h S) {i : Nat} (hi : i < 3) : ∀ r ∈ S.rs i, r.i < S.us.length := fun r hr => by
  have := V.rsub i hi r hr
  rw [V.len]
  rcases Nat.lt_or_ge r.i S.rules.length with q | q
  · exact q
  · rw [List.getElem?_eq_none q] at this; cases this
/-- a head, in a base that hides at most the j-th heap -/
theorem RunInv.headG (V : RunInv prog w p loose mean mg mb name F h S) {B : List Addr} (hB : ∀ a ∈ B, a ∈ F.D S.lj) {i : Nat} (hi : i < 3) (hn : F.hp i ∉ B) : HeadG (hideAll h B) (.ref (F.hp i)) := by
  obtain ⟨n, e⟩ := V.hp i hi
  exact ⟨F.hp i, S.hv i, n, rfl, hideAll_get _ e hn, (V.keysIn i hi).keeps (base_D hB)⟩
theorem RunInv.heads_out (V : RunInv prog w p loose mean mg mb name F h S) {B : List Addr} (hB : ∀ a ∈ B, a ∈ F.D S.lj) {j : Nat} (hj : j < 3) (hn : ∀ i, i < 3 → i ≠ j → F.hp i ∉ B) : ∀ v ∈ S.hds, v = .ref (F.hp j) ∨ HeadG (hideAll h B) v := fun v hv => by
  obtain ⟨i, hi, rfl, -⟩ := V.hdsRef v hv
  by_cases e : i = j
  · exact .inl (by rw [e])
  · exact .inr (V.headG hB hi (hn i hi e))
theorem RunInv.live (V : RunInv prog w p loose mean mg mb name F h S) {j : Nat} (hj : j < 3) (h : Value.ref (F.hp j) ∈ S.hds) : S.hv j ≠ [] := by
  obtain ⟨i, hi, e, hne⟩ := V.hdsRef _ h
  injection e with e
  by_cases q : j = i
  · rw [q]; exact hne
  · exact absurd e (V.apart.phh j i hj hi q)
theorem RunInv.gsub (_ : RunInv prog w p loose mean mg mb name F h S) : Sub (F.G h S.lj) h := fun b o e => of_hideAll _ e

theorem RunInv.push_step (V : RunInv prog w p loose mean mg mb name F h S) {A : Around} {R : Result → Shared → Prop} {s : Shared} {n : Int} {tn tm : Tok} (hs : s.heap = h) (hroom : A.depth < 800) (hu : A.units < 100) (hh : A.handled = none) (hul : S.us.length ≤ 50) (hn : n % 10 ≤ 5)
    (post : ∀ h' tk, Next prog w p loose mean mg mb name F h S h' → (∃ S', RunInv prog w p loose mean mg mb name F h' S' ∧ S'.us.length ≤ S.us.length + 1 ∧ S'.c1 ≠ none ∧ (∀ a ∈ F.D S'.lj, a ∈ F.D S.lj ∨ h.objs.size ≤ a)) → R (.ok (.ret (.bool true))) { s with heap := h', toks := tk }) :
    codeAny (model prog w) A (.call (.ref 129) ⟨[.ref F.ra, .ref F.ha, .ref F.hd, .ref F.ru, .int n tn, .str name tm], []⟩) R s := by
  subst hs
  obtain ⟨j, ej⟩ : ∃ j : Nat, n % 10 % 3 = (j : Int) := ⟨(n % 10 % 3).toNat, by (first | lia | omega)⟩
  have hj : j < 3 := by (first | lia | omega)
  have A' := V.apart
  have hB : ∀ a ∈ [F.ru, S.lj j, 114, F.hp j, F.hd], a ∈ F.D S.lj := fun a ha => by
    simp only [List.mem_cons, List.not_mem_nil, or_false] at ha
    rcases ha with rfl | rfl | rfl | rfl | rfl
    · simp
    · exact D_lj F _ hj
    · simp
    · exact D_hp F _ hj
    · simp
  have sb := base_D (h := s.heap) hB
  obtain ⟨n1, e1⟩ := V.ru
  obtain ⟨n2, e2⟩ := V.lj j hj
  obtain ⟨n3, e3⟩ := V.hp j hj
  obtain ⟨n4, e4⟩ := V.hd
  obtain ⟨ds, n6, e6, e6'⟩ := V.dj j hj
  have p1 := A'.plj j hj
  have p2 := A'.php j hj
  have p3 := A'.pdj j hj
  have hhp : ∀ i, i < 3 → i ≠ j → F.hp i ∉ [F.ru, S.lj j, 114, F.hp j, F.hd] := fun i hi hij => by
    have q := A'.php i hi
    simp only [List.mem_cons, List.not_mem_nil, or_false, not_or]
    exact ⟨q.1, (A'.plh j i hj hi).symm, q.2.1, A'.phh i j hi hj hij, q.2.2.2⟩
  have hH := V.heads_out hB hj hhp
  refine push_code (hv := S.hv j) (hds := S.hds) (ls := S.ls j) (us := S.us) (lst := recL (F.uj j) (S.lj j)) (ej := F.ej j) (dj := F.dj j) (hj := F.hp j) (lj := S.lj j) (tab := S.c1) (V.X.keeps sb) (V.T.keeps sb) (V.C1.keeps sb) hroom hu hh e1 e2 V.t1 e3 e4 (sb _ _ V.ra) (sb _ _ V.ha) ⟨sb _ _ (V.ej j hj), ds, n6, hideAll_get _ e6 ?_, e6'⟩ rfl hn rfl rfl (by rw [ej, Int.toNat_natCast]; exact es_get hj) (by rw [ej, Int.toNat_natCast]; exact es_get hj)
    p1.1.symm A'.pru.1 p2.1.symm A'.pru.2.2 p1.2.1 (A'.plh j j hj hj) p1.2.2.2 p2.2.1 A'.phd.1 p2.2.2.2 (by (first | lia | omega)) (by have := V.lslen hj; (first | lia | omega)) (by have := V.hplen hj; (first | lia | omega)) (by have := V.hdslen; (first | lia | omega)) V.hname
    ((V.keysIn j hj).keeps sb) hH (by rw [(V.keysIn j hj).keyV_keeps sb]; exact V.ord j hj) ?_ ?_
  · simp only [List.mem_cons, List.not_mem_nil, or_false, not_or]
    exact ⟨p3.1, A'.pdl j j hj hj, p3.2.1, A'.pdh j j hj hj, p3.2.2.2⟩
  · intro hve
    have hno : Value.ref (F.hp j) ∉ S.hds := fun q => V.live hj q hve
    refine ⟨?_, hno⟩
    rw [List.map_congr_left (g := keysV s.heap) fun v hv => (((hH v hv).resolve_left fun e => hno (e ▸ hv)).keysV (h := s.heap) fun b o e => of_hideAll _ e).symm]
    exact V.hord
  intro h' tk x al t c' hv' hds' k1 k2 k q1 q2 q3 q4 q5 q6 q7 q8 q9 hc1 z
  rw [ej] at z
  have kJ : Keeps [F.ru, S.lj j, 114, F.hp j, F.hd, F.dj j] s.heap h' := fun b o hb => k b o fun q => hb (List.mem_append_left [F.dj j] q)
  have kM : Keeps (F.D S.lj) s.heap h' := fun b o hb => k b o fun q => hb (hB b q)
  have sub := V.subG hj kJ (.inl rfl)
  have lts := V.ltM
  have sub2 : Sub (hideAll h' (List.range s.heap.objs.size)) (F.G h' (updN S.lj j (S.lj j))) := base_sub fun a ha => by
    rw [updN_same] at ha
    exact List.mem_range.mpr (lts a ha)
  obtain ⟨c1, c2, c3, c4⟩ := V.come sub sub2 z hc1 fun a o e => range_big (l := []) e
  have hl6 : hv'.length = (S.hv j).length + 1 := by rw [q5.length_eq]; simp
  have ki := (((V.keysIn j hj).keeps sub).append c4.in).perm q5
  have W : RunInv prog w p loose mean mg mb name F h' (S.turn j (S.lj j) (S.us ++ [.ref x]) (S.rules ++ [newRD S.us.length al (n / 10)]) (S.ls j ++ [.ref x]) (S.rs j ++ [newRD S.us.length al (n / 10)]) hv' hds' (some c')) := by
    refine V.turn hj kJ (.inl rfl) rfl rfl ⟨ds, n6, k _ _ ?_ e6, e6'⟩ ⟨_, q2⟩ ⟨_, q1⟩ ⟨_, q4⟩ ⟨_, q7⟩ q3 (fun c e => by injection e with e; rw [← e]; exact c2) (fun c e => by injection e with e; rw [← e]; exact c1) (fun e => nomatch e)
      (idx_snoc V.len V.idx _ rfl) c3 (rsub_snoc V.len (V.rsub j hj) _ rfl) (lsv_snoc (V.rlt hj) (V.lsv j hj) _ _ rfl) (sorted_snoc V.len (V.rsub j hj) (V.sorted j hj) _ rfl) ki ?_ q6 ?_ q9
    · simp only [List.mem_cons, List.not_mem_nil, or_false, not_or]
      exact ⟨p3.1, A'.pdl j j hj hj, p3.2.1, A'.pdh j j hj hj, p3.2.2.2⟩
    · refine (q5.map _).trans ?_
      rw [List.map_append, List.map_append, (V.keysIn j hj).keyV_keeps sub, List.map_cons, List.map_nil, c4.keyV]
      exact (V.keys j hj).append (.refl _)
    · refine q8.trans ?_
      rw [live_upd, show (!hv'.isEmpty) = true by cases hv' with
        | nil => simp at hl6
        | cons => rfl]
      by_cases hve : S.hv j = []
      · rw [if_pos hve]
        exact (V.heads.append (.refl _)).trans (heads_add F _ hj (by show (!(S.hv j).isEmpty) = false; rw [hve]; rfl))
      · rw [if_neg hve, show (true : Bool) = liveOf S.hv j by show true = (!(S.hv j).isEmpty); cases e : S.hv j with
          | nil => exact absurd e hve
          | cons => rfl, updN_same]
        exact V.heads
  have hM : ∀ a ∈ F.D (updN S.lj j (S.lj j)), a ∈ F.D S.lj ∨ s.heap.objs.size ≤ a := fun a ha => by rw [updN_same] at ha; exact .inl ha
  have hul' : (S.us ++ [Value.ref x]).length ≤ S.us.length + 1 := by simp
  exact post h' tk ⟨_, W, hul', (fun _ e => nomatch e), hM, kM⟩ ⟨_, W, hul', (fun e => nomatch e), hM⟩
end
theorem lay_Q6 : True := by
  k_with_none
  w_top off
  exact True.intro
theorem empty_len {α : Type} {a b : List α} (h : a.length = b.length) : (!a.isEmpty) = (!b.isEmpty) := by
  cases a with
  | nil => cases b with
    | nil => rfl
    | cons => cases h
  | cons => cases b with
    | nil => cases h
    | cons => rfl
section
variable {prog : Program} {w : World} {p : Program} {loose : List Str} {mean : ExcName → Option Value} {mg mb : Str → Option Value} {name : Str} {F : Fix} {h : Heap} {S : St}
theorem Apt.hpJ {lj : Nat → Addr} (A : Apt F lj) {j : Nat} (hj : j < 3) : ∀ i, i < 3 → i ≠ j → F.hp i ∉ [F.ru, lj j, 114, F.hp j, F.hd, F.dj j] := fun i hi hij => by
  have q := A.php i hi
  simp only [List.mem_cons, List.not_mem_nil, or_false, not_or]
  exact ⟨q.1, (A.plh j i hj hi).symm, q.2.1, A.phh i j hi hj hij, q.2.2.2, (A.pdh j i hj hi).symm⟩
/-- the record's rules and the new one -/
theorem RunInv.refs (V : RunInv prog w p loose mean mg mb name F h S) {j : Nat} (hj : j < 3) (ux : List Value) : ∀ r ∈ S.rs j, ∃ a, (S.us ++ ux).getD r.i .none = .ref a := fun r hr => by
  obtain ⟨x, d, e, -⟩ := V.inst (V.rlt hj r hr)
  exact ⟨x, (getD_append _ (V.rlt hj r hr)).trans e⟩
/-- behind a step in which one comes and one goes -/
theorem RunInv.swap (V : RunInv prog w p loose mean mg mb name F h S) {h' : Heap} {j : Nat} (hj : j < 3) {l' : Addr} (k : Keeps [F.ru, S.lj j, 114, F.hp j, F.hd, F.dj j] h h') (hl : h.objs.size ≤ l') {r : Int} {c' x al t xk : Addr} {v : Value} {hv' hds' : List Value} {es' : List DictEntry} {k0 k1 k2 k3 k4 : Nat}
    (q1 : h'.get? F.ru = some (W.listOf (S.us ++ [Value.ref x]).toArray k0)) (q2 : h'.get? (F.dj j) = some (dictOf es' k3)) (q3 : EntsAre w es' (recL (F.uj j) l')) (q4 : (S.us ++ [Value.ref x]).getD ((keyV h' v).getD 3 0).natAbs .none = .ref xk)
    (q5 : h'.get? l' = some (W.listOf ((S.ls j ++ [Value.ref x]).filter (refNe xk)).toArray k4)) (q6 : h'.get? 114 = some (tabOf (some c'))) (q7 : h'.get? (F.hp j) = some (W.listOf hv'.toArray k1)) (q8 : (v :: hv').Perm (.ref t :: S.hv j)) (q9 : HOL klt 0 (hv'.map (keyV h')))
    (q10 : h'.get? F.hd = some (W.listOf hds'.toArray k2)) (q11 : hds'.Perm S.hds) (q12 : HOL kllt 0 (hds'.map (keysV h'))) (hc1 : ∀ c, S.c1 = some c → c' = c) (z : NewRule prog w name S.us j r S.c1 c' x al t (hideAll h' (l' :: List.range h.objs.size))) :
    Next prog w p loose mean mg mb name F h S h' := by
  have sub := V.subG hj k (.inr hl)
  have lts := V.ltM
  have sub2 : Sub (hideAll h' (l' :: List.range h.objs.size)) (F.G h' (updN S.lj j l')) := base_sub fun a ha => by
    rcases List.mem_append.mp ha with ha | ha
    · rcases newD a ha with rfl | ha
      · exact .head _
      · exact .tail _ (List.mem_range.mpr (lts a (memM ha)))
    · exact .tail _ (List.mem_range.mpr (lts a (List.mem_append_right _ ha)))
  obtain ⟨c1, c2, c3, c4⟩ := V.come sub sub2 z hc1 fun a o e => range_big (l := [l']) e
  have gs : Sub (F.G h' (updN S.lj j l')) h' := fun b o e => of_hideAll _ e
  have ki0 : KeysIn (F.G h' (updN S.lj j l')) (.ref t :: S.hv j) := KeysIn.append (vs := [.ref t]) c4.in ((V.keysIn j hj).keeps sub)
  have ki1 := ki0.perm q8
  have ki : KeysIn (F.G h' (updN S.lj j l')) hv' := fun u hu => ki1 u (.tail _ hu)
  have ev : keyV h' v = keyV (F.G h' (updN S.lj j l')) v := ((ki1 v (.head _)).keeps gs).keyV
  rw [ev] at q4
  have hk0 : (keyV (F.G h' (updN S.lj j l')) v :: hv'.map (keyV (F.G h' (updN S.lj j l')))).Perm ((S.rs j ++ [newRD S.us.length al r]).map (keyOf name j)) := by
    refine (q8.map (keyV (F.G h' (updN S.lj j l')))).trans ?_
    rw [List.map_cons, c4.keyV, (V.keysIn j hj).keyV_keeps sub, List.map_append]
    exact ((V.keys j hj).cons _).trans (List.perm_append_comm (l₁ := [keyOf name j (newRD S.us.length al r)]))
  have hsort := sorted_snoc V.len (V.rsub j hj) (V.sorted j hj) (newRD S.us.length al r) rfl
  have hlt1 : ∀ q ∈ S.rs j ++ [newRD S.us.length al r], q.i < (S.us ++ [Value.ref x]).length := fun q hq => by
    rw [List.length_append]
    rcases List.mem_append.mp hq with hq | hq
    · have := V.rlt hj q hq
      (first | lia | omega)
    · rw [List.mem_singleton.mp hq]; simp
  obtain ⟨rg, hrg, eg, fg, pg⟩ := go_plain c3 hsort hlt1 (fun q hq => by
    rcases List.mem_append.mp hq with hq | hq
    · exact V.refs hj _ q hq
    · rw [List.mem_singleton.mp hq]
      exact ⟨x, by simp⟩) hk0 q4
  have hls := lsv_snoc (V.rlt hj) (V.lsv j hj) (Value.ref x) (newRD S.us.length al r) rfl
  have W := V.turn hj k (.inr hl) (ux := [Value.ref x]) (rx := [newRD S.us.length al r]) (rs' := (S.rs j ++ [newRD S.us.length al r]).filter fun q => decide (q.i ≠ rg.i)) rfl rfl ⟨_, _, q2, q3⟩ ⟨_, q5⟩ ⟨_, q1⟩ ⟨_, q7⟩ ⟨_, q10⟩ q6
    (fun c e => by injection e with e; rw [← e]; exact c2) (fun c e => by injection e with e; rw [← e]; exact c1) (fun e => nomatch e) (idx_snoc V.len V.idx _ rfl) c3 (fun q hq => rsub_snoc V.len (V.rsub j hj) _ rfl q (List.mem_filter.mp hq).1)
    (by rw [hls]; exact fg) (hsort.filter _) ki pg q9 ?_ q12
  · exact ⟨_, W, by simp, (fun _ e => nomatch e), nextD hj (.inr hl), fun b o hb => k b o fun q => hb (memJ F _ hj b q)⟩
  · refine q11.trans ?_
    have hlen : hv'.length = (S.hv j).length := by
      have := q8.length_eq
      simpa using this
    rw [live_upd, show (!hv'.isEmpty) = liveOf S.hv j from empty_len hlen, updN_same]
    exact V.heads
theorem RunInv.pushpop_step (V : RunInv prog w p loose mean mg mb name F h S) {A : Around} {R : Result → Shared → Prop} {s : Shared} {n : Int} {tn tm : Tok} (hs : s.heap = h) (hroom : A.depth < 800) (hu : A.units < 100) (hh : A.handled = none) (hul : S.us.length ≤ 50) (hn : n % 10 = 9)
    (post : ∀ h' tk, Next prog w p loose mean mg mb name F h S h' → R (.ok (.ret (.bool true))) { s with heap := h', toks := tk }) :
    codeAny (model prog w) A (.call (.ref 129) ⟨[.ref F.ra, .ref F.ha, .ref F.hd, .ref F.ru, .int n tn, .str name tm], []⟩) R s := by
  subst hs
  obtain ⟨j, ej⟩ : ∃ j : Nat, n / 10 % 3 = (j : Int) := ⟨(n / 10 % 3).toNat, by (first | lia | omega)⟩
  have hj : j < 3 := by (first | lia | omega)
  have A' := V.apart
  have hB := memJ F S.lj hj
  have sb := base_D (h := s.heap) hB
  obtain ⟨n1, e1⟩ := V.ru
  obtain ⟨n2, e2⟩ := V.lj j hj
  obtain ⟨n3, e3⟩ := V.hp j hj
  obtain ⟨n4, e4⟩ := V.hd
  obtain ⟨ds, n6, e6, e6'⟩ := V.dj j hj
  have p1 := A'.plj j hj
  have p2 := A'.php j hj
  have p3 := A'.pdj j hj
  have hH := V.heads_out hB hj (A'.hpJ hj)
  have ejn : (n / 10 % 3).toNat = j := by (first | lia | omega)
  refine pushpop_code (hv := S.hv j) (hds := S.hds) (ls := S.ls j) (us := S.us) (uj := F.uj j) (ej := F.ej j) (dj := F.dj j) (hj := F.hp j) (lj := S.lj j) (tab := S.c1) (V.X.keeps sb) (V.T.keeps sb) (V.C1.keeps sb) hroom hu hh e1 e2 V.t1 e3 e4 e6 (sb _ _ V.ra) (sb _ _ V.ha) (sb _ _ (V.ej j hj)) e6' hn rfl rfl (by rw [ejn]; exact es_get hj) (by rw [ejn]; exact es_get hj)
    p1.1.symm A'.pru.1 p2.1.symm A'.pru.2.2 p1.2.1 (A'.plh j j hj hj) p1.2.2.2 p2.2.1 A'.phd.1 p2.2.2.2 p3.1.symm (A'.pdl j j hj hj).symm p3.2.1 (A'.pdh j j hj hj).symm p3.2.2.2.symm (by (first | lia | omega)) (by have := V.lslen hj; (first | lia | omega)) (by have := V.hplen hj; (first | lia | omega)) (by have := V.hdslen; (first | lia | omega)) V.hname
    (fun v hv => by rw [ejn]; exact (V.keyTo hj v hv).keeps sb) ((V.rulesIn hj).keeps sb) hH (by rw [(V.keysIn j hj).keyV_keeps sb]; exact V.ord j hj) ?_
  intro h' tk x al t c' l' xk hv' hds' v es' k1 k2 k3 k4 k q1 q2 q3 q4 q5 q6 q7 q8 q9 q10 q11 q12 q13 q14 hc1 z
  rw [ej] at z
  exact post h' tk (V.swap hj k q4 q1 q2 q3 q5 q6 q7 q8 q9 q10 q12 q13 q14 hc1 z)
end
theorem lay_Q7 : True := by
  k_with_none
  w_top off
  exact True.intro
theorem kllt_first {a b : List Int} {r q : List (List Int)} (h : kllt (a :: r) (b :: q) = false) : klt a b = false := by
  unfold kllt at h
  rw [lexB_cons] at h
  by_cases e : a = b
  · rw [e]; exact linO_key.irr b
  · rw [if_neg e] at h; exact h
section
variable {prog : Program} {w : World} {p : Program} {loose : List Str} {mean : ExcName → Option Value} {mg mb : Str → Option Value} {name : Str} {F : Fix} {h : Heap} {S : St}
theorem RunInv.keysVh (V : RunInv prog w p loose mean mg mb name F h S) {i : Nat} (hi : i < 3) : keysV h (.ref (F.hp i)) = (S.hv i).map (keyV (F.G h S.lj)) := by
  obtain ⟨n, e⟩ := V.hp i hi
  rw [keysV_at e ((V.keysIn i hi).keeps V.gsub).at, (V.keysIn i hi).keyV_keeps V.gsub]
/-- the heap on top has the least key of all on top -/
theorem RunInv.top (V : RunInv prog w p loose mean mg mb name F h S) {v0 : Value} {dr : List Value} (e : S.hds = v0 :: dr) : ∃ j top hr, j < 3 ∧ v0 = .ref (F.hp j) ∧ S.hv j = top :: hr ∧ (∀ i, i < 3 → ∀ u ∈ S.hv i, klt (keyV (F.G h S.lj) u) (keyV (F.G h S.lj) top) = false) ∧ Value.ref (F.hp j) ∉ dr := by
  obtain ⟨j, hj, rfl, hne⟩ := V.hdsRef v0 (by rw [e]; exact .head _)
  obtain ⟨top, hr, et⟩ : ∃ a r, S.hv j = a :: r := by
    cases q : S.hv j with
    | nil => exact absurd q hne
    | cons a r => exact ⟨a, r, rfl⟩
  refine ⟨j, top, hr, hj, rfl, et, fun i hi u hu => ?_, fun hm => ?_⟩
  · obtain ⟨b, q, eb⟩ : ∃ b q, S.hv i = b :: q := by
      cases q : S.hv i with
      | nil => rw [q] at hu; cases hu
      | cons a r => exact ⟨a, r, rfl⟩
    have h1 : klt (keyV (F.G h S.lj) u) (keyV (F.G h S.lj) b) = false := by
      have ho := V.ord i hi
      rw [eb] at hu ho
      rw [List.map_cons] at ho
      exact HOL.top linO_key ho _ (by rw [← List.map_cons]; exact List.mem_map_of_mem hu)
    have hm : Value.ref (F.hp i) ∈ S.hds := V.heads.mem_iff.mpr (List.mem_map.mpr ⟨i, List.mem_filter.mpr ⟨by simp; (first | lia | omega), by rw [eb]; rfl⟩, rfl⟩)
    have ho := V.hord
    rw [e] at ho hm
    rw [List.map_cons] at ho
    have h2 := HOL.top linO_keys ho (keysV h (.ref (F.hp i))) (by rw [← List.map_cons]; exact List.mem_map_of_mem hm)
    rw [V.keysVh hi, V.keysVh hj, et, eb, List.map_cons, List.map_cons] at h2
    exact linO_key.trans _ _ _ (kllt_first h2) h1
  · have hp := V.heads
    rw [e] at hp
    have hp2 := hp.trans (heads_del F (liveOf S.hv) hj (by show (!(S.hv j).isEmpty) = true; rw [et]; rfl))
    have hm2 := hp2.cons_inv.mem_iff.mp hm
    unfold headsOf at hm2
    obtain ⟨i, hi, ei⟩ := List.mem_map.mp hm2
    injection ei with ei
    have hi3 : i < 3 := by
      have := (List.mem_filter.mp hi).1
      simp only [List.mem_cons, List.not_mem_nil, or_false] at this
      (first | lia | omega)
    by_cases q : i = j
    · have := (List.mem_filter.mp hi).2
      rw [q, updN_self] at this; cases this
    · exact V.apart.phh i j hi3 hj q ei
/-- what min over the heaps' items gives has the key on top -/
theorem RunInv.least (V : RunInv prog w p loose mean mg mb name F h S) {B : List Addr} (hB : ∀ a ∈ B, a ∈ F.D S.lj) {j : Nat} (hj : j < 3) {top : Value} {hr : List Value} (et : S.hv j = top :: hr) (hl : ∀ i, i < 3 → ∀ u ∈ S.hv i, klt (keyV (F.G h S.lj) u) (keyV (F.G h S.lj) top) = false) :
    KeysIn (hideAll h B) [S.hv 0, S.hv 1, S.hv 2].flatten ∧ [S.hv 0, S.hv 1, S.hv 2].flatten ≠ [] ∧ ∀ v, LeastIn (hideAll h B) [S.hv 0, S.hv 1, S.hv 2].flatten v → keyV (hideAll h B) v = keyV (hideAll h B) top := by
  have sb := base_D (h := h) hB
  have hi : ∀ u, u ∈ [S.hv 0, S.hv 1, S.hv 2].flatten → ∃ i, i < 3 ∧ u ∈ S.hv i := fun u hu => by
    simp only [List.flatten_cons, List.flatten_nil, List.append_nil, List.mem_append] at hu
    rcases hu with hu | hu | hu
    · exact ⟨0, by (first | lia | omega), hu⟩
    · exact ⟨1, by (first | lia | omega), hu⟩
    · exact ⟨2, by (first | lia | omega), hu⟩
  have hin : top ∈ [S.hv 0, S.hv 1, S.hv 2].flatten := by
    simp only [List.flatten_cons, List.flatten_nil, List.append_nil, List.mem_append]
    obtain rfl | rfl | rfl : j = 0 ∨ j = 1 ∨ j = 2 := by (first | lia | omega)
    all_goals simp [et]
  have kv : ∀ i, i < 3 → ∀ u ∈ S.hv i, keyV (hideAll h B) u = keyV (F.G h S.lj) u := fun i hi u hu => ((V.keysIn i hi u hu).keeps sb).keyV
  have kt := kv j hj top (by rw [et]; exact .head _)
  refine ⟨fun u hu => ?_, (fun q => by rw [q] at hin; cases hin), fun v hv => ?_⟩
  · obtain ⟨i, hi3, hu'⟩ := hi u hu
    exact (V.keysIn i hi3).keeps sb u hu'
  · obtain ⟨i, hi3, hv'⟩ := hi v hv.1
    have h1 := hv.2 top hin
    rw [kt, kv i hi3 v hv'] at h1 ⊢
    exact (linO_key.tri _ _ h1 (hl i hi3 v hv')).symm
theorem RunInv.wss (V : RunInv prog w p loose mean mg mb name F h S) {B : List Addr} {j : Nat} {top : Value} {hr : List Value} (et : S.hv j = top :: hr) (hn : ∀ i, i < 3 → i ≠ j → F.hp i ∉ B) :
    ∀ i, i < 3 → ∃ a, [Value.ref (F.hp 0), .ref (F.hp 1), .ref (F.hp 2)].getD i .none = .ref a ∧ ((a = F.hp j ∧ [S.hv 0, S.hv 1, S.hv 2].getD i [] = top :: hr) ∨ ∃ n, (hideAll h B).get? a = some (W.listOf ([S.hv 0, S.hv 1, S.hv 2].getD i []).toArray n)) := fun i hi => by
  have e : [S.hv 0, S.hv 1, S.hv 2].getD i [] = S.hv i := by
    obtain rfl | rfl | rfl : i = 0 ∨ i = 1 ∨ i = 2 := by (first | lia | omega)
    all_goals rfl
  refine ⟨F.hp i, es_get hi, ?_⟩
  rw [e]
  by_cases q : i = j
  · exact .inl ⟨by rw [q], by rw [q]; exact et⟩
  · obtain ⟨n, e⟩ := V.hp i hi
    exact .inr ⟨n, hideAll_get _ e (hn i hi q)⟩
theorem RunInv.flat (V : RunInv prog w p loose mean mg mb name F h S) (hul : S.us.length ≤ 50) : [S.hv 0, S.hv 1, S.hv 2].flatten.length ≤ 300 := by
  simp only [List.flatten_cons, List.flatten_nil, List.append_nil, List.length_append]
  have h0 := V.hplen (j := 0) (by (first | lia | omega))
  have h1 := V.hplen (j := 1) (by (first | lia | omega))
  have h2 := V.hplen (j := 2) (by (first | lia | omega))
  (first | lia | omega)
theorem RunInv.ord1 (V : RunInv prog w p loose mean mg mb name F h S) {B : List Addr} {j : Nat} {dr : List Value} (e : S.hds = .ref (F.hp j) :: dr) (hH : ∀ v ∈ dr, HeadG (hideAll h B) v) : HOL kllt 1 ((Value.ref (F.hp j) :: dr).map (keysV (hideAll h B))) := by
  have ho := HOL.mono V.hord (Nat.zero_le 1)
  rw [e, List.map_cons] at ho
  rw [List.map_cons, List.map_congr_left (g := keysV h) fun v hv => ((hH v hv).keysV (h := h) fun b o e => of_hideAll _ e).symm]
  exact ho.swap

theorem RunInv.replace_step (V : RunInv prog w p loose mean mg mb name F h S) {A : Around} {R : Result → Shared → Prop} {s : Shared} {n : Int} {tn tm : Tok} (hs : s.heap = h) (hroom : A.depth < 800) (hu : A.units < 100) (hh : A.handled = none) (hul : S.us.length ≤ 50) (hn : n % 10 = 8) (hne : S.hds ≠ [])
    (post : ∀ h' tk, Next prog w p loose mean mg mb name F h S h' → R (.ok (.ret (.bool true))) { s with heap := h', toks := tk }) :
    codeAny (model prog w) A (.call (.ref 129) ⟨[.ref F.ra, .ref F.ha, .ref F.hd, .ref F.ru, .int n tn, .str name tm], []⟩) R s := by
  subst hs
  obtain ⟨v0, dr, ed⟩ : ∃ a r, S.hds = a :: r := by
    cases q : S.hds with
    | nil => exact absurd q hne
    | cons a r => exact ⟨a, r, rfl⟩
  obtain ⟨j, top, hr, hj, rfl, et, hleast, hnd⟩ := V.top ed
  have A' := V.apart
  have hB := memJ F S.lj hj
  have sb := base_D (h := s.heap) hB
  obtain ⟨n1, e1⟩ := V.ru
  obtain ⟨n2, e2⟩ := V.lj j hj
  obtain ⟨n3, e3⟩ := V.hp j hj
  obtain ⟨n4, e4⟩ := V.hd
  obtain ⟨ds, n6, e6, e6'⟩ := V.dj j hj
  have p1 := A'.plj j hj
  have p2 := A'.php j hj
  have p3 := A'.pdj j hj
  have hH0 := V.heads_out hB hj (A'.hpJ hj)
  have hH : ∀ v ∈ dr, HeadG (hideAll s.heap [F.ru, S.lj j, 114, F.hp j, F.hd, F.dj j]) v := fun v hv => (hH0 v (by rw [ed]; exact .tail _ hv)).resolve_left fun e => hnd (e ▸ hv)
  obtain ⟨lk, ln, ll⟩ := V.least hB hj et hleast
  have hvl := V.hplen hj
  have hdl := V.hdslen
  rw [et] at e3 hvl
  rw [ed] at e4 hdl
  simp only [List.length_cons] at hvl hdl
  refine replace_code (top := top) (hr := hr) (dr := dr) (wss := [S.hv 0, S.hv 1, S.hv 2]) (jn := j) (ls := S.ls j) (us := S.us) (uj := F.uj j) (ej := F.ej j) (dj := F.dj j) (hj := F.hp j) (lj := S.lj j) (tab := S.c1) (V.X.keeps sb) (V.T.keeps sb) (V.C1.keeps sb) hroom hu hh e1 e2 V.t1 e3 e4 e6 (sb _ _ V.ra) (sb _ _ V.ha) (sb _ _ (V.ej j hj)) e6' hn rfl rfl hj (es_get hj) (es_get hj)
    p1.1.symm A'.pru.1 p1.2.1 p2.2.1 A'.phd.1 p3.2.1 V.hname p2.1.symm A'.pru.2.2 (A'.plh j j hj hj) p1.2.2.2 p2.2.2.2 p3.1.symm (A'.pdl j j hj hj).symm (A'.pdh j j hj hj).symm p3.2.2.2.symm (by (first | lia | omega)) (by have := V.lslen hj; (first | lia | omega)) (by (first | lia | omega)) (by (first | lia | omega))
    rfl (V.wss et (A'.hpJ hj)) (V.flat hul) ln lk ll (fun v hv => (V.keyTo hj v (by rw [et]; exact hv)).keeps sb) ((V.rulesIn hj).keeps sb) hH (by rw [← et, (V.keysIn j hj).keyV_keeps sb]; exact V.ord j hj) (V.ord1 ed hH) ?_
  intro h' tk x al t c' l' xk hv' hds' es' k1 k2 k3 k4 k q1 q2 q3 q4 q5 q6 q7 q8 q9 q10 q11 q12 q13 hc1 z
  refine post h' tk (V.swap hj k q4 q1 q2 q3 q5 q6 q7 q8 ?_ q10 q11 (by rw [ed]; exact q12) q13 hc1 z)
  rw [et]
  exact (q9.cons top).trans (.swap _ _ _)

theorem RunInv.pop_step (V : RunInv prog w p loose mean mg mb name F h S) {A : Around} {R : Result → Shared → Prop} {s : Shared} {n : Int} {tn tm : Tok} (hs : s.heap = h) (hroom : A.depth < 800) (hu : A.units < 100) (hh : A.handled = none) (hul : S.us.length ≤ 50) (hn : n % 10 = 6) (hne : S.hds ≠ [])
    (post : ∀ h' tk, Next prog w p loose mean mg mb name F h S h' → R (.ok (.ret (.bool true))) { s with heap := h', toks := tk }) :
    codeAny (model prog w) A (.call (.ref 129) ⟨[.ref F.ra, .ref F.ha, .ref F.hd, .ref F.ru, .int n tn, .str name tm], []⟩) R s := by
  subst hs
  obtain ⟨v0, dr, ed⟩ : ∃ a r, S.hds = a :: r := by
    cases q : S.hds with
    | nil => exact absurd q hne
    | cons a r => exact ⟨a, r, rfl⟩
  obtain ⟨j, top, hr, hj, rfl, et, hleast, hnd⟩ := V.top ed
  have A' := V.apart
  have hJ5 : ∀ a ∈ [F.ru, S.lj j, F.hp j, F.hd, F.dj j], a ∈ [F.ru, S.lj j, 114, F.hp j, F.hd, F.dj j] := fun a ha => by
    simp only [List.mem_cons, List.not_mem_nil, or_false] at ha ⊢
    rcases ha with ha | ha | ha | ha | ha
    · exact .inl ha
    · exact .inr (.inl ha)
    · exact .inr (.inr (.inr (.inl ha)))
    · exact .inr (.inr (.inr (.inr (.inl ha))))
    · exact .inr (.inr (.inr (.inr (.inr ha))))
  have hB : ∀ a ∈ [F.ru, S.lj j, F.hp j, F.hd, F.dj j], a ∈ F.D S.lj := fun a ha => memJ F S.lj hj a (hJ5 a ha)
  have hpn : ∀ i, i < 3 → i ≠ j → F.hp i ∉ [F.ru, S.lj j, F.hp j, F.hd, F.dj j] := fun i hi hij q => A'.hpJ hj i hi hij (hJ5 _ q)
  have sb := base_D (h := s.heap) hB
  obtain ⟨n1, e1⟩ := V.ru
  obtain ⟨n2, e2⟩ := V.lj j hj
  obtain ⟨n3, e3⟩ := V.hp j hj
  obtain ⟨n4, e4⟩ := V.hd
  obtain ⟨ds, n6, e6, e6'⟩ := V.dj j hj
  have p1 := A'.plj j hj
  have p2 := A'.php j hj
  have p3 := A'.pdj j hj
  have hH0 := V.heads_out hB hj hpn
  have hH : ∀ v ∈ dr, HeadG (hideAll s.heap [F.ru, S.lj j, F.hp j, F.hd, F.dj j]) v := fun v hv => (hH0 v (by rw [ed]; exact .tail _ hv)).resolve_left fun e => hnd (e ▸ hv)
  obtain ⟨lk, ln, ll⟩ := V.least hB hj et hleast
  have hvl := V.hplen hj
  have hdl := V.hdslen
  rw [et] at e3 hvl
  rw [ed] at e4 hdl
  simp only [List.length_cons] at hvl hdl
  refine pop_code (top := top) (hr := hr) (dr := dr) (wss := [S.hv 0, S.hv 1, S.hv 2]) (jn := j) (ls := S.ls j) (us := S.us) (uj := F.uj j) (ej := F.ej j) (dj := F.dj j) (hj := F.hp j) (lj := S.lj j) (V.X.keeps sb) (V.T.keeps sb) hroom hu hh e1 e2 e3 e4 e6 (sb _ _ V.ra) (sb _ _ V.ha) (sb _ _ (V.ej j hj)) e6' hn rfl rfl hj (es_get hj) (es_get hj)
    p1.1.symm p2.1.symm A'.pru.2.2 (A'.plh j j hj hj) p1.2.2.2 p2.2.2.2 p3.1.symm (A'.pdl j j hj hj).symm (A'.pdh j j hj hj).symm p3.2.2.2.symm (by (first | lia | omega)) (by have := V.lslen hj; (first | lia | omega)) (by (first | lia | omega)) (by (first | lia | omega))
    rfl (V.wss et hpn) (V.flat hul) ln lk ll (fun v hv => (V.keyTo hj v (by rw [et]; exact hv)).keeps sb) ((V.rulesIn hj).keeps sb) hH (by rw [← et, (V.keysIn j hj).keyV_keeps sb]; exact V.ord j hj) (V.ord1 ed hH) ?_
  intro h' tk l' xk hv' hds' es' k1 k2 k3 k4 k q1 q2 q3 hl q4 q5 q7 q8 q9 q10 q11 q12
  have kJ : Keeps [F.ru, S.lj j, 114, F.hp j, F.hd, F.dj j] s.heap h' := fun b o hb => k b o fun q => hb (hJ5 b q)
  have sub := V.subG hj kJ (.inr hl)
  have lts := V.ltM
  have gs : Sub (F.G h' (updN S.lj j l')) h' := fun b o e => of_hideAll _ e
  have ki0 := (V.keysIn j hj).keeps sub
  rw [et] at ki0
  have ki : KeysIn (F.G h' (updN S.lj j l')) hv' := fun u hu => ki0 u (.tail _ (q8.mem_iff.mp hu))
  have ev : keyV h' top = keyV (F.G h' (updN S.lj j l')) top := ((ki0 top (.head _)).keeps gs).keyV
  rw [ev] at q4
  have hk0 : (keyV (F.G h' (updN S.lj j l')) top :: hv'.map (keyV (F.G h' (updN S.lj j l')))).Perm ((S.rs j).map (keyOf name j)) := by
    refine ((q8.map (keyV (F.G h' (updN S.lj j l')))).cons _).trans ?_
    rw [← List.map_cons, ← et, (V.keysIn j hj).keyV_keeps sub]
    exact V.keys j hj
  obtain ⟨rg, hrg, eg, fg, pg⟩ := go_plain V.nodup (V.sorted j hj) (V.rlt hj) (fun q hq => by
    have := V.refs hj [] q hq
    rwa [List.append_nil] at this) hk0 q4
  have W := V.turn hj kJ (.inr hl) (us' := S.us) (rules' := S.rules) (ux := []) (rx := []) (c1' := S.c1) (rs' := (S.rs j).filter fun q => decide (q.i ≠ rg.i)) (by simp) (by simp) ⟨_, _, q2, q3⟩ ⟨_, q5⟩ ⟨_, q1⟩ ⟨_, q7⟩ ⟨_, q10⟩ (k _ _ ?_ V.t1)
    (fun c e => (V.code1 c e).keeps sub) (fun c e => (V.rules c e).keeps sub) V.noc V.idx V.nodup (fun q hq => V.rsub j hj q (List.mem_filter.mp hq).1)
    (by rw [V.lsv j hj]; exact fg) ((V.sorted j hj).filter _) ki pg q9 ?_ q12
  · exact post h' tk ⟨_, W, by show S.us.length ≤ _; (first | lia | omega), fun e => e, nextD hj (.inr hl), fun b o hb => k b o fun q => hb (hB b q)⟩
  · simp only [List.mem_cons, List.not_mem_nil, or_false, not_or]
    exact ⟨A'.pru.1.symm, p1.2.1.symm, p2.2.1.symm, A'.phd.1.symm, p3.2.1.symm⟩
  · refine q11.trans ?_
    have hp := V.heads
    rw [ed] at hp
    rw [live_upd]
    by_cases hre : hr = []
    · rw [if_pos hre]
      have : hv' = [] := by rw [hre] at q8; exact q8.eq_nil
      rw [this]
      exact (hp.trans (heads_del F (liveOf S.hv) hj (by show (!(S.hv j).isEmpty) = true; rw [et]; rfl))).cons_inv
    · rw [if_neg hre, show (!hv'.isEmpty) = liveOf S.hv j by
        show _ = (!(S.hv j).isEmpty)
        rw [et]
        have := q8.length_eq
        cases hv' with
        | nil => exact absurd (List.length_eq_zero_iff.mp this.symm) hre
        | cons => rfl, updN_same]
      exact hp
end
theorem lay_Q8 : True := by
  k_with_none
  w_top off
  exact True.intro
section
variable {prog : Program} {w : World} {p : Program} {loose : List Str} {mean : ExcName → Option Value} {mg mb : Str → Option Value} {name : Str} {F : Fix} {h : Heap} {S : St}
/-- behind a step that lays the heaps anew, or does nothing -/
theorem RunInv.relay (V : RunInv prog w p loose mean mg mb name F h S) {h' : Heap} (k : Keeps [F.hp 0, F.hp 1, F.hp 2, F.hd, 126] h h') {hv' : Nat → List Value} {hds' : List Value} {c2' : Option Addr}
    (hhp : ∀ i, i < 3 → (∃ n, h'.get? (F.hp i) = some (W.listOf (hv' i).toArray n)) ∧ (hv' i).Perm (S.hv i) ∧ HOL klt 0 ((hv' i).map (keyV h'))) (ht2 : h'.get? 126 = some (tab2Of c2')) (hhd : ∃ n, h'.get? F.hd = some (W.listOf hds'.toArray n)) (hp : hds'.Perm S.hds) (ho : HOL kllt 0 (hds'.map (keysV h')))
    (hc : ∀ c, c2' = some c → (F.G h' S.lj).CodeRec (.ref c) "_law_step.<locals>.<lambda>") : RunInv prog w p loose mean mg mb name F h' { S with hv := hv', hds := hds', c2 := c2' } := by
  have A := V.apart
  have hB : ∀ a ∈ [F.hp 0, F.hp 1, F.hp 2, F.hd, 126], a ∈ F.D S.lj := fun a ha => by
    simp only [List.mem_cons, List.not_mem_nil, or_false] at ha ⊢
    rcases ha with rfl | rfl | rfl | rfl | rfl <;> simp
  have sub : Sub (F.G h S.lj) (F.G h' S.lj) := base_next k (fun a ha => memM (hB a ha)) fun a ha => .inl ha
  have gs : Sub (F.G h' S.lj) h' := fun b o e => of_hideAll _ e
  have ki : ∀ i, i < 3 → KeysIn (F.G h' S.lj) (hv' i) := fun i hi => ((V.keysIn i hi).keeps sub).perm (hhp i hi).2.1
  refine
    { X := V.X.keeps sub
      T := V.T.keeps sub
      C1 := V.C1.keeps sub
      C2 := V.C2.keeps sub
      ra := sub _ _ V.ra
      ha := sub _ _ V.ha
      ej := fun i hi => sub _ _ (V.ej i hi)
      uj := fun i hi => let ⟨n, e⟩ := V.uj i hi; ⟨n, sub _ _ e⟩
      dj := fun i hi => ?_
      lj := fun i hi => ?_
      ru := let ⟨n, e⟩ := V.ru; ⟨n, k _ _ ?_ e⟩
      hp := fun i hi => (hhp i hi).1
      hd := hhd
      t1 := k _ _ ?_ V.t1
      t2 := ht2
      code1 := fun c e => (V.code1 c e).keeps sub
      code2 := hc
      apart := A
      rules := fun c e => (V.rules c e).keeps sub
      noc := V.noc
      idx := V.idx
      nodup := V.nodup
      rsub := V.rsub
      lsv := V.lsv
      sorted := V.sorted
      keysIn := ki
      keys := fun i hi => ?_
      ord := fun i hi => ?_
      heads := ?_
      hord := ho
      hname := V.hname
      xat := fun a ha => let ⟨o, e⟩ := V.xat a ha; ⟨o, k _ _ (fun q => V.off a ha (hB a q)) e⟩
      off := V.off }
  · obtain ⟨ds, n, e1, e2⟩ := V.dj i hi
    refine ⟨ds, n, k _ _ ?_ e1, e2⟩
    have q := A.pdj i hi
    simp only [List.mem_cons, List.not_mem_nil, or_false, not_or]
    exact ⟨A.pdh i 0 hi (by (first | lia | omega)), A.pdh i 1 hi (by (first | lia | omega)), A.pdh i 2 hi (by (first | lia | omega)), q.2.2.2, q.2.2.1⟩
  · obtain ⟨n, e1⟩ := V.lj i hi
    refine ⟨n, k _ _ ?_ e1⟩
    have q := A.plj i hi
    simp only [List.mem_cons, List.not_mem_nil, or_false, not_or]
    exact ⟨A.plh i 0 hi (by (first | lia | omega)), A.plh i 1 hi (by (first | lia | omega)), A.plh i 2 hi (by (first | lia | omega)), q.2.2.2, q.2.2.1⟩
  · simp only [List.mem_cons, List.not_mem_nil, or_false, not_or]
    exact ⟨(A.php 0 (by (first | lia | omega))).1.symm, (A.php 1 (by (first | lia | omega))).1.symm, (A.php 2 (by (first | lia | omega))).1.symm, A.pru.2.2, A.pru.2.1⟩
  · simp only [List.mem_cons, List.not_mem_nil, or_false, not_or]
    exact ⟨(A.php 0 (by (first | lia | omega))).2.1.symm, (A.php 1 (by (first | lia | omega))).2.1.symm, (A.php 2 (by (first | lia | omega))).2.1.symm, A.phd.1.symm, by decide⟩
  · refine ((hhp i hi).2.1.map _).trans ?_
    rw [(V.keysIn i hi).keyV_keeps sub]
    exact V.keys i hi
  · show HOL klt 0 ((hv' i).map (keyV (F.G h' S.lj)))
    rw [← (ki i hi).keyV_keeps gs]
    exact (hhp i hi).2.2
  · refine hp.trans (V.heads.trans ?_)
    rw [show ([0, 1, 2].filter fun j => !(S.hv j).isEmpty) = [0, 1, 2].filter fun j => !(hv' j).isEmpty from List.filter_congr fun j hj => ?_]
    have hj3 : j < 3 := by
      simp only [List.mem_cons, List.not_mem_nil, or_false] at hj
      (first | lia | omega)
    exact (empty_len (hhp j hj3).2.1.length_eq).symm
theorem RunInv.idle (V : RunInv prog w p loose mean mg mb name F h S) {h' : Heap} (k : Keeps [] h h') : RunInv prog w p loose mean mg mb name F h' S := by
  have k' : Sub h h' := fun b o e => k b o (fun q => nomatch q) e
  have sub : Sub (F.G h S.lj) (F.G h' S.lj) := base_next (S := []) k (fun _ q => nomatch q) fun a ha => .inl ha
  refine V.relay (c2' := S.c2) (fun b o _ e => k' b o e) (fun i hi => ⟨let ⟨n, e⟩ := V.hp i hi; ⟨n, k' _ _ e⟩, .refl _, ?_⟩) (k' _ _ V.t2) (let ⟨n, e⟩ := V.hd; ⟨n, k' _ _ e⟩) (.refl _) ?_ fun c e => (V.code2 c e).keeps sub
  · rw [(V.keysIn i hi).keyV_keeps (h' := h') fun b o e => k' b o (of_hideAll _ e)]
    exact V.ord i hi
  · rw [List.map_congr_left (g := keysV h) fun v hv => ?_]
    · exact V.hord
    · obtain ⟨i, hi, rfl, -⟩ := V.hdsRef v hv
      exact (V.headG (B := []) (fun _ q => nomatch q) hi (fun q => nomatch q)).keysV (h := h') (fun b o e => k' b o (of_hideAll _ e)) |>.trans ((V.headG (B := []) (fun _ q => nomatch q) hi (fun q => nomatch q)).keysV (h := h) fun b o e => of_hideAll _ e).symm

theorem RunInv.idle_step (V : RunInv prog w p loose mean mg mb name F h S) {A : Around} {R : Result → Shared → Prop} {s : Shared} {n : Int} {tn tm : Tok} (hs : s.heap = h) (hroom : A.depth < 800) (hu : A.units < 100) (hh : A.handled = none) (hn : n % 10 = 6 ∨ n % 10 = 8) (he : S.hds = [])
    (post : ∀ h' tk, Next prog w p loose mean mg mb name F h S h' → R (.ok (.ret (.bool true))) { s with heap := h', toks := tk }) :
    codeAny (model prog w) A (.call (.ref 129) ⟨[.ref F.ra, .ref F.ha, .ref F.hd, .ref F.ru, .int n tn, .str name tm], []⟩) R s := by
  subst hs
  have sb := base_sub (h := s.heap) (S := []) (M := F.M S.lj) (fun _ q => nomatch q)
  obtain ⟨n4, e4⟩ := V.hd
  rw [he] at e4
  refine idle_code (V.X.keeps sb) (V.T.keeps sb) hroom hu hh (hideAll_get _ e4 fun q => nomatch q) hn ?_
  intro h' tk k
  exact post h' tk ⟨S, V.idle k, by (first | lia | omega), fun e => e, fun a ha => .inl ha, fun b o _ e => k b o (fun q => nomatch q) e⟩

theorem RunInv.sort_turn (V : RunInv prog w p loose mean mg mb name F h S) {A : Around} {R : Result → Shared → Prop} {s : Shared} {n : Int} {tn tm : Tok} (hs : s.heap = h) (hroom : A.depth < 800) (hu : A.units < 100) (hh : A.handled = none) (hul : S.us.length ≤ 50) (hn : n % 10 = 7)
    (post : ∀ h' tk, Next prog w p loose mean mg mb name F h S h' → R (.ok (.ret (.bool true))) { s with heap := h', toks := tk }) :
    codeAny (model prog w) A (.call (.ref 129) ⟨[.ref F.ra, .ref F.ha, .ref F.hd, .ref F.ru, .int n tn, .str name tm], []⟩) R s := by
  subst hs
  have A' := V.apart
  have hB : ∀ a ∈ [F.hp 0, F.hp 1, F.hp 2, F.hd, 126], a ∈ F.D S.lj := fun a ha => by
    simp only [List.mem_cons, List.not_mem_nil, or_false] at ha ⊢
    rcases ha with rfl | rfl | rfl | rfl | rfl <;> simp
  have sb := base_D (h := s.heap) hB
  obtain ⟨a0, f0⟩ := V.hp 0 (by (first | lia | omega))
  obtain ⟨a1, f1⟩ := V.hp 1 (by (first | lia | omega))
  obtain ⟨a2, f2⟩ := V.hp 2 (by (first | lia | omega))
  obtain ⟨n4, e4⟩ := V.hd
  refine sort_step (hp := F.hp) (hvs := S.hv) (ks := fun i => if i = 0 then a0 else if i = 1 then a1 else a2) (tab := S.c2) (V.X.keeps sb) (V.T.keeps sb) (V.C2.keeps sb) hroom hu hh (fun i hi => ?_) V.t2 e4 (sb _ _ V.ha) hn (fun c e => (V.code2 c e).keeps sb) A'.phh
    (fun i hi => ⟨(A'.php i hi).2.2.2, (A'.php i hi).2.2.1⟩) A'.phd.2 (fun i hi => by have := V.hplen hi; (first | lia | omega)) (by have := V.hdslen; (first | lia | omega)) (fun i hi v hv => ?_) (fun v hv => let ⟨i, hi, e, _⟩ := V.hdsRef v hv; ⟨i, hi, e⟩) ?_
  · obtain rfl | rfl | rfl : i = 0 ∨ i = 1 ∨ i = 2 := by (first | lia | omega)
    · exact f0
    · exact f1
    · exact f2
  · obtain ⟨r, hr, e⟩ := V.four hi _ (List.mem_map_of_mem hv)
    obtain ⟨k0, k1, k2, k3, f, -⟩ := keyOf_four name i r
    have := (V.keysIn i hi v hv).keeps sb
    rw [e, f] at this
    exact ⟨k0, k1, k2, k3, this⟩
  intro h' tk hvs' ks' hds' k2 tab' k q1 q2 q3 q4 q5 q6
  have sub : Sub (F.G s.heap S.lj) (F.G h' S.lj) := base_next k (fun a ha => memM (hB a ha)) fun a ha => .inl ha
  have lts := V.ltM
  have W := V.relay k (hv' := hvs') (hds' := hds') (c2' := tab') (fun i hi => ⟨⟨_, (q1 i hi).1⟩, (q1 i hi).2.1, (q1 i hi).2.2⟩) q2 ⟨_, q3⟩ q4 q5 fun c e => by
    rcases q6 c e with e | e
    · exact (V.code2 c e).keeps sub
    · exact e.keeps (base_sub fun a ha => List.mem_range.mpr (lts a ha))
  exact post h' tk ⟨_, W, by show S.us.length ≤ _; (first | lia | omega), fun e => e, fun a ha => .inl ha, fun b o hb => k b o fun q => hb (hB b q)⟩

/-- _law_step, whole -/
theorem RunInv.step (V : RunInv prog w p loose mean mg mb name F h S) {A : Around} {R : Result → Shared → Prop} {s : Shared} {n : Int} {tn tm : Tok} (hs : s.heap = h) (hroom : A.depth < 800) (hu : A.units < 100) (hh : A.handled = none) (hul : S.us.length ≤ 50) (hc : S.c1 ≠ none ∨ n % 10 ≤ 5)
    (post : ∀ h' tk S', RunInv prog w p loose mean mg mb name F h' S' → S'.us.length ≤ S.us.length + 1 → S'.c1 ≠ none → (∀ a ∈ F.D S'.lj, a ∈ F.D S.lj ∨ h.objs.size ≤ a) → Keeps (F.D S.lj) h h' → R (.ok (.ret (.bool true))) { s with heap := h', toks := tk }) :
    codeAny (model prog w) A (.call (.ref 129) ⟨[.ref F.ra, .ref F.ha, .ref F.hd, .ref F.ru, .int n tn, .str name tm], []⟩) R s := by
  by_cases h5 : n % 10 ≤ 5
  · exact V.push_step hs hroom hu hh hul h5 fun h' tk nx ⟨S', W, q1, q2, q3⟩ => by
      obtain ⟨_, _, _, _, _, k⟩ := nx
      exact post h' tk S' W q1 q2 q3 k
  have hc' := hc.resolve_right h5
  have fin : ∀ h' tk, Next prog w p loose mean mg mb name F h S h' → R (.ok (.ret (.bool true))) { s with heap := h', toks := tk } := fun h' tk ⟨S', W, q1, q2, q3, k⟩ => post h' tk S' W q1 (q2 hc') q3 k
  have h10 : n % 10 < 10 := Int.emod_lt_of_pos _ (by decide)
  by_cases h6 : n % 10 = 6
  · by_cases he : S.hds = []
    · exact V.idle_step hs hroom hu hh (.inl h6) he fin
    · exact V.pop_step hs hroom hu hh hul h6 he fin
  by_cases h8 : n % 10 = 8
  · by_cases he : S.hds = []
    · exact V.idle_step hs hroom hu hh (.inr h8) he fin
    · exact V.replace_step hs hroom hu hh hul h8 he fin
  by_cases h7 : n % 10 = 7
  · exact V.sort_turn hs hroom hu hh hul h7 fin
  exact V.pushpop_step hs hroom hu hh hul (by (first | lia | omega)) fin
end
theorem lay_Q9 : True := by
  k_with_none
  w_top off
  exact True.intro
theorem rulesAt_pick {prog : Program} {w : World} {g : Heap} {c : Addr} {us : List Value} {rules : List RD} (R : RulesAt prog w g c us rules) : ∀ {rs : List RD}, (∀ r ∈ rs, rules[r.i]? = some r) → RulesAt prog w g c (rs.map fun r => us.getD r.i .none) rs := fun {rs} => by
  induction rs with
  | nil => exact fun _ => .nil
  | cons r t ih =>
    intro h
    have e := h r (.head _)
    obtain ⟨hi, e⟩ := List.getElem?_eq_some_iff.mp e
    have := R.get hi
    rw [e] at this
    exact .cons this (ih fun q hq => h q (.tail _ hq))
section
variable {prog : Program} {w : World} {p : Program} {loose : List Str} {mean : ExcName → Option Value} {mg mb : Str → Option Value} {name : Str} {F : Fix} {h : Heap} {S : St}
theorem RunInv.recAt (V : RunInv prog w p loose mean mg mb name F h S) {c : Addr} (hc : S.c1 = some c) (hul : S.us.length ≤ 50) {j : Nat} (hj : j < 3) : RecAt prog w h c (F.ej j) (F.dj j) (F.uj j) (S.lj j) (S.ls j) (S.rs j) := by
  obtain ⟨ds, n, e1, e2⟩ := V.dj j hj
  refine ⟨⟨V.gsub _ _ (V.ej j hj), ds, n, e1, e2⟩, let ⟨n, e⟩ := V.uj j hj; ⟨n, V.gsub _ _ e⟩, V.lj j hj, ?_, by have := V.lslen hj; (first | lia | omega)⟩
  rw [V.lsv j hj]
  exact rulesAt_pick ((V.rules c hc).keeps V.gsub) (V.rsub j hj)
theorem RunInv.heapAt (V : RunInv prog w p loose mean mg mb name F h S) (hul : S.us.length ≤ 50) {j : Nat} (hj : j < 3) : HeapAt h (F.hp j) (S.hv j) ((S.hv j).map (keyV (F.G h S.lj))) := by
  refine ⟨V.hp j hj, (V.keysIn j hj).at.keeps V.gsub, fun k hk => ?_, by have := V.hplen hj; (first | lia | omega)⟩
  obtain ⟨r, hr, e⟩ := V.four hj k hk
  obtain ⟨k0, k1, k2, k3, f, -⟩ := keyOf_four name j r
  exact ⟨k0, k1, k2, k3, e.trans f⟩
theorem RunInv.inR (V : RunInv prog w p loose mean mg mb name F h S) {j : Nat} (hj : j < 3) : ∀ k ∈ (S.hv j).map (keyV (F.G h S.lj)), (k.getD 3 0).natAbs < S.rules.length := fun k hk => by
  obtain ⟨r, hr, e⟩ := V.four hj k hk
  obtain ⟨k0, k1, k2, k3, f, -, -, f3⟩ := keyOf_four name j r
  rw [e, f]
  show k3.natAbs < _
  rw [f3, ← V.len]
  exact V.rlt hj r hr
theorem RunInv.serials (V : RunInv prog w p loose mean mg mb name F h S) {j : Nat} (hj : j < 3) : (idxs (S.rs j)).Pairwise (· < ·) ∧ (idxs (S.rs j)).Perm (serials ((S.hv j).map (keyV (F.G h S.lj)))) := by
  refine ⟨?_, ?_⟩
  · unfold idxs
    rw [List.pairwise_map]
    exact (V.sorted j hj).imp fun h => by (first | lia | omega)
  · unfold Mine.serials
    refine .trans ?_ ((V.keys j hj).map _).symm
    unfold idxs
    rw [List.map_map]
    refine .of_eq (List.map_congr_left fun r hr => ?_)
    obtain ⟨k0, k1, k2, k3, f, -, -, f3⟩ := keyOf_four name j r
    show (r.i : Int) = (((keyOf name j r).getD 3 0).natAbs : Int)
    rw [f]
    show (r.i : Int) = (k3.natAbs : Int)
    rw [f3]
/-- the key on top of a heap is the least of its record's -/
theorem RunInv.topOf (V : RunInv prog w p loose mean mg mb name F h S) {j : Nat} (hj : j < 3) : (S.rs j = [] ∧ (S.hv j).map (keyV (F.G h S.lj)) = []) ∨ ∃ x ∈ S.rs j, ∃ r, (S.hv j).map (keyV (F.G h S.lj)) = keyOf name j x :: r ∧ ∀ y ∈ S.rs j, klt (keyOf name j y) (keyOf name j x) = false := by
  have hk := V.keys j hj
  have ho := V.ord j hj
  cases e : (S.hv j).map (keyV (F.G h S.lj)) with
  | nil =>
    rw [e] at hk
    have := hk.symm.eq_nil
    exact .inl ⟨by simpa using this, rfl⟩
  | cons k r =>
    rw [e] at hk ho
    obtain ⟨x, hx, ex⟩ := List.mem_map.mp (hk.mem_iff.mp (.head _))
    refine .inr ⟨x, hx, r, by rw [ex], fun y hy => ?_⟩
    rw [ex]
    exact HOL.top linO_key ho _ (hk.mem_iff.mpr (List.mem_map_of_mem hy))
theorem RunInv.jrs (V : RunInv prog w p loose mean mg mb name F h S) {j : Nat} (hj : j < 3) : ((S.rs j).map fun r => ((j, r) : JR)).Pairwise jlt := by
  rw [List.pairwise_map]
  exact (V.sorted j hj).imp fun h => .inr ⟨rfl, h⟩
theorem RunInv.due (V : RunInv prog w p loose mean mg mb name F h S) {j : Nat} (hj : j < 3) : curVal (curOf name (S.rs j)) = dueOf S.rules ((S.hv j).map (keyV (F.G h S.lj))) := by
  have := verdict (name := name) (xs := (S.rs j).map fun r => ((j, r) : JR)) (rules := S.rules) (ks := (S.hv j).map (keyV (F.G h S.lj))) (V.jrs hj) (fun x hx => by
    obtain ⟨r, hr, rfl⟩ := List.mem_map.mp hx
    exact V.rsub j hj r hr) (by
    rcases V.topOf hj with ⟨e1, e2⟩ | ⟨x, hx, r, e1, e2⟩
    · exact .inl ⟨by rw [e1]; rfl, e2⟩
    · refine .inr ⟨(j, x), List.mem_map_of_mem hx, r, e1, fun y hy => ?_⟩
      obtain ⟨q, hq, rfl⟩ := List.mem_map.mp hy
      exact e2 q hq)
  rw [List.map_map] at this
  rw [← this]
  congr 2
  exact (List.map_id _).symm
theorem RunInv.dueAll (V : RunInv prog w p loose mean mg mb name F h S) : ∃ ht hvt kst, ((S.hds = [] ∧ kst = []) ∨ (∃ r, S.hds = .ref ht :: r) ∧ ∃ j, j < 3 ∧ ht = F.hp j ∧ hvt = S.hv j ∧ kst = (S.hv j).map (keyV (F.G h S.lj))) ∧
    curVal (curOf name (S.rs 0 ++ S.rs 1 ++ S.rs 2)) = dueOf S.rules kst := by
  have all : ∀ kst, (((∀ j, j < 3 → S.rs j = []) ∧ kst = []) ∨ ∃ i, i < 3 ∧ ∃ x ∈ S.rs i, ∃ r, kst = keyOf name i x :: r ∧ ∀ j, j < 3 → ∀ y ∈ S.rs j, klt (keyOf name j y) (keyOf name i x) = false) → curVal (curOf name (S.rs 0 ++ S.rs 1 ++ S.rs 2)) = dueOf S.rules kst := by
    intro kst hk
    have mem : ∀ x : JR, x ∈ (S.rs 0).map (fun r => ((0, r) : JR)) ++ (S.rs 1).map (fun r => ((1, r) : JR)) ++ (S.rs 2).map (fun r => ((2, r) : JR)) ↔ x.1 < 3 ∧ x.2 ∈ S.rs x.1 := fun x => by
      rw [List.mem_append, List.mem_append]
      constructor
      · rintro ((h | h) | h)
        all_goals
          obtain ⟨r, hr, rfl⟩ := List.mem_map.mp h
          exact ⟨by show _ < 3; (first | lia | omega), hr⟩
      · rintro ⟨h1, h2⟩
        obtain ⟨a, b⟩ := x
        dsimp only at h1 h2
        obtain rfl | rfl | rfl : a = 0 ∨ a = 1 ∨ a = 2 := by (first | lia | omega)
        · exact .inl (.inl (List.mem_map_of_mem h2))
        · exact .inl (.inr (List.mem_map_of_mem h2))
        · exact .inr (List.mem_map_of_mem h2)
    have := verdict (name := name) (xs := (S.rs 0).map (fun r => ((0, r) : JR)) ++ (S.rs 1).map (fun r => ((1, r) : JR)) ++ (S.rs 2).map (fun r => ((2, r) : JR))) (rules := S.rules) (ks := kst) ?_ (fun x hx => by
      obtain ⟨h1, h2⟩ := (mem x).mp hx
      exact V.rsub _ h1 _ h2) ?_
    · rw [List.map_append, List.map_append, List.map_map, List.map_map, List.map_map] at this
      rw [← this]
      congr 2
      show S.rs 0 ++ S.rs 1 ++ S.rs 2 = (S.rs 0).map id ++ (S.rs 1).map id ++ (S.rs 2).map id
      rw [List.map_id, List.map_id, List.map_id]
    · rw [List.pairwise_append, List.pairwise_append]
      refine ⟨⟨V.jrs (by (first | lia | omega)), V.jrs (by (first | lia | omega)), fun a ha b hb => ?_⟩, V.jrs (by (first | lia | omega)), fun a ha b hb => ?_⟩
      · obtain ⟨_, _, rfl⟩ := List.mem_map.mp ha
        obtain ⟨_, _, rfl⟩ := List.mem_map.mp hb
        exact .inl (by show (0 : Nat) < 1; (first | lia | omega))
      · obtain ⟨_, _, rfl⟩ := List.mem_map.mp hb
        rcases List.mem_append.mp ha with ha | ha
        · obtain ⟨_, _, rfl⟩ := List.mem_map.mp ha
          exact .inl (by show (0 : Nat) < 2; (first | lia | omega))
        · obtain ⟨_, _, rfl⟩ := List.mem_map.mp ha
          exact .inl (by show (1 : Nat) < 2; (first | lia | omega))
    · rcases hk with ⟨h1, h2⟩ | ⟨i, hi, x, hx, r, h1, h2⟩
      · exact .inl ⟨by rw [h1 0 (by (first | lia | omega)), h1 1 (by (first | lia | omega)), h1 2 (by (first | lia | omega))]; rfl, h2⟩
      · exact .inr ⟨(i, x), (mem _).mpr ⟨hi, hx⟩, r, h1, fun y hy => h2 _ ((mem y).mp hy).1 _ ((mem y).mp hy).2⟩
  cases ed : S.hds with
  | nil =>
    refine ⟨0, [], [], .inl ⟨rfl, rfl⟩, all [] (.inl ⟨fun j hj => ?_, rfl⟩)⟩
    cases e : S.hv j with
    | nil =>
      have := V.hvlen hj
      rw [e] at this
      exact List.length_eq_zero_iff.mp this.symm
    | cons a r =>
      have hm : Value.ref (F.hp j) ∈ S.hds := V.heads.mem_iff.mpr (List.mem_map.mpr ⟨j, List.mem_filter.mpr ⟨by simp; (first | lia | omega), by rw [e]; rfl⟩, rfl⟩)
      rw [ed] at hm; cases hm
  | cons v0 dr =>
    obtain ⟨j, top, hr, hj, rfl, et, hleast, -⟩ := V.top ed
    refine ⟨F.hp j, S.hv j, (S.hv j).map (keyV (F.G h S.lj)), .inr ⟨⟨dr, rfl⟩, j, hj, rfl, rfl, rfl⟩, all _ (.inr ?_)⟩
    rcases V.topOf hj with ⟨-, e2⟩ | ⟨x, hx, r, e1, -⟩
    · rw [et] at e2; cases e2
    · refine ⟨j, hj, x, hx, r, e1, fun i hi y hy => ?_⟩
      have hm := (V.keys i hi).mem_iff.mpr (List.mem_map_of_mem hy)
      obtain ⟨u, hu, eu⟩ := List.mem_map.mp hm
      have := hleast i hi u hu
      rw [et, List.map_cons] at e1
      injection e1 with e1
      rw [eu, e1] at this
      exact this
theorem RunInv.agrees (V : RunInv prog w p loose mean mg mb name F h S) {A : Around} {R : Result → Shared → Prop} {s : Shared} {t : Tok} (hs : s.heap = h) (hroom : A.depth < 800) (hu : A.units < 100) (hh : A.handled = none) (hul : S.us.length ≤ 50) (hc : S.c1 ≠ none)
    (post : ∀ h' tk, RunInv prog w p loose mean mg mb name F h' S → Keeps [] h h' → R (.ok (.ret (.bool true))) { s with heap := h', toks := tk }) :
    codeAny (model prog w) A (.call (.ref 134) ⟨[.ref F.ra, .ref F.ha, .ref F.hd, .ref F.ru, .str name t], []⟩) R s := by
  subst hs
  obtain ⟨c, ec⟩ : ∃ c, S.c1 = some c := by
    cases e : S.c1 with
    | none => exact absurd e hc
    | some c => exact ⟨c, rfl⟩
  obtain ⟨ht, hvt, kst, ho, hq⟩ := V.dueAll
  obtain ⟨n4, e4⟩ := V.hd
  obtain ⟨n1, e1⟩ := V.ru
  have z (j : Nat) (hj : j < 3) : (S.ls j).length ≤ 60 := by have := V.lslen hj; (first | lia | omega)
  have h0 : 0 < 3 := by (first | lia | omega)
  have h1 : 1 < 3 := by (first | lia | omega)
  have h2 : 2 < 3 := by (first | lia | omega)
  refine agrees_code (c' := c) (ht := ht) (hvt := hvt) (kst := kst) (rules := S.rules) (V.X.keeps V.gsub) ((topRead_of V.T).keeps V.gsub) hroom hu hh (z 0 h0) (z 1 h1) (z 2 h2) (V.gsub _ _ V.ra) (V.recAt ec hul h0) (V.recAt ec hul h1) (V.recAt ec hul h2)
    (V.gsub _ _ V.ha) (V.heapAt hul h0) (V.heapAt hul h1) (V.heapAt hul h2) e4 (by have := V.hdslen; (first | lia | omega)) ?_ e1 ((V.rules c ec).keeps V.gsub) (by (first | lia | omega)) ((V.code1 c ec).keeps V.gsub) V.hname ?_ (V.due h0) (V.due h1) (V.due h2) hq (V.serials h0) (V.serials h1) (V.serials h2) ?_
  · rcases ho with ho | ⟨ho, j, hj, rfl, rfl, rfl⟩
    · exact .inl ho
    · exact .inr ⟨ho, V.heapAt hul hj⟩
  · intro ks hks
    simp only [List.mem_cons, List.not_mem_nil, or_false] at hks
    rcases hks with rfl | rfl | rfl | rfl
    · exact V.inR h0
    · exact V.inR h1
    · exact V.inR h2
    · rcases ho with ⟨-, rfl⟩ | ⟨-, j, hj, -, -, rfl⟩
      · exact fun _ q => nomatch q
      · exact V.inR hj
  · intro h' tk k
    exact post h' tk (V.idle k) k
end
theorem lay_Q10 : True := by
  k_with_none
  w_top off
  exact True.intro
/-- a for whose invariant speaks of the heap -/
def ForStepH (g : Heap) (L : Addr) (s : Shared) (J : Nat → (Str → Option Value) → List (Addr × Obj) → Heap → Prop) (R : Result → Shared → Prop) (it : Addr) (oi : Obj) (i : Nat) (f : Flow) (s₃ : Shared) : Prop :=
  match f with
  | .next | .cont => ∃ h' tk m₂ news₂, s₃ = { s with heap := h', toks := tk } ∧ Fr g L h' m₂ ∧ News g L h' ((it, oi) :: news₂) ∧ (∀ q ∈ news₂, q.1 ≠ it) ∧ J (i + 1) m₂ news₂ h'
  | .brk => R (.ok .next) s₃
  | .ret v => R (.ok (.ret v)) s₃
theorem for_anyH {prog : Program} {w : World} {A : Around} {s : Shared} {R : Result → Shared → Prop} {name : Str} {scope : Scope} {L a : Addr} {cd : Value} {g : Heap} {m : Str → Option Value} {news : List (Addr × Obj)}
    {x : Str} {px : Pos} {body : List Stmt} {it : Addr} {o0 : Obj} {n : Nat} {item : Nat → Tok → Value} {ItAt : Nat → Obj → Prop} {side : Heap → Prop}
    (I : Iter prog w it n item ItAt side) (J : Nat → (Str → Option Value) → List (Addr × Obj) → Heap → Prop) (hh : A.handled = none)
    (F : Fr g L s.heap m) (N : News g L s.heap ((it, o0) :: news)) (hne : ∀ q ∈ news, q.1 ≠ it) (hi : ItAt 0 o0) (hJ : J 0 m news s.heap)
    (stab : ∀ i m₁ news₁ h h', J i m₁ news₁ h → Keeps [it, L] h h' → (∃ o, h'.get? it = some o) → (∃ o, h'.get? L = some o) → J i m₁ news₁ h')
    (hside : ∀ i m₁ news₁ h₁, i ≤ n → Fr g L h₁ m₁ → News g L h₁ news₁ → J i m₁ news₁ h₁ → side h₁)
    (turn : ∀ i m₁ news₁ h₁ tk₁ t oi, i < n → Fr g L h₁ (fun y => if y = x then some (item i t) else m₁ y) → News g L h₁ ((it, oi) :: news₁) → (∀ q ∈ news₁, q.1 ≠ it) → J i m₁ news₁ h₁ →
      wpAny (model prog w) A (execs body (envOf name scope L a cd)) (ForStepH g L s J R it oi i) (fun _ _ => False) { s with heap := h₁, toks := tk₁ })
    (done : ∀ m₁ news₁ h₁ h₂ tk₁, Fr g L h₂ m₁ → News g L h₂ news₁ → J n m₁ news₁ h₁ → Keeps [it] h₁ h₂ → R (.ok .next) { s with heap := h₂, toks := tk₁ })
    (hk : scope.kind = .function := by rfl) (hx : (envOf name scope L a cd).kindOf x = some .local := by rfl) :
    codeAny (model prog w) A (.forLoop (.Name x px) (.ref it) body [] (envOf name scope L a cd)) R s := by
  refine codeAny_forLoop (fun k s' => ∃ i h₁ tk₁ m₁ news₁ oi, k = n - i ∧ i ≤ n ∧ s' = { s with heap := h₁, toks := tk₁ } ∧ Fr g L h₁ m₁ ∧ News g L h₁ ((it, oi) :: news₁) ∧ (∀ q ∈ news₁, q.1 ≠ it) ∧ ItAt i oi ∧ J i m₁ news₁ h₁) ?_ n ⟨0, s.heap, s.toks, m, news, o0, rfl, Nat.zero_le _, rfl, F, N, hne, hi, hJ⟩
  rintro k s' ⟨i, h₁, tk₁, m₁, news₁, oi, rfl, hin, rfl, F₁, N₁, ne₁, hi₁, J₁⟩
  have hit := (N₁ _ (.head _))
  have N₁' : News g L h₁ news₁ := fun q hq => N₁ q (.tail _ hq)
  have sd := hside i m₁ news₁ h₁ hin F₁ N₁' J₁
  rcases Nat.lt_or_ge i n with lt | ge
  · refine I.step A _ _ _ i oi hit.1 hi₁ sd lt fun h' o' tk t ho' hi' hs => ?_
    refine wpAny_assign_Name ?_
    have F₂ : Fr g L h' m₁ := F₁.change hs hit.2.1 hit.2.2
    have N₂ : News g L h' ((it, o') :: news₁) := by
      intro q hq
      rcases List.mem_cons.mp hq with rfl | hq
      · exact ⟨ho', hit.2⟩
      · exact ⟨(hs.2 q.1 (ne₁ q hq)).trans (N₁' q hq).1, (N₁' q hq).2⟩
    refine wpAny_storeName_local hx F₂.ns (fun h2 hn2 hs2 => ?_) (by show (scope.kind == .class || (scope.kind == .module && L != mainGlobals)) = false; rw [hk]; rfl)
    have F3 := F₂.set hn2 hs2
    have N3 : News g L h2 ((it, o') :: news₁) := N₂.set hs2
    have J₂ : J i m₁ news₁ h2 := by
      obtain ⟨oL, a1, a2, hL, a3⟩ := F3.ns
      refine stab i m₁ news₁ h₁ h2 J₁ (fun b o hb e => ?_) ⟨_, (N3 _ (.head _)).1⟩ ⟨_, hL⟩
      have b1 : b ≠ it := fun q => hb (by rw [q]; exact .head _)
      have b2 : b ≠ L := fun q => hb (by rw [q]; exact .tail _ (.head _))
      rw [hs2.2 b b2, hs.2 b b1]; exact e
    refine wpAny_mono (turn i m₁ news₁ h2 _ t o' lt F3 N3 ne₁ J₂) (fun f s3 hf => ?_) fun _ _ x => x.elim
    cases f with
    | next =>
      obtain ⟨h4, tk4, m4, news4, rfl, F4, N4, ne4, J4⟩ := hf
      exact ⟨n - (i + 1), by (first | lia | omega), i + 1, h4, tk4, m4, news4, o', rfl, lt, rfl, F4, N4, ne4, hi', J4⟩
    | cont =>
      obtain ⟨h4, tk4, m4, news4, rfl, F4, N4, ne4, J4⟩ := hf
      exact ⟨n - (i + 1), by (first | lia | omega), i + 1, h4, tk4, m4, news4, o', rfl, lt, rfl, F4, N4, ne4, hi', J4⟩
    | brk => exact hf
    | ret v => exact hf
  · have e : i = n := by (first | lia | omega)
    subst e
    refine I.fin A _ _ _ oi hh hit.1 hi₁ sd fun h' hs => ?_
    refine wpAny_execs_nil ?_
    obtain ⟨oL, a1, a2, hL, a3⟩ := F₁.ns
    exact done m₁ news₁ h₁ h' _ ⟨⟨oL, a1, a2, hs _ _ hit.2.1.symm hL, a3⟩, fun b o e => hs b o (fun q => by rw [q, hit.2.2] at e; cases e) (F₁.keep b o e), F₁.above⟩
      (fun q hq => ⟨hs _ _ (ne₁ q hq) (N₁' q hq).1, (N₁' q hq).2⟩) J₁ fun b o hb e => hs b o (fun q => hb (by rw [q]; exact .head _)) e

section
variable {prog : Program} {w : World} {p : Program} {loose : List Str} {mean : ExcName → Option Value} {mg mb : Str → Option Value} {name : Str} {F : Fix} {h : Heap} {S : St}
/-- what else is changed is hidden -/
theorem RunInv.touch (V : RunInv prog w p loose mean mg mb name F h S) {h' : Heap} (k : Keeps F.xs h h') (hx : ∀ a ∈ F.xs, ∃ o, h'.get? a = some o) : RunInv prog w p loose mean mg mb name F h' S := by
  have sub : Sub (F.G h S.lj) (F.G h' S.lj) := base_next k (fun a ha => List.mem_append_right _ ha) fun a ha => .inl ha
  have kd : ∀ a ∈ F.D S.lj, ∀ o, h.get? a = some o → h'.get? a = some o := fun a ha o e => k a o (fun q => V.off a q ha) e
  have gs : Sub (F.G h' S.lj) h' := fun b o e => of_hideAll _ e
  have khp : ∀ i, i < 3 → ∃ n, h'.get? (F.hp i) = some (W.listOf (S.hv i).toArray n) := fun i hi => let ⟨n, e⟩ := V.hp i hi; ⟨n, kd _ (D_hp F _ hi) _ e⟩
  refine
    { X := V.X.keeps sub
      T := V.T.keeps sub
      C1 := V.C1.keeps sub
      C2 := V.C2.keeps sub
      ra := sub _ _ V.ra
      ha := sub _ _ V.ha
      ej := fun i hi => sub _ _ (V.ej i hi)
      uj := fun i hi => let ⟨n, e⟩ := V.uj i hi; ⟨n, sub _ _ e⟩
      dj := fun i hi => let ⟨ds, n, e, r⟩ := V.dj i hi; ⟨ds, n, kd _ (D_dj F _ hi) _ e, r⟩
      lj := fun i hi => let ⟨n, e⟩ := V.lj i hi; ⟨n, kd _ (D_lj F _ hi) _ e⟩
      ru := let ⟨n, e⟩ := V.ru; ⟨n, kd _ (by simp) _ e⟩
      hp := khp
      hd := let ⟨n, e⟩ := V.hd; ⟨n, kd _ (by simp) _ e⟩
      t1 := kd _ (by simp) _ V.t1
      t2 := kd _ (by simp) _ V.t2
      code1 := fun c e => (V.code1 c e).keeps sub
      code2 := fun c e => (V.code2 c e).keeps sub
      apart := V.apart
      rules := fun c e => (V.rules c e).keeps sub
      noc := V.noc
      idx := V.idx
      nodup := V.nodup
      rsub := V.rsub
      lsv := V.lsv
      sorted := V.sorted
      keysIn := fun i hi => (V.keysIn i hi).keeps sub
      keys := fun i hi => by rw [(V.keysIn i hi).keyV_keeps sub]; exact V.keys i hi
      ord := fun i hi => by rw [(V.keysIn i hi).keyV_keeps sub]; exact V.ord i hi
      heads := V.heads
      hord := ?_
      hname := V.hname
      xat := hx
      off := V.off }
  rw [List.map_congr_left (g := keysV h) fun v hv => ?_]
  · exact V.hord
  · obtain ⟨i, hi, rfl, -⟩ := V.hdsRef v hv
    obtain ⟨n, e⟩ := khp i hi
    rw [V.keysVh hi, keysV_at e (((V.keysIn i hi).keeps sub).keeps gs).at]
    exact (V.keysIn i hi).keyV_keeps fun b o e => gs b o (sub b o e)
end
theorem lay_Q11 : True := by
  k_with_none
  w_top off
  exact True.intro
abbrev fixOf (adr : Nat → Addr) (xs : List Addr) : Fix := { ra := adr 6, ha := adr 2, hd := adr 1, ru := adr 0, n0 := 0, n5 := 0, ej := fun j => adr (17 - 4 * j), dj := fun j => adr (18 - 4 * j), uj := fun j => adr (16 - 4 * j), hp := fun j => adr (5 - j), xs := xs }
abbrev st0 (adr : Nat → Addr) (c1 c2 : Option Addr) : St := { lj := fun j => adr (15 - 4 * j), us := [], rules := [], ls := fun _ => [], rs := fun _ => [], hv := fun _ => [], hds := [], c1 := c1, c2 := c2 }
theorem D_adr {adr : Nat → Addr} {xs : List Addr} (h114 : adr 19 = 114) (h126 : adr 20 = 126) {a : Addr} (ha : a ∈ (fixOf adr xs).D fun j => adr (15 - 4 * j)) : ∃ i, i < 21 ∧ a = adr i ∧ i ≠ 6 ∧ i ≠ 2 ∧ (∀ j, j < 3 → i ≠ 17 - 4 * j ∧ i ≠ 16 - 4 * j) := by
  have tab : ∀ i, i < 3 → (18 - 4 * i < 21 ∧ 18 - 4 * i ≠ 6 ∧ 18 - 4 * i ≠ 2 ∧ ∀ j, j < 3 → 18 - 4 * i ≠ 17 - 4 * j ∧ 18 - 4 * i ≠ 16 - 4 * j) ∧ (15 - 4 * i < 21 ∧ 15 - 4 * i ≠ 6 ∧ 15 - 4 * i ≠ 2 ∧ ∀ j, j < 3 → 15 - 4 * i ≠ 17 - 4 * j ∧ 15 - 4 * i ≠ 16 - 4 * j) ∧
      (5 - i < 21 ∧ 5 - i ≠ 6 ∧ 5 - i ≠ 2 ∧ ∀ j, j < 3 → 5 - i ≠ 17 - 4 * j ∧ 5 - i ≠ 16 - 4 * j) := by decide
  rcases D_iff.mp ha with h1 | h1 | h1 | h1 | ⟨i, hi, h1 | h1 | h1⟩
  · exact ⟨0, by decide, h1, by decide, by decide, by decide⟩
  · exact ⟨19, by decide, by rw [h1, h114], by decide, by decide, by decide⟩
  · exact ⟨20, by decide, by rw [h1, h126], by decide, by decide, by decide⟩
  · exact ⟨1, by decide, h1, by decide, by decide, by decide⟩
  · exact ⟨18 - 4 * i, (tab i hi).1.1, h1, (tab i hi).1.2⟩
  · exact ⟨15 - 4 * i, (tab i hi).2.1.1, h1, (tab i hi).2.1.2⟩
  · exact ⟨5 - i, (tab i hi).2.2.1, h1, (tab i hi).2.2.2⟩
theorem hol_nil {α : Type} {lt : α → α → Bool} {st : Nat} : HOL lt st ([] : List α) := fun _ _ _ _ _ _ h => by cases h
theorem run_init {prog : Program} {w : World} {p : Program} {loose : List Str} {mean : ExcName → Option Value} {mg mb : Str → Option Value} {name : Str} {g h : Heap} {adr : Nat → Addr} {xs : List Addr} {c1 c2 : Option Addr}
    (inj : ∀ i j, i < 21 → j < 21 → i ≠ j → adr i ≠ adr j) (h114 : adr 19 = 114) (h126 : adr 20 = 126) (hx : ∀ a ∈ xs, (∃ o, h.get? a = some o) ∧ g.get? a = none ∧ ∀ i, i < 21 → a ≠ adr i) (gn : ∀ i, i < 21 → g.get? (adr i) = none)
    (X : (KK w).In g) (T : Top p loose mean mg mb g) (C1 : CodeHd g 118 114) (C2 : CodeHd g 128 126) (sub : Sub g h) (hc1 : ∀ c, c1 = some c → g.CodeRec (.ref c) "_law_come.<locals>.<lambda>") (hc2 : ∀ c, c2 = some c → g.CodeRec (.ref c) "_law_step.<locals>.<lambda>")
    (ht1 : h.get? 114 = some (tabOf c1)) (ht2 : h.get? 126 = some (tab2Of c2)) (hra : h.get? (adr 6) = some (W.listOf [Value.ref (adr 17), .ref (adr 13), .ref (adr 9)].toArray 0)) (hha : h.get? (adr 2) = some (W.listOf [Value.ref (adr 5), .ref (adr 4), .ref (adr 3)].toArray 0))
    (hru : h.get? (adr 0) = some (W.listOf ([] : List Value).toArray 0)) (hhd : h.get? (adr 1) = some (W.listOf ([] : List Value).toArray 0))
    (hE : ∀ j, j < 3 → h.get? (adr (17 - 4 * j)) = some (instObj 52 (adr (18 - 4 * j))) ∧ (∃ ds n, h.get? (adr (18 - 4 * j)) = some (dictOf ds n) ∧ EntsAre w ds (recL (adr (16 - 4 * j)) (adr (15 - 4 * j)))) ∧ h.get? (adr (16 - 4 * j)) = some (W.listOf ([] : List Value).toArray 0) ∧
      h.get? (adr (15 - 4 * j)) = some (W.listOf ([] : List Value).toArray 0) ∧ h.get? (adr (5 - j)) = some (W.listOf ([] : List Value).toArray 0))
    (hname : name = Str.ofString "" ∨ name = Str.ofString "/A%41") : RunInv prog w p loose mean mg mb name (fixOf adr xs) h (st0 adr c1 c2) := by
  have subG : Sub g ((fixOf adr xs).G h (st0 adr c1 c2).lj) := fun b o e => hideAll_get _ (sub b o e) fun q => by
    have : g.get? b = none := by
      rcases List.mem_append.mp q with q | q
      · obtain ⟨i, hi, rfl, -⟩ := D_adr h114 h126 q; exact gn i hi
      · exact (hx b q).2.1
    rw [this] at e; cases e
  have inG : ∀ i o, i < 21 → (i = 6 ∨ i = 2 ∨ ∃ j, j < 3 ∧ (i = 17 - 4 * j ∨ i = 16 - 4 * j)) → h.get? (adr i) = some o → ((fixOf adr xs).G h (st0 adr c1 c2).lj).get? (adr i) = some o := fun i o hi hc e => hideAll_get _ e fun q => by
    rcases List.mem_append.mp q with q | q
    · obtain ⟨k, hk, e, k1, k2, k3⟩ := D_adr h114 h126 q
      by_cases q : i = k
      · subst q
        rcases hc with hc | hc | ⟨j, hj, hc | hc⟩
        · exact k1 hc
        · exact k2 hc
        · exact (k3 j hj).1 hc
        · exact (k3 j hj).2 hc
      · exact inj i k hi hk q e
    · exact (hx _ q).2.2 i hi rfl
  have n1 (i : Nat) (hi : i < 21) (h : i ≠ 19) : adr i ≠ 114 := fun q => inj i 19 hi (by decide) h (q.trans h114.symm)
  have n2 (i : Nat) (hi : i < 21) (h : i ≠ 20) : adr i ≠ 126 := fun q => inj i 20 hi (by decide) h (q.trans h126.symm)
  have four (i : Nat) (h : i < 21 ∧ i ≠ 0 ∧ i ≠ 19 ∧ i ≠ 20 ∧ i ≠ 1) : adr i ≠ adr 0 ∧ adr i ≠ 114 ∧ adr i ≠ 126 ∧ adr i ≠ adr 1 := ⟨inj _ 0 h.1 (by decide) h.2.1, n1 _ h.1 h.2.2.1, n2 _ h.1 h.2.2.2.1, inj _ 1 h.1 (by decide) h.2.2.2.2⟩
  have two (i j : Nat) (h : i < 21 ∧ j < 21 ∧ i ≠ j) : adr i ≠ adr j := inj i j h.1 h.2.1 h.2.2
  refine
    { X := X.keeps subG
      T := T.keeps subG
      C1 := C1.keeps subG
      C2 := C2.keeps subG
      ra := inG 6 _ (by decide) (.inl rfl) hra
      ha := inG 2 _ (by decide) (.inr (.inl rfl)) hha
      ej := fun i hi => inG _ _ (Nat.lt_of_le_of_lt (Nat.sub_le ..) (by decide)) (.inr (.inr ⟨i, hi, .inl rfl⟩)) (hE i hi).1
      uj := fun i hi => ⟨_, inG _ _ (Nat.lt_of_le_of_lt (Nat.sub_le ..) (by decide)) (.inr (.inr ⟨i, hi, .inr rfl⟩)) (hE i hi).2.2.1⟩
      dj := fun i hi => (hE i hi).2.1
      lj := fun i hi => ⟨_, (hE i hi).2.2.2.1⟩
      ru := ⟨_, hru⟩
      hp := fun i hi => ⟨_, (hE i hi).2.2.2.2⟩
      hd := ⟨_, hhd⟩
      t1 := ht1
      t2 := ht2
      code1 := fun c e => (hc1 c e).keeps subG
      code2 := fun c e => (hc2 c e).keeps subG
      apart := ?_
      rules := fun c _ => .nil
      noc := fun _ => ⟨rfl, rfl⟩
      idx := fun i r e => by cases e
      nodup := .nil
      rsub := fun _ _ r hr => by cases hr
      lsv := fun _ _ => rfl
      sorted := fun _ _ => .nil
      keysIn := fun _ _ v hv => by cases hv
      keys := fun _ _ => .refl _
      ord := fun _ _ => hol_nil
      heads := .refl _
      hord := hol_nil
      hname := hname
      xat := fun a ha => (hx a ha).1
      off := fun a ha q => ?_ }
  · exact ⟨⟨n1 0 (by decide) (by decide), n2 0 (by decide) (by decide), two 0 1 (by decide)⟩, ⟨n1 1 (by decide) (by decide), n2 1 (by decide) (by decide)⟩,
      fun j hj => four (18 - 4 * j) ((by decide : ∀ j, j < 3 → 18 - 4 * j < 21 ∧ 18 - 4 * j ≠ 0 ∧ 18 - 4 * j ≠ 19 ∧ 18 - 4 * j ≠ 20 ∧ 18 - 4 * j ≠ 1) j hj),
      fun j hj => four (15 - 4 * j) ((by decide : ∀ j, j < 3 → 15 - 4 * j < 21 ∧ 15 - 4 * j ≠ 0 ∧ 15 - 4 * j ≠ 19 ∧ 15 - 4 * j ≠ 20 ∧ 15 - 4 * j ≠ 1) j hj),
      fun j hj => four (5 - j) ((by decide : ∀ j, j < 3 → 5 - j < 21 ∧ 5 - j ≠ 0 ∧ 5 - j ≠ 19 ∧ 5 - j ≠ 20 ∧ 5 - j ≠ 1) j hj),
      fun i j hi hj h => two (18 - 4 * i) (18 - 4 * j) ((by decide : ∀ i, i < 3 → ∀ j, j < 3 → i ≠ j → 18 - 4 * i < 21 ∧ 18 - 4 * j < 21 ∧ 18 - 4 * i ≠ 18 - 4 * j) i hi j hj h),
      fun i j hi hj h => two (15 - 4 * i) (15 - 4 * j) ((by decide : ∀ i, i < 3 → ∀ j, j < 3 → i ≠ j → 15 - 4 * i < 21 ∧ 15 - 4 * j < 21 ∧ 15 - 4 * i ≠ 15 - 4 * j) i hi j hj h),
      fun i j hi hj h => two (5 - i) (5 - j) ((by decide : ∀ i, i < 3 → ∀ j, j < 3 → i ≠ j → 5 - i < 21 ∧ 5 - j < 21 ∧ 5 - i ≠ 5 - j) i hi j hj h),
      fun i j hi hj => two (18 - 4 * i) (15 - 4 * j) ((by decide : ∀ i, i < 3 → ∀ j, j < 3 → 18 - 4 * i < 21 ∧ 15 - 4 * j < 21 ∧ 18 - 4 * i ≠ 15 - 4 * j) i hi j hj),
      fun i j hi hj => two (18 - 4 * i) (5 - j) ((by decide : ∀ i, i < 3 → ∀ j, j < 3 → 18 - 4 * i < 21 ∧ 5 - j < 21 ∧ 18 - 4 * i ≠ 5 - j) i hi j hj),
      fun i j hi hj => two (15 - 4 * i) (5 - j) ((by decide : ∀ i, i < 3 → ∀ j, j < 3 → 15 - 4 * i < 21 ∧ 5 - j < 21 ∧ 15 - 4 * i ≠ 5 - j) i hi j hj)⟩
  · obtain ⟨i, hi, e, -⟩ := D_adr h114 h126 q
    exact (hx a ha).2.2 i hi e

/-- the ledger's addresses by their places -/
theorem led_adr {g h : Heap} {L : Addr} {led : List (Addr × Obj)} (N : News g L h led) (hp : (led.map (·.1)).Pairwise (· ≠ ·)) : (∀ i j, i < led.length → j < led.length → i ≠ j → (led.map (·.1)).getD i 0 ≠ (led.map (·.1)).getD j 0) ∧ (∀ i, i < led.length → g.get? ((led.map (·.1)).getD i 0) = none ∧ (led.map (·.1)).getD i 0 ≠ L ∧ (led.map (·.1)).getD i 0 < h.objs.size) := by
  have e (i : Nat) (hi : i < led.length) : (led.map (·.1)).getD i 0 = led[i].1 := by
    rw [List.getD_eq_getElem?_getD, List.getElem?_map, List.getElem?_eq_getElem hi]; rfl
  refine ⟨fun i j hi hj hij => ?_, fun i hi => ?_⟩
  · rw [e i hi, e j hj]
    have hp' := List.pairwise_iff_getElem.mp hp
    rcases Nat.lt_or_gt_of_ne hij with q | q
    · have := hp' i j (by simpa using hi) (by simpa using hj) q
      simpa using this
    · have := hp' j i (by simpa using hj) (by simpa using hi) q
      simpa using this.symm
  · have z := N led[i] (List.getElem_mem hi)
    rw [e i hi]
    exact ⟨z.2.2, z.2.1, Heap.lt_size z.1⟩
def RunJ (prog : Program) (w : World) (p : Program) (loose : List Str) (mean : ExcName → Option Value) (mg mb : Str → Option Value) (name : Str) (t : Tok) (g : Heap) (F : Fix) (nl : Addr) (o : Obj) (i : Nat) (m : Str → Option Value) (news : List (Addr × Obj)) (h : Heap) : Prop :=
  news = [(nl, o)] ∧ (m (Str.ofString "name") = some (.str name t) ∧ m (Str.ofString "records") = some (.ref F.ra) ∧ m (Str.ofString "heaps") = some (.ref F.ha) ∧ m (Str.ofString "heads") = some (.ref F.hd) ∧ m (Str.ofString "rules") = some (.ref F.ru)) ∧
    ∃ S, RunInv prog w p loose mean mg mb name F h S ∧ S.us.length ≤ i ∧ (0 < i → S.c1 ≠ none) ∧ ∀ a ∈ F.D S.lj, g.get? a = none
theorem ints_at {vs : List Value} {ns : List Int} (h : IntsAre vs ns) : ∀ {i : Nat}, i < vs.length → ∃ t n, ns[i]? = some n ∧ vs.getD i .none = .int n t := by
  induction h with
  | nil => intro i hi; cases hi
  | cons a t _ ih =>
    intro i hi
    cases i with
    | zero => exact ⟨t, a, rfl, rfl⟩
    | succ i => exact ih (by simpa using hi)
theorem lay_Q12 : True := by
  k_with_none
  w_top off
  exact True.intro
section
variable {prog : Program} {w : World} {p : Program} {loose : List Str} {mean : ExcName → Option Value} {mg mb : Str → Option Value} {name : Str}
abbrev ledOf (ru hd ha q2 q1 q0 ra l2 u2 x2 d2 l1 u1 x1 d1 l0 u0 x0 d0 : Addr) (es2 es1 es0 : List DictEntry) (k2 k1 k0 : Nat) (c1 c2 : Option Addr) : List (Addr × Obj) :=
  [(ru, W.listOf #[] 0), (hd, W.listOf #[] 0), (ha, W.listOf #[Value.ref q0, .ref q1, .ref q2] 0), (q2, W.listOf #[] 0), (q1, W.listOf #[] 0), (q0, W.listOf #[] 0), (ra, W.listOf #[Value.ref x0, .ref x1, .ref x2] 0),
    (l2, W.listOf #[] 0), (u2, W.listOf #[] 0), (x2, instObj 52 d2), (d2, dictOf es2 k2), (l1, W.listOf #[] 0), (u1, W.listOf #[] 0), (x1, instObj 52 d1), (d1, dictOf es1 k1), (l0, W.listOf #[] 0), (u0, W.listOf #[] 0), (x0, instObj 52 d0), (d0, dictOf es0 k0), (114, tabOf c1), (126, tab2Of c2)]
def adrOf (led : List (Addr × Obj)) : Nat → Addr := fun i => (led.map (·.1)).getD i 0
theorem run_ready {g h : Heap} {L nl it : Addr} {o oi : Obj} {m : Str → Option Value} {ru hd ha q2 q1 q0 ra l2 u2 x2 d2 l1 u1 x1 d1 l0 u0 x0 d0 : Addr} {es2 es1 es0 : List DictEntry} {k2 k1 k0 : Nat} {c1 c2 : Option Addr} {t : Tok}
    (F : Fr g L h m) (N : News g L h ((it, oi) :: (nl, o) :: ledOf ru hd ha q2 q1 q0 ra l2 u2 x2 d2 l1 u1 x1 d1 l0 u0 x0 d0 es2 es1 es0 k2 k1 k0 c1 c2)) (hp : ((ledOf ru hd ha q2 q1 q0 ra l2 u2 x2 d2 l1 u1 x1 d1 l0 u0 x0 d0 es2 es1 es0 k2 k1 k0 c1 c2).map (·.1)).Pairwise (· ≠ ·))
    (hit : ∀ q ∈ ledOf ru hd ha q2 q1 q0 ra l2 u2 x2 d2 l1 u1 x1 d1 l0 u0 x0 d0 es2 es1 es0 k2 k1 k0 c1 c2, q.1 < it) (hnl : ∀ q ∈ ledOf ru hd ha q2 q1 q0 ra l2 u2 x2 d2 l1 u1 x1 d1 l0 u0 x0 d0 es2 es1 es0 k2 k1 k0 c1 c2, q.1 < nl)
    (E0 : EntsAre w es0 (recL u0 l0)) (E1 : EntsAre w es1 (recL u1 l1)) (E2 : EntsAre w es2 (recL u2 l2))
    (X : (KK w).In g) (T : Top p loose mean mg mb g) (C1 : CodeHd g 118 114) (C2 : CodeHd g 128 126) (hc1 : ∀ c, c1 = some c → g.CodeRec (.ref c) "_law_come.<locals>.<lambda>") (hc2 : ∀ c, c2 = some c → g.CodeRec (.ref c) "_law_step.<locals>.<lambda>")
    (hname : name = Str.ofString "" ∨ name = Str.ofString "/A%41")
    (mn : m (Str.ofString "name") = some (.str name t)) (m1 : m (Str.ofString "records") = some (.ref ra)) (m2 : m (Str.ofString "heaps") = some (.ref ha)) (m3 : m (Str.ofString "heads") = some (.ref hd)) (m4 : m (Str.ofString "rules") = some (.ref ru)) :
    ∃ F : Fix, F.xs = [it, L, nl] ∧ RunJ prog w p loose mean mg mb name t g F nl o 0 m [(nl, o)] h := by
  have N2 : News g L h (ledOf ru hd ha q2 q1 q0 ra l2 u2 x2 d2 l1 u1 x1 d1 l0 u0 x0 d0 es2 es1 es0 k2 k1 k0 c1 c2) := fun q hq => N q (.tail _ (.tail _ hq))
  obtain ⟨i1, i2⟩ := led_adr N2 hp
  have hmem : ∀ i, i < 21 → ∃ q ∈ ledOf ru hd ha q2 q1 q0 ra l2 u2 x2 d2 l1 u1 x1 d1 l0 u0 x0 d0 es2 es1 es0 k2 k1 k0 c1 c2, adrOf (ledOf ru hd ha q2 q1 q0 ra l2 u2 x2 d2 l1 u1 x1 d1 l0 u0 x0 d0 es2 es1 es0 k2 k1 k0 c1 c2) i = q.1 := fun i hi => by
    have hi' : i < (ledOf ru hd ha q2 q1 q0 ra l2 u2 x2 d2 l1 u1 x1 d1 l0 u0 x0 d0 es2 es1 es0 k2 k1 k0 c1 c2).length := hi
    exact ⟨_, List.getElem_mem hi', by unfold adrOf; rw [List.getD_eq_getElem?_getD, List.getElem?_map, List.getElem?_eq_getElem hi']; rfl⟩
  have g0 (i : Nat) (q : Addr × Obj) (hq : (ledOf ru hd ha q2 q1 q0 ra l2 u2 x2 d2 l1 u1 x1 d1 l0 u0 x0 d0 es2 es1 es0 k2 k1 k0 c1 c2)[i]? = some q) : h.get? q.1 = some q.2 := (N2 q (List.mem_of_getElem? hq)).1
  obtain ⟨oL, a1, a2, hL, a3⟩ := F.ns
  have V := run_init (prog := prog) (name := name) (p := p) (loose := loose) (mean := mean) (mg := mg) (mb := mb) (w := w) (g := g) (h := h) (xs := [it, L, nl]) (c1 := c1) (c2 := c2) (adr := adrOf (ledOf ru hd ha q2 q1 q0 ra l2 u2 x2 d2 l1 u1 x1 d1 l0 u0 x0 d0 es2 es1 es0 k2 k1 k0 c1 c2)) i1 rfl rfl
    (fun a hm => by
      simp only [List.mem_cons, List.not_mem_nil, or_false] at hm
      rcases hm with rfl | rfl | rfl
      · refine ⟨⟨_, (N _ (.head _)).1⟩, (N _ (.head _)).2.2, fun i hi => ?_⟩
        obtain ⟨q, hq, e⟩ := hmem i hi
        rw [e]; exact Nat.ne_of_gt (hit q hq)
      · refine ⟨⟨_, hL⟩, Heap.get?_none_of_le F.above, fun i hi => ?_⟩
        obtain ⟨q, hq, e⟩ := hmem i hi
        rw [e]; exact (N2 q hq).2.1.symm
      · refine ⟨⟨_, (N _ (.tail _ (.head _))).1⟩, (N _ (.tail _ (.head _))).2.2, fun i hi => ?_⟩
        obtain ⟨q, hq, e⟩ := hmem i hi
        rw [e]; exact Nat.ne_of_gt (hnl q hq)) (fun i hi => (i2 i hi).1) X T C1 C2 F.keep hc1 hc2 (g0 19 _ rfl) (g0 20 _ rfl) (g0 6 _ rfl) (g0 2 _ rfl) (g0 0 _ rfl) (g0 1 _ rfl)
    (fun j hj => by
      obtain rfl | rfl | rfl : j = 0 ∨ j = 1 ∨ j = 2 := by omega
      · exact ⟨g0 17 _ rfl, ⟨_, _, g0 18 _ rfl, E0⟩, g0 16 _ rfl, g0 15 _ rfl, g0 5 _ rfl⟩
      · exact ⟨g0 13 _ rfl, ⟨_, _, g0 14 _ rfl, E1⟩, g0 12 _ rfl, g0 11 _ rfl, g0 4 _ rfl⟩
      · exact ⟨g0 9 _ rfl, ⟨_, _, g0 10 _ rfl, E2⟩, g0 8 _ rfl, g0 7 _ rfl, g0 3 _ rfl⟩) hname
  refine ⟨_, rfl, rfl, ⟨mn, m1, m2, m3, m4⟩, _, V, Nat.zero_le _, fun q => absurd q (Nat.lt_irrefl _), fun a hm => ?_⟩
  obtain ⟨i, hi, rfl, -⟩ := D_adr (adr := adrOf (ledOf ru hd ha q2 q1 q0 ra l2 u2 x2 d2 l1 u1 x1 d1 l0 u0 x0 d0 es2 es1 es0 k2 k1 k0 c1 c2)) (xs := [it, L, nl]) rfl rfl hm
  exact (i2 i hi).1
end
theorem lay_R0 : True := by
  k_with_none
  w_top off
  k_with "m_look" => first | with_reducible assumption | exact rfl | exact upd_eq | (refine upd_ne ?_ (by decide); walk_at "m_look")
  k_with "eval Name" => (k_here; (with_reducible rename Fr _ _ _ _ => kFZz); with_unfolding_all refine guard_global (by rfl) ?_; k_dflt (refine' name_B kFZz ?k1 ?k2 ?k3 ?k4 ?k5 ?_; (case k1 => k_asm); (case k2 => k_asm); (case k3 => exact rfl); (case k4 => boot_fast); (case k5 => decide); k_whole))
  k_with "eval Name" => (k_here; (with_reducible rename Fr _ _ _ _ => kFZz); with_unfolding_all refine guard_global (by rfl) ?_; k_dflt (refine' name_K kFZz ?k1 ?k2 ?k3 ?_; (case k1 => k_asm); (case k2 => k_asm); (case k3 => exact rfl); k_whole))
  k_with "callWith ref" => (k_here; k_dflt (first
      | refine' callWith_K ?k1 ?k2 ?_; (case k1 => k_asm); (case k2 => exact rfl); k_whole
      | refine' callWith_K0 ?k1 ?k2 ?_; (case k1 => k_in); (case k2 => exact rfl); k_whole))
  k_with "eval Name" => (k_here; k_dflt (refine' ld ?k1 ?k2 ?_; (case k1 => k_asm); (case k2 => walk_at "m_look"); k_whole))
  k_with "subscriptTail" => (k_here; (with_reducible show wpAny _ _ (subscriptTail _ _ (Value.ref _) (Value.int _ _)) _ _ _); k_dflt (refine' item_get ?k1 ?k2 ?k3 ?k4 ?_; (case k1 => exact News.isList (by k_asm) (by k_mem)); (case k2 => omega); (case k3 => omega); (case k4 => omega); k_whole))
  k_with "setItem ref int" => (k_here; k_dflt (refine' item_set ?k1 ?k2 ?k3 ?k4 ?k5 ?k6 ?_; (case k1 => k_asm); (case k2 => k_asm); (case k3 => k_upd); (case k4 => omega); (case k5 => omega); (case k6 => omega); k_whole); intro hZz FZz NZz; (try k_sweep))
  k_with "binaryOp RShift int int" => (k_here; k_dflt (refine' wpAny_rshift1_int ?k1 ?_; (case k1 => omega); k_whole))
  k_with "call builtin:len" => (k_here; (with_reducible show wpAny _ _ (call (Value.builtin _) [Value.ref _]) _ _ _); k_dflt (refine' len_L ?k1 ?k2 ?_; (case k1 => exact News.isList (by k_asm) (by k_mem)); (case k2 => ((try simp only [List.length_append, List.length_cons, List.length_nil]); omega)); k_whole))
  k_with "call builtin:list.append" => (k_here; (with_reducible show wpAny _ _ (call (Value.builtin _) [Value.ref _, _]) _ _ _); k_dflt (refine' append_L ?k1 ?k2 ?k3 ?k4 ?_; (case k1 => k_asm); (case k2 => k_asm); (case k3 => k_upd); (case k4 => ((try simp only [List.length_append, List.length_cons, List.length_nil]); omega)); k_whole); intro hZz FZz NZz; (try k_sweep))
  k_with "call builtin:list.pop" => (k_here; (with_reducible show wpAny _ _ (call (Value.builtin _) [Value.ref _]) _ _ _); k_dflt (refine' pop_L ?k1 ?k2 ?k3 ?k4 ?_; (case k1 => k_asm); (case k2 => k_asm); (case k3 => k_upd); (case k4 => omega); k_whole); intro hZz FZz NZz; (try k_sweep))
  k_with "assign Tuple" => (k_here; (with_reducible show wpAny _ _ (assign (Expr.Tuple _ _ _) _ (Value.ref _)) _ _ _); k_dflt (refine' unpackN_ ?F ?N ?T ?k1 ?k2 ?k3 ?_; (case F => k_asm); (case N => k_asm); (case T => first | with_reducible assumption | (refine News.isTup (by k_asm) (by k_mem))); (case k1 => assumption); (case k2 => exact rfl); (case k3 => exact rfl)); intro hZz FZz NZz; (try k_sweep))
  k_with "call type:range" => (k_here; (with_reducible show wpAny _ _ (call _ [Value.int _ _]) _ _ _); k_dflt (refine' range_L ?k1 ?k2 ?_; (case k1 => k_asm); (case k2 => k_asm); k_whole); intro rZz hZz uZz vZz FZz NZz l1Zz; (try k_lt l1Zz); (try k_sweep))
  k_with "call type:reversed" => (k_here; k_dflt (refine' reversed_L ?k1 ?k2 ?k3 ?k4 ?k5 ?_; (case k1 => k_asm); (case k2 => k_asm); (case k3 => k_mem); (case k4 => omega); (case k5 => omega); k_whole); intro iZz hZz FZz NZz l1Zz; (try k_lt l1Zz); (try k_sweep))
  k_with "binaryOp FloorDiv int int" => (k_here; k_dflt (refine' fdiv_pos ?k1 ?k2 ?_; (case k1 => decide); (case k2 => exact PyProof.noPylong_of_log2 (by decide +kernel)); k_whole))
  k_with "binaryOp Mod int int" => (k_here; k_dflt (refine' fmod_pos ?k1 ?_; (case k1 => decide); k_whole))
  k_with "ent inst" => first | exact Fr.keep (by k_asm) _ _ (by assumption) | exact News.get (by k_asm) (by k_mem)
  k_with "setAttr ref" => (k_here; k_dflt (refine' ent_set ?k1 ?k2 ?k3 ?k4 ?k5 ?k6 ?k7 ?_ ?k8; (case k8 => exact rfl); (case k1 => k_asm); (case k2 => k_asm); (case k3 => k_asm); (case k4 => walk_at "ent inst"); (case k5 => k_updF); (case k6 => assumption); (case k7 => exact Nat.le_of_ble_eq_true rfl); k_whole); intro hZz eZz nZz FZz NZz EZz; (try dsimp only at NZz); (try k_sweep))
  k_with "newList" => (k_here; k_dflt (refine' newList_L ?k1 ?k2 ?_ ?k3; (case k1 => k_asm); (case k2 => k_asm); (case k3 => first | exact Nat.le_of_ble_eq_true rfl | omega); k_whole); intro lZz hZz FZz NZz l1Zz l2Zz; (try k_lt l1Zz); (try k_lt2 l2Zz); (try k_sweep))
  k_with "is cells" => first | (with_reducible show wpAny _ _ (eval (Expr.Name _ _) (envOfC _ _ _ _ _)) _ _ _) | (with_reducible show wpAny _ _ (eval (Expr.Name _ _) (envX _ _ _ _ _ _)) _ _ _) | (with_reducible show wpAny _ _ (storeName (envOfC _ _ _ _ _) _ _) _ _ _)
  k_with "eval Name" => (k_here; walk_at "is cells"; k_dflt (first
      | (refine' nameX_L ?F ?v ?_ ?a ?b; (case F => k_asm); (case a => rfl); (case b => rfl); (case v => walk_at "m_look"); k_whole)
      | (refine' nameX_C ?N ?c ?m ?d ?_ ?a ?b; (case a => rfl); (case b => rfl); (case N => k_asm); (case c => rfl); (case m => k_mem); (case d => k_asm); k_whole)
      | (refine' nameX_F ?N ?c ?m ?d ?_ ?a ?b; (case a => rfl); (case b => rfl); (case N => k_asm); (case c => rfl); (case m => k_mem); (case d => k_asm); k_whole)
      | (refine' nameX_K ?F ?X ?T ?e ?_ ?a ?b; (case F => k_asm); (case X => k_asm); (case T => k_asm); (case a => rfl); (case b => rfl); (case e => exact rfl); k_whole)
      | (refine' nameX_B ?F ?X ?T ?e ?v ?n ?_ ?a ?b; (case F => k_asm); (case X => k_asm); (case T => k_asm); (case a => rfl); (case b => rfl); (case e => exact rfl); (case v => boot_fast); (case n => decide); k_whole)))
  k_with "eval Lambda" => (k_here; k_dflt (refine' kla_eval ?d0 ?_; (case d0 => exact rfl)); (first
      | (k_dflt (refine' kla_nest ?F ?N ?T ?C ?cd ?U ?t ?n ?cl ?_; (case F => k_asm); (case N => k_asm); (case T => k_asm); (case cd => exact rfl); (case C => k_asm); (case U => k_updF); (case t => kn_triples); (case n => kn_among); (case cl => exact rfl); k_whole); intro fZz cZz ocZz vsZz tZz ctZz hZz tkZz FZz NZz d1Zz d2Zz l1Zz l2Zz; (try dsimp only at NZz); (try k_lt l1Zz); (try k_lt2 l2Zz))
      | (k_dflt (refine' kla_hit ?F ?N ?T ?C ?cd ?mem ?t ?n ?cl ?_; (case F => k_asm); (case N => k_asm); (case T => k_asm); (case cd => exact rfl); (case C => k_asm); (case mem => k_mem); (case t => kn_triples); (case n => kn_among); (case cl => exact rfl); k_whole); intro fZz ctZz hZz tkZz FZz NZz l1Zz; (try k_lt l1Zz))))
  k_with "is list" => first | exact News.isList (by k_asm) (by k_mem) | exact isList_keep (by k_asm) (by assumption)
  k_with "subscriptTail" => (k_here; (with_reducible show wpAny _ _ (subscriptTail _ _ (Value.ref _) (Value.int _ _)) _ _ _); k_dflt (refine' item_getv ?k1 ?k2 ?k3 ?k4 ?k5 ?_; (case k1 => walk_at "is list"); (case k2 => omega); (case k3 => ((try simp only [List.length_cons, List.length_nil]); omega)); (case k4 => ((try simp only [List.length_cons, List.length_nil]); omega)); (case k5 => first | with_reducible assumption | exact rfl); k_whole))
  k_with "ent at" => first | exact EntAt.keeps (by assumption) (Fr.keep (by k_asm)) | exact ⟨Fr.keep (by k_asm) _ _ (by assumption), _, _, News.get (by k_asm) (by k_mem), by assumption⟩ | exact ⟨News.get (by k_asm) (by k_mem), _, _, News.get (by k_asm) (by k_mem), by assumption⟩
  k_with "getAttr ref" => (k_here; k_dflt (refine' ent_get ?k1 ?k2 ?k3 ?k4 ?_ ?k5 ?k6 ?k7 ?k8 ?k9; (case k5 => exact rfl); (case k6 => exact rfl); (case k7 => exact rfl); (case k8 => exact rfl); (case k9 => exact rfl); (case k1 => exact Frag.In.keeps (by k_asm) (Fr.keep (by k_asm))); (case k2 => walk_at "ent at"); (case k3 => first | assumption | exact rfl); (case k4 => exact rfl); k_whole))
  k_with "subscriptTail" => (k_here; (with_reducible show wpAny _ _ (subscriptTail _ _ (Value.ref _) (Value.str _ _)) _ _ _); k_dflt (refine' reach_item ?k1 ?k2 ?_; (case k1 => first | exact ReachAt.keeps (by assumption) (Fr.keep (by k_asm)) | exact ⟨_, _, Heap.dictOf_iff.mpr ⟨_, News.get (by k_asm) (by k_mem), by assumption⟩⟩); (case k2 => assumption); k_whole); intro _)
  k_with "getMethod ref" => (k_here; k_dflt (refine' ent_meth ?k1 ?k2 ?k3 ?k4 ?_ ?k5 ?k6 ?k7 ?k10 ?k8 ?k9; (case k5 => exact rfl); (case k6 => exact rfl); (case k7 => exact rfl); (case k10 => exact rfl); (case k8 => exact rfl); (case k9 => exact rfl); (case k1 => exact Frag.In.keeps (by k_asm) (Fr.keep (by k_asm))); (case k2 => walk_at "ent at"); (case k3 => first | assumption | exact rfl); (case k4 => exact rfl); k_whole))
  k_with "fn at" => exact ⟨_, _, _, _, Fr.keep (by k_asm) _ _ (by assumption)⟩
  k_with "callWith ref" => (k_here; k_dflt (refine' callWith_F ?k1 ?_; (case k1 => walk_at "fn at"); k_whole))
  k_with "And" => (k_dflt (refine And.intro ?kfn ?_; (case kfn => walk_at "fn at"); (try dsimp only [List.nil_append, List.cons_append])))
  k_with "subscriptTail" => (k_here; (with_reducible show wpAny _ _ (subscriptTail _ _ (Value.ref _) (Value.int _ _)) _ _ _); k_dflt (refine' key_at4 ?k1 ?k2 ?_; (case k1 => exact KeyAt.keeps (by assumption) (Fr.keep (by k_asm))); (case k2 => first | exact .i0 | exact .i1 | exact .i2 | exact .i3); k_whole); intro _)
  k_with "call builtin:abs" => (k_here; k_dflt (refine' abs_L ?_; k_whole); intro _ _)
  k_with "eval Name" => (k_here; (with_reducible show wpAny _ _ (eval (Expr.Name _ _) (compEnvC _ _ _ _)) _ _ _); k_dflt (first
      | (refine' nameY_L ?F ?v ?_ ?a ?b; (case F => k_asm); (case a => rfl); (case b => rfl); (case v => walk_at "m_look"); k_whole)
      | (refine' nameY_C ?F ?N ?c ?m ?d ?_ ?a ?b; (case a => rfl); (case b => rfl); (case F => k_asm); (case N => k_asm); (case c => rfl); (case m => k_mem); (case d => first | k_asm | rfl); k_whole)
      | (refine' nameY_K ?F ?X ?T ?e ?_ ?z ?a ?b; (case F => k_asm); (case X => k_asm); (case T => k_asm); (case z => rfl); (case a => rfl); (case b => rfl); (case e => exact rfl); k_whole)
      | (refine' nameY_B ?F ?X ?T ?e ?v ?n ?_ ?z ?y ?a ?b; (case F => k_asm); (case X => k_asm); (case T => k_asm); (case z => rfl); (case y => rfl); (case a => rfl); (case b => rfl); (case e => exact rfl); (case v => boot_fast); (case n => decide); k_whole)))
  k_with "call type:set cons nil" => (k_here; k_dflt (refine' set_L ?k1 ?k2 ?k3 ?k4 ?_; (case k1 => k_asm); (case k2 => k_asm); (case k3 => first | exact rfl | assumption); (case k4 => assumption); k_whole); intro xZz hZz tkZz oZz FZz NZz l1Zz l2Zz hsZz; (try k_lt l1Zz); (try k_lt2 l2Zz); (try k_sweep))
  k_with "getAttr ref" => (k_here; (with_reducible show wpAny _ _ (getAttr (Value.ref _) (PySem.Str.ofString "__contains__") _) _ _ _); obtain ⟨_, _, hs0Zz⟩ := (by assumption : ∃ S n, PySem.Obj.SetObjOf (intKind _ _) _ S n); k_dflt (refine' set_attr_N ?k1 ?k2 ?k3 ?k4 ?_; (case k1 => k_asm); (case k2 => k_asm); (case k4 => exact hs0Zz); (case k3 => k_mem); k_whole); intro xZz hZz tkZz FZz NZz l1Zz l2Zz; (try k_lt l1Zz); (try k_lt2 l2Zz); (try k_sweep))
  k_with "call type:filter" => (k_here; k_dflt (refine' filter_new ?k1 ?k2 ?k3 ?_; (case k1 => k_asm); (case k2 => k_asm); (case k3 => exact Fr.keep (by k_asm) _ _ (by assumption)); k_whole); intro iZz xZz hZz FZz NZz l1Zz l2Zz l3Zz; (try k_lt l1Zz); (try k_lt2 l2Zz); (try k_lt2 l3Zz))
  k_with "call type:list" => (k_here; k_dflt (refine' list_filter2 ?k1 ?k2 ?k3 ?k4 ?k5 ?_; (case k1 => k_asm); (case k2 => k_asm); (case k3 => first | exact rfl | assumption); (case k4 => assumption); (case k5 => walk_at "apart"); k_whole); intro xZz nZz hZz tkZz FZz NZz l1Zz l2Zz; (try k_lt l1Zz); (try k_lt2 l2Zz); (try k_sweep))
  k_with "apart" => repeat' (first | exact List.forall_mem_nil _ | (refine List.forall_mem_cons.mpr ⟨by k_ne, ?_⟩))
  k_with "binaryOp Add ref ref" => (k_here; k_dflt (refine' add_L ?k1 ?k2 ?k3 ?k4 ?k5 ?_; (case k1 => k_asm); (case k2 => k_asm); (case k3 => walk_at "is list"); (case k4 => walk_at "is list"); (case k5 => ((try simp only [List.length_append, List.length_cons, List.length_nil]); omega)); k_whole); intro xZz hZz FZz NZz l1Zz l2Zz; (try k_lt l1Zz); (try k_lt2 l2Zz); (try k_sweep))
  k_with "getMethod ref" => (k_here; k_dflt (refine' ent_methC ?k1 ?k2 ?k3 ?k4 ?_ ?k5 ?k6 ?k7; (case k1 => k_asm); (case k2 => k_asm); (case k3 => walk_at "ent at"); (case k4 => exact rfl); (case k5 => exact rfl); (case k6 => exact rfl); (case k7 => exact rfl); k_whole))
  k_with "all mem" => repeat' (first | exact List.forall_mem_nil _ | (refine List.forall_mem_cons.mpr ⟨by k_mem, ?_⟩))
  k_with "list obj" => first | exact News.get (by k_asm) (by k_mem) | exact Fr.keep (by k_asm) _ _ (by assumption)
  k_with "compareOp NotEq ref ref" => (k_here; (with_reducible show wpAny _ _ (compareOp CmpOp.NotEq (Value.ref _) (Value.ref _)) _ _ _); k_dflt (refine' ne_empty ?k1 ?k2 ?k3 ?_; (case k1 => walk_at "list obj"); (case k2 => exact News.get (by k_asm) (by k_mem)); (case k3 => (simp only [PySem.Around.deeper_units]; omega)); k_whole); (try simp only [List.isEmpty_cons, List.isEmpty_nil, Bool.not_false, Bool.not_true]))
  k_with "compareOp Eq ref ref" => (k_here; (with_reducible show wpAny _ _ (compareOp CmpOp.Eq (Value.ref _) (Value.ref _)) _ _ _); k_dflt (refine' eq_empty ?k1 ?k2 ?k3 ?_; (case k1 => walk_at "list obj"); (case k2 => exact News.get (by k_asm) (by k_mem)); (case k3 => (simp only [PySem.Around.deeper_units]; omega)); k_whole); (try simp only [List.isEmpty_cons, List.isEmpty_nil, Bool.not_false, Bool.not_true]))
  k_with "no loop" => ((fail_if_success (with_reducible show wpAny _ _ (exec (Stmt.While _ _ _ _) _) _ _ _)); (fail_if_success (with_reducible show wpAny _ _ (exec (Stmt.For _ _ _ _ _) _) _ _ _)); (fail_if_success (with_reducible show wpAny _ _ (call (Value.ref _) _ _) _ _ _)); (fail_if_success (with_reducible show wpAny _ _ (pyIter _) _ _ _)); (fail_if_success (with_reducible show wpAny _ _ (eval (Expr.ListComp _ _ _ _) _) _ _ _)); (fail_if_success (with_reducible show wpAny _ _ (exec (Stmt.Assign [Expr.Name _ _] (Expr.ListComp _ _ _ _) _) _) _ _ _)))
  k_with "go" => repeat' (first | (walk_at "no loop"; walk1; try dsimp only) | (walk_at "no loop"; dsimp only; walk1))
  exact True.intro
theorem run_code {prog : Program} {w : World} {p : Program} {loose : List Str} {mean : ExcName → Option Value} {mg mb : Str → Option Value} {A : Around} {R : Result → Shared → Prop} {s : Shared} {nl : Addr} {vs : List Value} {ns : List Int} {n0 : Nat} {c1 c2 : Option Addr} {tm : Tok} {name : Str}
  (X : (KK w).In (hideAll s.heap [114, 126])) (T : Top p loose mean mg mb (hideAll s.heap [114, 126])) (C1 : CodeHd (hideAll s.heap [114, 126]) 118 114) (C2 : CodeHd (hideAll s.heap [114, 126]) 128 126) (hroom : A.depth < 700) (hu : A.units < 80) (hh : A.handled = none)
  (ht1 : s.heap.get? 114 = some (tabOf c1)) (ht2 : s.heap.get? 126 = some (tab2Of c2)) (hc1 : ∀ c, c1 = some c → (hideAll s.heap [114, 126]).CodeRec (.ref c) "_law_come.<locals>.<lambda>") (hc2 : ∀ c, c2 = some c → (hideAll s.heap [114, 126]).CodeRec (.ref c) "_law_step.<locals>.<lambda>")
  (hnl : (hideAll s.heap [114, 126]).get? nl = some (W.listOf vs.toArray n0)) (hvs : IntsAre vs ns) (h40 : ns[0]? = some 40) (hlen : ns.length ≤ 20) (hname : name = Str.ofString "" ∨ name = Str.ofString "/A%41")
  (post : ∀ h' tk c1' c2', Keeps [114, 126] s.heap h' → h'.get? 114 = some (tabOf c1') → h'.get? 126 = some (tab2Of c2') → (∀ c, c1' = some c → (hideAll h' [114, 126]).CodeRec (.ref c) "_law_come.<locals>.<lambda>") → (∀ c, c2' = some c → (hideAll h' [114, 126]).CodeRec (.ref c) "_law_step.<locals>.<lambda>") →
    R (.ok (.ret (.bool true))) { s with heap := h', toks := tk }) :
  codeAny (model prog w) A (.call (.ref 141) ⟨[.ref nl, .str name tm], []⟩) R s := by
  obtain ⟨g, hg⟩ : ∃ g, g = hideAll s.heap [114, 126] := ⟨_, rfl⟩
  rw [← hg] at X T C1 C2 hc1 hc2 hnl
  have T' := topRead_of T
  refine enter (news := [(114, tabOf c1), (126, tab2Of c2)]) (K := KK w) hg X T' ?_ rfl rfl (Nat.lt_of_lt_of_le hroom (by decide)) (BindsTo.of_eq rfl) (locs rfl) ?_
  · intro q hq
    rcases List.mem_cons.mp hq with rfl | hq
    · exact ht1
    rcases List.mem_cons.mp hq with rfl | hq
    · exact ht2
    · cases hq
  intro L h₁ tk F N lt0
  k_lt lt0
  try dsimp only
  walk_at "go"
  (rename Fr _ _ _ _ => F2); (rename News _ _ _ _ => N2)
  refine entry_new (p := p) (loose := loose) (mg := mg) (mb := mb) F2 N2 X T' (dpt (a := A.depth) hroom (by decide)) ?_
  intro x0 d0 u0 l0 es0 k0 h2 tk2 F3 N3 E0 a1 a2 a3 a4 a5
  have a6 := ent_lt a1 a2
  have a7 := ent_lt a6 a3
  have a8 := ent_lt a7 a4
  k_lt a1
  clear F2 N2
  walk_at "go"
  (rename Fr _ _ _ _ => F4); (rename News _ _ _ _ => N4)
  refine entry_new (p := p) (loose := loose) (mg := mg) (mb := mb) F4 N4 X T' (dpt (a := A.depth) hroom (by decide)) ?_
  intro x1 d1 u1 l1 es1 k1 h4 tk4 F5 N5 E1 b1 b2 b3 b4 b5
  have b6 := ent_lt b1 b2
  have b7 := ent_lt b6 b3
  have b8 := ent_lt b7 b4
  k_lt b1
  clear F4 N4
  walk_at "go"
  (rename Fr _ _ _ _ => F6); (rename News _ _ _ _ => N6)
  refine entry_new (p := p) (loose := loose) (mg := mg) (mb := mb) F6 N6 X T' (dpt (a := A.depth) hroom (by decide)) ?_
  intro x2 d2 u2 l2 es2 k2 h6 tk6 F7 N7 E2 e1 e2 e3 e4 e5
  have e6 := ent_lt e1 e2
  have e7 := ent_lt e6 e3
  have e8 := ent_lt e7 e4
  k_lt e1
  clear F6 N6
  walk_at "go"
  refine wpAny_For ?_ (by intro _; rfl)
  walk_at "go"
  (rename Fr _ _ _ _ => F8); (rename News _ _ _ _ => N8)
  refine Calls.call_len_list (isList_keep F8 hnl) (by simp; have := hvs.length; (first | lia | omega)) ?_
  refine KM.mul F8 N8 (N8.isList (.head _)) (.cons 6 _ .nil) ?_ ?_ ?_ ?_
  · (first | lia | omega)
  · simp only [List.size_toArray]; have := hvs.length; (first | lia | omega)
  · simp only [List.size_toArray, List.length_cons, List.length_nil]; have := hvs.length; (first | lia | omega)
  intro D9 h9 F9 N9 l9 i9 k9 k91 k92 k93 k94
  have hvl := hvs.length
  have k95 := k94 (by (first | lia | omega))
  simp only [List.size_toArray, List.length_cons, List.length_nil] at k95
  rw [List.size_toArray] at k91
  generalize hws : (List.replicate _ [Value.int 6 _]).flatten = ws at N9 i9 k91
  generalize hsx : (List.replicate _ [(6 : Int)]).flatten = sx at i9
  clear F8 N8
  refine add_L F9 N9 (isList_keep F9 hnl) (N9.isList (.head _)) (by (first | lia | omega)) ?_
  intro nl2 h10 F10 N10 l10 l10'
  clear F9 N9
  have hall : IntsAre (vs ++ ws) (ns ++ sx) := hvs.append i9
  have hal : (vs ++ ws).length ≤ 40 := by rw [List.length_append]; (first | lia | omega)
  have hpos : 0 < ns.length := by
    rcases Nat.eq_zero_or_pos ns.length with q | q
    · rw [List.length_eq_zero_iff.mp q] at h40; cases h40
    · exact q
  have h40' : (ns ++ sx)[0]? = some 40 := by rw [List.getElem?_append_left hpos]; exact h40
  generalize hA : vs ++ ws = all at N10 hall hal
  generalize hB : ns ++ sx = alln at hall h40'
  refine wpAny_pyIter_list (N10.isList (.head _)) ?_
  have Fp := F10.push { cls := .type "list_iterator", data := .fields #[.ref nl2, .int 0 0] }
  have Np0 := N10.push F10 { cls := .type "list_iterator", data := .fields #[.ref nl2, .int 0 0] }
  obtain ⟨F', hxs, J0⟩ := run_ready (mean := mean) (p := p) (loose := loose) (mg := mg) (mb := mb) (prog := prog) (t := tm) (name := name) (it := h10.objs.size) (nl := nl2) Fp (fun q hq => Np0 q (by
      rcases List.mem_cons.mp hq with hq | hq
      · rw [hq]; exact .head _
      rcases List.mem_cons.mp hq with hq | hq
      · rw [hq]; exact .tail _ (.head _)
      exact .tail _ (.tail _ (.tail _ (.tail _ hq))))) (by
      dsimp only [ledOf, List.map]
      repeat' (first | exact List.Pairwise.nil | refine List.Pairwise.cons ?_ ?_ | exact List.forall_mem_nil _ | (refine List.forall_mem_cons.mpr ⟨by k_ne, ?_⟩))) (fun q hq => Heap.lt_size (N10 q (.tail _ (.tail _ (.tail _ hq)))).1) (fun q hq => l10 q (.tail _ (.tail _ hq))) E0 E1 E2 X T C1 C2 hc1 hc2 hname (by walk_at "m_look") (by walk_at "m_look") (by walk_at "m_look") (by walk_at "m_look") (by walk_at "m_look")
  have Np : News g L (h10.push { cls := .type "list_iterator", data := .fields #[.ref nl2, .int 0 0] }) [(h10.objs.size, { cls := .type "list_iterator", data := .fields #[.ref nl2, .int 0 0] }), (nl2, W.listOf all.toArray 0)] := fun q hq => Np0 q (by
      rcases List.mem_cons.mp hq with hq | hq
      · rw [hq]; exact .head _
      rcases List.mem_cons.mp hq with hq | hq
      · rw [hq]; exact .tail _ (.head _)
      cases hq)
  have ltnl : (nl2 : Nat) < h10.objs.size := Heap.lt_size (N10 _ (.head _)).1
  have neL : nl2 ≠ L := (N10 _ (.head _)).2.1
  clear Np0 N10 F10 l10 E0 E1 E2
  have xit : h10.objs.size ∈ F'.xs := by rw [hxs]; exact .head _
  have xL : L ∈ F'.xs := by rw [hxs]; exact .tail _ (.head _)
  have xnl : nl2 ∈ F'.xs := by rw [hxs]; exact .tail _ (.tail _ (.head _))
  dsimp only
  refine for_anyH (news := [(nl2, W.listOf all.toArray 0)]) (iter_list prog w h10.objs.size nl2 all) (RunJ prog w p loose mean mg mb name tm g F' nl2 (W.listOf all.toArray 0)) (by exact hh) Fp Np (fun q hq => by rw [List.mem_singleton.mp hq]; exact Nat.ne_of_lt ltnl) ⟨rfl, rfl⟩ J0 ?_ ?_ ?_ ?_
  · rintro i m1 news1 h1 h2 ⟨rfl, hm, S, V, r⟩ k e1 e2
    refine ⟨rfl, hm, S, V.touch (fun b o hb => k b o fun q => ?_) fun a ha => ?_, r⟩
    · rcases List.mem_cons.mp q with q | q
      · exact hb (by rw [q]; exact xit)
      · exact hb (by rw [List.mem_singleton.mp q]; exact xL)
    · obtain ⟨o, e⟩ := V.xat a ha
      rw [hxs] at ha
      simp only [List.mem_cons, List.not_mem_nil, or_false] at ha
      rcases ha with rfl | rfl | rfl
      · exact e1
      · exact e2
      · refine ⟨o, k _ _ (fun q => ?_) e⟩
        rcases List.mem_cons.mp q with q | q
        · exact Nat.ne_of_lt ltnl q
        · exact neL (List.mem_singleton.mp q)
  · rintro i m1 news1 h1 hi F3 N3 ⟨rfl, -⟩
    exact N3.isList (.head _)
  · rintro i m1 news1 h1 tk1 t1 oi hi F3 N3 ne3 ⟨rfl, ⟨mn, m1', m2, m3, m4⟩, S, V, hS, hc, hg0⟩
    clear Fp Np J0
    obtain ⟨tn, n, en, ev⟩ := ints_at hall hi
    try dsimp only at F3
    rw [ev] at F3
    walk_at "go"
    (rename Fr _ _ _ _ => F4); (rename News _ _ _ _ => N4)
    refine wpAny_call (V.step rfl (dpt (a := A.depth) hroom (by decide)) (unt (a := A.units) hu (by decide)) (by exact hh) (by (first | lia | omega)) ?_ ?_)
    · rcases Nat.eq_zero_or_pos i with q | q
      · right
        rw [q, h40'] at en
        injection en with en
        rw [← en]; decide
      · exact .inl (hc q)
    intro h5 tk5 S5 V5 hS5 hc5 hM5 k5
    have F5 := fr_after F4 k5 fun b hb => ⟨fun q => V.off L xL (q ▸ hb), hg0 b hb⟩
    have N5 : News g L h5 [(h10.objs.size, oi), (nl2, W.listOf all.toArray 0)] := fun q hq => by
      refine ⟨k5 _ _ ?_ (N4 q hq).1, (N4 q hq).2⟩
      rcases List.mem_cons.mp hq with hq | hq
      · rw [hq]; exact V.off _ xit
      · rw [List.mem_singleton.mp hq]; exact V.off _ xnl
    have hg5 : ∀ a ∈ F'.D S5.lj, g.get? a = none := fun a ha => by
      rcases hM5 a ha with q | q
      · exact hg0 a q
      · exact Heap.get?_none_of_le (Nat.le_trans F4.above (Nat.le_trans (Nat.le_of_lt F4.ns.lt) q))
    clear F4 N4 k5 hM5
    walk_at "go"
    (rename Fr _ _ _ _ => F6); (rename News _ _ _ _ => N6)
    refine wpAny_call (V5.agrees rfl (dpt (a := A.depth) hroom (by decide)) (unt (a := A.units) hu (by decide)) (by exact hh) (by (first | lia | omega)) hc5 ?_)
    intro h7 tk7 V7 k7
    have F7 := fr_after F6 k7 (fun _ h => nomatch h)
    have N7 : News g L h7 [(h10.objs.size, oi), (nl2, W.listOf all.toArray 0)] := fun q hq => ⟨k7 _ _ (fun h => nomatch h) (N6 q hq).1, (N6 q hq).2⟩
    clear F6 N6
    walk_at "go"
    (rename Fr _ _ _ _ => F8); (rename News _ _ _ _ => N8)
    refine ⟨_, _, _, _, rfl, F8, N8, ne3, rfl, ⟨by walk_at "m_look", by walk_at "m_look", by walk_at "m_look", by walk_at "m_look", by walk_at "m_look"⟩, S5, V7, by (first | lia | omega), fun _ => hc5, hg5⟩
  · rintro m1 news1 h1 h2 tk1 F3 N3 ⟨rfl, hm, S, V, hS, hc, hg0⟩ k
    try dsimp only
    walk_at "go"
    have nit : ∀ a ∈ F'.D S.lj, a ∉ [h10.objs.size] := fun a ha q => V.off _ xit (List.mem_singleton.mp q ▸ ha)
    have sb : Sub (F'.G h1 S.lj) (hideAll h2 [114, 126]) := base_next k (fun a ha => by rw [List.mem_singleton.mp ha]; exact List.mem_append_right _ xit) fun a ha => .inl (memM (by
      rcases List.mem_cons.mp ha with rfl | ha
      · simp
      · rw [List.mem_singleton.mp ha]; simp))
    exact post _ _ S.c1 S.c2 (keeps_of hg F3) (k _ _ (nit _ (by simp)) V.t1) (k _ _ (nit _ (by simp)) V.t2) (fun c e => (V.code1 c e).keeps sb) (fun c e => (V.code2 c e).keeps sb)
theorem lay_Q13 : True := by
  k_with_none
  w_top off
  exact True.intro
section
variable {prog : Program} {w : World} {A : Around} {E : Value → Shared → Prop} {s : Shared} {g : Heap} {L : Addr} {m : Str → Option Value} {news : List (Addr × Obj)}
theorem slice8 {value slice : PySem.Expr} {t1 : Tok} {l : Addr} {vs : List Value} {Q : Value → Shared → Prop} (F : Fr g L s.heap m) (N : News g L s.heap news) (hl : s.heap.IsList l vs.toArray) (hsz : vs.length ≤ 1000)
    (h : ∀ D h', Fr g L h' m → News g L h' ((D, W.listOf (vs.take 8).toArray 0) :: news) → (∀ q ∈ news, q.1 < D) → L < D → Q (.ref D) { s with heap := h' })
    (hs : subscripted slice false (.ref l) (.ref s.heap.objs.size) = operate [.ref s.heap.objs.size, .ref l] (getItem (.ref l) (.ref s.heap.objs.size)) := by with_unfolding_all rfl)
    (ht' : ∀ r, letTemporaryGo value (.ref l) r = pure () := by intro _; with_unfolding_all rfl) :
    wpAny (model prog w) A (subscriptTail value slice (.ref l) (.ref s.heap.objs.size)) Q E { s with heap := s.heap.push { cls := .type "slice", data := .fields #[.none, .int 8 t1, .none] } } := by
  refine slice_list F N hl .none (.int 8 t1) (fun h' F' N' => ?_) hs ht' ?_
  · have e := slicePick_upto' vs.toArray 8
    rw [show ((8 : Nat) : Int) = 8 from rfl] at e
    rw [e] at N'
    exact h _ h' F' N' (fun q hq => Nat.lt_succ_of_lt (Heap.lt_size (N q hq).1)) (Nat.lt_succ_of_lt F.ns.lt)
  · rw [List.size_toArray, sizeLine_eq]; omega
end
theorem run_in {prog : Program} {w : World} {p : Program} {loose : List Str} {mean : ExcName → Option Value} {mg mb : Str → Option Value} {A : Around} {E : Value → Shared → Prop} {s : Shared} {g : Heap} {L nl : Addr} {m : Str → Option Value} {vs : List Value} {ns : List Int} {n0 : Nat} {c1 c2 : Option Addr} {tm : Tok} {name : Str} {Q : Value → Shared → Prop}
    (F : Fr g L s.heap m) (N : News g L s.heap [(nl, W.listOf vs.toArray n0), (114, tabOf c1), (126, tab2Of c2)]) (X : (KK w).In g) (T : Top p loose mean mg mb g) (C1 : CodeHd g 118 114) (C2 : CodeHd g 128 126) (hroom : A.depth < 700) (hu : A.units < 80) (hh : A.handled = none)
    (hne : nl ≠ 114 ∧ nl ≠ 126) (hc1 : ∀ c, c1 = some c → (hideAll s.heap [114, 126]).CodeRec (.ref c) "_law_come.<locals>.<lambda>") (hc2 : ∀ c, c2 = some c → (hideAll s.heap [114, 126]).CodeRec (.ref c) "_law_step.<locals>.<lambda>")
    (hvs : IntsAre vs ns) (h40 : ns[0]? = some 40) (hlen : ns.length ≤ 20) (hname : name = Str.ofString "" ∨ name = Str.ofString "/A%41")
    (h : ∀ h' tk c1' c2', Fr g L h' m → News g L h' [(nl, W.listOf vs.toArray n0), (114, tabOf c1'), (126, tab2Of c2')] → (∀ c, c1' = some c → (hideAll h' [114, 126]).CodeRec (.ref c) "_law_come.<locals>.<lambda>") → (∀ c, c2' = some c → (hideAll h' [114, 126]).CodeRec (.ref c) "_law_step.<locals>.<lambda>") →
      Q (.bool true) { s with heap := h', toks := tk }) : wpAny (model prog w) A (call (.ref 141) [.ref nl, .str name tm]) Q E s := by
  have z1 := N _ (.tail _ (.head _))
  have z2 := N _ (.tail _ (.tail _ (.head _)))
  have hS : ∀ b ∈ [114, 126], b ≠ L ∧ g.get? b = none := fun b hb => by
    rcases List.mem_cons.mp hb with rfl | hb
    · exact z1.2
    · rw [List.mem_singleton.mp hb]; exact z2.2
  have kb := base_in (S := [114, 126]) F fun b hb => (hS b hb).2
  have hn : nl ∉ [114, 126] := fun q => by
    rcases List.mem_cons.mp q with q | q
    · exact hne.1 q
    · exact hne.2 (List.mem_singleton.mp q)
  refine wpAny_call (run_code (X.keeps kb) (T.keeps kb) (C1.keeps kb) (C2.keeps kb) hroom hu hh z1.1 z2.1 hc1 hc2 (hideAll_get _ (N _ (.head _)).1 hn) hvs h40 hlen hname ?_)
  intro h' tk c1' c2' k e1 e2 d1 d2
  refine h h' tk c1' c2' (fr_after F k hS) (fun q hq => ?_) d1 d2
  rcases List.mem_cons.mp hq with rfl | hq
  · exact ⟨k _ _ hn (N _ (.head _)).1, (N _ (.head _)).2⟩
  rcases List.mem_cons.mp hq with rfl | hq
  · exact ⟨e1, z1.2⟩
  · rw [List.mem_singleton.mp hq]; exact ⟨e2, z2.2⟩
theorem grown1 {h : Heap} {c : Option Addr} (e : h.get? 114 = some (tabOf c)) : GrownAt 114 h := by
  cases c with
  | none => exact ⟨_, e⟩
  | some c => exact ⟨_, e⟩
theorem grown2 {h : Heap} {c : Option Addr} (e : h.get? 126 = some (tab2Of c)) : GrownAt 126 h := by
  cases c with
  | none => exact ⟨_, e⟩
  | some c => exact ⟨_, e⟩
theorem lay_F0 : True := by
  k_with_none
  w_top off
  k_with "m_look" => first | with_reducible assumption | exact rfl | exact upd_eq | (refine upd_ne ?_ (by decide); walk_at "m_look")
  k_with "eval Name" => (k_here; (with_reducible rename Fr _ _ _ _ => kFZz); with_unfolding_all refine guard_global (by rfl) ?_; k_dflt (refine' name_B kFZz ?k1 ?k2 ?k3 ?k4 ?k5 ?_; (case k1 => k_asm); (case k2 => k_asm); (case k3 => exact rfl); (case k4 => boot_fast); (case k5 => decide); k_whole))
  k_with "eval Name" => (k_here; (with_reducible rename Fr _ _ _ _ => kFZz); with_unfolding_all refine guard_global (by rfl) ?_; k_dflt (refine' name_K kFZz ?k1 ?k2 ?k3 ?_; (case k1 => k_asm); (case k2 => k_asm); (case k3 => exact rfl); k_whole))
  k_with "callWith ref" => (k_here; k_dflt (first
      | refine' callWith_K ?k1 ?k2 ?_; (case k1 => k_asm); (case k2 => exact rfl); k_whole
      | refine' callWith_K0 ?k1 ?k2 ?_; (case k1 => k_in); (case k2 => exact rfl); k_whole))
  k_with "eval Name" => (k_here; k_dflt (refine' ld ?k1 ?k2 ?_; (case k1 => k_asm); (case k2 => walk_at "m_look"); k_whole))
  k_with "subscriptTail" => (k_here; (with_reducible show wpAny _ _ (subscriptTail _ _ (Value.ref _) (Value.int _ _)) _ _ _); k_dflt (refine' item_get ?k1 ?k2 ?k3 ?k4 ?_; (case k1 => exact News.isList (by k_asm) (by k_mem)); (case k2 => omega); (case k3 => omega); (case k4 => omega); k_whole))
  k_with "setItem ref int" => (k_here; k_dflt (refine' item_set ?k1 ?k2 ?k3 ?k4 ?k5 ?k6 ?_; (case k1 => k_asm); (case k2 => k_asm); (case k3 => k_upd); (case k4 => omega); (case k5 => omega); (case k6 => omega); k_whole); intro hZz FZz NZz; (try k_sweep))
  k_with "binaryOp RShift int int" => (k_here; k_dflt (refine' wpAny_rshift1_int ?k1 ?_; (case k1 => omega); k_whole))
  k_with "call builtin:len" => (k_here; (with_reducible show wpAny _ _ (call (Value.builtin _) [Value.ref _]) _ _ _); k_dflt (refine' len_L ?k1 ?k2 ?_; (case k1 => exact News.isList (by k_asm) (by k_mem)); (case k2 => ((try simp only [List.length_append, List.length_cons, List.length_nil]); omega)); k_whole))
  k_with "call builtin:list.append" => (k_here; (with_reducible show wpAny _ _ (call (Value.builtin _) [Value.ref _, _]) _ _ _); k_dflt (refine' append_L ?k1 ?k2 ?k3 ?k4 ?_; (case k1 => k_asm); (case k2 => k_asm); (case k3 => k_upd); (case k4 => ((try simp only [List.length_append, List.length_cons, List.length_nil]); omega)); k_whole); intro hZz FZz NZz; (try k_sweep))
  k_with "call builtin:list.pop" => (k_here; (with_reducible show wpAny _ _ (call (Value.builtin _) [Value.ref _]) _ _ _); k_dflt (refine' pop_L ?k1 ?k2 ?k3 ?k4 ?_; (case k1 => k_asm); (case k2 => k_asm); (case k3 => k_upd); (case k4 => omega); k_whole); intro hZz FZz NZz; (try k_sweep))
  k_with "assign Tuple" => (k_here; (with_reducible show wpAny _ _ (assign (Expr.Tuple _ _ _) _ (Value.ref _)) _ _ _); k_dflt (refine' unpackN_ ?F ?N ?T ?k1 ?k2 ?k3 ?_; (case F => k_asm); (case N => k_asm); (case T => first | with_reducible assumption | (refine News.isTup (by k_asm) (by k_mem))); (case k1 => assumption); (case k2 => exact rfl); (case k3 => exact rfl)); intro hZz FZz NZz; (try k_sweep))
  k_with "call type:range" => (k_here; (with_reducible show wpAny _ _ (call _ [Value.int _ _]) _ _ _); k_dflt (refine' range_L ?k1 ?k2 ?_; (case k1 => k_asm); (case k2 => k_asm); k_whole); intro rZz hZz uZz vZz FZz NZz l1Zz; (try k_lt l1Zz); (try k_sweep))
  k_with "call type:reversed" => (k_here; k_dflt (refine' reversed_L ?k1 ?k2 ?k3 ?k4 ?k5 ?_; (case k1 => k_asm); (case k2 => k_asm); (case k3 => k_mem); (case k4 => omega); (case k5 => omega); k_whole); intro iZz hZz FZz NZz l1Zz; (try k_lt l1Zz); (try k_sweep))
  k_with "binaryOp FloorDiv int int" => (k_here; k_dflt (refine' fdiv_pos ?k1 ?k2 ?_; (case k1 => decide); (case k2 => exact PyProof.noPylong_of_log2 (by decide +kernel)); k_whole))
  k_with "binaryOp Mod int int" => (k_here; k_dflt (refine' fmod_pos ?k1 ?_; (case k1 => decide); k_whole))
  k_with "ent inst" => first | exact Fr.keep (by k_asm) _ _ (by assumption) | exact News.get (by k_asm) (by k_mem)
  k_with "setAttr ref" => (k_here; k_dflt (refine' ent_set ?k1 ?k2 ?k3 ?k4 ?k5 ?k6 ?k7 ?_ ?k8; (case k8 => exact rfl); (case k1 => k_asm); (case k2 => k_asm); (case k3 => k_asm); (case k4 => walk_at "ent inst"); (case k5 => k_updF); (case k6 => assumption); (case k7 => exact Nat.le_of_ble_eq_true rfl); k_whole); intro hZz eZz nZz FZz NZz EZz; (try dsimp only at NZz); (try k_sweep))
  k_with "newList" => (k_here; k_dflt (refine' newList_L ?k1 ?k2 ?_ ?k3; (case k1 => k_asm); (case k2 => k_asm); (case k3 => first | exact Nat.le_of_ble_eq_true rfl | omega); k_whole); intro lZz hZz FZz NZz l1Zz l2Zz; (try k_lt l1Zz); (try k_lt2 l2Zz); (try k_sweep))
  k_with "is cells" => first | (with_reducible show wpAny _ _ (eval (Expr.Name _ _) (envOfC _ _ _ _ _)) _ _ _) | (with_reducible show wpAny _ _ (eval (Expr.Name _ _) (envX _ _ _ _ _ _)) _ _ _) | (with_reducible show wpAny _ _ (storeName (envOfC _ _ _ _ _) _ _) _ _ _)
  k_with "eval Name" => (k_here; walk_at "is cells"; k_dflt (first
      | (refine' nameX_L ?F ?v ?_ ?a ?b; (case F => k_asm); (case a => rfl); (case b => rfl); (case v => walk_at "m_look"); k_whole)
      | (refine' nameX_C ?N ?c ?m ?d ?_ ?a ?b; (case a => rfl); (case b => rfl); (case N => k_asm); (case c => rfl); (case m => k_mem); (case d => k_asm); k_whole)
      | (refine' nameX_F ?N ?c ?m ?d ?_ ?a ?b; (case a => rfl); (case b => rfl); (case N => k_asm); (case c => rfl); (case m => k_mem); (case d => k_asm); k_whole)
      | (refine' nameX_K ?F ?X ?T ?e ?_ ?a ?b; (case F => k_asm); (case X => k_asm); (case T => k_asm); (case a => rfl); (case b => rfl); (case e => exact rfl); k_whole)
      | (refine' nameX_B ?F ?X ?T ?e ?v ?n ?_ ?a ?b; (case F => k_asm); (case X => k_asm); (case T => k_asm); (case a => rfl); (case b => rfl); (case e => exact rfl); (case v => boot_fast); (case n => decide); k_whole)))
  k_with "eval Lambda" => (k_here; k_dflt (refine' kla_eval ?d0 ?_; (case d0 => exact rfl)); (first
      | (k_dflt (refine' kla_nest ?F ?N ?T ?C ?cd ?U ?t ?n ?cl ?_; (case F => k_asm); (case N => k_asm); (case T => k_asm); (case cd => exact rfl); (case C => k_asm); (case U => k_updF); (case t => kn_triples); (case n => kn_among); (case cl => exact rfl); k_whole); intro fZz cZz ocZz vsZz tZz ctZz hZz tkZz FZz NZz d1Zz d2Zz l1Zz l2Zz; (try dsimp only at NZz); (try k_lt l1Zz); (try k_lt2 l2Zz))
      | (k_dflt (refine' kla_hit ?F ?N ?T ?C ?cd ?mem ?t ?n ?cl ?_; (case F => k_asm); (case N => k_asm); (case T => k_asm); (case cd => exact rfl); (case C => k_asm); (case mem => k_mem); (case t => kn_triples); (case n => kn_among); (case cl => exact rfl); k_whole); intro fZz ctZz hZz tkZz FZz NZz l1Zz; (try k_lt l1Zz))))
  k_with "is list" => first | exact News.isList (by k_asm) (by k_mem) | exact isList_keep (by k_asm) (by assumption)
  k_with "subscriptTail" => (k_here; (with_reducible show wpAny _ _ (subscriptTail _ _ (Value.ref _) (Value.int _ _)) _ _ _); k_dflt (refine' item_getv ?k1 ?k2 ?k3 ?k4 ?k5 ?_; (case k1 => walk_at "is list"); (case k2 => omega); (case k3 => ((try simp only [List.length_cons, List.length_nil]); omega)); (case k4 => ((try simp only [List.length_cons, List.length_nil]); omega)); (case k5 => first | with_reducible assumption | exact rfl); k_whole))
  k_with "ent at" => first | exact EntAt.keeps (by assumption) (Fr.keep (by k_asm)) | exact ⟨Fr.keep (by k_asm) _ _ (by assumption), _, _, News.get (by k_asm) (by k_mem), by assumption⟩ | exact ⟨News.get (by k_asm) (by k_mem), _, _, News.get (by k_asm) (by k_mem), by assumption⟩
  k_with "getAttr ref" => (k_here; k_dflt (refine' ent_get ?k1 ?k2 ?k3 ?k4 ?_ ?k5 ?k6 ?k7 ?k8 ?k9; (case k5 => exact rfl); (case k6 => exact rfl); (case k7 => exact rfl); (case k8 => exact rfl); (case k9 => exact rfl); (case k1 => exact Frag.In.keeps (by k_asm) (Fr.keep (by k_asm))); (case k2 => walk_at "ent at"); (case k3 => first | assumption | exact rfl); (case k4 => exact rfl); k_whole))
  k_with "subscriptTail" => (k_here; (with_reducible show wpAny _ _ (subscriptTail _ _ (Value.ref _) (Value.str _ _)) _ _ _); k_dflt (refine' reach_item ?k1 ?k2 ?_; (case k1 => first | exact ReachAt.keeps (by assumption) (Fr.keep (by k_asm)) | exact ⟨_, _, Heap.dictOf_iff.mpr ⟨_, News.get (by k_asm) (by k_mem), by assumption⟩⟩); (case k2 => assumption); k_whole); intro _)
  k_with "getMethod ref" => (k_here; k_dflt (refine' ent_meth ?k1 ?k2 ?k3 ?k4 ?_ ?k5 ?k6 ?k7 ?k10 ?k8 ?k9; (case k5 => exact rfl); (case k6 => exact rfl); (case k7 => exact rfl); (case k10 => exact rfl); (case k8 => exact rfl); (case k9 => exact rfl); (case k1 => exact Frag.In.keeps (by k_asm) (Fr.keep (by k_asm))); (case k2 => walk_at "ent at"); (case k3 => first | assumption | exact rfl); (case k4 => exact rfl); k_whole))
  k_with "fn at" => exact ⟨_, _, _, _, Fr.keep (by k_asm) _ _ (by assumption)⟩
  k_with "callWith ref" => (k_here; k_dflt (refine' callWith_F ?k1 ?_; (case k1 => walk_at "fn at"); k_whole))
  k_with "And" => (k_dflt (refine And.intro ?kfn ?_; (case kfn => walk_at "fn at"); (try dsimp only [List.nil_append, List.cons_append])))
  k_with "subscriptTail" => (k_here; (with_reducible show wpAny _ _ (subscriptTail _ _ (Value.ref _) (Value.int _ _)) _ _ _); k_dflt (refine' key_at4 ?k1 ?k2 ?_; (case k1 => exact KeyAt.keeps (by assumption) (Fr.keep (by k_asm))); (case k2 => first | exact .i0 | exact .i1 | exact .i2 | exact .i3); k_whole); intro _)
  k_with "call builtin:abs" => (k_here; k_dflt (refine' abs_L ?_; k_whole); intro _ _)
  k_with "eval Name" => (k_here; (with_reducible show wpAny _ _ (eval (Expr.Name _ _) (compEnvC _ _ _ _)) _ _ _); k_dflt (first
      | (refine' nameY_L ?F ?v ?_ ?a ?b; (case F => k_asm); (case a => rfl); (case b => rfl); (case v => walk_at "m_look"); k_whole)
      | (refine' nameY_C ?F ?N ?c ?m ?d ?_ ?a ?b; (case a => rfl); (case b => rfl); (case F => k_asm); (case N => k_asm); (case c => rfl); (case m => k_mem); (case d => first | k_asm | rfl); k_whole)
      | (refine' nameY_K ?F ?X ?T ?e ?_ ?z ?a ?b; (case F => k_asm); (case X => k_asm); (case T => k_asm); (case z => rfl); (case a => rfl); (case b => rfl); (case e => exact rfl); k_whole)
      | (refine' nameY_B ?F ?X ?T ?e ?v ?n ?_ ?z ?y ?a ?b; (case F => k_asm); (case X => k_asm); (case T => k_asm); (case z => rfl); (case y => rfl); (case a => rfl); (case b => rfl); (case e => exact rfl); (case v => boot_fast); (case n => decide); k_whole)))
  k_with "call type:set cons nil" => (k_here; k_dflt (refine' set_L ?k1 ?k2 ?k3 ?k4 ?_; (case k1 => k_asm); (case k2 => k_asm); (case k3 => first | exact rfl | assumption); (case k4 => assumption); k_whole); intro xZz hZz tkZz oZz FZz NZz l1Zz l2Zz hsZz; (try k_lt l1Zz); (try k_lt2 l2Zz); (try k_sweep))
  k_with "getAttr ref" => (k_here; (with_reducible show wpAny _ _ (getAttr (Value.ref _) (PySem.Str.ofString "__contains__") _) _ _ _); obtain ⟨_, _, hs0Zz⟩ := (by assumption : ∃ S n, PySem.Obj.SetObjOf (intKind _ _) _ S n); k_dflt (refine' set_attr_N ?k1 ?k2 ?k3 ?k4 ?_; (case k1 => k_asm); (case k2 => k_asm); (case k4 => exact hs0Zz); (case k3 => k_mem); k_whole); intro xZz hZz tkZz FZz NZz l1Zz l2Zz; (try k_lt l1Zz); (try k_lt2 l2Zz); (try k_sweep))
  k_with "call type:filter" => (k_here; k_dflt (refine' filter_new ?k1 ?k2 ?k3 ?_; (case k1 => k_asm); (case k2 => k_asm); (case k3 => exact Fr.keep (by k_asm) _ _ (by assumption)); k_whole); intro iZz xZz hZz FZz NZz l1Zz l2Zz l3Zz; (try k_lt l1Zz); (try k_lt2 l2Zz); (try k_lt2 l3Zz))
  k_with "call type:list" => (k_here; k_dflt (refine' list_filter2 ?k1 ?k2 ?k3 ?k4 ?k5 ?_; (case k1 => k_asm); (case k2 => k_asm); (case k3 => first | exact rfl | assumption); (case k4 => assumption); (case k5 => walk_at "apart"); k_whole); intro xZz nZz hZz tkZz FZz NZz l1Zz l2Zz; (try k_lt l1Zz); (try k_lt2 l2Zz); (try k_sweep))
  k_with "apart" => repeat' (first | exact List.forall_mem_nil _ | (refine List.forall_mem_cons.mpr ⟨by k_ne, ?_⟩))
  k_with "binaryOp Add ref ref" => (k_here; k_dflt (refine' add_L ?k1 ?k2 ?k3 ?k4 ?k5 ?_; (case k1 => k_asm); (case k2 => k_asm); (case k3 => walk_at "is list"); (case k4 => walk_at "is list"); (case k5 => ((try simp only [List.length_append, List.length_cons, List.length_nil]); omega)); k_whole); intro xZz hZz FZz NZz l1Zz l2Zz; (try k_lt l1Zz); (try k_lt2 l2Zz); (try k_sweep))
  k_with "getMethod ref" => (k_here; k_dflt (refine' ent_methC ?k1 ?k2 ?k3 ?k4 ?_ ?k5 ?k6 ?k7; (case k1 => k_asm); (case k2 => k_asm); (case k3 => walk_at "ent at"); (case k4 => exact rfl); (case k5 => exact rfl); (case k6 => exact rfl); (case k7 => exact rfl); k_whole))
  k_with "all mem" => repeat' (first | exact List.forall_mem_nil _ | (refine List.forall_mem_cons.mpr ⟨by k_mem, ?_⟩))
  k_with "list obj" => first | exact News.get (by k_asm) (by k_mem) | exact Fr.keep (by k_asm) _ _ (by assumption)
  k_with "compareOp NotEq ref ref" => (k_here; (with_reducible show wpAny _ _ (compareOp CmpOp.NotEq (Value.ref _) (Value.ref _)) _ _ _); k_dflt (refine' ne_empty ?k1 ?k2 ?k3 ?_; (case k1 => walk_at "list obj"); (case k2 => exact News.get (by k_asm) (by k_mem)); (case k3 => (simp only [PySem.Around.deeper_units]; omega)); k_whole); (try simp only [List.isEmpty_cons, List.isEmpty_nil, Bool.not_false, Bool.not_true]))
  k_with "compareOp Eq ref ref" => (k_here; (with_reducible show wpAny _ _ (compareOp CmpOp.Eq (Value.ref _) (Value.ref _)) _ _ _); k_dflt (refine' eq_empty ?k1 ?k2 ?k3 ?_; (case k1 => walk_at "list obj"); (case k2 => exact News.get (by k_asm) (by k_mem)); (case k3 => (simp only [PySem.Around.deeper_units]; omega)); k_whole); (try simp only [List.isEmpty_cons, List.isEmpty_nil, Bool.not_false, Bool.not_true]))
  k_with "no loop" => ((fail_if_success (with_reducible show wpAny _ _ (exec (Stmt.While _ _ _ _) _) _ _ _)); (fail_if_success (with_reducible show wpAny _ _ (exec (Stmt.For _ _ _ _ _) _) _ _ _)); (fail_if_success (with_reducible show wpAny _ _ (call (Value.ref _) _ _) _ _ _)); (fail_if_success (with_reducible show wpAny _ _ (pyIter _) _ _ _)); (fail_if_success (with_reducible show wpAny _ _ (eval (Expr.ListComp _ _ _ _) _) _ _ _)); (fail_if_success (with_reducible show wpAny _ _ (exec (Stmt.Assign [Expr.Name _ _] (Expr.ListComp _ _ _ _) _) _) _ _ _)))
  k_with "go" => repeat' (first | (walk_at "no loop"; walk1; try dsimp only) | (walk_at "no loop"; dsimp only; walk1))
  exact True.intro
theorem t0 : PySem.Challenge.rw_oy0103_01.Holds := hd (by
  k_go0
  (rename Fr _ _ _ _ => F0); (rename News _ _ _ _ => N0); (rename IntsAre _ _ => hI); (rename Frag.In _ _ => X0); (rename Top _ _ _ _ _ _ => T0); (rename CodeHd _ (118, 114).1 _ => C1); (rename CodeHd _ (128, 126).1 _ => C2); (rename ¬ (_ : Int) < _ => hlen)
  iterate 24 walk1
  (rename Fr _ _ _ _ => F1); (rename News _ _ _ _ => N1); (rename IntsAre _ (List.take _ _) => hI8); (rename _ = min _ _ => hl8)
  refine add_L (ws := _) F1 N1 (N1.isList (.tail _ (.head _))) (N1.isList (.head _)) (by have := hI8.length; simp only [List.length_cons, List.length_nil]; omega) ?_
  intro D2 h2 F2 N2 l2 _
  dsimp only [List.cons_append, List.nil_append] at N2
  have T' := topRead_of T0
  have n1 : D2 ≠ 114 := Nat.ne_of_gt (l2 (114, tabObj #[]) (by k_mem))
  have n2 : D2 ≠ 126 := Nat.ne_of_gt (l2 (126, tabObj #[]) (by k_mem))
  clear F1 N1
  walk_at "go"
  (rename Fr _ _ _ _ => F3); (rename News _ _ _ _ => N3)
  refine run_in (c1 := none) (c2 := none) F3 (news_of N3 (by
    refine List.forall_mem_cons.mpr ⟨by k_mem, List.forall_mem_cons.mpr ⟨?_, List.forall_mem_cons.mpr ⟨?_, List.forall_mem_nil _⟩⟩⟩
    · show (114, tabObj #[]) ∈ _
      k_mem
    · show (126, tabObj #[]) ∈ _
      k_mem)) X0 T0 C1 C2 (by show callerA.depth + 1 < 700; decide) (by show callerA.units + 3 < 80; decide) (by rfl) ⟨n1, n2⟩ (fun _ e => nomatch e) (fun _ e => nomatch e) (.cons 40 _ (.cons 51 _ (.cons 41 _ (.cons 7 _ (.cons 68 _ hI8))))) rfl (by simp only [List.length_cons]; omega) (.inl rfl) ?_
  intro h4 tk4 c1 c2 F4 N4 d1 d2
  clear F3 N3
  walk_at "go"
  (rename Fr _ _ _ _ => F5)
  refine run_in F5 N4 X0 T0 C1 C2 (by show callerA.depth + 1 < 700; decide) (by show callerA.units + 3 < 80; decide) (by rfl) ⟨n1, n2⟩ d1 d2 (.cons 40 _ (.cons 51 _ (.cons 41 _ (.cons 7 _ (.cons 68 _ hI8))))) rfl (by simp only [List.length_cons]; omega) (.inr rfl) ?_
  intro h6 tk6 c3 c4 F6 N6 _ _
  clear F5 N4 d1 d2
  have g1 : GrownAt 114 h6 := grown1 (N6 _ (.tail _ (.head _))).1
  have g2 : GrownAt 126 h6 := grown2 (N6 _ (.tail _ (.tail _ (.head _)))).1
  refine ⟨?_, g1, g2, True.intro⟩
  dsimp only
  k_steps)
end Mine
theorem PySem.Challenge.cw_oy0103_01_holds : PySem.Challenge.rw_oy0103_01.Holds :=
  Mine.t0
