import PyProof.Rows.All
import PyProof.Draws
import PyProof.EnumMake
import PyProof.EqAt
import PyProof.ZipIter
import PyProof.StrLawsReplace
import PyProof.StrLawsNeg
import PyProof.TupleOfGen
import Wide.FinOn
import OpenK.AllK
import Wide.All
import Lean
import PySem.Challenge.RW_il0067_01

set_option Elab.async false
set_option maxRecDepth 100000
set_option maxHeartbeats 0

section
open PySem PySem.W PyProof.Rows
namespace Mine
section
local macro_rules | `(tactic| o_head $_) => `(tactic| assumption)
theorem law0 : PySem.Challenge.rw_il0067_01.row.Holds → PySem.Challenge.rw_il0067_01.row.Holds := by
  intro h
  k_head
end
end Mine
end

noncomputable section
open PySem PySem.W PyProof.Rows PySem.Calls PySem.Spec
namespace Mine
set_option maxHeartbeats 400000
def trunc (h : Heap) (n : Nat) : Heap := { h with objs := h.objs.extract 0 n }
theorem trunc_lt {h : Heap} {n b : Nat} (hb : b < n) : (trunc h n).get? b = h.get? b := by
  have e : (trunc h n).objs[b]? = h.objs[b]? := by
    show (h.objs.extract 0 n)[b]? = h.objs[b]?
    rw [Array.getElem?_extract]
    by_cases hs : b < h.objs.size
    · have : b < min n h.objs.size - 0 := by omega
      rw [if_pos this, Nat.zero_add]
    · have : ¬ b < min n h.objs.size - 0 := by omega
      rw [if_neg this]
      exact (Array.getElem?_eq_none (by omega)).symm
  unfold Heap.get?
  rw [e]
theorem trunc_size (h : Heap) (n : Nat) : (trunc h n).objs.size ≤ n := by
  show (h.objs.extract 0 n).size ≤ n
  simp only [Array.size_extract]
  omega
theorem trunc_of {h : Heap} {n b : Nat} {o : Obj} (e : (trunc h n).get? b = some o) : h.get? b = some o := by
  have hb : b < n := Nat.lt_of_lt_of_le (Heap.lt_size e) (trunc_size h n)
  rw [trunc_lt hb] at e
  exact e
structure AbsG (g g₂ : Heap) (L : Addr) (rest : List (Addr × Obj)) : Prop where
  stays : g.StaysIn g₂
  above : g.objs.size ≤ L
  held : ∀ p ∈ rest, g₂.get? p.1 = some p.2
  off : ∀ p ∈ rest, p.1 ≠ L ∧ g.get? p.1 = none
theorem absorb {g h : Heap} {L : Addr} {m : Str → Option Value} {ex rest : List (Addr × Obj)} (F : Fr g L h m) (N : News g L h (ex ++ rest))
    (hlt : ∀ p ∈ rest, p.1 < L) (dis : ∀ p ∈ rest, ∀ q ∈ ex, p.1 ≠ q.1) :
    ∃ g₂ : Heap, AbsG g g₂ L rest ∧ Fr g₂ L h m ∧ News g₂ L h ex := by
  have hN : ∀ p ∈ ex, p.1 ∈ ex.map (·.1) := fun p hp => List.mem_map_of_mem hp
  have st : g.StaysIn (hideAll (trunc h L) (ex.map (·.1))) := fun b o e => by
    have hb : b < L := Nat.lt_of_lt_of_le (Heap.lt_size e) F.above
    refine hideAll_get _ ((trunc_lt hb).trans (F.keep b o e)) fun q => ?_
    obtain ⟨p, hp, rfl⟩ := List.mem_map.mp q
    rw [(N p (List.mem_append_left _ hp)).2.2] at e
    cases e
  refine ⟨hideAll (trunc h L) (ex.map (·.1)), ⟨st, F.above, fun p hp => ?_, fun p hp => (N p (List.mem_append_right _ hp)).2⟩, ⟨F.ns, fun b o e => trunc_of (of_hideAll _ e), ?_⟩, fun p hp => ⟨(N p (List.mem_append_left _ hp)).1, (N p (List.mem_append_left _ hp)).2.1, hideAll_none _ (hN p hp)⟩⟩
  · refine hideAll_get _ ((trunc_lt (hlt p hp)).trans (N p (List.mem_append_right _ hp)).1) fun q => ?_
    obtain ⟨q', hq', e⟩ := List.mem_map.mp q
    exact dis p hp q' hq' e.symm
  · rw [hideAll_size]; exact trunc_size h L
theorem AbsG.fr {g g₂ h : Heap} {L : Addr} {m : Str → Option Value} {rest : List (Addr × Obj)} (a : AbsG g g₂ L rest) (F : Fr g₂ L h m) : Fr g L h m :=
  ⟨F.ns, fun b o e => F.keep b o (a.stays b o e), a.above⟩
theorem AbsG.news {g g₂ h : Heap} {L : Addr} {m : Str → Option Value} {rest ex : List (Addr × Obj)} (a : AbsG g g₂ L rest) (F : Fr g₂ L h m) (N : News g₂ L h ex) : News g L h (ex ++ rest) := fun p hp => by
  rcases List.mem_append.mp hp with hp | hp
  · refine ⟨(N p hp).1, (N p hp).2.1, ?_⟩
    cases e : g.get? p.1 with
    | none => rfl
    | some o => have := (N p hp).2.2; rw [a.stays _ _ e] at this; cases this
  · exact ⟨F.keep _ _ (a.held p hp), a.off p hp⟩
theorem leave_abs {h₀ g g₂ : Heap} {L L' : Addr} {m m' : Str → Option Value} {rest ex : List (Addr × Obj)} {R : Result → Shared → Prop} {v : Value} {s' : Shared}
    (a : AbsG g g₂ L' rest) (F : Fr g₂ L' s'.heap m') (N : News g₂ L' s'.heap ex) (k : Fr h₀ L s'.heap m → News h₀ L s'.heap (ex ++ rest) → R (.ok (.ret v)) s') : LeaveK h₀ L m g R v s' :=
  ⟨L', m', _, a.fr F, a.news F N, k⟩
def leftOf (rel news : List (Addr × Obj)) : List (Addr × Obj) := news.filter fun p => rel.all fun q => decide (p.1 ≠ q.1)
theorem leftOf_dis {rel news : List (Addr × Obj)} : ∀ p ∈ leftOf rel news, ∀ q ∈ rel, p.1 ≠ q.1 := fun p hp q hq => by
  have := (List.mem_filter.mp hp).2
  exact of_decide_eq_true (List.all_eq_true.mp this q hq)
theorem leftOf_sub {rel news : List (Addr × Obj)} : ∀ p ∈ leftOf rel news, p ∈ news := fun _ hp => (List.mem_filter.mp hp).1
theorem leftOf_news {h₀ h : Heap} {L : Addr} {rel news : List (Addr × Obj)} (N : News h₀ L h news) (hr : ∀ p ∈ rel, p ∈ news) : News h₀ L h (rel ++ leftOf rel news) := fun p hp => by
  rcases List.mem_append.mp hp with hp | hp
  · exact N p (hr p hp)
  · exact N p (leftOf_sub p hp)
theorem leftOf_back {h₀ h h' : Heap} {L : Addr} {rel news : List (Addr × Obj)} (N : News h₀ L h news) (hr : ∀ p ∈ rel, p ∈ news) (N' : News h₀ L h' (rel ++ leftOf rel news)) : News h₀ L h' news := fun p hp => by
  by_cases c : (rel.all fun q => decide (p.1 ≠ q.1)) = true
  · exact N' p (List.mem_append_right _ (List.mem_filter.mpr ⟨hp, c⟩))
  · have : ∃ q ∈ rel, p.1 = q.1 := by
      simp only [List.all_eq_true, decide_eq_true_eq] at c
      exact Classical.byContradiction fun z => c fun q hq e => z ⟨q, hq, e⟩
    obtain ⟨q, hq, e⟩ := this
    have e1 := (N p hp).1
    have e2 := (N q (hr q hq)).1
    rw [e, e2] at e1
    have : q = p := by
      obtain ⟨q1, q2⟩ := q; obtain ⟨p1, p2⟩ := p
      simp only at e e1
      cases e1; cases e; rfl
    exact N' p (List.mem_append_left _ (this ▸ hq))
theorem back0 {h₀ h h' : Heap} {L : Addr} {ex news : List (Addr × Obj)} (N : News h₀ L h news) (N' : News h₀ L h' (ex ++ leftOf [] news)) : News h₀ L h' news :=
  leftOf_back N (rel := []) (fun _ h => nomatch h) fun p hp => N' p (List.mem_append_right _ hp)
theorem backR {h₀ h h' : Heap} {L : Addr} {ex rel news : List (Addr × Obj)} (N : News h₀ L h news) (hr : ∀ p ∈ rel, p ∈ news) (N' : News h₀ L h' (ex ++ leftOf rel news)) (sub : ∀ p ∈ rel, p ∈ ex) : News h₀ L h' news :=
  leftOf_back N hr fun p hp => by
    rcases List.mem_append.mp hp with hp | hp
    · exact N' p (List.mem_append_left _ (sub p hp))
    · exact N' p (List.mem_append_right _ hp)
theorem nil_sub {α : Type} {l : List α} : ∀ x ∈ ([] : List α), x ∈ l := fun _ h => nomatch h
section
variable {prog : Program} {w : World} {A A₀ : Around} {s : Shared} {K : Frag} {L : Addr} {h₀ base : Heap} {m mg mb : Str → Option Value} {rel rest : List (Addr × Obj)} {p : Program} {loose : List Str} {mean : ExcName → Option Value}
theorem enter_rel {env : Env} {outer : List Env} {R : Result → Shared → Prop} {name qual : Str} {params : Arguments} {body : List Stmt} {scope : Scope} {dV kV doc pm cdv ct oc : Value} {an od : Option Addr} {osl : Array (Option Value)} {f : Addr} {args : Args} {binds : List (Str × Value)}
    (B : Below A₀ base outer h₀) (F : Fr h₀ L s.heap m) (X₀ : K.In h₀) (N : News h₀ L s.heap (rel ++ rest)) (T : Top p loose mean mg mb h₀) (dis : ∀ p ∈ rest, ∀ q ∈ rel, p.1 ≠ q.1)
    (hA : A.frames = some (env :: outer)) (hf : env.frame = some L) (hke : env.scope.kind = .function)
    (ho : K.lookup f = some ⟨oc, od, .func (fnOf name qual params body scope dV kV doc pm an cdv ct), osl⟩) (hcd : codeIn K cdv qual = true) (hroom : A.depth < recursionLimit)
    (hbind : BindsTo s (fnOf name qual params body scope dV kV doc pm an cdv ct) args binds) (hloc : ∀ y ∈ binds, scope.names.lookup y.1 = some .local)
    (h : ∀ g g₂ L' h₁, AbsG g g₂ L' rest → h₀.StaysIn g₂ → Fr g₂ L' h₁ (fun y => binds.reverse.lookup y) → News g₂ L' h₁ rel → Below A base (env :: outer) g₂ → K.In g₂ → Top p loose mean mg mb g₂ →
      wpAny (model prog w) (A.deeper (envOf qual scope L' f cdv)) (execs body (envOf qual scope L' f cdv))
        (fun fl s' => LeaveK h₀ L m g R (match fl with | .ret v => v | _ => .none) s')
        (fun e s' => wpAny (model prog w) (A.deeper (envOf qual scope L' f cdv)) (leaving (envOf qual scope L' f cdv) e) (fun _ s'' => R (.error e) s'') (fun e' s'' => R (.error e') s'') s')
        { s with heap := h₁, toks := s.toks + binds.length })
    (hco : scope.isCoroutine = false) (hgen : scope.isGenerator = false) (hk : scope.kind = .function)
    (hcell : ∀ x ∈ scope.names, x.2 ≠ .cell) : codeAny (model prog w) A (.call (.ref f) args) R s :=
  callX_plain (cl := []) B F N T.nolimit hA hf hke ((X₀.keeps F.keep) _ _ ho) rfl (codeRec_of (X₀.keeps F.keep) hcd) hroom hbind hloc (fun g L' h₁ FG F' N' B' st l => by
    obtain ⟨g₂, a, F₂, N₂⟩ := absorb F' N' (fun p hp => l p (List.mem_append_right _ hp)) dis
    exact h g g₂ L' h₁ a (fun b o e => a.stays b o (st b o e)) F₂ N₂ ⟨B'.stack, fun b o e => a.stays b o (B'.stays b o e), B'.frames.of_keeps fun b o e _ => ⟨o, a.stays b o e, rfl⟩⟩ ((X₀.keeps st).keeps a.stays) ((T.keeps st).keeps a.stays)) hcell hco hgen hk
theorem cellsFrom_ge : ∀ (names : List (Str × NameKind)) (n lo : Nat) (acc : List (Str × Addr)), (∀ x ∈ acc, lo ≤ x.2) → lo ≤ n → ∀ x ∈ cellsFrom n names acc, lo ≤ x.2
  | [], _, _, _, h, _ => h
  | (name, kind) :: r, n, lo, acc, h, hn => by
    unfold cellsFrom
    split
    · refine cellsFrom_ge r _ _ _ (fun x hx => ?_) (Nat.le_succ_of_le hn)
      rcases List.mem_cons.mp hx with rfl | hx
      · exact hn
      · exact h x hx
    · exact cellsFrom_ge r _ _ _ h hn
theorem cellsAre_ge {cm : Str → Option Value} {lo : Nat} : ∀ {cs : List (Str × Addr)} {cells : List (Addr × Obj)}, CellsAre cm cs cells → (∀ x ∈ cs, lo ≤ x.2) → ∀ q ∈ cells, lo ≤ q.1 := fun Y => by
  induction Y with
  | nil => exact fun _ _ h => nomatch h
  | cons hd _ ih =>
    intro h q hq
    rcases List.mem_cons.mp hq with rfl | hq
    · exact h _ List.mem_cons_self
    · exact ih (fun x hx => h x (List.mem_cons_of_mem _ hx)) q hq
theorem enter_relC {env : Env} {outer : List Env} {R : Result → Shared → Prop} {name qual : Str} {params : Arguments} {body : List Stmt} {scope : Scope} {dV kV doc pm cdv ct oc : Value} {an od : Option Addr} {osl : Array (Option Value)} {f : Addr} {args : Args} {binds : List (Str × Value)}
    (B : Below A₀ base outer h₀) (F : Fr h₀ L s.heap m) (X₀ : K.In h₀) (N : News h₀ L s.heap (rel ++ rest)) (T : Top p loose mean mg mb h₀) (dis : ∀ p ∈ rest, ∀ q ∈ rel, p.1 ≠ q.1)
    (hA : A.frames = some (env :: outer)) (hf : env.frame = some L) (hke : env.scope.kind = .function)
    (ho : K.lookup f = some ⟨oc, od, .func (fnOf name qual params body scope dV kV doc pm an cdv ct), osl⟩) (hcd : codeIn K cdv qual = true) (hroom : A.depth < recursionLimit)
    (hbind : BindsTo s (fnOf name qual params body scope dV kV doc pm an cdv ct) args binds) (hkind : (binds.all fun y => scope.names.lookup y.1 == some .local || scope.names.lookup y.1 == some .cell) = true)
    (hnd : ((cellsFrom 0 scope.names []).map (·.1)).Nodup)
    (h : ∀ g g₂ L' h₁ tk cells, AbsG g g₂ L' rest → h₀.StaysIn g₂ → Fr g₂ L' h₁ (bindL (envOfC qual scope L' f cdv).kindOf binds fun _ => none) → News g₂ L' h₁ (cells ++ rel) →
      CellsAre (bindC (envOfC qual scope L' f cdv).kindOf binds fun _ => none) (cellsFrom (L' + 1) scope.names []) cells → Below A base (env :: outer) g₂ → K.In g₂ → Top p loose mean mg mb g₂ → (∀ p ∈ rel, p.1 < L') →
      wpAny (model prog w) (A.deeper (envOfC qual scope L' f cdv)) (execs body (envOfC qual scope L' f cdv))
        (fun fl s' => LeaveK h₀ L m g R (match fl with | .ret v => v | _ => .none) s')
        (fun e s' => wpAny (model prog w) (A.deeper (envOfC qual scope L' f cdv)) (leaving (envOfC qual scope L' f cdv) e) (fun _ s'' => R (.error e) s'') (fun e' s'' => R (.error e') s'') s')
        { s with heap := h₁, toks := tk })
    (hco : scope.isCoroutine = false) (hgen : scope.isGenerator = false) (hk : scope.kind = .function) : codeAny (model prog w) A (.call (.ref f) args) R s :=
  callX_cells B F N T.nolimit hA hf hke ((X₀.keeps F.keep) _ _ ho) rfl (codeRec_of (X₀.keeps F.keep) hcd) hroom hbind (kindsX hkind) hnd (fun g L' h₁ tk cells FG F' N' Y B' st l => by
    obtain ⟨g₂, a, F₂, N₂⟩ := absorb (ex := cells ++ rel) (rest := rest) F' (List.append_assoc .. ▸ N') (fun p hp => l p (List.mem_append_right _ hp)) (fun p hp q hq => by
      rcases List.mem_append.mp hq with hq | hq
      · have h1 := l p (List.mem_append_right _ hp)
        have h2 := cellsAre_ge Y (lo := L' + 1) (cellsFrom_ge _ _ _ _ (fun _ h => nomatch h) (Nat.le_refl _)) q hq
        exact Nat.ne_of_lt (Nat.lt_of_lt_of_le h1 (Nat.le_of_succ_le h2))
      · exact dis p hp q hq)
    exact h g g₂ L' h₁ tk cells a (fun b o e => a.stays b o (st b o e)) F₂ N₂ Y ⟨B'.stack, fun b o e => a.stays b o (B'.stays b o e), B'.frames.of_keeps fun b o e _ => ⟨o, a.stays b o e, rfl⟩⟩ ((X₀.keeps st).keeps a.stays) ((T.keeps st).keeps a.stays) (fun p hp => l p (List.mem_append_left _ hp))) hco hgen hk
theorem frame_l {env : Env} {outer : List Env} {R : Result → Shared → Prop} {news : List (Addr × Obj)} {qual : Str} {body : List Stmt} {scope : Scope} {cl : List (Str × Addr)} {cdv : Value} {f : Addr} {binds : List (Str × Value)} {E : Value → Shared → Prop} (B : Below A₀ base outer h₀) (F : Fr h₀ L s.heap m) (N : News h₀ L s.heap news) (hlim : h₀.NoLimit) (hA : A.frames = some (env :: outer)) (hf : env.frame = some L) (hke : env.scope.kind = .function)
    (hloc : ∀ y ∈ binds, scope.names.lookup y.1 = some .local)
    (h : ∀ g L' h₁, (∀ p ∈ news, p.1 < L') → Fr g L' h₁ (fun y => binds.reverse.lookup y) → News g L' h₁ news → Below A base (env :: outer) g → h₀.StaysIn g →
      wpAny (model prog w) (A.deeper (envX qual scope L' f cdv cl)) (execs body (envX qual scope L' f cdv cl))
        (fun fl s' => LeaveK h₀ L m g R (match fl with | .ret v => v | _ => .none) s')
        (fun e s' => wpAny (model prog w) (A.deeper (envX qual scope L' f cdv cl)) (leaving (envX qual scope L' f cdv cl) e) (fun _ s'' => R (.error e) s'') (fun e' s'' => R (.error e') s'') s')
        { s with heap := h₁, toks := s.toks + binds.length })
    (hcell : ∀ x ∈ scope.names, x.2 ≠ .cell) (hk : scope.kind = .function) :
    wpAny (model prog w) A.in1 (newFunctionEnv scope mainGlobals cl binds (qual ++ ".<locals>.") (some f) cdv none builtinsNs) (fun env' s₂ => s₂.heap.NoLimit ∧ codeAny (model prog w) A (.func body env') R s₂) E s := by
  obtain ⟨_, BG, st, lv⟩ := groundX (R := R) B F N hA hf hke
  refine wpAny_newFunctionEnv hcell hloc (fun h₁ hns hsb => ⟨(hlim.keeps F.keep).fresh _ hsb, codeAny_func ?_⟩) hk
  have hk₁ : ∀ b o, s.heap.get? b = some o → h₁.get? b = some o := fun b o e => hsb.extBut b o (Nat.ne_of_lt (Heap.lt_size e)) (Heap.get?_push_of_some _ e)
  show wpAny (model prog w) (A.deeper (envX qual scope s.heap.objs.size f cdv cl)) (execs body (envX qual scope s.heap.objs.size f cdv cl)) _ _ _
  exact wpAny_mono (h _ s.heap.objs.size h₁ (fun p hp => Heap.lt_size (N p hp).1) ⟨hns, fun b o e => hk₁ b o (of_hideAll _ e), Nat.le_of_eq (hideAll_size _ _)⟩
    (fun p hp => ⟨hk₁ _ _ (N p hp).1, Nat.ne_of_lt (Heap.lt_size (N p hp).1), hideAll_none _ (List.mem_map_of_mem hp)⟩) BG st) (fun fl s' hl => lv _ _ hl) fun _ _ y => y
theorem enter_star {env : Env} {outer : List Env} {R : Result → Shared → Prop} {name qual : Str} {params : Arguments} {body : List Stmt} {scope : Scope} {dV kV doc pm cdv ct oc : Value} {an od : Option Addr} {osl : Array (Option Value)} {f : Addr} {args : Args} {vs : List Value} {g₁ : Addr → Option (List (Str × Value))} {binds : Addr → List (Str × Value)}
    (B : Below A₀ base outer h₀) (F : Fr h₀ L s.heap m) (X₀ : K.In h₀) (N : News h₀ L s.heap (rel ++ rest)) (T : Top p loose mean mg mb h₀) (dis : ∀ p ∈ rest, ∀ q ∈ rel, p.1 ≠ q.1)
    (hA : A.frames = some (env :: outer)) (hf : env.frame = some L) (hke : env.scope.kind = .function)
    (ho : K.lookup f = some ⟨oc, od, .func (fnOf name qual params body scope dV kV doc pm an cdv ct), osl⟩) (hcd : codeIn K cdv qual = true) (hroom : A.depth < recursionLimit)
    (hv : args.pos.drop (params.posonlyargs.length + params.args.length) = vs)
    (hp : peek1 K ⟨prog, w.params⟩ (bindArgs (fnOf name qual params body scope dV kV doc pm an cdv ct) args) = some (({ cls := .type "tuple", data := .seq vs.toArray } : Obj), g₁))
    (hg : ∀ D, g₁ D = some (binds D)) (hloc : ∀ D, ∀ y ∈ binds D, scope.names.lookup y.1 = some .local)
    (h : ∀ D g g₂ L' h₁, (∀ p ∈ rel, p.1 < D) → AbsG g g₂ L' rest → h₀.StaysIn g₂ → Fr g₂ L' h₁ (fun y => (binds D).reverse.lookup y) → News g₂ L' h₁ ((D, ({ cls := .type "tuple", data := .seq vs.toArray } : Obj)) :: rel) → Below A base (env :: outer) g₂ → K.In g₂ → Top p loose mean mg mb g₂ →
      wpAny (model prog w) (A.deeper (envOf qual scope L' f cdv)) (execs body (envOf qual scope L' f cdv))
        (fun fl s' => LeaveK h₀ L m g R (match fl with | .ret v => v | _ => .none) s')
        (fun e s' => wpAny (model prog w) (A.deeper (envOf qual scope L' f cdv)) (leaving (envOf qual scope L' f cdv) e) (fun _ s'' => R (.error e) s'') (fun e' s'' => R (.error e') s'') s')
        { s with heap := h₁, toks := s.toks + (binds D).length })
    (hco : scope.isCoroutine = false) (hgen : scope.isGenerator = false) (hk : scope.kind = .function)
    (hcell : ∀ x ∈ scope.names, x.2 ≠ .cell) : codeAny (model prog w) A (.call (.ref f) args) R s := by
  have _ := hv
  refine codeAny_call_function (fd := fnOf name qual params body scope dV kV doc pm an cdv ct) (body := body) hroom ((X₀.keeps F.keep) _ _ ho) rfl hco hgen rfl (codeRec_of (X₀.keeps F.keep) hcd) ?_
  refine wp_of_peek1 (o := ({ cls := .type "tuple", data := .seq vs.toArray } : Obj)) F N (X₀.keeps F.keep) rfl (r := binds) (fun D h' F' N' l => ?_) _ g₁ hp hg
  refine frame_l (cl := []) (s := { s with heap := h' }) B F' N' T.nolimit hA hf hke (hloc D) (fun g L' h₁ l' FL NG BG st => ?_) hcell hk
  obtain ⟨g₂, a, F₂, N₂⟩ := absorb (ex := (D, ({ cls := .type "tuple", data := .seq vs.toArray } : Obj)) :: rel) (rest := rest) FL NG (fun p hp => l' p (List.mem_cons_of_mem _ (List.mem_append_right _ hp))) (fun p hp q hq => by
    rcases List.mem_cons.mp hq with rfl | hq
    · exact Nat.ne_of_lt (l p (List.mem_append_right _ hp))
    · exact dis p hp q hq)
  exact h D g g₂ L' h₁ (fun p hp => l p (List.mem_append_left _ hp)) a (fun b o e => a.stays b o (st b o e)) F₂ N₂ ⟨BG.stack, fun b o e => a.stays b o (BG.stays b o e), BG.frames.of_keeps fun b o e _ => ⟨o, a.stays b o e, rfl⟩⟩ ((X₀.keeps st).keeps a.stays) ((T.keeps st).keeps a.stays)
end
abbrev TopH (vq : Program) (vl : List Str) (mean : ExcName → Option Value) (mg mb : Str → Option Value) (h : Heap) : Prop := Top vq vl mean mg mb h
abbrev atop (dp un : Nat) (gd : Option (List Code)) (env : Env) (outer : List Env) : Around := { handled := none, depth := dp, frames := some (env :: outer), guards := gd, units := un }
theorem execs_hide {prog : Program} {w : World} {A : Around} {E : Value → Shared → Prop} {s : Shared} {env : Env} {st : Stmt} {rest : List Stmt} {Q : Flow → Shared → Prop}
    (h : ∀ Q' : Flow → Shared → Prop, (∀ s', wpAny (model prog w) A (execs rest env) Q E s' → Q' .next s') → (∀ f s', f ≠ .next → Q f s' → Q' f s') → wpAny (model prog w) A (exec st env) Q' E s) :
    wpAny (model prog w) A (execs (st :: rest) env) Q E s := wpAny_execs_cons (h _ (fun _ h => h) fun f _ hf h => by cases f <;> first | exact absurd rfl hf | exact h)
theorem execs_hideT {prog : Program} {w : World} {A : Around} {E : Value → Shared → Prop} {hp : Heap} {gs : Array GenState} {dr : Drawn} {tk : Nat} {os : OsState} {env : Env} {st : Stmt} {rest : List Stmt} {Q : Flow → Shared → Prop}
    (h : ∀ (Q' : Flow → Shared → Prop) (tk' : Nat), (∀ s', wpAny (model prog w) A (execs rest env) Q E s' → Q' .next s') → (∀ f s', f ≠ .next → Q f s' → Q' f s') → wpAny (model prog w) A (exec st env) Q' E ⟨hp, gs, dr, tk', os⟩) :
    wpAny (model prog w) A (execs (st :: rest) env) Q E ⟨hp, gs, dr, tk, os⟩ := execs_hide fun Q' a b => h Q' tk a b
theorem wp_hide {M : Model} {A : Around} {α : Type} {t : Sem α} {Q : α → Shared → Prop} {E : Value → Shared → Prop} {s : Shared}
    (h : ∀ Q' : α → Shared → Prop, (∀ v s', Q v s' → Q' v s') → wpAny M A t Q' (fun _ _ => False) s) : wpAny M A t Q E s :=
  wpAny_mono (h Q fun _ _ x => x) (fun _ _ x => x) fun _ _ x => x.elim
theorem hideP {g : Prop} (h : ∀ P : Prop, (g → P) → P) : g := h g id
theorem allc {α : Type} {p : α → Prop} {a : α} {l : List α} (h : p a) (t : ∀ x ∈ l, p x) : ∀ x ∈ a :: l, p x := List.forall_mem_cons.mpr ⟨h, t⟩
theorem lkT {m m₁ : Str → Option Value} {ps : List (Str × Value)} {x : Str} {v : Value} (h : ∀ p ∈ ps, m₁ p.1 = some p.2) (e : m x = m₁ x) (hl : ps.lookup x = some v) : m x = some v := by
  rw [e]
  clear e
  induction ps with
  | nil => cases hl
  | cons a r ih =>
    obtain ⟨y, u⟩ := a
    rw [List.lookup_cons] at hl
    split at hl
    · rename_i hb
      obtain rfl := Option.some.inj hl
      obtain rfl := eq_of_beq hb
      exact h _ (.head _)
    · exact ih (fun p hp => h p (.tail _ hp)) hl
theorem sm_store {ps : List (Str × Value)} {stored : List Str} {m m₀ : Str → Option Value} {x : Str} {o : Option Value} (hx : (stored.contains x || ps.any fun p => p.1 == x) = true)
    (h : ∀ z, (∀ p ∈ ps, z ≠ p.1) → stored.contains z = false → m z = m₀ z) : ∀ z, (∀ p ∈ ps, z ≠ p.1) → stored.contains z = false → (if z = x then o else m z) = m₀ z := fun z h2 h3 => by
  by_cases e : z = x
  · subst e
    rw [h3, Bool.false_or] at hx
    obtain ⟨p, hp, hb⟩ := List.any_eq_true.mp hx
    exact absurd (eq_of_beq hb).symm (h2 p hp)
  · rw [if_neg e]; exact h z h2 h3
theorem sm_trans {ps ps' : List (Str × Value)} {stored stored' : List Str} {m m₁ m₀ : Str → Option Value} (h1 : ∀ z, (∀ p ∈ ps', z ≠ p.1) → stored'.contains z = false → m z = m₁ z)
    (hx : ((ps'.all fun p => stored.contains p.1 || ps.any fun q => q.1 == p.1) && stored'.all fun y => stored.contains y || ps.any fun q => q.1 == y) = true)
    (h : ∀ z, (∀ p ∈ ps, z ≠ p.1) → stored.contains z = false → m₁ z = m₀ z) : ∀ z, (∀ p ∈ ps, z ≠ p.1) → stored.contains z = false → m z = m₀ z := fun z h2 h3 => by
  obtain ⟨ha, hb⟩ := Bool.and_eq_true_iff.mp hx
  have no : ∀ y : Str, (stored.contains y || ps.any fun q => q.1 == y) = true → z ≠ y := fun y hy e => by
    subst e
    rw [h3, Bool.false_or] at hy
    obtain ⟨p, hp, hb⟩ := List.any_eq_true.mp hy
    exact absurd (eq_of_beq hb).symm (h2 p hp)
  rw [h1 z (fun p hp => no _ (List.all_eq_true.mp ha p hp)) ?_]
  · exact h z h2 h3
  · cases c : stored'.contains z with
    | false => rfl
    | true => exact absurd rfl (no z (List.all_eq_true.mp hb z (List.contains_iff_mem.mp c)))
theorem lkM {ps : List (Str × Value)} {stored : List Str} {m m₁ m₀ : Str → Option Value} {x : Str} {v : Value} (h : ∀ z, (∀ p ∈ ps, z ≠ p.1) → stored.contains z = false → m₁ z = m₀ z) (e : m x = m₁ x)
    (hx : (stored.contains x || ps.any fun p => p.1 == x) = false) (hv : m₀ x = some v) : m x = some v := by
  obtain ⟨h1, h2⟩ := Bool.or_eq_false_iff.mp hx
  rw [e, h x (fun p hp q => ?_) h1, hv]
  rw [List.any_eq_false] at h2
  exact h2 p hp (by rw [q]; exact beq_self_eq_true _)
theorem sm_rfl {ps : List (Str × Value)} {stored : List Str} {m : Str → Option Value} : ∀ z, (∀ p ∈ ps, z ≠ p.1) → stored.contains z = false → m z = m z := fun _ _ _ => rfl
section
variable {prog : Program} {w : World} {A : Around} {E : Value → Shared → Prop} {Q : Flow → Shared → Prop} {s : Shared} {env : Env} {h₀ : Heap} {L : Addr}
theorem kw_while {σ : Type} {test : Expr} {body : List Stmt} {pos : Pos} {m₀ : Str → Option Value} (Led : σ → List (Addr × Obj)) (ps : σ → List (Str × Value)) (Facts : σ → Prop) (stored : List Str) (P : σ → Prop) (μ : σ → Nat) (c₀ : σ)
    (F : Fr h₀ L s.heap m₀) (N : News h₀ L s.heap (Led c₀)) (hf : Facts c₀) (hk : ∀ p ∈ ps c₀, m₀ p.1 = some p.2) (hp : P c₀)
    (turn : ∀ (c : σ) (m₁ : Str → Option Value) h tk, Facts c → P c → (∀ p ∈ ps c, m₁ p.1 = some p.2) → (∀ z, (∀ p ∈ ps c, z ≠ p.1) → stored.contains z = false → m₁ z = m₀ z) → Fr h₀ L h m₁ → News h₀ L h (Led c) →
      ∀ Q' : Flow → Shared → Prop, (∀ f s', KswPost h₀ L s Led ps Facts stored m₀ P μ Q c f s' → Q' f s') →
      wpAny (model prog w) A (isTrue test env (eval test env)) (fun b s₂ => if b = true then wpAny (model prog w) A (execs body env) Q' E s₂ else Q .next s₂) E { s with heap := h, toks := tk })
    (hE : PassesOwn (model prog w) A env E := by passes_own) :
    wpAny (model prog w) A (exec (.While test body [] pos) env) Q E s := by
  refine While_inv2 (fun n m nx => ∃ c : σ, nx = Led c ∧ μ c = n ∧ Facts c ∧ (∀ p ∈ ps c, m p.1 = some p.2) ∧ (∀ z, (∀ p ∈ ps c, z ≠ p.1) → stored.contains z = false → m z = m₀ z) ∧ P c) F N ⟨c₀, rfl, rfl, hf, hk, fun _ _ _ => rfl, hp⟩ ?_ hE
  rintro n m₁ nx h tk F₁ N₁ ⟨c, hnx, hsz, hf', h1, h2, hp'⟩
  rw [hnx] at N₁
  rw [← hsz]
  refine wpAny_mono (turn c m₁ h tk hf' hp' h1 h2 F₁ N₁ _ fun _ _ x => x) (fun b s₂ p => ?_) fun _ _ x => x
  cases b with
  | false => simpa using p
  | true =>
    simp only [if_true] at p ⊢
    refine wpAny_mono p (fun f s₃ q => ?_) fun _ _ x => x
    cases f with
    | ret v => exact q
    | brk => exact q
    | next =>
      obtain ⟨c', h', tk', m', news', rfl, F', N', hn, hf9, hk9, hr9, hp9, hm9⟩ := q
      exact ⟨h', tk', m', Led c', μ c', rfl, F', fun p hp => N' p (hn p hp), hm9, c', rfl, rfl, hf9, hk9, hr9, hp9⟩
    | cont =>
      obtain ⟨c', h', tk', m', news', rfl, F', N', hn, hf9, hk9, hr9, hp9, hm9⟩ := q
      exact ⟨h', tk', m', Led c', μ c', rfl, F', fun p hp => N' p (hn p hp), hm9, c', rfl, rfl, hf9, hk9, hr9, hp9⟩
end
section
variable {M : Model} {A : Around} {E : Value → Shared → Prop} {s : Shared} {h₀ : Heap} {L a : Addr} {m : Str → Option Value} {cn : Str} {cs : Scope} {ccd : Value} {cl : List (Str × Addr)}
theorem loadX_L {x : Str} {v : Value} {Q : Value → Shared → Prop} (F : Fr h₀ L s.heap m) (hv : m x = some v) (h : Q v s)
    (hk : cs.kind = .function := by rfl) (hx : (envX cn cs L a ccd cl).kindOf x = some .local := by rfl) :
    wpAny M A (loadName (envX cn cs L a ccd cl) x) Q E s := wpAny_loadName_local hk hx F.ns hv h
end
end Mine
end

open PySem PySem.W PyProof.Rows PySem.Calls PySem.Spec Mine
local macro_rules | `(tactic| k_room) => `(tactic| ktr_room)
local macro_rules | `(tactic| k_units) => `(tactic| first | exact Nat.le_of_ble_eq_true rfl | ktr_units)
local macro_rules | `(tactic| k_all) => `(tactic| first | exact List.forall_mem_nil _ | (refine' allc ?kaa ?kab; (case kaa => k_ne); (case kab => k_all)))
local macro_rules | `(tactic| walk_at "my step") => `(tactic| first
  | ((with_reducible (first | show wpAny _ _ (eval (Expr.Name _ _) _) _ _ _ | show wpAny _ _ (loadName _ _) _ _ _)); k_dflt ((first | refine' nameX_L ?kF ?kv ?_ ?ka ?kb | refine' loadX_L ?kF ?kv ?_ ?ka ?kb); (case kF => k_asm); (case ka => rfl); (case kb => rfl); (case kv => first | (refine' lkT ?kv1 ?kv2 ?kv3; (case kv1 => assumption); (case kv2 => rfl); (case kv3 => rfl)) | (refine' lkM ?kv1 ?kv2 ?kv3 ?kv4; (case kv1 => assumption); (case kv2 => rfl); (case kv3 => rfl); (case kv4 => rfl))); k_whole))
  | ((with_reducible show LeaveK _ _ _ _ _ _ _); k_dflt (refine' leave_abs ?k0 ?k1 ?k2 ?_; (case k0 => assumption); (case k1 => k_asm); (case k2 => k_asm); k_whole); intro kF9 kN9; (try dsimp only))
  | (walk1; (try dsimp only)) | (dsimp only; walk1))

noncomputable section
namespace Mine
open PySem.AutoSeq1 (wpAny_loadPart')
open PySem.MeetsSeq PySem.MeetsSeq2 PySem.MeetsSeq3 PySem.SeqRoads2 PySem.SeqAt
def ltIS (i : Int) (x : Str) (j : Int) (y : Str) : Bool := if (i == j) = true then (if (x == y) = true then false else decide (x.cps.toList < y.cps.toList)) else decide (i < j)
def lexFrom (e r : Nat → Bool) (fin : Bool) : Nat → Nat → Bool
  | 0, _ => fin
  | k + 1, i => if e i = true then lexFrom e r fin k (i + 1) else r i
def RcLt (A : Around) (s : Shared) (y x : Value) (b : Bool) : Prop :=
  ∀ (prog : Program) (w : World) (E : Value → Shared → Prop) (Q : Value → Shared → Prop), Q (.bool b) s → wpAny (model prog w) A (richCompare .Lt y x) Q E s
theorem tuple_ltAt (l b : Addr) (items items2 : Array Value) (n n2 : Nat) (dd dd2 : Option Addr) (sl sl2 : Array (Option Value)) (e r : Nat → Bool) :
    Meets (Builtin.«tuple.__lt__» ⟨[.ref l, .ref b], []⟩)
      (fun A R s => s.heap.get? l = some { cls := .type "tuple", dict := dd, data := .seq items n, slots := sl } ∧ s.heap.get? b = some { cls := .type "tuple", dict := dd2, data := .seq items2 n2, slots := sl2 } ∧
        (∀ j (h1 : j < items.size) (h2 : j < items2.size), EqAt A.in1 s items[j] items2[j] (e j)) ∧ (∀ j (h1 : j < items.size) (h2 : j < items2.size), e j = false → RcLt A.in1 s items[j] items2[j] (r j)) ∧
        R (.ok (.ret (.bool (lexFrom e r (decide (items.size < items2.size)) (min items.size items2.size) 0)))) s) :=
  .of_wp fun prog w A R s h => by
    obtain ⟨hp, g, d, tk, os⟩ := s; obtain ⟨hl, hb, he, hr, h⟩ := h
    have f2 := AutoSeq1.sub_tuple_tuple
    have hZ : (items.toList.zip items2.toList).length = min items.size items2.size := by simp
    wp_walk using wpAny_loadPart' hl, wpAny_loadPart' hb, wpAny_forIn_list _ (fun rest b s' => b.1 = none ∧ s' = ⟨hp, g, d, tk, os⟩ ∧ ∃ i, i ≤ min items.size items2.size ∧ rest = (items.toList.zip items2.toList).drop i ∧
      R (.ok (.ret (.bool (lexFrom e r (decide (items.size < items2.size)) (min items.size items2.size - i) i)))) ⟨hp, g, d, tk, os⟩) _
    case turn =>
      rintro ⟨y, x⟩ rest b s' ⟨hb', rfl, i, hi, hz, hR⟩
      have hlt : i < (items.toList.zip items2.toList).length := by
        rcases Nat.lt_or_ge i (items.toList.zip items2.toList).length with h' | h'
        · exact h'
        · rw [List.drop_of_length_le h'] at hz; cases hz
      have hm : i < min items.size items2.size := hZ ▸ hlt
      have h1 : i < items.size := Nat.lt_of_lt_of_le hm (Nat.min_le_left _ _)
      have h2 : i < items2.size := Nat.lt_of_lt_of_le hm (Nat.min_le_right _ _)
      rw [List.drop_eq_getElem_cons hlt] at hz
      injection hz with hyx hrest
      have hy : y = items[i] := by have := congrArg Prod.fst hyx; simpa using this
      have hx : x = items2[i] := by have := congrArg Prod.snd hyx; simpa using this
      subst hy hx
      have hk : min items.size items2.size - i = (min items.size items2.size - (i + 1)) + 1 := by (first | lia | omega)
      rw [hk, lexFrom] at hR
      refine wpAny_bind (he i h1 h2 prog w _ _ ?_)
      cases hy : e i with
      | true =>
        rw [hy] at hR
        simp only [if_true] at hR
        wp_walk
        exact ⟨rfl, rfl, i + 1, by (first | lia | omega), hrest, hR⟩
      | false =>
        rw [hy] at hR
        simp only [Bool.false_eq_true, if_false] at hR
        simp only [Bool.not_false, if_true]
        refine wpAny_bind (wpAny_rule ?_)
        refine wpAny_bind (hr i h1 h2 hy prog w _ _ ?_)
        wp_walk
        exact ⟨_, rfl, hR⟩
    case fin =>
      rintro ⟨b1, b2⟩ s' ⟨hb', rfl, i, hi, hz, hR⟩
      simp only at hb'
      subst hb'
      have hge : min items.size items2.size ≤ i := by
        rcases Nat.lt_or_ge i (items.toList.zip items2.toList).length with h' | h'
        · rw [List.drop_eq_getElem_cons h'] at hz; cases hz
        · exact hZ ▸ h'
      have hk : min items.size items2.size - i = 0 := by (first | lia | omega)
      rw [hk, lexFrom] at hR
      wp_walk
      exact ⟨_, rfl, by simpa [Builtin.Tuple.tupleCompareSizes] using hR⟩
    case h =>
      exact ⟨rfl, rfl, 0, Nat.zero_le _, rfl, by simpa using h⟩
section
variable {prog : Program} {w : World} {A : Around} {E : Value → Shared → Prop} {s : Shared} {Q : Value → Shared → Prop}
theorem RcLt.int (a b : Int) (t u : Tok) : RcLt A s (.int a t) (.int b u) (decide (a < b)) := fun prog w E Q hq => by
  exact PyProof.Rows.lt_int hq
theorem RcLt.str (a b : Str) (t u : Tok) : RcLt A s (.str a t) (.str b u) (decide (a.cps.toList < b.cps.toList)) := fun prog w E Q hq => by
  exact PyProof.Rows.lt_str hq
theorem lt_pair {l b : Addr} {i j : Int} {x y : Str} {t u t' u' : Tok} (hl : IsTup s.heap l #[.int i t, .str x u]) (hb : IsTup s.heap b #[.int j t', .str y u']) (hu : A.units < cLine) (h : Q (.bool (ltIS i x j y)) s) :
    wpAny (model prog w) A (compareOp .Lt (.ref l) (.ref b)) Q E s := by
  obtain ⟨⟨cls, dd, data, sl⟩, ho, hc, n, hd⟩ := hl
  obtain ⟨⟨cls2, dd2, data2, sl2⟩, ho2, hc2, n2, hd2⟩ := hb
  simp only at hc hd hc2 hd2
  subst hc hd hc2 hd2
  refine cmp_ofLt (richCompare_meets_room (op := .Lt) ⟨_, ho, rfl⟩ ⟨_, ho2, rfl⟩ F.slot_tuple_lt F.entry_tuple_lt (F.args_tuple_lt_2 _ _)
    (tuple_ltAt l b #[.int i t, .str x u] #[.int j t', .str y u'] n n2 dd dd2 sl sl2 (fun k => if k = 0 then i == j else x == y) (fun k => if k = 0 then decide (i < j) else decide (x.cps.toList < y.cps.toList)))
    ⟨ho, ho2, ?_, ?_, (fun z => nomatch z), ?_⟩ hu)
  · intro k h1 h2
    have hk : k = 0 ∨ k = 1 := by simp at h1; (first | lia | omega)
    rcases hk with rfl | rfl
    · exact (EqGives.int i j t t').at _ _
    · exact (PyProof.Rows.eqGives_str x y u u').at _ _
  · intro k h1 h2 _
    have hk : k = 0 ∨ k = 1 := by simp at h1; (first | lia | omega)
    rcases hk with rfl | rfl
    · exact RcLt.int i j t t'
    · exact RcLt.str x y u u'
  · exact h
end
end Mine
end

noncomputable section
namespace Mine
section
variable {prog : Program} {w : World} {A : Around} {E : Value → Shared → Prop} {s : Shared} {h₀ : Heap} {L D : Addr} {m : Str → Option Value} {news news' : List (Addr × Obj)} {vs : List Value} {n : Nat} {k : Int} {t u : Tok} {v : Value}
theorem lget {value slice : PySem.Expr} {Q : Value → Shared → Prop} (N : News h₀ L s.heap news) (hm : (D, listOf vs.toArray n) ∈ news) (h0 : 0 ≤ k) (hfit : k < 2 ^ 63) (hx : vs[k.toNat]? = some v) (h : Q v s)
    (hs : subscripted slice false (.ref D) (.int k u) = operate [.ref D, .int k u] (getItem (.ref D) (.int k u)) := by with_unfolding_all rfl) :
    wpAny (model prog w) A (subscriptTail value slice (.ref D) (.int k u)) Q E s := item_litK (PySem.IsL.isList (n := n) (N _ hm).1) h0 hfit hx h hs
theorem lset {Q : Unit → Shared → Prop} (F : Fr h₀ L s.heap m) (N : News h₀ L s.heap news) (U : Upd D (listOf vs.toArray n) (listOf (vs.set k.toNat v).toArray n) news news') (h0 : 0 ≤ k) (h1 : k < vs.length) (hfit : k < 2 ^ 63)
    (h : ∀ h', Fr h₀ L h' m → News h₀ L h' news' → Q () { s with heap := h' }) :
    wpAny (model prog w) A (setItem (.ref D) (.int k t) v) Q E s := by
  obtain ⟨pre, post, rfl, rfl, a, b⟩ := U.split
  have z := N (D, listOf vs.toArray n) (List.mem_append.mpr (.inr (.head _)))
  have hs : vs.toArray.size = vs.length := List.size_toArray ..
  refine ki_setAt z.1 h0 hfit (by (first | lia | omega)) (h _ (F.change (Heap.SameBut.update ..) z.2.1 z.2.2) (ki_turn _ N a b ?_ ?_))
  · show vs.toArray.setIfInBounds k.toNat v = (vs.set k.toNat v).toArray
    apply Array.toList_inj.mp
    simp
  · simp
end
abbrev tupO (vs : List Value) : Obj := { cls := .type "tuple", data := .seq vs.toArray }
structure It where
  a : Addr
  i : Int
  t : Tok
  s : Str
  u : Tok
abbrev It.v (x : It) : Value := .ref x.a
abbrev It.o (x : It) : Obj := { cls := .type "tuple", data := .seq #[.int x.i x.t, .str x.s x.u] }
abbrev lobj (xs : List It) (n : Nat) : Obj := listOf (xs.map It.v).toArray n
theorem get_v {ys : List It} {p : Nat} {y : It} (h : ys[p]? = some y) : (ys.map It.v)[((p : Nat) : Int).toNat]? = some y.v := by
  rw [Int.toNat_natCast, List.getElem?_map, h]; rfl
theorem get_vi {ys : List It} {p : Nat} {k : Int} {y : It} (h : ys[p]? = some y) (e : k = (p : Int)) : (ys.map It.v)[k.toNat]? = some y.v := by
  subst e; exact get_v h
theorem set_v {ys : List It} {p : Nat} {y : It} : (ys.map It.v).set ((p : Nat) : Int).toNat y.v = (ys.set p y).map It.v := by
  rw [Int.toNat_natCast, List.map_set]
theorem lsetI {prog : Program} {w : World} {A : Around} {E : Value → Shared → Prop} {s : Shared} {h₀ : Heap} {L D : Addr} {m : Str → Option Value} {n : Nat} {t : Tok} {ys : List It} {p : Nat} {y : It} {Q : Unit → Shared → Prop} (F : Fr h₀ L s.heap m) (N : News h₀ L s.heap [(D, lobj ys n)]) (hp : p < ys.length) (hf : ys.length ≤ 4000)
    (h : ∀ h', Fr h₀ L h' m → News h₀ L h' [(D, lobj (ys.set p y) n)] → Q () { s with heap := h' }) : wpAny (model prog w) A (setItem (.ref D) (.int (p : Int) t) y.v) Q E s := by
  refine lset (vs := ys.map It.v) (n := n) (news' := [(D, lobj (ys.set p y) n)]) F N ?_ (by (first | lia | omega)) (by rw [List.length_map]; (first | lia | omega)) (by (first | lia | omega)) h
  rw [set_v]
  exact Upd.head fun _ hp => nomatch hp
def It.lt (x y : It) : Bool := ltIS x.i x.s y.i y.s
theorem It.tup {g h : Heap} {L : Addr} {m : Str → Option Value} {x : It} (F : Fr g L h m) (e : g.get? x.a = some x.o) : IsTup h x.a #[.int x.i x.t, .str x.s x.u] := ⟨_, F.keep _ _ e, rfl, _, rfl⟩
def sd (x : It) (a : Nat) (ys : List It) (p : Nat) : List It :=
  if a < p then
    match ys[(p - 1) / 2]? with
    | some y => if x.lt y = true then sd x a (ys.set p y) ((p - 1) / 2) else ys.set p x
    | none => ys
  else ys.set p x
termination_by p
decreasing_by (first | lia | omega)
def siftdown (xs : List It) (a b : Nat) : List It := match xs[b]? with
  | some x => sd x a xs b
  | none => xs
theorem sd_up {x y : It} {a p : Nat} {ys : List It} (h : a < p) (hy : ys[(p - 1) / 2]? = some y) (hl : x.lt y = true) : sd x a ys p = sd x a (ys.set p y) ((p - 1) / 2) := by
  rw [sd, if_pos h, hy]; simp only [hl, if_true]
theorem sd_stop {x y : It} {a p : Nat} {ys : List It} (h : a < p) (hy : ys[(p - 1) / 2]? = some y) (hl : x.lt y = false) : sd x a ys p = ys.set p x := by
  rw [sd, if_pos h, hy]; simp only [hl, Bool.false_eq_true, if_false]
theorem sd_end {x : It} {a p : Nat} {ys : List It} (h : ¬ a < p) : sd x a ys p = ys.set p x := by
  rw [sd, if_neg h]
end Mine
end

noncomputable section
namespace Mine
open PyProof.Rows.LCg PyProof.V
@[reducible] def nsOf {h₀ h : Heap} {L : Addr} {news : List (Addr × Obj)} (_ : News h₀ L h news) : List (Addr × Obj) := news
abbrev testsOf (env : Env) (ifs : List PySem.Expr) : Sem Bool := forIn ifs true fun c r => if r = true then do let ok ← isTrue c env (eval c env); pure (ForInStep.yield ok) else pure (ForInStep.yield r)
section
variable {prog : Program} {w : World} {A : Around} {E : Value → Shared → Prop} {s : Shared}
theorem comp_go {elt target iter : PySem.Expr} {ifs : List PySem.Expr} {scope : Scope} {pos : Pos} {it acc : Value} {env : Env} {R : Result → Shared → Prop} (I : Nat → Shared → Prop)
    (turn : ∀ n s, I n s → wpAny (model prog w) A (pyNext it) (fun r s₁ => match r with
      | none => R (.ok .next) s₁
      | some v => wpAny (model prog w) A (letOwnedTupleGo target it v) (fun _ s₀ => wpAny (model prog w) A (assign target env v) (fun _ s₂ =>
          wpAny (model prog w) A (testsOf env ifs) (fun ok s₃ => if ok = true then wpAny (model prog w) A (eval elt env) (fun x s₄ =>
            wpAny (model prog w) A (call (.builtin "list.append") [acc, x]) (fun _ s₅ => ∃ m, m < n ∧ I m s₅) (notedBy (model prog w) A env fun e s' => R (.error e) s') s₄) (notedBy (model prog w) A env fun e s' => R (.error e) s') s₃
            else ∃ m, m < n ∧ I m s₃) (notedBy (model prog w) A env fun e s' => R (.error e) s') s₂)
          (notedBy (model prog w) A env fun e s' => R (.error e) s') s₀) (notedBy (model prog w) A env fun e s' => R (.error e) s') s₁) (notedBy (model prog w) A env fun e s' => R (.error e) s') s)
    (n : Nat) (h : I n s) : codeAny (model prog w) A (.compLoop (.ListComp elt [⟨target, iter, ifs, 0⟩] scope pos) 0 it acc env) R s := by
  refine codeAny_loop rfl I (fun n s hI => ?_) n h
  show wpAny _ A ((compTurn (.ListComp elt [⟨target, iter, ifs, 0⟩] scope pos) 0 it acc env).onRaise (fun x => do noteFrame x env; theTreesLotGoes x)) _ _ s
  refine wpAny_noted ?_
  rw [compTurn_list]
  refine wpAny_bind (wpAny_standAt (wpAny_bind (wpAny_mono (turn n s hI) (fun r s₁ h₁ => ?_) fun _ _ h' => h')))
  cases r with
  | none => exact wpAny_pure h₁
  | some v =>
    refine wpAny_bind (wpAny_mono h₁ (fun _ s₀ h₀' => ?_) fun _ _ h' => h')
    refine wpAny_bind (wpAny_mono h₀' (fun _ s₂ h₂ => ?_) fun _ _ h' => h')
    refine wpAny_bind (wpAny_mono h₂ (fun okb s₃ h₃ => ?_) fun _ _ h' => h')
    cases okb with
    | false => exact wpAny_pure ⟨rfl, h₃⟩
    | true => exact wpAny_bind (wpAny_bind (wpAny_mono h₃ (fun x s₄ h₄ => wpAny_bind (wpAny_mono h₄ (fun _ s₅ h₅ => wpAny_pure (wpAny_pure ⟨rfl, h₅⟩)) fun _ _ h' => h')) fun _ _ h' => h'))
end
inductive CEnd (h₀ : Heap) (L : Addr) (m : Str → Option Value) (s₁ : Shared) (C : Addr) (oC : Obj) (D : Addr) (oD : Obj) (wr : List Addr) (own : List (Addr × Obj)) (rest : List (Addr × Obj) → Prop) (s' : Shared) : Prop
  | intro (h' : _) (tk' : _) (news₂ : _) (f1 : s' = { s₁ with heap := h', toks := tk' }) (f2 : Fr h₀ L h' m) (f3 : News h₀ L h' ((C, oC) :: (D, oD) :: (news₂ ++ own))) (f4 : (∀ p ∈ news₂, p.1 ∉ wr ∧ p.1 ≠ C ∧ p.1 ≠ D)) (f5 : rest news₂) : CEnd h₀ L m s₁ C oC D oD wr own rest s'
section
variable {prog : Program} {w : World} {A : Around} {E : Value → Shared → Prop} {s : Shared} {h₀ : Heap} {L : Addr} {m : Str → Option Value} {env : Env}
inductive CLoopI (h₀ : Heap) (L : Addr) (m : Str → Option Value) (s₂ : Shared) (n : Nat) (St : Nat → Heap → Prop) (wr : List Addr) (C D : Addr) (J : Nat → List Value → List (Addr × Obj) → Prop) (k : Nat) (s' : Shared) : Prop
  | intro (h' : Heap) (tk i : Nat) (ys : List Value) (m' : Str → Option Value) (news' : List (Addr × Obj)) (e1 : s' = { s₂ with heap := h', toks := tk }) (e2 : i ≤ n) (e3 : k = n + 1 - i) (e4 : ys.length ≤ i) (e5 : St i h') (e6 : Fr h₀ L h' m) (e7 : h'.Ns C m') (e8 : News h₀ L h' ((D, lst ys) :: news'))
    (e9 : ∀ p ∈ news', p.1 ∉ wr ∧ p.1 ≠ C ∧ p.1 ≠ D) (e10 : J i ys news') : CLoopI h₀ L m s₂ n St wr C D J k s'
inductive CAfter (h₀ : Heap) (L : Addr) (m : Str → Option Value) (s₂ : Shared) (St : Heap → Prop) (m₃ : Str → Option Value) (wr : List Addr) (C D : Addr) (ys : List Value) (J : List (Addr × Obj) → Prop) (s₄ : Shared) : Prop
  | intro (h₄ : Heap) (tk₄ : Nat) (news₂ : List (Addr × Obj)) (e1 : s₄ = { s₂ with heap := h₄, toks := tk₄ }) (e2 : St h₄) (e3 : Fr h₀ L h₄ m) (e4 : h₄.Ns C m₃) (e5 : News h₀ L h₄ ((D, lst ys) :: news₂)) (e6 : ∀ p ∈ news₂, p.1 ∉ wr ∧ p.1 ≠ C ∧ p.1 ≠ D) (e7 : J news₂) : CAfter h₀ L m s₂ St m₃ wr C D ys J s₄
theorem comp_block {target elt iter : PySem.Expr} {ifs : List PySem.Expr} {scope : Scope} {cl : List (Str × Addr)} {pos : Pos} {s₂ : Shared} {I : Addr} {fp wr : List Addr} {n : Nat} {P Md : Nat → Value → Heap → Prop} {St : Nat → Heap → Prop} {news : List (Addr × Obj)}
    {V : Nat → (Str → Option Value) → Prop} {J : Nat → List Value → List (Addr × Obj) → Prop} {RR : Value → Addr → Result → Shared → Prop}
    (W : KTurns prog w A target I fp wr n P Md St) (hsz : n ≤ sizeLine)
    (hIo : ∀ i h, St i h → ∀ b ∈ wr, ∃ o, h.get? b = some o) (hself : ∀ (s : Shared) (Q : Value → Shared → Prop) (E : Value → Shared → Prop), St 0 s.heap → Q (.ref I) s → wpAny (model prog w) A (pyIter (.ref I)) Q E s)
    (hcell : ∀ y ∈ scope.names, y.2 ≠ .cell) (hkind : scope.kind = .function)
    (hass : ∀ i v (s : Shared) C m₂ (Q : Unit → Shared → Prop) (E : Value → Shared → Prop), i < n → P i v s.heap → s.heap.Ns C m₂ → C ∉ fp →
      (∀ h' tk' m₃, V i m₃ → h'.Ns C m₃ → (∀ b o, b ≠ C → s.heap.get? b = some o → h'.get? b = some o) → Q () { s with heap := h', toks := tk' }) → wpAny (model prog w) A (assign target (compEnvC scope cl C env) v) Q E s)
    (hst : St 0 s₂.heap) (hfp : ∀ b ∈ fp, b < s₂.heap.objs.size) (F : Fr h₀ L s₂.heap m) (N : News h₀ L s₂.heap news) (hLf : L ∉ fp) (hwr : ∀ b ∈ wr, h₀.get? b = none) (hnw : ∀ p ∈ news, p.1 ∉ wr) (h0 : J 0 [] news)
    (step : ∀ i ys news₁ own C oC D m₂ h₁ tk₁ (E' : Value → Shared → Prop), i < n → V i m₂ → NsObj oC m₂ → J i ys news₁ → (∀ p ∈ news₁, p.1 ∉ wr ∧ p.1 ≠ C ∧ p.1 ≠ D) → (∀ b ∈ wr, ∃ o, (b, o) ∈ own) → Fr h₀ L h₁ m → News h₀ L h₁ ((C, oC) :: (D, lst ys) :: (news₁ ++ own)) →
      wpAny (model prog w) A (testsOf (compEnvC scope cl C env) ifs) (fun ok s₃ => if ok = true then wpAny (model prog w) A (eval elt (compEnvC scope cl C env))
        (fun y s₄ => CEnd h₀ L m { s₂ with heap := h₁, toks := tk₁ } C oC D (lst ys) wr own (fun news₂ => J (i + 1) (ys ++ [y]) news₂) s₄) E' s₃
        else CEnd h₀ L m { s₂ with heap := h₁, toks := tk₁ } C oC D (lst ys) wr own (fun news₂ => J (i + 1) ys news₂) s₃) E' { s₂ with heap := h₁, toks := tk₁ })
    (hRR : ∀ D C h tk m' ys news', Fr h₀ L h m → News h₀ L h ((D, lst ys) :: news') → (∀ p ∈ news', p.1 ≠ D) → h.Ns C m' → h₀.get? C = none → h₀.get? D = none → C ≠ L → D ≠ L → C ≠ D → (∀ p ∈ news', p.1 ≠ C) → J n ys news' → RR (.ref D) C (.ok .next) { s₂ with heap := h, toks := tk }) :
    wpAny (model prog w) A (newList []) (fun acc s₃ => wpAny (model prog w) A (newFunctionEnv scope env.globals cl [] env.qual none .none (some env)) (fun cenv s₄ =>
      codeAny (model prog w) A (.compStart (.ListComp elt [⟨target, iter, ifs, 0⟩] scope pos) 0 (.ref I) acc { cenv with scope := relabel scope env }) (RR acc cenv.locals) s₄) E s₃) E s₂ := by
  refine wpAny_newObj_type (wpAny_newFunctionEnv hcell (by intro y hy; simp at hy) (fun h₁ hns₁ hsb₁ => ?_) hkind)
  dsimp only at hns₁ hsb₁ ⊢
  generalize hH2 : s₂.heap.push { cls := .type "list", dict := none, data := .seq ([] : List Value).toArray } = H2 at hns₁ hsb₁ ⊢
  have hC : H2.objs.size = s₂.heap.objs.size + 1 := by rw [← hH2, Heap.size_push]
  have hDC : s₂.heap.objs.size ≠ H2.objs.size := by rw [hC]; exact Nat.ne_of_lt (Nat.lt_succ_self _)
  have below : ∀ b, b < s₂.heap.objs.size → b ≠ H2.objs.size ∧ b ≠ s₂.heap.objs.size := fun b hb => ⟨by rw [hC]; exact Nat.ne_of_lt (Nat.lt_succ_of_lt hb), Nat.ne_of_lt hb⟩
  have hDf : s₂.heap.objs.size ∉ fp := fun hm => Nat.lt_irrefl _ (hfp _ hm)
  have hCf : H2.objs.size ∉ fp := fun hm => by have := hfp _ hm; rw [hC] at this; exact Nat.lt_irrefl _ (Nat.lt_of_succ_lt this)
  have old : ∀ b o, s₂.heap.get? b = some o → h₁.get? b = some o := fun b o e => hsb₁.extBut b o (below b (Heap.lt_size e)).1 (Heap.get?_push_of_some _ (hH2 ▸ Heap.get?_push_of_some _ e))
  have hacc : h₁.get? s₂.heap.objs.size = some (lst []) := hsb₁.extBut _ _ hDC (Heap.get?_push_of_some _ (hH2 ▸ Heap.get?_push_size _ rfl))
  have hst₁ : St 0 h₁ := W.frame _ _ _ hst fun b _ o e => old b o e
  have fresh : ∀ a, s₂.heap.objs.size ≤ a → s₂.heap.get? a = none := fun a ha => by
    cases e : s₂.heap.get? a with
    | none => rfl
    | some o' => exact absurd (Heap.lt_size e) (Nat.not_lt.mpr ha)
  have fresh₀ : ∀ a, s₂.heap.objs.size ≤ a → h₀.get? a = none := fun a ha => by
    cases e : h₀.get? a with
    | none => rfl
    | some o' => have := F.keep a o' e; rw [fresh a ha] at this; cases this
  have hD₀ : h₀.get? s₂.heap.objs.size = none := fresh₀ _ (Nat.le_refl _)
  have hC₀ : h₀.get? H2.objs.size = none := fresh₀ _ (by rw [hC]; exact Nat.le_succ _)
  have hLlt : L < s₂.heap.objs.size := F.ns.lt
  have hDL : s₂.heap.objs.size ≠ L := Ne.symm (below L hLlt).2
  have hCL : H2.objs.size ≠ L := Ne.symm (below L hLlt).1
  have hLw : L ∉ wr := fun h => hLf (W.sub _ h)
  have hDw : s₂.heap.objs.size ∉ wr := fun h => hDf (W.sub _ h)
  have hCw : H2.objs.size ∉ wr := fun h => hCf (W.sub _ h)
  have oldw : ∀ b o, h₀.get? b = some o → b ∉ wr := fun b o e hb => by rw [hwr b hb] at e; cases e
  have off₀ : ∀ p ∈ news, p.1 ∉ wr ∧ p.1 ≠ H2.objs.size ∧ p.1 ≠ s₂.heap.objs.size := fun p hp => ⟨hnw p hp, (below _ (Heap.lt_size (N p hp).1)).1, (below _ (Heap.lt_size (N p hp).1)).2⟩
  have loop : ∀ s₃ : Shared, s₃ = { s₂ with heap := h₁, toks := s₂.toks + ([] : List (Str × Value)).length } →
      codeAny (model prog w) A (.compLoop (.ListComp elt [⟨target, iter, ifs, 0⟩] scope pos) 0 (.ref I) (.ref s₂.heap.objs.size) (compEnvC scope cl H2.objs.size env))
        (RR (.ref s₂.heap.objs.size) H2.objs.size) s₃ := by
    rintro s₃ rfl
    refine comp_go
      (CLoopI h₀ L m s₂ n St wr H2.objs.size s₂.heap.objs.size J) ?_ (n + 1)
      ⟨h₁, _, 0, [], _, news, rfl, Nat.zero_le _, rfl, Nat.le_refl _, hst₁, F.keeps old, hns₁, fun p hp => ?_, off₀, h0⟩
    · rintro k s' ⟨h', tk, i, ys, m', news', rfl, hi, rfl, hyl, hst', F', hn', N', off', hJ⟩
      have hnx : ∀ h₂ : Heap, (∀ b o, b ∉ wr → h'.get? b = some o → h₂.get? b = some o) → Fr h₀ L h₂ m ∧ News h₀ L h₂ ((s₂.heap.objs.size, lst ys) :: news') ∧ h₂.Ns H2.objs.size m' := fun h₂ hk => by
        refine ⟨⟨F'.ns.at' fun o e => hk _ o hLw e, fun b o e => hk b o (oldw b o e) (F'.keep b o e), F'.above⟩, fun p hp => ⟨hk _ _ ?_ (N' p hp).1, (N' p hp).2⟩, hn'.at' fun o e => hk _ o hCw e⟩
        rcases List.mem_cons.mp hp with rfl | hp
        · exact hDw
        · exact (off' p hp).1
      by_cases hlt : i < n
      · refine W.item i _ _ _ hlt hst' fun v h₂ tk₂ hMd hk₂ => ?_
        refine W.go i v _ _ _ hMd fun h₂' hP hst₂ hk₂' => ?_
        obtain ⟨F₂, N₂, hn₂⟩ := hnx h₂' fun b o hb x => hk₂' b o hb (hk₂ b o hb x)
        refine hass i v _ _ m' _ _ hlt hP hn₂ hCf fun h₃ tk₃ m₃ hV hn₃ hk₃ => ?_
        obtain ⟨oC, heC, hoC⟩ := ns_obj hn₃
        have hk3f : ∀ b ∈ fp, ∀ o, h₂'.get? b = some o → h₃.get? b = some o := fun b hb o e => hk₃ b o (fun q => hCf (by rw [← q]; exact hb)) e
        have hst₃ : St (i + 1) h₃ := W.frame _ _ _ hst₂ hk3f
        have F₃ : Fr h₀ L h₃ m := ⟨F₂.ns.at' fun o e => hk₃ _ o (Ne.symm hCL) e, fun b o e => hk₃ b o (fun q => by rw [q, hC₀] at e; cases e) (F₂.keep b o e), F₂.above⟩
        have Nown : News h₀ L h₃ (PyProof.Rows.ownOf h₀ fp h₃) := news_ownOf hLf
        have hown : ∀ b ∈ wr, ∃ o, (b, o) ∈ PyProof.Rows.ownOf h₀ fp h₃ := fun b hb => by
          obtain ⟨o, e⟩ := hIo _ _ hst₃ b hb
          exact ⟨o, mem_ownOf (W.sub b hb) (hwr b hb) e⟩
        have N₃ : News h₀ L h₃ ((H2.objs.size, oC) :: (s₂.heap.objs.size, lst ys) :: (news' ++ PyProof.Rows.ownOf h₀ fp h₃)) := fun p hp => by
          rcases List.mem_cons.mp hp with rfl | hp
          · exact ⟨heC, hCL, hC₀⟩
          · rcases List.mem_cons.mp hp with rfl | hp
            · have z := N₂ _ List.mem_cons_self
              exact ⟨hk₃ _ _ hDC z.1, z.2⟩
            · rcases List.mem_append.mp hp with hp | hp
              · have z := N₂ p (List.mem_cons_of_mem _ hp)
                exact ⟨hk₃ _ _ (off' p hp).2.1 z.1, z.2⟩
              · exact Nown p hp
        have after : ∀ (ys' : List Value) (s₄ : Shared), CEnd h₀ L m { s₂ with heap := h₃, toks := tk₃ } H2.objs.size oC s₂.heap.objs.size (lst ys) wr (PyProof.Rows.ownOf h₀ fp h₃) (fun news₂ => J (i + 1) ys' news₂) s₄ →
            CAfter h₀ L m s₂ (St (i + 1)) m₃ wr H2.objs.size s₂.heap.objs.size ys (J (i + 1) ys') s₄ := by
          rintro ys' s₄ ⟨h₄, tk₄, news₂, rfl, F₄, N₄, off₄, hJ₄⟩
          refine ⟨h₄, tk₄, news₂, rfl, W.frame _ _ _ hst₃ fun b hb o e => ?_, F₄, hoC.ns (N₄ _ List.mem_cons_self).1, fun p hp => N₄ p ?_, off₄, hJ₄⟩
          · cases hn : h₀.get? b with
            | some o₀ =>
              have : o₀ = o := by have q := F₃.keep b o₀ hn; rw [e] at q; exact (Option.some.inj q).symm
              exact this ▸ F₄.keep b o₀ hn
            | none => exact (N₄ _ (List.mem_cons_of_mem _ (List.mem_cons_of_mem _ (List.mem_append_right _ (mem_ownOf hb hn e))))).1
          · rcases List.mem_cons.mp hp with rfl | hp
            · exact List.mem_cons_of_mem _ List.mem_cons_self
            · exact List.mem_cons_of_mem _ (List.mem_cons_of_mem _ (List.mem_append_left _ hp))
        refine wpAny_mono (step i ys news' _ _ oC _ m₃ h₃ tk₃ _ hlt hV hoC hJ off' hown F₃ N₃) (fun okb s₃ hok => ?_) fun _ _ e => e
        cases okb with
        | false =>
          obtain ⟨h₄, tk₄, news₂, rfl, st₄, F₄, n₄, N₄, off₄, J₄⟩ := after ys s₃ hok
          exact ⟨n + 1 - (i + 1), by (first | lia | omega), h₄, tk₄, i + 1, ys, m₃, news₂, rfl, hlt, rfl, Nat.le_succ_of_le hyl, st₄, F₄, n₄, N₄, off₄, J₄⟩
        | true =>
          refine wpAny_mono (show wpAny _ _ _ _ _ _ from hok) (fun y s₄ h₄ => ?_) fun _ _ e => e
          obtain ⟨h₄, tk₄, news₂, rfl, st₄, F₄, n₄, N₄, off₄, J₄⟩ := after (ys ++ [y]) s₄ h₄
          have zD := (N₄ _ List.mem_cons_self).1
          refine append_at (hsz := by show ys.toArray.size ≤ sizeLine; rw [List.size_toArray]; exact Nat.le_trans hyl (Nat.le_trans hi hsz)) zD fun h₅ hs₅ hD₅ => ?_
          refine ⟨n + 1 - (i + 1), by (first | lia | omega), h₅, tk₄, i + 1, ys ++ [y], m₃, news₂, rfl, hlt, rfl, by rw [List.length_append, List.length_singleton]; exact Nat.succ_le_succ hyl, W.frame _ _ _ st₄ fun b hb o e => hs₅.extBut b o (fun q => hDf (q ▸ hb)) e, F₄.change hs₅ hDL hD₀,
            n₄.sameBut hs₅ (Ne.symm hDC), fun p hp => ?_, off₄, J₄⟩
          rcases List.mem_cons.mp hp with rfl | hp
          · exact ⟨hD₅.trans (congrArg some (lst_snoc ys y)), hDL, hD₀⟩
          · have z := N₄ p (List.mem_cons_of_mem _ hp)
            exact ⟨hs₅.extBut _ _ (off₄ p hp).2.2 z.1, z.2⟩
      · obtain rfl : i = n := Nat.le_antisymm hi (Nat.not_lt.mp hlt)
        refine W.done _ _ _ hst' fun h₂ tk₂ hk₂ => ?_
        obtain ⟨F₂, N₂, hn₂⟩ := hnx h₂ hk₂
        exact hRR _ _ h₂ tk₂ _ ys news' F₂ N₂ (fun p hp => (off' p hp).2.2) hn₂ hC₀ hD₀ hCL hDL (Ne.symm hDC) (fun p hp => (off' p hp).2.1) hJ
    · rcases List.mem_cons.mp hp with rfl | hp
      · exact ⟨hacc, hDL, hD₀⟩
      · exact ⟨old _ _ (N p hp).1, (N p hp).2⟩
  exact codeAny_compStart_list (loop _ rfl) (hself _ _ _ hst₁ (loop _ rfl))
inductive CompAt (prog : Program) (w : World) (A : Around) (h₀ : Heap) (L : Addr) (m : Str → Option Value) (env : Env) (target elt : PySem.Expr) (ifs : List PySem.Expr) (scope : Scope) (cl : List (Str × Addr)) (Fin : Shared → List Value → List (Addr × Obj) → Prop) (it : Value) (s₂ : Shared) : Prop
  | intro (I : Addr) (fp wr : List Addr) (n : Nat) (P Md : Nat → Value → Heap → Prop) (St : Nat → Heap → Prop) (news : List (Addr × Obj)) (V : Nat → (Str → Option Value) → Prop) (J : Nat → List Value → List (Addr × Obj) → Prop) (f1 : it = .ref I) (f2 : KTurns prog w A target I fp wr n P Md St) (f3 : n ≤ sizeLine) (f4 : (∀ i h, St i h → ∀ b ∈ wr, ∃ o, h.get? b = some o)) (f5 : (∀ (s : Shared) (Q : Value → Shared → Prop) (E : Value → Shared → Prop), St 0 s.heap → Q (.ref I) s → wpAny (model prog w) A (pyIter (.ref I)) Q E s)) (f6 : (∀ i v (s : Shared) C m₂ (Q : Unit → Shared → Prop) (E : Value → Shared → Prop), i < n → P i v s.heap → s.heap.Ns C m₂ → C ∉ fp → (∀ h' tk' m₃, V i m₃ → h'.Ns C m₃ → (∀ b o, b ≠ C → s.heap.get? b = some o → h'.get? b = some o) → Q () { s with heap := h', toks := tk' }) → wpAny (model prog w) A (assign target (compEnvC scope cl C env) v) Q E s)) (f7 : St 0 s₂.heap) (f8 : (∀ b ∈ fp, b < s₂.heap.objs.size)) (f9 : Fr h₀ L s₂.heap m) (f10 : News h₀ L s₂.heap news) (f11 : L ∉ fp) (f12 : (∀ b ∈ wr, h₀.get? b = none)) (f13 : (∀ p ∈ news, p.1 ∉ wr)) (f14 : J 0 [] news) (f15 : (∀ i ys news₁ own C oC D m₂ h₁ tk₁ (E' : Value → Shared → Prop), i < n → V i m₂ → NsObj oC m₂ → J i ys news₁ → (∀ p ∈ news₁, p.1 ∉ wr ∧ p.1 ≠ C ∧ p.1 ≠ D) → (∀ b ∈ wr, ∃ o, (b, o) ∈ own) → Fr h₀ L h₁ m → News h₀ L h₁ ((C, oC) :: (D, lst ys) :: (news₁ ++ own)) → wpAny (model prog w) A (testsOf (compEnvC scope cl C env) ifs) (fun ok s₃ => if ok = true then wpAny (model prog w) A (eval elt (compEnvC scope cl C env)) (fun y s₄ => CEnd h₀ L m { s₂ with heap := h₁, toks := tk₁ } C oC D (lst ys) wr own (fun news₂ => J (i + 1) (ys ++ [y]) news₂) s₄) E' s₃ else CEnd h₀ L m { s₂ with heap := h₁, toks := tk₁ } C oC D (lst ys) wr own (fun news₂ => J (i + 1) ys news₂) s₃) E' { s₂ with heap := h₁, toks := tk₁ })) (f16 : ∀ ys news', J n ys news' → Fin s₂ ys news') : CompAt prog w A h₀ L m env target elt ifs scope cl Fin it s₂
abbrev FinE1 (h₀ : Heap) (L : Addr) (m : Str → Option Value) (Q : Value → Shared → Prop) (s : Shared) (ys : List Value) (news : List (Addr × Obj)) : Prop :=
  ∀ D h tk, Fr h₀ L h m → News h₀ L h ((D, listOf ys.toArray ys.length) :: news) → (∀ p ∈ news, p.1 ≠ D) → Q (.ref D) { s with heap := h, toks := tk }
abbrev FinA1 (h₀ : Heap) (L : Addr) (m : Str → Option Value) (y : Str) (Q : Flow → Shared → Prop) (s : Shared) (ys : List Value) (news : List (Addr × Obj)) : Prop :=
  ∀ D h tk, Fr h₀ L h (fun z => if z = y then some (.ref D) else m z) → News h₀ L h ((D, listOf ys.toArray ys.length) :: news) → (∀ p ∈ news, p.1 ≠ D) → Q .next { s with heap := h, toks := tk }
theorem ListComp_any {target elt iter : PySem.Expr} {ifs : List PySem.Expr} {scope : Scope} {cl : List (Str × Addr)} {pos : Pos} {Q : Value → Shared → Prop} (F₀ : Fr h₀ L s.heap m)
    (hclos : closureFor scope env = pure cl) (hcell : ∀ y ∈ scope.names, y.2 ≠ .cell) (hkind : scope.kind = .function)
    (hnames : ∀ y ∈ scope.names, y.2 = .local → scope.names.lookup y.1 = some .local)
    (h : wpAny (model prog w) A (eval iter env) (fun xv s₁ => wpAny (model prog w) A (pyIter xv) (fun it s₂ => CompAt prog w A h₀ L m env target elt ifs scope cl (FinE1 h₀ L m Q) it s₂) E s₁) E s)
    (hs : ∀ x, foldedSetIterable iter env x = pure x := by intro _; rfl) :
    wpAny (model prog w) A (eval (.ListComp elt [⟨target, iter, ifs, 0⟩] scope pos) env) Q E s := by
  rw [eval_ListComp]
  refine wpAny_comprehension_free (use := none) rfl hs hclos hkind hnames (wpAny_mono h (fun xv s₁ h₁ => wpAny_mono h₁ (fun it s₂ h₂ => ?_) fun _ _ e => e) fun _ _ e => e)
  obtain ⟨I, fp, wr, n, P, Md, St, news, V, J, rfl, W, hsz, hIo, hself, hass, hst, hfp, F, N, hLf, hwr, hnw, h0, step, fin⟩ := h₂
  refine comp_block W hsz hIo hself hcell hkind hass hst hfp F N hLf hwr hnw h0 step ?_
  intro D C h tk m' ys news' F' N' o1 hn hC₀ hD₀ hCL hDL hCD offC hJ
  refine ⟨m', hn, fun h'' hs'' => fin ys news' hJ D h'' tk (F'.change hs'' hCL hC₀) (fun p hp => ?_) o1⟩
  refine ⟨hs''.extBut _ _ ?_ (N' p hp).1, (N' p hp).2⟩
  rcases List.mem_cons.mp hp with rfl | hp
  · exact Ne.symm hCD
  · exact offC p hp
theorem Assign_ListComp_any {target elt iter : PySem.Expr} {ifs : List PySem.Expr} {y : Str} {py : Pos} {scope : Scope} {cl : List (Str × Addr)} {pos spos : Pos} {Q : Flow → Shared → Prop} (F₀ : Fr h₀ L s.heap m) (hLe : env.locals = L)
    (hsw : swapsWith (.ListComp elt [⟨target, iter, ifs, 0⟩] scope pos) (some (.Name y py)) spos.line env = pure true)
    (hclos : closureFor scope env = pure cl) (hcell : ∀ z ∈ scope.names, z.2 ≠ .cell) (hkind : scope.kind = .function)
    (hnames : ∀ z ∈ scope.names, z.2 = .local → scope.names.lookup z.1 = some .local)
    (hy : env.kindOf y = some .local) (hp : (env.scope.kind == .class || (env.scope.kind == .module && env.locals != env.globals)) = false)
    (h : wpAny (model prog w) A (eval iter env) (fun xv s₁ => wpAny (model prog w) A (pyIter xv) (fun it s₂ => CompAt prog w A h₀ L m env target elt ifs scope cl (FinA1 h₀ L m y Q) it s₂) E s₁) E s)
    (hs : ∀ x, foldedSetIterable iter env x = pure x := by intro _; rfl) :
    wpAny (model prog w) A (exec (.Assign [.Name y py] (.ListComp elt [⟨target, iter, ifs, 0⟩] scope pos) spos) env) Q E s := by
  subst hLe
  rw [exec_Assign_Name_used _ _ _ _ hsw]
  refine wpAny_bind (wpAny_standAt (wpAny_bind ?_))
  show wpAny _ A (do let _ ← comprehension (.ListComp elt [⟨target, iter, ifs, 0⟩] scope pos) scope env _ (newList []) false (eval iter env) (some (assign (.Name y py) env))) _ _ s
  refine wpAny_bind (wpAny_mono (wpAny_comprehension_free (use := some (assign (.Name y py) env)) (Q := fun _ s' => Q .next s') rfl hs hclos hkind hnames
    (wpAny_mono h (fun xv s₁ h₁ => wpAny_mono h₁ (fun it s₂ h₂ => ?_) fun _ _ e => e) fun _ _ e => e)) (fun _ s' hq => wpAny_pure (wpAny_pure hq)) fun _ _ e => e)
  obtain ⟨I, fp, wr, n, P, Md, St, news, V, J, rfl, W, hsz, hIo, hself, hass, hst, hfp, F, N, hLf, hwr, hnw, h0, step, fin⟩ := h₂
  refine comp_block W hsz hIo hself hcell hkind hass hst hfp F N hLf hwr hnw h0 step ?_
  intro D C h' tk m' ys news' F' N' o1 hn hC₀ hD₀ hCL hDL hCD offC hJ
  show wpAny _ A (assign (.Name y py) env (.ref D)) _ _ _
  refine wpAny_assign_Name (wpAny_storeName_local hy F'.ns (fun h₂ hn₂ hs₂ => ?_) hp)
  have hL₀ : h₀.get? env.locals = none := Heap.get?_none_of_le F'.above
  have F₂ : Fr h₀ env.locals h₂ (fun z => if z = y then some (.ref D) else m z) := ⟨hn₂, fun b o e => hs₂.extBut b o (fun q => by rw [q, hL₀] at e; cases e) (F'.keep b o e), F'.above⟩
  refine ⟨m', hn.sameBut hs₂ hCL, fun h'' hs'' => fin ys news' hJ D h'' _ (F₂.change hs'' hCL hC₀) (fun p hp => ?_) o1⟩
  have z : h₂.get? p.1 = some p.2 := hs₂.extBut _ _ (N' p hp).2.1 (N' p hp).1
  refine ⟨hs''.extBut _ _ ?_ z, (N' p hp).2⟩
  rcases List.mem_cons.mp hp with rfl | hp
  · exact Ne.symm hCD
  · exact offC p hp
theorem CEnd.same {s₁ : Shared} {C D : Addr} {oC oD : Obj} {wr : List Addr} {own news₂ : List (Addr × Obj)} {rest : List (Addr × Obj) → Prop} {h' : Heap} {tk' : Nat}
    (F : Fr h₀ L h' m) (N : News h₀ L h' ((C, oC) :: (D, oD) :: (news₂ ++ own))) (off : ∀ p ∈ news₂, p.1 ∉ wr ∧ p.1 ≠ C ∧ p.1 ≠ D) (r : rest news₂) : CEnd h₀ L m s₁ C oC D oD wr own rest { s₁ with heap := h', toks := tk' } :=
  ⟨h', tk', news₂, rfl, F, N, off, r⟩
theorem CEnd.more {s₁ : Shared} {C D x : Addr} {oC oD ox : Obj} {wr : List Addr} {own news₂ : List (Addr × Obj)} {rest : List (Addr × Obj) → Prop} {h' : Heap} {tk' : Nat}
    (F : Fr h₀ L h' m) (N : News h₀ L h' ((x, ox) :: (C, oC) :: (D, oD) :: (news₂ ++ own))) (hw : ∀ b ∈ wr, ∃ o, (b, o) ∈ own) (l : ∀ p ∈ (C, oC) :: (D, oD) :: (news₂ ++ own), p.1 ≠ x) (off : ∀ p ∈ news₂, p.1 ∉ wr ∧ p.1 ≠ C ∧ p.1 ≠ D) (r : rest ((x, ox) :: news₂)) : CEnd h₀ L m s₁ C oC D oD wr own rest { s₁ with heap := h', toks := tk' } := by
  refine ⟨h', tk', (x, ox) :: news₂, rfl, F, fun p hp => N p ?_, fun p hp => ?_, r⟩
  · simp only [List.mem_cons, List.mem_append] at hp ⊢
    rcases hp with h | h | (h | h) | h
    · exact .inr (.inl h)
    · exact .inr (.inr (.inl h))
    · exact .inl h
    · exact .inr (.inr (.inr (.inl h)))
    · exact .inr (.inr (.inr (.inr h)))
  · rcases List.mem_cons.mp hp with rfl | hp
    · refine ⟨fun hb => ?_, Ne.symm (l _ List.mem_cons_self), Ne.symm (l _ (List.mem_cons_of_mem _ List.mem_cons_self))⟩
      obtain ⟨o, ho⟩ := hw _ hb
      exact l (_, o) (List.mem_cons_of_mem _ (List.mem_cons_of_mem _ (List.mem_append_right _ ho))) rfl
    · exact off p hp
theorem assign_one {x : Str} {px : Pos} {scope : Scope} {cl : List (Str × Addr)} {C : Addr} {m₂ : Str → Option Value} {v : Value} {Q : Unit → Shared → Prop} (hkind : scope.kind = .function) (hx : scope.names.lookup x = some .local) (hn : s.heap.Ns C m₂)
    (h : ∀ h' tk', h'.Ns C (fun z => if z = x then some v else m₂ z) → (∀ b o, b ≠ C → s.heap.get? b = some o → h'.get? b = some o) → Q () { s with heap := h', toks := tk' }) : wpAny (model prog w) A (assign (.Name x px) (compEnvC scope cl C env) v) Q E s :=
  wpAny_assign_Name (wpAny_storeName_local (lookup_relabel_local hx) hn (fun h₃ hn₃ hs₃ => h h₃ _ hn₃ fun b o hb e => hs₃.extBut b o hb e) (by simp [compEnvC, relabel, hkind]))
abbrev CStep (prog : Program) (w : World) (A : Around) (h₀ : Heap) (L : Addr) (m : Str → Option Value) (env : Env) (elt : PySem.Expr) (ifs : List PySem.Expr) (scope : Scope) (cl : List (Str × Addr)) (s₂ : Shared) (V : Nat → (Str → Option Value) → Prop) (J : Nat → List Value → List (Addr × Obj) → Prop) (n : Nat) : Prop :=
  ∀ g i ys news₁ own C oC D m₂ h₁ tk₁ (E' : Value → Shared → Prop) wr, i < n → V i m₂ → NsObj oC m₂ → J i ys news₁ → (∀ p ∈ news₁, p.1 ∉ wr ∧ p.1 ≠ C ∧ p.1 ≠ D) → (∀ b ∈ wr, ∃ o, (b, o) ∈ own) → Fr h₀ L h₁ m → News h₀ L h₁ ((C, oC) :: (D, listOf ys.toArray ys.length) :: (news₁ ++ own)) →
      wpAny (model prog w) A (testsOf (compEnvC scope cl C env) ifs) (fun ok s₃ => if ok = true then wpAny (model prog w) A (eval elt (compEnvC scope cl C env))
        (fun y s₄ => CEnd h₀ L m { s₂ with heap := g, toks := tk₁ } C oC D (listOf ys.toArray ys.length) wr own (fun news₂ => J (i + 1) (ys ++ [y]) news₂) s₄) E' s₃
        else CEnd h₀ L m { s₂ with heap := g, toks := tk₁ } C oC D (listOf ys.toArray ys.length) wr own (fun news₂ => J (i + 1) ys news₂) s₃) E' { s₂ with heap := h₁, toks := tk₁ }
abbrev CFin (Fin : Shared → List Value → List (Addr × Obj) → Prop) (s₂ : Shared) (J : Nat → List Value → List (Addr × Obj) → Prop) (n : Nat) : Prop := ∀ (g : Heap) ys news', J n ys news' → Fin { s₂ with heap := g } ys news'
theorem compAt_walk {I : Addr} {fp wr : List Addr} {n : Nat} {P : Nat → Value → Prop} {St : Nat → Heap → Prop} {elt : PySem.Expr} {ifs : List PySem.Expr} {x : Str} {px : Pos} {scope : Scope} {cl : List (Str × Addr)} {Fin : Shared → List Value → List (Addr × Obj) → Prop} {news : List (Addr × Obj)} {g₂ : Heap}
    (J : Nat → List Value → List (Addr × Obj) → Prop) (W : Walks prog w A I fp wr n P St) (hsz : n ≤ sizeLine) (hIo : ∀ i h, St i h → ∀ b ∈ wr, ∃ o, h.get? b = some o) (hkind : scope.kind = .function) (hx : scope.names.lookup x = some .local)
    (hst : St 0 g₂) (hfp : ∀ b ∈ fp, b < g₂.objs.size) (F : Fr h₀ L g₂ m) (N : News h₀ L g₂ news) (hLf : L ∉ fp) (hwr : ∀ b ∈ wr, h₀.get? b = none) (hnw : ∀ p ∈ news, p.1 ∉ wr) (h0 : J 0 [] news)
    (step : CStep prog w A h₀ L m env elt ifs scope cl s (fun i m₂ => ∃ v, P i v ∧ m₂ x = some v) J n) (fin : CFin Fin s J n) :
    CompAt prog w A h₀ L m env (.Name x px) elt ifs scope cl Fin (.ref I) { s with heap := g₂ } :=
  ⟨I, fp, wr, n, _, _, St, news, fun i m₂ => ∃ v, P i v ∧ m₂ x = some v, J, rfl, KTurns.ofWalks W (fun i v s Q E _ hq => wpAny_pure hq), hsz, hIo, fun s Q E h hq => W.self 0 s Q E h hq,
    fun i v s C m₂ Q E _ hP hn _ k => assign_one hkind hx hn fun h' tk' hn' hk' => k h' tk' _ ⟨v, hP, by simp⟩ hn' hk', hst, hfp, F, N, hLf, hwr, hnw, h0,
    fun i ys news₁ own C oC D m₂ h₁ tk₁ E' hi hV hC hJ off hw F' N' => step _ i ys news₁ own C oC D m₂ h₁ tk₁ E' wr hi hV hC hJ off hw F' N', fin g₂⟩
theorem get_fresh {h : Heap} (F : Fr h₀ L h m) : h₀.get? h.objs.size = none := by
  cases e : h₀.get? h.objs.size with
  | none => rfl
  | some o => exact absurd (Heap.lt_size (F.keep _ _ e)) (Nat.lt_irrefl _)
theorem compAt_str {elt : PySem.Expr} {ifs : List PySem.Expr} {x : Str} {px : Pos} {scope : Scope} {cl : List (Str × Addr)} {Fin : Shared → List Value → List (Addr × Obj) → Prop} {tx : Str} {t : Tok} {news : List (Addr × Obj)}
    (J : Nat → List Value → List (Addr × Obj) → Prop) (hh : A.handled = none) (hkind : scope.kind = .function) (hx : scope.names.lookup x = some .local) (F : Fr h₀ L s.heap m) (N : News h₀ L s.heap news) (hsz : tx.cps.size ≤ sizeLine) (h0 : J 0 [] news)
    (step : CStep prog w A h₀ L m env elt ifs scope cl s (fun i m₂ => ∃ v, SignAt tx i v ∧ m₂ x = some v) J tx.cps.size) (fin : CFin Fin s J tx.cps.size) :
    wpAny (model prog w) A (pyIter (.str tx t)) (fun it s₂ => CompAt prog w A h₀ L m env (.Name x px) elt ifs scope cl Fin it s₂) E s := by
  have k : ∀ o : Obj, ∀ b o', s.heap.get? b = some o' → (s.heap.push o).get? b = some o' := fun o b o' e => Heap.get?_push_of_some _ e
  have hL : L ∉ [s.heap.objs.size] := fun h => by rw [List.mem_singleton.mp h] at F; exact Nat.lt_irrefl _ F.ns.lt
  have hw : ∀ b ∈ [s.heap.objs.size], h₀.get? b = none := fun b hb => by rw [List.mem_singleton.mp hb]; exact get_fresh F
  have hn : ∀ p ∈ news, p.1 ∉ [s.heap.objs.size] := fun p hp hb => Nat.ne_of_lt (Heap.lt_size (N p hp).1) (List.mem_singleton.mp hb)
  have hl : ∀ o : Obj, ∀ b ∈ [s.heap.objs.size], b < (s.heap.push o).objs.size := fun o b hb => by rw [List.mem_singleton.mp hb, Heap.size_push]; exact Nat.lt_succ_self _
  cases ha : tx.cps.all (· < 128)
  · refine wpAny_pyIter_wide ha ?_
    exact compAt_walk J (Walks.strWide hh _ tx t) hsz (fun i h st b hb => by obtain ⟨o, e, _⟩ := st; rw [List.mem_singleton.mp hb]; exact ⟨o, e⟩) hkind hx ⟨_, Heap.get?_push_size _ rfl, rfl, rfl⟩ (hl _) (F.keeps (k _)) (N.grown (k _)) hL hw hn h0 step fin
  · refine wpAny_pyIter_ascii ha ?_
    exact compAt_walk J (Walks.strAscii hh _ tx t) hsz (fun i h st b hb => by obtain ⟨o, e, _⟩ := st; rw [List.mem_singleton.mp hb]; exact ⟨o, e⟩) hkind hx ⟨_, Heap.get?_push_size _ rfl, rfl, rfl⟩ (hl _) (F.keeps (k _)) (N.grown (k _)) hL hw hn h0 step fin
theorem compAt_range {elt : PySem.Expr} {ifs : List PySem.Expr} {x : Str} {px : Pos} {scope : Scope} {cl : List (Str × Addr)} {Fin : Shared → List Value → List (Addr × Obj) → Prop} {r : Addr} {a b : Int} {t u v : Tok} {n : Nat} {news : List (Addr × Obj)}
    (J : Nat → List Value → List (Addr × Obj) → Prop) (hh : A.handled = none) (hkind : scope.kind = .function) (hx : scope.names.lookup x = some .local) (F : Fr h₀ L s.heap m) (N : News h₀ L s.heap news) (hr : IsRange s.heap r a b 1 t u v) (hsm : Builtin.Range.small a b 1 = true) (hn : Builtin.Range.rangeSize a b 1 = ((n : Nat) : Int)) (hsz : n ≤ sizeLine) (h0 : J 0 [] news)
    (step : CStep prog w A h₀ L m env elt ifs scope cl s (fun i m₂ => ∃ v, (∃ t, v = .int (a + (i : Int)) t) ∧ m₂ x = some v) J n) (fin : CFin Fin s J n) :
    wpAny (model prog w) A (pyIter (.ref r)) (fun it s₂ => CompAt prog w A h₀ L m env (.Name x px) elt ifs scope cl Fin it s₂) E s := by
  have k : ∀ o : Obj, ∀ b o', s.heap.get? b = some o' → (s.heap.push o).get? b = some o' := fun o b o' e => Heap.get?_push_of_some _ e
  have hL : L ∉ [s.heap.objs.size] := fun h => by rw [List.mem_singleton.mp h] at F; exact Nat.lt_irrefl _ F.ns.lt
  have hw : ∀ b ∈ [s.heap.objs.size], h₀.get? b = none := fun b hb => by rw [List.mem_singleton.mp hb]; exact get_fresh F
  have hn' : ∀ p ∈ news, p.1 ∉ [s.heap.objs.size] := fun p hp hb => Nat.ne_of_lt (Heap.lt_size (N p hp).1) (List.mem_singleton.mp hb)
  have hl : ∀ o : Obj, ∀ b ∈ [s.heap.objs.size], b < (s.heap.push o).objs.size := fun o b hb => by rw [List.mem_singleton.mp hb, Heap.size_push]; exact Nat.lt_succ_self _
  refine wpAny_pyIter_range hr hsm ?_
  refine compAt_walk J (range_walks hh a n) hsz (fun i h st b hb => by rw [List.mem_singleton.mp hb]; exact ⟨_, st⟩) hkind hx (by show IsRangeIter _ _ _ _ _; rw [hn]; simpa using Heap.get?_push_size _ rfl) (hl _) (F.keeps (k _)) (N.grown (k _)) hL hw hn' h0 step fin
theorem compAt_list {elt : PySem.Expr} {ifs : List PySem.Expr} {x : Str} {px : Pos} {scope : Scope} {cl : List (Str × Addr)} {Fin : Shared → List Value → List (Addr × Obj) → Prop} {ax : Addr} {its : Array Value} {k : Nat} {news : List (Addr × Obj)}
    (J : Nat → List Value → List (Addr × Obj) → Prop) (hh : A.handled = none) (hkind : scope.kind = .function) (hx : scope.names.lookup x = some .local) (F : Fr h₀ L s.heap m) (N : News h₀ L s.heap news) (hm : (ax, ({ cls := .type "list", data := .seq its k } : Obj)) ∈ news) (hsz : its.size ≤ sizeLine) (h0 : J 0 [] news)
    (step : CStep prog w A h₀ L m env elt ifs scope cl s (fun i m₂ => ∃ v, its[i]? = some v ∧ m₂ x = some v) J its.size) (fin : CFin Fin s J its.size) :
    wpAny (model prog w) A (pyIter (.ref ax)) (fun it s₂ => CompAt prog w A h₀ L m env (.Name x px) elt ifs scope cl Fin it s₂) E s := by
  have hl : s.heap.IsList ax its := ⟨_, (N _ hm).1, rfl, _, rfl⟩
  have hlt : ax < s.heap.objs.size := Heap.lt_size (N _ hm).1
  have k : ∀ o : Obj, ∀ b o', s.heap.get? b = some o' → (s.heap.push o).get? b = some o' := fun o b o' e => Heap.get?_push_of_some _ e
  have hw : ∀ b ∈ [s.heap.objs.size], h₀.get? b = none := fun b hb => by rw [List.mem_singleton.mp hb]; exact get_fresh F
  have hn' : ∀ p ∈ news, p.1 ∉ [s.heap.objs.size] := fun p hp hb => Nat.ne_of_lt (Heap.lt_size (N p hp).1) (List.mem_singleton.mp hb)
  refine wpAny_pyIter_list hl ?_
  refine compAt_walk J (Walks.list hh s.heap.objs.size ax (Nat.ne_of_lt hlt) its) hsz (fun i h st b hb => by obtain ⟨o, e, _⟩ := st.1; rw [List.mem_singleton.mp hb]; exact ⟨o, e⟩) hkind hx ⟨⟨_, Heap.get?_push_size _ rfl, rfl, rfl⟩, hl.push _⟩ (fun b hb => ?_) (F.keeps (k _)) (N.grown (k _)) (fun h => ?_) hw hn' h0 step fin
  · rw [Heap.size_push]
    rcases List.mem_cons.mp hb with rfl | hb
    · exact Nat.lt_succ_self _
    · rw [List.mem_singleton.mp hb]; exact Nat.lt_succ_of_lt hlt
  · rcases List.mem_cons.mp h with rfl | hb
    · exact Nat.lt_irrefl _ F.ns.lt
    · exact (N _ hm).2.1 (List.mem_singleton.mp hb).symm
theorem compAt_tuple {elt : PySem.Expr} {ifs : List PySem.Expr} {x : Str} {px : Pos} {scope : Scope} {cl : List (Str × Addr)} {Fin : Shared → List Value → List (Addr × Obj) → Prop} {ax : Addr} {its : Array Value} {k : Nat} {news : List (Addr × Obj)}
    (J : Nat → List Value → List (Addr × Obj) → Prop) (hh : A.handled = none) (hkind : scope.kind = .function) (hx : scope.names.lookup x = some .local) (F : Fr h₀ L s.heap m) (N : News h₀ L s.heap news) (hm : (ax, ({ cls := .type "tuple", data := .seq its k } : Obj)) ∈ news) (hsz : its.size ≤ sizeLine) (h0 : J 0 [] news)
    (step : CStep prog w A h₀ L m env elt ifs scope cl s (fun i m₂ => ∃ v, its[i]? = some v ∧ m₂ x = some v) J its.size) (fin : CFin Fin s J its.size) :
    wpAny (model prog w) A (pyIter (.ref ax)) (fun it s₂ => CompAt prog w A h₀ L m env (.Name x px) elt ifs scope cl Fin it s₂) E s := by
  have hl : s.heap.IsTuple ax its := ⟨_, (N _ hm).1, rfl, _, rfl⟩
  have hlt : ax < s.heap.objs.size := Heap.lt_size (N _ hm).1
  have k : ∀ o : Obj, ∀ b o', s.heap.get? b = some o' → (s.heap.push o).get? b = some o' := fun o b o' e => Heap.get?_push_of_some _ e
  have hw : ∀ b ∈ [s.heap.objs.size], h₀.get? b = none := fun b hb => by rw [List.mem_singleton.mp hb]; exact get_fresh F
  have hn' : ∀ p ∈ news, p.1 ∉ [s.heap.objs.size] := fun p hp hb => Nat.ne_of_lt (Heap.lt_size (N p hp).1) (List.mem_singleton.mp hb)
  refine wpAny_pyIter_tuple hl ?_
  refine compAt_walk J (Walks.tuple hh s.heap.objs.size ax (Nat.ne_of_lt hlt) its) hsz (fun i h st b hb => by obtain ⟨o, e, _⟩ := st.1; rw [List.mem_singleton.mp hb]; exact ⟨o, e⟩) hkind hx ⟨⟨_, Heap.get?_push_size _ rfl, rfl, rfl⟩, hl.push _⟩ (fun b hb => ?_) (F.keeps (k _)) (N.grown (k _)) (fun h => ?_) hw hn' h0 step fin
  · rw [Heap.size_push]
    rcases List.mem_cons.mp hb with rfl | hb
    · exact Nat.lt_succ_self _
    · rw [List.mem_singleton.mp hb]; exact Nat.lt_succ_of_lt hlt
  · rcases List.mem_cons.mp h with rfl | hb
    · exact Nat.lt_irrefl _ F.ns.lt
    · exact (N _ hm).2.1 (List.mem_singleton.mp hb).symm
inductive PEnd (h₀ : Heap) (L : Addr) (m : Str → Option Value) (s₁ : Shared) (all : List (Addr × Obj)) (P : Prop) (s' : Shared) : Prop
  | intro (h' : _) (tk' : _) (f1 : s' = { s₁ with heap := h', toks := tk' }) (f2 : Fr h₀ L h' m) (f3 : News h₀ L h' all) (f4 : P) : PEnd h₀ L m s₁ all P s'
theorem PEnd.mk {s₁ : Shared} {all : List (Addr × Obj)} {P : Prop} {h' : Heap} {tk' : Nat} (F : Fr h₀ L h' m) (N : News h₀ L h' all) (p : P) : PEnd h₀ L m s₁ all P { s₁ with heap := h', toks := tk' } := ⟨h', tk', rfl, F, N, p⟩
abbrev CStep0 (prog : Program) (w : World) (A : Around) (h₀ : Heap) (L : Addr) (m : Str → Option Value) (env : Env) (elt : PySem.Expr) (ifs : List PySem.Expr) (scope : Scope) (cl : List (Str × Addr)) (s₂ : Shared) (V : Nat → (Str → Option Value) → Prop) (J : Nat → List Value → Prop) (n : Nat) (news : List (Addr × Obj)) : Prop :=
  ∀ i ys own C oC D m₂ h₁ tk₁ (E' : Value → Shared → Prop), i < n → V i m₂ → NsObj oC m₂ → J i ys → Fr h₀ L h₁ m → News h₀ L h₁ ((C, oC) :: (D, listOf ys.toArray ys.length) :: (news ++ own)) →
      wpAny (model prog w) A (testsOf (compEnvC scope cl C env) ifs) (fun ok s₃ => if ok = true then wpAny (model prog w) A (eval elt (compEnvC scope cl C env))
        (fun y s₄ => PEnd h₀ L m { s₂ with heap := h₁, toks := tk₁ } ((C, oC) :: (D, listOf ys.toArray ys.length) :: (news ++ own)) (J (i + 1) (ys ++ [y])) s₄) E' s₃
        else PEnd h₀ L m { s₂ with heap := h₁, toks := tk₁ } ((C, oC) :: (D, listOf ys.toArray ys.length) :: (news ++ own)) (J (i + 1) ys) s₃) E' { s₂ with heap := h₁, toks := tk₁ }
theorem cstep0 {elt : PySem.Expr} {ifs : List PySem.Expr} {scope : Scope} {cl : List (Str × Addr)} {V : Nat → (Str → Option Value) → Prop} {J : Nat → List Value → Prop} {n : Nat} {news : List (Addr × Obj)}
    (c : CStep0 prog w A h₀ L m env elt ifs scope cl s V J n news) : CStep prog w A h₀ L m env elt ifs scope cl s V (fun i ys nw => nw = news ∧ J i ys) n := by
  intro g i ys news₁ own C oC D m₂ h₁ tk₁ E' wr hi hV hC hJ off hw F N
  obtain ⟨rfl, hJ⟩ := hJ
  refine wpAny_mono (c i ys own C oC D m₂ h₁ tk₁ E' hi hV hC hJ F N) (fun ok s₃ h => ?_) fun _ _ e => e
  have up : ∀ {P : Prop} {rest : List (Addr × Obj) → Prop} {s₄ : Shared}, (P → rest news₁) → PEnd h₀ L m { s with heap := h₁, toks := tk₁ } ((C, oC) :: (D, listOf ys.toArray ys.length) :: (news₁ ++ own)) P s₄ → CEnd h₀ L m { s with heap := g, toks := tk₁ } C oC D (listOf ys.toArray ys.length) wr own rest s₄ := by
    rintro P rest s₄ hP ⟨h', tk', rfl, F', N', p⟩
    exact ⟨h', tk', news₁, rfl, F', N', off, hP p⟩
  cases ok with
  | false => exact up (fun p => ⟨rfl, p⟩) h
  | true => exact wpAny_mono (show wpAny _ _ _ _ _ _ from h) (fun y s₄ h₄ => up (fun p => ⟨rfl, p⟩) h₄) fun _ _ e => e
abbrev CFin0 (Fin : Shared → List Value → List (Addr × Obj) → Prop) (s₂ : Shared) (J : Nat → List Value → Prop) (n : Nat) (news : List (Addr × Obj)) : Prop := ∀ (g : Heap) ys, J n ys → Fin { s₂ with heap := g } ys news
theorem cfin0 {Fin : Shared → List Value → List (Addr × Obj) → Prop} {J : Nat → List Value → Prop} {n : Nat} {news : List (Addr × Obj)} (c : CFin0 Fin s J n news) : CFin Fin s (fun i ys nw => nw = news ∧ J i ys) n := fun g ys nw h => by
  obtain ⟨rfl, h⟩ := h
  exact c g ys h
theorem tests_nil {env : Env} {Q : Bool → Shared → Prop} (h : Q true s) : wpAny (model prog w) A (testsOf env []) Q E s := wpAny_tests_nil h
theorem tests_one {env : Env} {c : PySem.Expr} {Q : Bool → Shared → Prop} (h : wpAny (model prog w) A (isTrue c env (eval c env)) Q E s) : wpAny (model prog w) A (testsOf env [c]) Q E s := wpAny_tests_one h
end
end Mine
end

noncomputable section
namespace Mine
open PyProof.Rows.LCg PyProof.V
section
variable {prog : Program} {w : World} {A : Around} {E : Value → Shared → Prop} {s : Shared} {h₀ : Heap} {L : Addr} {m : Str → Option Value} {env : Env}
theorem compAt_enum {elt : PySem.Expr} {ifs : List PySem.Expr} {a b : Str} {pa pb tp : Pos} {kk : Nat} {scope : Scope} {cl : List (Str × Addr)} {Fin : Shared → List Value → List (Addr × Obj) → Prop} {l : Addr} {vs : List Value} {n : Nat} {news : List (Addr × Obj)}
    (J : Nat → List Value → List (Addr × Obj) → Prop) (hh : A.handled = none) (hkind : scope.kind = .function) (hxa : scope.names.lookup a = some .local) (hxb : scope.names.lookup b = some .local) (hab : a ≠ b)
    (F : Fr h₀ L s.heap m) (N : News h₀ L s.heap news) (hm : (l, listOf vs.toArray n) ∈ news) (hsz : vs.length ≤ sizeLine) (h0 : J 0 [] news)
    (step : CStep prog w A h₀ L m env elt ifs scope cl s (fun i m₂ => ∃ v t, vs[i]? = some v ∧ m₂ a = some (.int (i : Int) t) ∧ m₂ b = some v) J vs.length) (fin : CFin Fin s J vs.length) :
    wpAny (model prog w) A (call (.type "enumerate") [.ref l]) (fun xv s₁ => wpAny (model prog w) A (pyIter xv) (fun it s₂ => CompAt prog w A h₀ L m env (.Tuple [.Name a pa, .Name b pb] kk tp) elt ifs scope cl Fin it s₂) E s₁) E s := by
  have hax := N _ hm
  have hl : s.heap.IsList l vs.toArray := ⟨_, hax.1, rfl, n, rfl⟩
  have hlt : l < s.heap.objs.size := Heap.lt_size hax.1
  have hLs : L < s.heap.objs.size := F.ns.lt
  refine call_enumerate_list hl fun h' hE hI hsz' hk => ?_
  refine wpAny_pyIter_enum hE ?_
  have W := (WalksT.enumerate (prog := prog) (w := w) hh (s.heap.objs.size + 1) s.heap.objs.size l (Nat.succ_ne_self _) (ktu_ne 1 hlt) (Nat.ne_of_lt hlt) vs.toArray).toU
  refine ⟨s.heap.objs.size + 1, [s.heap.objs.size + 1, s.heap.objs.size, l], [s.heap.objs.size + 1, s.heap.objs.size], vs.length, _, _, _, news, (fun i m₂ => ∃ v t, vs[i]? = some v ∧ m₂ a = some (.int (i : Int) t) ∧ m₂ b = some v), J, rfl, KTurns.ofWalksU (elts := [.Name a pa, .Name b pb]) (k := kk) (pos := tp) W, hsz, ?_, ?_, ?_, ?_, ?_, F.keeps hk, N.grown hk, ?_, ?_, ?_, h0, ?_, ?_⟩
  · rintro i h ⟨⟨old, he⟩, ⟨oi, hoi, hic, _⟩, _⟩ b hb
    have he' : ∃ oe : Obj, h.get? (s.heap.objs.size + 1) = some oe := ⟨_, he⟩
    have hb' : b = s.heap.objs.size + 1 ∨ b = s.heap.objs.size := by simpa using hb
    rcases hb' with rfl | rfl
    · exact he'
    · exact ⟨_, hoi⟩
  · exact fun s' Q E hst hQ => W.self 0 s' Q E hst hQ
  · rintro i v s' C m₂ Q E hi ⟨T, vals, rfl, ⟨t, x, hx, rfl⟩, hT⟩ hn hC k
    refine kcp_assign (env := compEnvC scope cl C env) hh hT (lookup_relabel_local hxa) (lookup_relabel_local hxb) (by simp [compEnvC, relabel, hkind]) hn fun h₄ tk₄ hn₄ hs₄ => ?_
    exact k _ _ _ ⟨x, t, by simpa using hx, by simp [hab], by simp⟩ hn₄ hs₄
  · exact ⟨⟨_, hE⟩, hI, hl.at fun o e => hk _ o e⟩
  · intro b hb
    have hb' : b = s.heap.objs.size + 1 ∨ b = s.heap.objs.size ∨ b = l := by simpa using hb
    have e : h'.objs.size = s.heap.objs.size + 2 := hsz'
    show b < h'.objs.size
    rw [e]
    rcases hb' with rfl | rfl | rfl
    · exact Nat.lt_succ_self _
    · exact Nat.lt_succ_of_lt (Nat.lt_succ_self _)
    · exact Nat.lt_succ_of_lt (Nat.lt_succ_of_lt hlt)
  · intro hb
    have hb' : L = s.heap.objs.size + 1 ∨ L = s.heap.objs.size ∨ L = l := by simpa using hb
    rcases hb' with e | e | e
    · exact ktu_ne 1 hLs e
    · exact Nat.ne_of_lt hLs e
    · exact hax.2.1 e.symm
  · intro b hb
    have hb' : b = s.heap.objs.size + 1 ∨ b = s.heap.objs.size := by simpa using hb
    rcases hb' with rfl | rfl
    · exact ktu_new F (Nat.le_add_right _ _)
    · exact ktu_new F (Nat.le_refl _)
  · intro p hp hb
    have hb' : p.1 = s.heap.objs.size + 1 ∨ p.1 = s.heap.objs.size := by simpa using hb
    have hlp := Heap.lt_size (N p hp).1
    rcases hb' with e | e
    · exact ktu_ne 1 hlp e
    · exact Nat.ne_of_lt hlp e
  · intro i ys news₁ own C oC D m₂ h₁ tk₁ E' hi hV hC hJ off hw F' N'
    exact step _ i ys news₁ own C oC D m₂ h₁ tk₁ E' _ hi hV hC hJ off hw F' N'
  · exact fun ys news' hJ => fin _ ys news' hJ
end
end Mine
end

noncomputable section
namespace Mine
open PyProof.Rows.LCg PyProof.V
section
variable {prog : Program} {w : World} {A : Around} {E : Value → Shared → Prop} {s : Shared} {h₀ : Heap} {L : Addr} {m : Str → Option Value} {env : Env}
theorem newEnv_cell1 {M : Model} {scope : Scope} {globals : Addr} {closure : List (Str × Addr)} {qual : Str} {func : Option Addr} {code : Value} {builtins : Addr} {cx : Str} {Q : Env → Shared → Prop}
    (hcf : ∀ n acc, cellsFrom n scope.names acc = (cx, n) :: acc) (hpc : ∀ h, pushCells h scope.names = h.push { cls := .type "cell", data := .cell none })
    (hQ : Q (newEnv scope s.heap.objs.size globals ((cx, s.heap.objs.size + 1) :: closure) qual func code (some env) builtins) { s with heap := (s.heap.push { cls := .type "dict", data := .dict #[] }).push { cls := .type "cell", data := .cell none } }) :
    wpAny M A (newFunctionEnv scope globals closure [] qual func code (some env) builtins) Q E s := by
  simp only [newFunctionEnv, Option.isSome_some, if_true]
  refine wpAny_bind (wpAny_alloc ?_)
  refine wpAny_bind (wpAny_layCells _ (fun name kind cells => by cases hkc : kind == NameKind.cell <;> simp [hkc]) _ _ _ _ ?_)
  rw [hcf, hpc]
  rw [List.forIn_nil]
  refine wpAny_bind (wpAny_pure (wpAny_pure ?_))
  have e : (s.heap.push { cls := .type "dict", data := .dict #[] }).objs.size = s.heap.objs.size + 1 := Heap.size_push ..
  rw [show ({ s with heap := s.heap.push { cls := .type "dict", data := .dict #[] } } : Shared).heap.objs.size = s.heap.objs.size + 1 from e]
  exact hQ
theorem isCell_new (h : Heap) : (h.push { cls := .type "cell", data := .cell none }).IsCell h.objs.size none := ⟨_, Heap.get?_push_size _ rfl, rfl⟩
inductive CLoopC (h₀ : Heap) (L : Addr) (m : Str → Option Value) (s₂ : Shared) (n : Nat) (St : Nat → Heap → Prop) (C D K : Addr) (news : List (Addr × Obj)) (J : Nat → List Value → Prop) (k : Nat) (s' : Shared) : Prop
  | intro (h' : Heap) (tk i : Nat) (ys : List Value) (m' : Str → Option Value) (cv : Option Value) (e1 : s' = { s₂ with heap := h', toks := tk }) (e2 : i ≤ n) (e3 : k = n + 1 - i) (e4 : ys.length ≤ i) (e5 : St i h') (e6 : Fr h₀ L h' m) (e7 : h'.Ns C m') (e8 : h'.IsCell K cv) (e9 : News h₀ L h' ((D, lst ys) :: news)) (e10 : J i ys) : CLoopC h₀ L m s₂ n St C D K news J k s'
inductive CAfterC (h₀ : Heap) (L : Addr) (m : Str → Option Value) (s₂ : Shared) (St : Heap → Prop) (m₃ : Str → Option Value) (C D K : Addr) (cv₃ : Option Value) (news : List (Addr × Obj)) (ys : List Value) (P : Prop) (s₄ : Shared) : Prop
  | intro (h₄ : Heap) (tk₄ : Nat) (e1 : s₄ = { s₂ with heap := h₄, toks := tk₄ }) (e2 : St h₄) (e3 : Fr h₀ L h₄ m) (e4 : h₄.Ns C m₃) (e5 : h₄.IsCell K cv₃) (e6 : News h₀ L h₄ ((D, lst ys) :: news)) (e7 : P) : CAfterC h₀ L m s₂ St m₃ C D K cv₃ news ys P s₄
theorem comp_blockC {target elt iter : PySem.Expr} {ifs : List PySem.Expr} {scope : Scope} {cl : List (Str × Addr)} {pos : Pos} {s₂ : Shared} {I : Addr} {fp wr : List Addr} {n : Nat} {P Md : Nat → Value → Heap → Prop} {St : Nat → Heap → Prop} {news : List (Addr × Obj)} {cx : Str}
    {V : Nat → (Str → Option Value) → Option Value → Prop} {J : Nat → List Value → Prop} {RR : Value → Addr → Result → Shared → Prop}
    (W : KTurns prog w A target I fp wr n P Md St) (hsz : n ≤ sizeLine)
    (hself : ∀ (s : Shared) (Q : Value → Shared → Prop) (E : Value → Shared → Prop), St 0 s.heap → Q (.ref I) s → wpAny (model prog w) A (pyIter (.ref I)) Q E s)
    (hcf : ∀ n acc, cellsFrom n scope.names acc = (cx, n) :: acc) (hpc : ∀ h, pushCells h scope.names = h.push { cls := .type "cell", data := .cell none })
    (hass : ∀ i v (s : Shared) C K m₂ cv (Q : Unit → Shared → Prop) (E : Value → Shared → Prop), i < n → P i v s.heap → s.heap.Ns C m₂ → s.heap.IsCell K cv → C ≠ K → C ∉ fp → K ∉ fp →
      (∀ h' tk' m₃ cv', V i m₃ cv' → h'.Ns C m₃ → h'.IsCell K cv' → (∀ b o, b ≠ C → b ≠ K → s.heap.get? b = some o → h'.get? b = some o) → Q () { s with heap := h', toks := tk' }) → wpAny (model prog w) A (assign target (compEnvC scope ((cx, K) :: cl) C env) v) Q E s)
    (hst : St 0 s₂.heap) (hfp : ∀ b ∈ fp, b < s₂.heap.objs.size) (F : Fr h₀ L s₂.heap m) (N : News h₀ L s₂.heap news) (hLf : L ∉ fp) (hwr : ∀ b ∈ wr, h₀.get? b = none) (hnw : ∀ p ∈ news, p.1 ∉ wr) (h0 : J 0 [])
    (step : ∀ i ys own C oC D K oK m₂ cv h₁ tk₁ (E' : Value → Shared → Prop), i < n → V i m₂ cv → NsObj oC m₂ → oK.data = .cell cv → J i ys → Fr h₀ L h₁ m → News h₀ L h₁ ((C, oC) :: (D, lst ys) :: (K, oK) :: (news ++ own)) →
      wpAny (model prog w) A (testsOf (compEnvC scope ((cx, K) :: cl) C env) ifs) (fun ok s₃ => if ok = true then wpAny (model prog w) A (eval elt (compEnvC scope ((cx, K) :: cl) C env))
        (fun y s₄ => PEnd h₀ L m { s₂ with heap := h₁, toks := tk₁ } ((C, oC) :: (D, lst ys) :: (K, oK) :: (news ++ own)) (J (i + 1) (ys ++ [y])) s₄) E' s₃
        else PEnd h₀ L m { s₂ with heap := h₁, toks := tk₁ } ((C, oC) :: (D, lst ys) :: (K, oK) :: (news ++ own)) (J (i + 1) ys) s₃) E' { s₂ with heap := h₁, toks := tk₁ })
    (hRR : ∀ D C h tk m' ys, Fr h₀ L h m → News h₀ L h ((D, lst ys) :: news) → (∀ p ∈ news, p.1 ≠ D) → h.Ns C m' → h₀.get? C = none → h₀.get? D = none → C ≠ L → D ≠ L → C ≠ D → (∀ p ∈ news, p.1 ≠ C) → J n ys → RR (.ref D) C (.ok .next) { s₂ with heap := h, toks := tk }) :
    wpAny (model prog w) A (newList []) (fun acc s₃ => wpAny (model prog w) A (newFunctionEnv scope env.globals cl [] env.qual none .none (some env)) (fun cenv s₄ =>
      codeAny (model prog w) A (.compStart (.ListComp elt [⟨target, iter, ifs, 0⟩] scope pos) 0 (.ref I) acc { cenv with scope := relabel scope env }) (RR acc cenv.locals) s₄) E s₃) E s₂ := by
  refine wpAny_newObj_type (newEnv_cell1 hcf hpc ?_)
  dsimp only
  generalize hH2 : s₂.heap.push { cls := .type "list", dict := none, data := .seq ([] : List Value).toArray } = H2
  have hC : H2.objs.size = s₂.heap.objs.size + 1 := by rw [← hH2, Heap.size_push]
  have hDC : s₂.heap.objs.size ≠ H2.objs.size := by rw [hC]; exact Nat.ne_of_lt (Nat.lt_succ_self _)
  have below : ∀ b, b < s₂.heap.objs.size → b ≠ H2.objs.size ∧ b ≠ s₂.heap.objs.size ∧ b ≠ H2.objs.size + 1 := fun b hb => ⟨by rw [hC]; exact Nat.ne_of_lt (Nat.lt_succ_of_lt hb), Nat.ne_of_lt hb, by rw [hC]; exact Nat.ne_of_lt (Nat.lt_succ_of_lt (Nat.lt_succ_of_lt hb))⟩
  have hDf : s₂.heap.objs.size ∉ fp := fun hm => Nat.lt_irrefl _ (hfp _ hm)
  have hCf : H2.objs.size ∉ fp := fun hm => by have := hfp _ hm; rw [hC] at this; exact Nat.lt_irrefl _ (Nat.lt_of_succ_lt this)
  have hKf : H2.objs.size + 1 ∉ fp := fun hm => by have := hfp _ hm; rw [hC] at this; exact Nat.lt_irrefl _ (Nat.lt_of_succ_lt (Nat.lt_of_succ_lt this))
  have hCK : H2.objs.size ≠ H2.objs.size + 1 := Nat.ne_of_lt (Nat.lt_succ_self _)
  have hDK : s₂.heap.objs.size ≠ H2.objs.size + 1 := by rw [hC]; exact Nat.ne_of_lt (Nat.lt_succ_of_lt (Nat.lt_succ_self _))
  have old2 : ∀ b o, s₂.heap.get? b = some o → H2.get? b = some o := fun b o e => hH2 ▸ Heap.get?_push_of_some _ e
  generalize hH3 : H2.push { cls := .type "dict", data := .dict #[] } = H3
  have hns3 : H3.Ns H2.objs.size (fun _ => none) := hH3 ▸ Heap.Ns.new H2 (.type "dict")
  have hK3 : H3.objs.size = H2.objs.size + 1 := by rw [← hH3, Heap.size_push]
  have hcell4 : (H3.push { cls := .type "cell", data := .cell none }).IsCell (H2.objs.size + 1) none := hK3 ▸ isCell_new H3
  have old3 : ∀ b o, H2.get? b = some o → H3.get? b = some o := fun b o e => hH3 ▸ Heap.get?_push_of_some _ e
  have old4 : ∀ b o, H3.get? b = some o → (H3.push { cls := .type "cell", data := .cell none }).get? b = some o := fun b o e => Heap.get?_push_of_some _ e
  generalize (H3.push { cls := .type "cell", data := .cell none }) = h₁ at hcell4 old4 ⊢
  have hns₁ : h₁.Ns H2.objs.size (fun _ => none) := hns3.at' fun o e => old4 _ o e
  have old : ∀ b o, s₂.heap.get? b = some o → h₁.get? b = some o := fun b o e => old4 _ _ (old3 _ _ (old2 _ _ e))
  have hacc : h₁.get? s₂.heap.objs.size = some (lst []) := old4 _ _ (old3 _ _ (hH2 ▸ Heap.get?_push_size _ rfl))
  have hst₁ : St 0 h₁ := W.frame _ _ _ hst fun b _ o e => old b o e
  have fresh : ∀ a, s₂.heap.objs.size ≤ a → s₂.heap.get? a = none := fun a ha => by
    cases e : s₂.heap.get? a with
    | none => rfl
    | some o' => exact absurd (Heap.lt_size e) (Nat.not_lt.mpr ha)
  have fresh₀ : ∀ a, s₂.heap.objs.size ≤ a → h₀.get? a = none := fun a ha => by
    cases e : h₀.get? a with
    | none => rfl
    | some o' => have := F.keep a o' e; rw [fresh a ha] at this; cases this
  have hD₀ : h₀.get? s₂.heap.objs.size = none := fresh₀ _ (Nat.le_refl _)
  have hC₀ : h₀.get? H2.objs.size = none := fresh₀ _ (by rw [hC]; exact Nat.le_succ _)
  have hK₀ : h₀.get? (H2.objs.size + 1) = none := fresh₀ _ (by rw [hC]; exact Nat.le_succ_of_le (Nat.le_succ _))
  have hLlt : L < s₂.heap.objs.size := F.ns.lt
  have hDL : s₂.heap.objs.size ≠ L := Ne.symm (below L hLlt).2.1
  have hCL : H2.objs.size ≠ L := Ne.symm (below L hLlt).1
  have hKL : H2.objs.size + 1 ≠ L := Ne.symm (below L hLlt).2.2
  have hLw : L ∉ wr := fun h => hLf (W.sub _ h)
  have hDw : s₂.heap.objs.size ∉ wr := fun h => hDf (W.sub _ h)
  have hCw : H2.objs.size ∉ wr := fun h => hCf (W.sub _ h)
  have hKw : H2.objs.size + 1 ∉ wr := fun h => hKf (W.sub _ h)
  have oldw : ∀ b o, h₀.get? b = some o → b ∉ wr := fun b o e hb => by rw [hwr b hb] at e; cases e
  have off' : ∀ p ∈ news, p.1 ∉ wr ∧ p.1 ≠ H2.objs.size ∧ p.1 ≠ s₂.heap.objs.size ∧ p.1 ≠ H2.objs.size + 1 := fun p hp => ⟨hnw p hp, (below _ (Heap.lt_size (N p hp).1)).1, (below _ (Heap.lt_size (N p hp).1)).2.1, (below _ (Heap.lt_size (N p hp).1)).2.2⟩
  generalize hKd : H2.objs.size + 1 = K at *
  have loop : ∀ s₃ : Shared, s₃ = { s₂ with heap := h₁ } →
      codeAny (model prog w) A (.compLoop (.ListComp elt [⟨target, iter, ifs, 0⟩] scope pos) 0 (.ref I) (.ref s₂.heap.objs.size) (compEnvC scope ((cx, K) :: cl) H2.objs.size env))
        (RR (.ref s₂.heap.objs.size) H2.objs.size) s₃ := by
    rintro s₃ rfl
    refine comp_go
      (CLoopC h₀ L m s₂ n St H2.objs.size s₂.heap.objs.size K news J) ?_ (n + 1)
      ⟨h₁, _, 0, [], _, _, rfl, Nat.zero_le _, rfl, Nat.le_refl _, hst₁, F.keeps old, hns₁, hcell4, fun p hp => ?_, h0⟩
    · rintro k s' ⟨h', tk, i, ys, m', cv, rfl, hi, rfl, hyl, hst', F', hn', hcl', N', hJ⟩
      have hnx : ∀ h₂ : Heap, (∀ b o, b ∉ wr → h'.get? b = some o → h₂.get? b = some o) → Fr h₀ L h₂ m ∧ News h₀ L h₂ ((s₂.heap.objs.size, lst ys) :: news) ∧ h₂.Ns H2.objs.size m' ∧ h₂.IsCell K cv := fun h₂ hk => by
        refine ⟨⟨F'.ns.at' fun o e => hk _ o hLw e, fun b o e => hk b o (oldw b o e) (F'.keep b o e), F'.above⟩, fun p hp => ⟨hk _ _ ?_ (N' p hp).1, (N' p hp).2⟩, hn'.at' fun o e => hk _ o hCw e, ?_⟩
        · rcases List.mem_cons.mp hp with rfl | hp
          · exact hDw
          · exact (off' p hp).1
        · obtain ⟨o, e1, e2⟩ := hcl'
          exact ⟨o, hk _ _ hKw e1, e2⟩
      by_cases hlt : i < n
      · refine W.item i _ _ _ hlt hst' fun v h₂ tk₂ hMd hk₂ => ?_
        refine W.go i v _ _ _ hMd fun h₂' hP hst₂ hk₂' => ?_
        obtain ⟨F₂, N₂, hn₂, hc₂⟩ := hnx h₂' fun b o hb x => hk₂' b o hb (hk₂ b o hb x)
        refine hass i v _ _ K m' cv _ _ hlt hP hn₂ hc₂ hCK hCf hKf fun h₃ tk₃ m₃ cv₃ hV hn₃ hc₃ hk₃ => ?_
        obtain ⟨oC, heC, hoC⟩ := ns_obj hn₃
        obtain ⟨oK, heK, hoK⟩ := hc₃
        have hk3f : ∀ b ∈ fp, ∀ o, h₂'.get? b = some o → h₃.get? b = some o := fun b hb o e => hk₃ b o (fun q => hCf (by rw [← q]; exact hb)) (fun q => hKf (by rw [← q]; exact hb)) e
        have hst₃ : St (i + 1) h₃ := W.frame _ _ _ hst₂ hk3f
        have F₃ : Fr h₀ L h₃ m := ⟨F₂.ns.at' fun o e => hk₃ _ o (Ne.symm hCL) (Ne.symm hKL) e, fun b o e => hk₃ b o (fun q => by rw [q, hC₀] at e; cases e) (fun q => by rw [q, hK₀] at e; cases e) (F₂.keep b o e), F₂.above⟩
        have Nown : News h₀ L h₃ (PyProof.Rows.ownOf h₀ fp h₃) := news_ownOf hLf
        have N₃ : News h₀ L h₃ ((H2.objs.size, oC) :: (s₂.heap.objs.size, lst ys) :: (K, oK) :: (news ++ PyProof.Rows.ownOf h₀ fp h₃)) := fun p hp => by
          rcases List.mem_cons.mp hp with rfl | hp
          · exact ⟨heC, hCL, hC₀⟩
          · rcases List.mem_cons.mp hp with rfl | hp
            · have z := N₂ _ List.mem_cons_self
              exact ⟨hk₃ _ _ hDC hDK z.1, z.2⟩
            · rcases List.mem_cons.mp hp with rfl | hp
              · exact ⟨heK, hKL, hK₀⟩
              · rcases List.mem_append.mp hp with hp | hp
                · have z := N₂ p (List.mem_cons_of_mem _ hp)
                  exact ⟨hk₃ _ _ (off' p hp).2.1 (off' p hp).2.2.2 z.1, z.2⟩
                · exact Nown p hp
        have after : ∀ (P : Prop) (ys' : List Value) (s₄ : Shared), PEnd h₀ L m { s₂ with heap := h₃, toks := tk₃ } ((H2.objs.size, oC) :: (s₂.heap.objs.size, lst ys) :: (K, oK) :: (news ++ PyProof.Rows.ownOf h₀ fp h₃)) P s₄ →
            CAfterC h₀ L m s₂ (St (i + 1)) m₃ H2.objs.size s₂.heap.objs.size K cv₃ news ys P s₄ := by
          rintro P ys' s₄ ⟨h₄, tk₄, rfl, F₄, N₄, hP⟩
          refine ⟨h₄, tk₄, rfl, W.frame _ _ _ hst₃ fun b hb o e => ?_, F₄, hoC.ns (N₄ _ List.mem_cons_self).1, ⟨oK, (N₄ (K, oK) (by simp)).1, hoK⟩, fun p hp => N₄ p ?_, hP⟩
          · cases hn : h₀.get? b with
            | some o₀ =>
              have : o₀ = o := by have q := F₃.keep b o₀ hn; rw [e] at q; exact (Option.some.inj q).symm
              exact this ▸ F₄.keep b o₀ hn
            | none => exact (N₄ _ (List.mem_cons_of_mem _ (List.mem_cons_of_mem _ (List.mem_cons_of_mem _ (List.mem_append_right _ (mem_ownOf hb hn e)))))).1
          · rcases List.mem_cons.mp hp with rfl | hp
            · exact List.mem_cons_of_mem _ List.mem_cons_self
            · exact List.mem_cons_of_mem _ (List.mem_cons_of_mem _ (List.mem_cons_of_mem _ (List.mem_append_left _ hp)))
        refine wpAny_mono (step i ys _ _ oC _ K oK m₃ cv₃ h₃ tk₃ _ hlt hV hoC hoK hJ F₃ N₃) (fun okb s₃ hok => ?_) fun _ _ e => e
        cases okb with
        | false =>
          obtain ⟨h₄, tk₄, rfl, st₄, F₄, n₄, c₄, N₄, J₄⟩ := after _ ys s₃ hok
          exact ⟨n + 1 - (i + 1), by (first | lia | omega), h₄, tk₄, i + 1, ys, m₃, cv₃, rfl, hlt, rfl, Nat.le_succ_of_le hyl, st₄, F₄, n₄, c₄, N₄, J₄⟩
        | true =>
          refine wpAny_mono (show wpAny _ _ _ _ _ _ from hok) (fun y s₄ h₄ => ?_) fun _ _ e => e
          obtain ⟨h₄, tk₄, rfl, st₄, F₄, n₄, c₄, N₄, J₄⟩ := after _ (ys ++ [y]) s₄ h₄
          have zD := (N₄ _ List.mem_cons_self).1
          refine append_at (hsz := by show ys.toArray.size ≤ sizeLine; rw [List.size_toArray]; exact Nat.le_trans hyl (Nat.le_trans hi hsz)) zD fun h₅ hs₅ hD₅ => ?_
          refine ⟨n + 1 - (i + 1), by (first | lia | omega), h₅, tk₄, i + 1, ys ++ [y], m₃, cv₃, rfl, hlt, rfl, by rw [List.length_append, List.length_singleton]; exact Nat.succ_le_succ hyl, W.frame _ _ _ st₄ fun b hb o e => hs₅.extBut b o (fun q => hDf (q ▸ hb)) e, F₄.change hs₅ hDL hD₀,
            n₄.sameBut hs₅ (Ne.symm hDC), ?_, fun p hp => ?_, J₄⟩
          · obtain ⟨o, e1, e2⟩ := c₄
            exact ⟨o, hs₅.extBut _ _ (Ne.symm hDK) e1, e2⟩
          rcases List.mem_cons.mp hp with rfl | hp
          · exact ⟨hD₅.trans (congrArg some (lst_snoc ys y)), hDL, hD₀⟩
          · have z := N₄ p (List.mem_cons_of_mem _ hp)
            exact ⟨hs₅.extBut _ _ (off' p hp).2.2.1 z.1, z.2⟩
      · obtain rfl : i = n := Nat.le_antisymm hi (Nat.not_lt.mp hlt)
        refine W.done _ _ _ hst' fun h₂ tk₂ hk₂ => ?_
        obtain ⟨F₂, N₂, hn₂, _⟩ := hnx h₂ hk₂
        exact hRR _ _ h₂ tk₂ _ ys F₂ N₂ (fun p hp => (off' p hp).2.2.1) hn₂ hC₀ hD₀ hCL hDL (Ne.symm hDC) (fun p hp => (off' p hp).2.1) hJ
    · rcases List.mem_cons.mp hp with rfl | hp
      · exact ⟨hacc, hDL, hD₀⟩
      · exact ⟨old _ _ (N p hp).1, (N p hp).2⟩
  exact codeAny_compStart_list (loop _ rfl) (hself _ _ _ hst₁ (loop _ rfl))
end
end Mine
end

noncomputable section
namespace Mine
open PyProof.Rows.LCg PyProof.V
section
variable {prog : Program} {w : World} {A : Around} {E : Value → Shared → Prop} {s : Shared} {h₀ : Heap} {L : Addr} {m : Str → Option Value} {env : Env}
abbrev CStepC (prog : Program) (w : World) (A : Around) (h₀ : Heap) (L : Addr) (m : Str → Option Value) (env : Env) (elt : PySem.Expr) (ifs : List PySem.Expr) (scope : Scope) (cl : List (Str × Addr)) (cx : Str) (s₂ : Shared) (V : Nat → (Str → Option Value) → Option Value → Prop) (J : Nat → List Value → Prop) (n : Nat) (news : List (Addr × Obj)) : Prop :=
  ∀ i ys own C oC D K oK m₂ cv h₁ tk₁ (E' : Value → Shared → Prop), i < n → V i m₂ cv → NsObj oC m₂ → oK.data = .cell cv → J i ys → Fr h₀ L h₁ m → News h₀ L h₁ ((C, oC) :: (D, listOf ys.toArray ys.length) :: (K, oK) :: (news ++ own)) →
      wpAny (model prog w) A (testsOf (compEnvC scope ((cx, K) :: cl) C env) ifs) (fun ok s₃ => if ok = true then wpAny (model prog w) A (eval elt (compEnvC scope ((cx, K) :: cl) C env))
        (fun y s₄ => PEnd h₀ L m { s₂ with heap := h₁, toks := tk₁ } ((C, oC) :: (D, listOf ys.toArray ys.length) :: (K, oK) :: (news ++ own)) (J (i + 1) (ys ++ [y])) s₄) E' s₃
        else PEnd h₀ L m { s₂ with heap := h₁, toks := tk₁ } ((C, oC) :: (D, listOf ys.toArray ys.length) :: (K, oK) :: (news ++ own)) (J (i + 1) ys) s₃) E' { s₂ with heap := h₁, toks := tk₁ }
inductive CompAtC (prog : Program) (w : World) (A : Around) (h₀ : Heap) (L : Addr) (m : Str → Option Value) (env : Env) (target elt : PySem.Expr) (ifs : List PySem.Expr) (scope : Scope) (cl : List (Str × Addr)) (cx : Str) (Fin : Shared → List Value → List (Addr × Obj) → Prop) (it : Value) (s₂ : Shared) : Prop
  | intro (I : Addr) (fp wr : List Addr) (n : Nat) (P Md : Nat → Value → Heap → Prop) (St : Nat → Heap → Prop) (news : List (Addr × Obj)) (V : Nat → (Str → Option Value) → Option Value → Prop) (J : Nat → List Value → Prop) (f1 : it = .ref I) (f2 : KTurns prog w A target I fp wr n P Md St) (f3 : n ≤ sizeLine) (f4 : (∀ (s : Shared) (Q : Value → Shared → Prop) (E : Value → Shared → Prop), St 0 s.heap → Q (.ref I) s → wpAny (model prog w) A (pyIter (.ref I)) Q E s)) (f5 : (∀ i v (s : Shared) C K m₂ cv (Q : Unit → Shared → Prop) (E : Value → Shared → Prop), i < n → P i v s.heap → s.heap.Ns C m₂ → s.heap.IsCell K cv → C ≠ K → C ∉ fp → K ∉ fp → (∀ h' tk' m₃ cv', V i m₃ cv' → h'.Ns C m₃ → h'.IsCell K cv' → (∀ b o, b ≠ C → b ≠ K → s.heap.get? b = some o → h'.get? b = some o) → Q () { s with heap := h', toks := tk' }) → wpAny (model prog w) A (assign target (compEnvC scope ((cx, K) :: cl) C env) v) Q E s)) (f6 : St 0 s₂.heap) (f7 : (∀ b ∈ fp, b < s₂.heap.objs.size)) (f8 : Fr h₀ L s₂.heap m) (f9 : News h₀ L s₂.heap news) (f10 : L ∉ fp) (f11 : (∀ b ∈ wr, h₀.get? b = none)) (f12 : (∀ p ∈ news, p.1 ∉ wr)) (f13 : J 0 []) (f14 : CStepC prog w A h₀ L m env elt ifs scope cl cx s₂ V J n news) (f15 : ∀ ys, J n ys → Fin s₂ ys news) : CompAtC prog w A h₀ L m env target elt ifs scope cl cx Fin it s₂
theorem ListComp_cell {target elt iter : PySem.Expr} {ifs : List PySem.Expr} {scope : Scope} {cl : List (Str × Addr)} {pos : Pos} {cx : Str} {Q : Value → Shared → Prop} (F₀ : Fr h₀ L s.heap m)
    (hclos : closureFor scope env = pure cl) (hcf : ∀ n acc, cellsFrom n scope.names acc = (cx, n) :: acc) (hpc : ∀ h, pushCells h scope.names = h.push { cls := .type "cell", data := .cell none }) (hkind : scope.kind = .function)
    (hnames : ∀ y ∈ scope.names, y.2 = .local → scope.names.lookup y.1 = some .local)
    (h : wpAny (model prog w) A (eval iter env) (fun xv s₁ => wpAny (model prog w) A (pyIter xv) (fun it s₂ => CompAtC prog w A h₀ L m env target elt ifs scope cl cx (FinE1 h₀ L m Q) it s₂) E s₁) E s)
    (hs : ∀ x, foldedSetIterable iter env x = pure x := by intro _; rfl) :
    wpAny (model prog w) A (eval (.ListComp elt [⟨target, iter, ifs, 0⟩] scope pos) env) Q E s := by
  rw [eval_ListComp]
  refine wpAny_comprehension_free (use := none) rfl hs hclos hkind hnames (wpAny_mono h (fun xv s₁ h₁ => wpAny_mono h₁ (fun it s₂ h₂ => ?_) fun _ _ e => e) fun _ _ e => e)
  obtain ⟨I, fp, wr, n, P, Md, St, news, V, J, rfl, W, hsz, hself, hass, hst, hfp, F, N, hLf, hwr, hnw, h0, step, fin⟩ := h₂
  refine comp_blockC W hsz hself hcf hpc hass hst hfp F N hLf hwr hnw h0 step ?_
  intro D C h tk m' ys F' N' o1 hn hC₀ hD₀ hCL hDL hCD offC hJ
  refine ⟨m', hn, fun h'' hs'' => fin ys hJ D h'' tk (F'.change hs'' hCL hC₀) (fun p hp => ?_) o1⟩
  refine ⟨hs''.extBut _ _ ?_ (N' p hp).1, (N' p hp).2⟩
  rcases List.mem_cons.mp hp with rfl | hp
  · exact Ne.symm hCD
  · exact offC p hp
theorem lookup_relabel_cell {env : Env} : ∀ {names : List (Str × NameKind)} {x : Str}, names.lookup x = some .cell →
    (names.map fun (n, k) => if (k == NameKind.free && env.scope.kind == .function && env.kindOf n == some .cell) then (n, NameKind.cell) else (n, k)).lookup x = some .cell
  | [], _, h => by simp at h
  | (n, k) :: r, x, h => by
    rw [List.map_cons]
    rw [List.lookup_cons] at h
    cases hb : x == n with
    | true =>
      rw [hb] at h
      have hk : k = .cell := by simpa using h
      subst hk
      have : (NameKind.cell == NameKind.free && env.scope.kind == .function && env.kindOf n == some .cell) = false := rfl
      simp only [this, Bool.false_eq_true, if_false, List.lookup_cons, hb]
    | false =>
      rw [hb] at h
      have ih := lookup_relabel_cell (env := env) h
      dsimp only
      split
      · rw [List.lookup_cons, hb]; exact ih
      · rw [List.lookup_cons, hb]; exact ih
theorem compAtC_enum {elt : PySem.Expr} {ifs : List PySem.Expr} {a b : Str} {pa pb tp : Pos} {kk : Nat} {scope : Scope} {cl : List (Str × Addr)} {Fin : Shared → List Value → List (Addr × Obj) → Prop} {l : Addr} {vs : List Value} {n : Nat} {news : List (Addr × Obj)}
    (J : Nat → List Value → Prop) (hh : A.handled = none) (hkind : scope.kind = .function) (hxa : scope.names.lookup a = some .local) (hxb : scope.names.lookup b = some .cell)
    (F : Fr h₀ L s.heap m) (N : News h₀ L s.heap news) (hm : (l, listOf vs.toArray n) ∈ news) (hsz : vs.length ≤ sizeLine) (h0 : J 0 [])
    (step : ∀ g, CStepC prog w A h₀ L m env elt ifs scope cl b { s with heap := g } (fun i m₂ cv => ∃ v t, vs[i]? = some v ∧ m₂ a = some (.int (i : Int) t) ∧ cv = some v) J vs.length news) (fin : ∀ g ys, J vs.length ys → Fin { s with heap := g } ys news) :
    wpAny (model prog w) A (call (.type "enumerate") [.ref l]) (fun xv s₁ => wpAny (model prog w) A (pyIter xv) (fun it s₂ => CompAtC prog w A h₀ L m env (.Tuple [.Name a pa, .Name b pb] kk tp) elt ifs scope cl b Fin it s₂) E s₁) E s := by
  have hax := N _ hm
  have hl : s.heap.IsList l vs.toArray := ⟨_, hax.1, rfl, n, rfl⟩
  have hlt : l < s.heap.objs.size := Heap.lt_size hax.1
  have hLs : L < s.heap.objs.size := F.ns.lt
  refine call_enumerate_list hl fun h' hE hI hsz' hk => ?_
  refine wpAny_pyIter_enum hE ?_
  have W := (WalksT.enumerate (prog := prog) (w := w) hh (s.heap.objs.size + 1) s.heap.objs.size l (Nat.succ_ne_self _) (ktu_ne 1 hlt) (Nat.ne_of_lt hlt) vs.toArray).toU
  refine ⟨s.heap.objs.size + 1, [s.heap.objs.size + 1, s.heap.objs.size, l], [s.heap.objs.size + 1, s.heap.objs.size], vs.length, _, _, _, news, (fun i m₂ cv => ∃ v t, vs[i]? = some v ∧ m₂ a = some (.int (i : Int) t) ∧ cv = some v), J, rfl, KTurns.ofWalksU (elts := [.Name a pa, .Name b pb]) (k := kk) (pos := tp) W, hsz, ?_, ?_, ?_, ?_, F.keeps hk, N.grown hk, ?_, ?_, ?_, h0, ?_, ?_⟩
  · exact fun s' Q E hst hQ => W.self 0 s' Q E hst hQ
  · rintro i v s' C K m₂ cv Q E hi ⟨T, vals, rfl, ⟨t, x, hx, rfl⟩, hT⟩ hn hc hCK hC hKf k
    refine wpAny_assign_Tuple hh hT rfl rfl fun h₁ he₁ => ?_
    have hL : C ≠ s'.heap.objs.size := Nat.ne_of_lt hn.lt
    have hn₁ : h₁.Ns C m₂ := hn.at' fun o e => he₁ _ o hL e
    have up₁ : ∀ c o, s'.heap.get? c = some o → h₁.get? c = some o := fun c o e => he₁ c o (Nat.ne_of_lt (Heap.lt_size e)) e
    have hc₁ : h₁.IsCell K cv := by
      obtain ⟨o, e1, e2⟩ := hc
      exact ⟨o, up₁ _ _ e1, e2⟩
    show wpAny _ _ (assignInOrder [assign (.Name a pa) (compEnvC scope ((b, K) :: cl) C env), assign (.Name b pb) (compEnvC scope ((b, K) :: cl) C env)] [.int i t, x]) _ _ _
    refine assignInOrder_cons ?_
    refine wpAny_assign_Name (wpAny_storeName_local (env := compEnvC scope ((b, K) :: cl) C env) (lookup_relabel_local hxa) hn₁ (fun h₂ hn₂ hs₂ => ?_) (by simp [compEnvC, relabel, hkind]))
    refine assignInOrder_cons ?_
    refine wpAny_assign_Name (wpAny_storeName_cell (env := compEnvC scope ((b, K) :: cl) C env) (c := K) (v₀ := cv) hkind (lookup_relabel_cell hxb) (by simp [compEnvC]) ?_ fun h₃ hc₃ hs₃ => ?_)
    · obtain ⟨o, e1, e2⟩ := hc₁
      exact ⟨o, hs₂.extBut _ _ (Ne.symm hCK) e1, e2⟩
    refine assignInOrder_nil ?_
    exact k h₃ _ _ _ ⟨x, t, by simpa using hx, by simp, rfl⟩ (hn₂.sameBut hs₃ hCK) hc₃ fun c o h1 h2 e => hs₃.extBut c o h2 (hs₂.extBut c o h1 (up₁ c o e))
  · exact ⟨⟨_, hE⟩, hI, hl.at fun o e => hk _ o e⟩
  · intro b hb
    have hb' : b = s.heap.objs.size + 1 ∨ b = s.heap.objs.size ∨ b = l := by simpa using hb
    have e : h'.objs.size = s.heap.objs.size + 2 := hsz'
    show b < h'.objs.size
    rw [e]
    rcases hb' with rfl | rfl | rfl
    · exact Nat.lt_succ_self _
    · exact Nat.lt_succ_of_lt (Nat.lt_succ_self _)
    · exact Nat.lt_succ_of_lt (Nat.lt_succ_of_lt hlt)
  · intro hb
    have hb' : L = s.heap.objs.size + 1 ∨ L = s.heap.objs.size ∨ L = l := by simpa using hb
    rcases hb' with e | e | e
    · exact ktu_ne 1 hLs e
    · exact Nat.ne_of_lt hLs e
    · exact hax.2.1 e.symm
  · intro b hb
    have hb' : b = s.heap.objs.size + 1 ∨ b = s.heap.objs.size := by simpa using hb
    rcases hb' with rfl | rfl
    · exact ktu_new F (Nat.le_add_right _ _)
    · exact ktu_new F (Nat.le_refl _)
  · intro p hp hb
    have hb' : p.1 = s.heap.objs.size + 1 ∨ p.1 = s.heap.objs.size := by simpa using hb
    have hlp := Heap.lt_size (N p hp).1
    rcases hb' with e | e
    · exact ktu_ne 1 hlp e
    · exact Nat.ne_of_lt hlp e
  · exact step _
  · exact fun ys hJ => fin _ ys hJ
end
end Mine
end

noncomputable section
namespace Mine
def inS (x y : Str) : Bool := !(Builtin.Str.occurrences y x 0 y.length 1).isEmpty
def appliesF (y a0 a1 a2 : Str) : Bool := inS (Txt.lower a0) (Txt.lower y) || (inS (Txt.lower a1) (Txt.lower y) || inS (Txt.lower a2) (Txt.lower y))
section
variable {vq : Program} {vl : List Str} {w : World} {mean : ExcName → Option Value} {mg mb : Str → Option Value} {dp un : Nat} {gd : Option (List Code)} {env : Env} {outer : List Env} {A₀ : Around} {base h₀ : Heap} {L : Addr} {m : Str → Option Value} {s : Shared} {Q E : Value → Shared → Prop} {news : List (Addr × Obj)}
theorem c_applies {x d ua : Addr} {h1 h2 h3 h4 : Int} {k1 k2 k3 k4 : Tok} {v2 v3 v4 : Value} {a0 a1 a2 v : Str} {u0 u1 u2 tv : Tok} {n : Nat} (B : Below A₀ base outer h₀) (F : Fr h₀ L s.heap m) (X : (law0.heap_1 w.params).In h₀) (N : News h₀ L s.heap news) (T : TopH vq vl mean mg mb h₀) (hf : env.frame = some L) (hk : env.scope.kind = .function) (hdp : dp + 10 < recursionLimit) (hun : un + 80 < cLine)
   (hx : (x, instObj 59 d) ∈ news) (hd : (d, dictOf [⟨h1, .str "useragents" k1, .ref ua⟩, ⟨h2, .str "rulelines" k2, v2⟩, ⟨h3, .str "delay" k3, v3⟩, ⟨h4, .str "req_rate" k4, v4⟩] 4) ∈ news)
   (hu : (ua, listOf [.str a0 u0, .str a1 u1, .str a2 u2].toArray n) ∈ news)
   {y : Str} (hv : (Txt.split v "/")[0]? = some y) (hy : y.length ≤ 4000) (z0 : (a0 != ("*" : Str)) = true) (z1 : (a1 != ("*" : Str)) = true) (z2 : (a2 != ("*" : Str)) = true)
   (l0 : a0.length ≤ 100) (l1 : a1.length ≤ 100) (l2 : a2.length ≤ 100) (lv : v.length ≤ 4000)
   (hret : ∀ (t : Tok) h' tk', Fr h₀ L h' m → News h₀ L h' news → Q (.bool (appliesF y a0 a1 a2)) { s with heap := h', toks := tk' }) :
   wpAny (model PySem.Challenge.rw_il0067_01.row.prog w) (atop dp un gd env outer) (call (.ref 49) [.ref x, .str v tv]) Q E s := by
  revert X; k_fill; intro X
  have hrel : ∀ p ∈ [(x, instObj 59 d), (d, dictOf [⟨h1, .str "useragents" k1, .ref ua⟩, ⟨h2, .str "rulelines" k2, v2⟩, ⟨h3, .str "delay" k3, v3⟩, ⟨h4, .str "req_rate" k4, v4⟩] 4), (ua, listOf [.str a0 u0, .str a1 u1, .str a2 u2].toArray n)], p ∈ news := List.forall_mem_cons.mpr ⟨hx, List.forall_mem_cons.mpr ⟨hd, List.forall_mem_cons.mpr ⟨hu, List.forall_mem_nil _⟩⟩⟩
  refine wpAny_call ?_
  k_dflt (refine' enter_rel (rel := [(x, instObj 59 d), (d, dictOf [⟨h1, .str "useragents" k1, .ref ua⟩, ⟨h2, .str "rulelines" k2, v2⟩, ⟨h3, .str "delay" k3, v3⟩, ⟨h4, .str "req_rate" k4, v4⟩] 4), (ua, listOf [.str a0 u0, .str a1 u1, .str a2 u2].toArray n)]) (rest := leftOf [(x, instObj 59 d), (d, dictOf [⟨h1, .str "useragents" k1, .ref ua⟩, ⟨h2, .str "rulelines" k2, v2⟩, ⟨h3, .str "delay" k3, v3⟩, ⟨h4, .str "req_rate" k4, v4⟩] 4), (ua, listOf [.str a0 u0, .str a1 u1, .str a2 u2].toArray n)] news) ?k1 ?k2 ?k3 ?k4 ?k5 ?kd ?kA ?kF ?kK ?k6 ?k7 ?k8 ?k9 ?kB ?_ ?c2 ?c3 ?c4 ?c5; (case kA => exact rfl); (case kF => assumption); (case kK => assumption); (case k1 => k_asm); (case k2 => k_asm); (case k3 => k_asm); (case k4 => exact leftOf_news N (hrel)); (case k5 => k_asm); (case kd => exact leftOf_dis); (case k6 => k_is); (case k7 => k_is); (case k8 => ktr_room); (case k9 => exact BindsTo.of_eq rfl); (case c5 => decide); (case kB => exact locs rfl); (case c2 => exact rfl); (case c3 => exact rfl); (case c4 => exact rfl); k_whole; intro g g2 L' h1 aG st2 F2 N2 B2 X2 T2; (try dsimp only); (refine wp_hide ?_); intro Q7 hQ7)
  repeat' (first | (with_reducible refine execs_hide ?_; intro Q9 hQ9 hR9) | (with_reducible refine hQ9 _ ?_; clear hQ9 hR9; (try clear Q9)) | ((with_reducible refine' hR9 _ _ ?hk9 ?_); (case hk9 => exact nofun); clear hQ9 hR9; (try clear Q9)) | (with_reducible refine hQ8 _ _ ?_; clear hQ8; (try clear Q8); (try dsimp only)) | (with_reducible refine hQ8 _ _ _ ?_; clear hQ8; (try clear Q8); (try dsimp only)) | (with_reducible refine hQ7 _ _ ?_; clear hQ7; (try clear Q7); (try dsimp only)) | (k_unfold; (try dsimp only)) | walk_at "my step" | fail "no step")
  rename (List.map _ _)[_]? = some _ => hy0
  rename List.map _ _ = Txt.split _ _ => hs0
  rw [hs0] at hy0
  have e0 := hy0.symm.trans hv
  cases e0
  repeat' (first | (with_reducible refine execs_hide ?_; intro Q9 hQ9 hR9) | (with_reducible refine hQ9 _ ?_; clear hQ9 hR9; (try clear Q9)) | ((with_reducible refine' hR9 _ _ ?hk9 ?_); (case hk9 => exact nofun); clear hQ9 hR9; (try clear Q9)) | (with_reducible refine hQ8 _ _ ?_; clear hQ8; (try clear Q8); (try dsimp only)) | (with_reducible refine hQ8 _ _ _ ?_; clear hQ8; (try clear Q8); (try dsimp only)) | (with_reducible refine hQ7 _ _ ?_; clear hQ7; (try clear Q7); (try dsimp only)) | (k_unfold; (try dsimp only)) | walk_at "my step" | fail "no step")
  all_goals refine cb_retB hret ?_ (by assumption) (backR N hrel (by assumption) (by kcj_all))
  all_goals (unfold appliesF inS; simp_all)
end
end Mine
end

noncomputable section
namespace Mine
theorem occ0 (a b : Nat) : Builtin.Str.occurrences ⟨#[a, b]⟩ ⟨#[a]⟩ 0 2 1 = [0] := by
  have h0 : Builtin.Str.subAt ⟨#[a, b]⟩ ⟨#[a]⟩ 0 = true := by simp [Builtin.Str.subAt, Str.length]
  unfold Builtin.Str.occurrences
  simp [Std.Legacy.Range.forIn_eq_forIn_range', Std.Legacy.Range.size, List.range', h0, Str.length]
theorem occ1 (a b : Nat) (ne : a ≠ b) : Builtin.Str.occurrences ⟨#[a, b]⟩ ⟨#[b]⟩ 0 2 1 = [1] := by
  have h0 : Builtin.Str.subAt ⟨#[a, b]⟩ ⟨#[b]⟩ 0 = false := by simp [Builtin.Str.subAt, Str.length, ne]
  have h1 : Builtin.Str.subAt ⟨#[a, b]⟩ ⟨#[b]⟩ 1 = true := by simp [Builtin.Str.subAt, Str.length]
  unfold Builtin.Str.occurrences
  simp [Std.Legacy.Range.forIn_eq_forIn_range', Std.Legacy.Range.size, List.range', h0, h1, Str.length]
theorem snocI {ys : List Value} {f : Nat → Int} {cs : List Nat} {i c : Nat} {v : Int} {t : Tok} (h : IntsAre ys ((cs.take i).map f)) (hc : cs[i]? = some c) (e : f c = v) : IntsAre (ys ++ [.int v t]) ((cs.take (i + 1)).map f) := by
  subst e
  rw [List.take_add_one, hc]
  simpa using IntsAre.append h (.cons (f c) t .nil)
abbrev wtOf (c0 : Nat) (p q : Int) (cs : List Nat) : Int := (cs.map fun c => if c = c0 then p else q).sum
section
variable {vq : Program} {vl : List Str} {w : World} {mean : ExcName → Option Value} {mg mb : Str → Option Value} {dp un : Nat} {gd : Option (List Code)} {env : Env} {outer : List Env} {A₀ : Around} {base h₀ : Heap} {L : Addr} {m : Str → Option Value} {s : Shared} {Q E : Value → Shared → Prop} {news : List (Addr × Obj)}
theorem c_weight {c0 c1 : Nat} {nm x : Str} {pa : Addr} {p q : Int} {tn tx tp tq : Tok} {pn : Nat} (B : Below A₀ base outer h₀) (F : Fr h₀ L s.heap m) (X : (law0.heap_1 w.params).In h₀) (N : News h₀ L s.heap news) (T : TopH vq vl mean mg mb h₀) (hf : env.frame = some L) (hk : env.scope.kind = .function) (hdp : dp + 10 < recursionLimit) (hun : un + 80 < cLine)
   (hp : (pa, tupO [.int p tp, .int q tq]) ∈ news) (hnm : nm = ⟨#[c0, c1]⟩) (hne : c0 ≠ c1) (hlet : ∀ c ∈ x.cps.toList, c = c0 ∨ c = c1) (lx : x.cps.size ≤ 4)
   (hret : ∀ t h' tk', Fr h₀ L h' m → News h₀ L h' news → Q (.int (wtOf c0 p q x.cps.toList) t) { s with heap := h', toks := tk' }) :
   wpAny (model PySem.Challenge.rw_il0067_01.row.prog w) (atop dp un gd env outer) (call (.ref 212) [.str x tx, .str nm tn, .ref pa]) Q E s := by
  subst hnm
  revert X; k_fill; intro X
  have hrel : ∀ z ∈ [(pa, tupO [.int p tp, .int q tq])], z ∈ news := List.forall_mem_cons.mpr ⟨hp, List.forall_mem_nil _⟩
  refine wpAny_call ?_
  k_dflt (refine' enter_relC (rel := [(pa, tupO [.int p tp, .int q tq])]) (rest := leftOf [(pa, tupO [.int p tp, .int q tq])] news) ?k1 ?k2 ?k3 ?k4 ?k5 ?kd ?kA ?kF ?kK ?k6 ?k7 ?k8 ?k9 ?kB ?kD ?_ ?c2 ?c3 ?c4; (case kA => exact rfl); (case kF => assumption); (case kK => assumption); (case k1 => k_asm); (case k2 => k_asm); (case k3 => k_asm); (case k4 => exact leftOf_news N (hrel)); (case k5 => k_asm); (case kd => exact leftOf_dis); (case k6 => k_is); (case k7 => k_is); (case k8 => ktr_room); (case k9 => exact BindsTo.of_eq rfl); (case kB => exact rfl); (case kD => decide +kernel); (case c2 => exact rfl); (case c3 => exact rfl); (case c4 => exact rfl); k_whole; intro g g2 L' h1 tk1 cells1 aG st2 F2 N2 Y2 B2 X2 T2 l1; (try k_lt l1); k_cells Y2; (try simp only [List.cons_append, List.nil_append] at N2); (try dsimp only); (refine wp_hide ?_); intro Q7 hQ7)
  repeat' ((fail_if_success (with_reducible (first | show wpAny _ _ (eval (Expr.ListComp _ _ _ _) _) _ _ _ | show wpAny _ _ (call (Value.type _) _) _ _ _))); first | (with_reducible refine execs_hide ?_; intro Q9 hQ9 hR9) | (with_reducible refine hQ9 _ ?_; clear hQ9 hR9; (try clear Q9)) | ((with_reducible refine' hR9 _ _ ?hk9 ?_); (case hk9 => exact nofun); clear hQ9 hR9; (try clear Q9)) | (with_reducible refine hQ8 _ _ ?_; clear hQ8; (try clear Q8); (try dsimp only)) | (with_reducible refine hQ8 _ _ _ ?_; clear hQ8; (try clear Q8); (try dsimp only)) | (with_reducible refine hQ7 _ _ ?_; clear hQ7; (try clear Q7); (try dsimp only)) | (k_unfold; (try dsimp only)) | walk_at "my step" | fail "no step")
  refine' ListComp_any ?k1 ?k2 ?k3 ?k4 ?k5 ?_; case k1 => k_asm
  case k2 => with_unfolding_all rfl
  case k3 => decide
  case k4 => rfl
  case k5 => decide
  repeat' ((fail_if_success (with_reducible (first | show wpAny _ _ (pyIter _) _ _ _))); first | (with_reducible refine execs_hide ?_; intro Q9 hQ9 hR9) | (with_reducible refine hQ9 _ ?_; clear hQ9 hR9; (try clear Q9)) | ((with_reducible refine' hR9 _ _ ?hk9 ?_); (case hk9 => exact nofun); clear hQ9 hR9; (try clear Q9)) | (with_reducible refine hQ8 _ _ ?_; clear hQ8; (try clear Q8); (try dsimp only)) | (with_reducible refine hQ8 _ _ _ ?_; clear hQ8; (try clear Q8); (try dsimp only)) | (with_reducible refine hQ7 _ _ ?_; clear hQ7; (try clear Q7); (try dsimp only)) | (k_unfold; (try dsimp only)) | walk_at "my step" | fail "no step")
  refine' compAt_str _ ?k1 ?k2 ?k3 ?k4 ?k5 ?k6 ?k7 (cstep0 (J := fun i ys => IntsAre ys ((x.cps.toList.take i).map (fun c => if c = c0 then p else q))) ?_) (cfin0 ?_)
  case k1 => rfl
  case k2 => rfl
  case k3 => rfl
  case k4 => assumption
  case k5 => k_asm
  case k6 => exact Nat.le_trans lx (by decide)
  case k7 => exact ⟨rfl, .nil⟩
  · intro i ys own C oC D m₂ h₁ tk₁ E' hi hV hC hJ F N
    refine hideP ?_
    intro P9 kP9
    obtain ⟨v, ⟨c, u, hc, rfl⟩, hx⟩ := hV
    refine kP9 ?_
    clear kP9 P9
    refine tests_nil ?_
    dsimp only [if_true]
    have hcl : x.cps.toList[i]? = some c := by rw [Array.getElem?_toList]; exact hc
    have hcm : c ∈ x.cps.toList := List.mem_of_getElem? hcl
    repeat' ((fail_if_success (with_reducible (first | show wpAny _ _ (call (Value.ref _) _) _ _ _ | show wpAny _ _ (call (Value.builtin _) _) _ _ _ | show wpAny _ _ (subscriptTail _ _ (Value.ref _) _) _ _ _))); first | (with_reducible refine execs_hide ?_; intro Q9 hQ9 hR9) | (with_reducible refine hQ9 _ ?_; clear hQ9 hR9; (try clear Q9)) | ((with_reducible refine' hR9 _ _ ?hk9 ?_); (case hk9 => exact nofun); clear hQ9 hR9; (try clear Q9)) | (with_reducible refine hQ8 _ _ ?_; clear hQ8; (try clear Q8); (try dsimp only)) | (with_reducible refine hQ8 _ _ _ ?_; clear hQ8; (try clear Q8); (try dsimp only)) | (with_reducible refine hQ7 _ _ ?_; clear hQ7; (try clear Q7); (try dsimp only)) | (k_unfold; (try dsimp only)) | walk_at "my step" | fail "no step")
    rcases hlet c hcm with rfl | rfl
    · refine SC.index (occ0 _ _) ?_
      repeat' ((fail_if_success (with_reducible (first | show wpAny _ _ (call (Value.ref _) _) _ _ _ | show wpAny _ _ (call (Value.builtin _) _) _ _ _))); first | (with_reducible refine execs_hide ?_; intro Q9 hQ9 hR9) | (with_reducible refine hQ9 _ ?_; clear hQ9 hR9; (try clear Q9)) | ((with_reducible refine' hR9 _ _ ?hk9 ?_); (case hk9 => exact nofun); clear hQ9 hR9; (try clear Q9)) | (with_reducible refine hQ8 _ _ ?_; clear hQ8; (try clear Q8); (try dsimp only)) | (with_reducible refine hQ8 _ _ _ ?_; clear hQ8; (try clear Q8); (try dsimp only)) | (with_reducible refine hQ7 _ _ ?_; clear hQ7; (try clear Q7); (try dsimp only)) | (k_unfold; (try dsimp only)) | walk_at "my step" | fail "no step")
      exact PEnd.mk (by assumption) (by assumption) (snocI hJ hcl (if_pos rfl))
    · refine SC.index (occ1 _ _ hne) ?_
      repeat' ((fail_if_success (with_reducible (first | show wpAny _ _ (call (Value.ref _) _) _ _ _ | show wpAny _ _ (call (Value.builtin _) _) _ _ _))); first | (with_reducible refine execs_hide ?_; intro Q9 hQ9 hR9) | (with_reducible refine hQ9 _ ?_; clear hQ9 hR9; (try clear Q9)) | ((with_reducible refine' hR9 _ _ ?hk9 ?_); (case hk9 => exact nofun); clear hQ9 hR9; (try clear Q9)) | (with_reducible refine hQ8 _ _ ?_; clear hQ8; (try clear Q8); (try dsimp only)) | (with_reducible refine hQ8 _ _ _ ?_; clear hQ8; (try clear Q8); (try dsimp only)) | (with_reducible refine hQ7 _ _ ?_; clear hQ7; (try clear Q7); (try dsimp only)) | (k_unfold; (try dsimp only)) | walk_at "my step" | fail "no step")
      exact PEnd.mk (by assumption) (by assumption) (snocI hJ hcl (if_neg (Ne.symm hne)))
  · intro g ys hI D h tk FD ND nD
    dsimp only
    repeat' ((fail_if_success (with_reducible (first | show wpAny _ _ (call (Value.builtin _) _) _ _ _))); first | (with_reducible refine execs_hide ?_; intro Q9 hQ9 hR9) | (with_reducible refine hQ9 _ ?_; clear hQ9 hR9; (try clear Q9)) | ((with_reducible refine' hR9 _ _ ?hk9 ?_); (case hk9 => exact nofun); clear hQ9 hR9; (try clear Q9)) | (with_reducible refine hQ8 _ _ ?_; clear hQ8; (try clear Q8); (try dsimp only)) | (with_reducible refine hQ8 _ _ _ ?_; clear hQ8; (try clear Q8); (try dsimp only)) | (with_reducible refine hQ7 _ _ ?_; clear hQ7; (try clear Q7); (try dsimp only)) | (k_unfold; (try dsimp only)) | walk_at "my step" | fail "no step")
    refine PyProof.Rows.LSm.sum_ints FD ND rfl ⟨_, (ND _ List.mem_cons_self).1, rfl, _, rfl⟩ hI ?_
    intro h9 tk9 t9 F9 N9
    rw [List.take_of_length_le (by simp)]
    repeat' (first | (with_reducible refine execs_hide ?_; intro Q9 hQ9 hR9) | (with_reducible refine hQ9 _ ?_; clear hQ9 hR9; (try clear Q9)) | ((with_reducible refine' hR9 _ _ ?hk9 ?_); (case hk9 => exact nofun); clear hQ9 hR9; (try clear Q9)) | (with_reducible refine hQ8 _ _ ?_; clear hQ8; (try clear Q8); (try dsimp only)) | (with_reducible refine hQ8 _ _ _ ?_; clear hQ8; (try clear Q8); (try dsimp only)) | (with_reducible refine hQ7 _ _ ?_; clear hQ7; (try clear Q7); (try dsimp only)) | (k_unfold; (try dsimp only)) | walk_at "my step" | fail "no step")
    exact hret _ _ _ (by assumption) (backR N hrel (by assumption) (by kcj_all))
end
end Mine
end

noncomputable section
namespace Mine
open PyProof.Rows.LCg PyProof.V
section
variable {prog : Program} {w : World} {A : Around} {E : Value → Shared → Prop} {s : Shared} {h₀ : Heap} {L D : Addr} {news : List (Addr × Obj)} {vs : List Value} {k : Int} {u : Tok} {v : Value}
theorem tget {value slice : PySem.Expr} {Q : Value → Shared → Prop} (N : News h₀ L s.heap news) (hm : (D, tupO vs) ∈ news) (h0 : 0 ≤ k) (hfit : k < 2 ^ 63) (hx : vs[k.toNat]? = some v) (h : Q v s)
    (hs : subscripted slice false (.ref D) (.int k u) = operate [.ref D, .int k u] (getItem (.ref D) (.int k u)) := by with_unfolding_all rfl) :
    wpAny (model prog w) A (subscriptTail value slice (.ref D) (.int k u)) Q E s := by
  have hlt : k.toNat < vs.length := by
    rcases Nat.lt_or_ge k.toNat vs.length with h | h
    · exact h
    · rw [List.getElem?_eq_none h] at hx; cases hx
  refine item_tupleT (l := vs) (j := k.toNat) ⟨_, (N _ hm).1, rfl, _, rfl⟩ (by (first | lia | omega)) hfit ?_ hx h hs
  unfold seqIndex?
  simp only [if_neg (Int.not_lt.mpr h0)]
  rw [if_pos]
  simp only [Bool.and_eq_true, decide_eq_true_eq]
  (first | lia | omega)
theorem sget {value slice : PySem.Expr} {x : Str} {t : Tok} {c : Nat} {Q : Value → Shared → Prop} (h0 : 0 ≤ k) (hfit : k < 2 ^ 63) (hx : x.cps[k.toNat]? = some c) (h : Q (.str ⟨#[c]⟩ s.toks) { s with toks := s.toks + 1 })
    (hs : subscripted slice false (.str x t) (.int k u) = operate [.str x t, .int k u] (getItem (.str x t) (.int k u)) := by with_unfolding_all rfl) :
    wpAny (model prog w) A (subscriptTail value slice (.str x t) (.int k u)) Q E s := by
  have hlt : k.toNat < x.cps.size := by
    rcases Nat.lt_or_ge k.toNat x.cps.size with h | h
    · exact h
    · rw [Array.getElem?_eq_none h] at hx; cases hx
  refine tail_any (typeIs_str s x t) F.slot_str_getitem.lookup (P.getItem_str (c := c) ?_ ?_ h) hs
  · rw [decide_eq_false (by (first | lia | omega)), decide_eq_false (by (first | lia | omega))]; rfl
  · unfold seqIndex?
    simp only [if_neg (Int.not_lt.mpr h0)]
    rw [if_pos]
    · simpa using hx
    · rw [Bool.and_eq_true, decide_eq_true_eq, decide_eq_true_eq]
      refine ⟨h0, ?_⟩
      show k < ((x.cps.size : Nat) : Int)
      (first | lia | omega)
theorem strs_snoc {y : Str} {t : Tok} : ∀ {vs : List Value} {ys : List Str}, StrsAre vs ys → StrsAre (vs ++ [.str y t]) (ys ++ [y])
  | _, _, .nil => .cons y t .nil
  | _, _, .cons z u r => .cons z u (strs_snoc r)
theorem join_one : ∀ (cs : List Nat), (Txt.join (Str.ofString "") (cs.map fun c => (⟨#[c]⟩ : Str))).cps.toList = cs := by
  have key : ∀ (cs : List Nat) (acc : Array Nat), ((cs.map fun c => (⟨#[c]⟩ : Str)).foldl (fun acc p => acc ++ (Str.ofString "").cps ++ p.cps) acc).toList = acc.toList ++ cs := by
    intro cs
    induction cs with
    | nil => intro acc; simp
    | cons c r ih =>
      intro acc
      rw [List.map_cons, List.foldl_cons, ih]
      have : (Str.ofString "").cps = #[] := by decide
      rw [this]
      simp
  intro cs
  cases cs with
  | nil => rfl
  | cons c r =>
    show (((c :: r).map fun c => (⟨#[c]⟩ : Str)).drop 1 |>.foldl (fun acc p => acc ++ (Str.ofString "").cps ++ p.cps) #[c]).toList = _
    rw [List.map_cons, List.drop_succ_cons, List.drop_zero, key]
    rfl
theorem ones_len : ∀ cs : List Nat, ((cs.map fun c => (⟨#[c]⟩ : Str)).map (·.length)).sum = cs.length
  | [] => rfl
  | c :: r => by
    rw [List.map_cons, List.map_cons, List.sum_cons, ones_len r, List.length_cons]
    show 1 + _ = _
    (first | lia | omega)
theorem size_at {n : Int} {t1 t2 t3 t4 t5 t6 : Tok} (h : 0 ≤ n) : ∃ z t, [Value.int 3 t1, .int 2 t2, .int 4 t3, .int 3 t4, .int 1 t5, .int 4 t6][(n.fmod 6).toNat]? = some (.int z t) ∧ 1 ≤ z ∧ z ≤ 4 := by
  have e : n.fmod 6 = n % 6 := Int.fmod_eq_emod_of_nonneg _ (by decide)
  have h1 : 0 ≤ n % 6 := Int.emod_nonneg _ (by decide)
  have h2 : n % 6 < 6 := Int.emod_lt_of_pos _ (by decide)
  rw [e]
  generalize n % 6 = k at h1 h2
  have : k = 0 ∨ k = 1 ∨ k = 2 ∨ k = 3 ∨ k = 4 ∨ k = 5 := by (first | lia | omega)
  rcases this with rfl | rfl | rfl | rfl | rfl | rfl <;> exact ⟨_, _, rfl, by decide, by decide⟩
end
section
variable {vq : Program} {vl : List Str} {w : World} {mean : ExcName → Option Value} {mg mb : Str → Option Value} {dp un : Nat} {gd : Option (List Code)} {env : Env} {outer : List Env} {A₀ : Around} {base h₀ : Heap} {L : Addr} {m : Str → Option Value} {s : Shared} {Q E : Value → Shared → Prop} {news : List (Addr × Obj)}
theorem c_word {c0 c1 : Nat} {nm : Str} {n : Int} {tn t1 : Tok} (B : Below A₀ base outer h₀) (F : Fr h₀ L s.heap m) (X : (law0.heap_1 w.params).In h₀) (N : News h₀ L s.heap news) (T : TopH vq vl mean mg mb h₀) (hf : env.frame = some L) (hk : env.scope.kind = .function) (hdp : dp + 10 < recursionLimit) (hun : un + 80 < cLine) (hnm : nm = ⟨#[c0, c1]⟩) (hn0 : 0 ≤ n) (hn1 : n < 1000000)
   (hret : ∀ x t h' tk', Fr h₀ L h' m → News h₀ L h' news → 1 ≤ x.cps.size → x.cps.size ≤ 4 → (∀ c ∈ x.cps.toList, c = c0 ∨ c = c1) → Q (.str x t) { s with heap := h', toks := tk' }) :
   wpAny (model PySem.Challenge.rw_il0067_01.row.prog w) (atop dp un gd env outer) (call (.ref 195) [.int n t1, .str nm tn]) Q E s := by
  subst hnm
  revert X; k_fill; intro X
  have hrel : ∀ z ∈ ([] : List (Addr × Obj)), z ∈ news := List.forall_mem_nil _
  refine wpAny_call ?_
  k_dflt (refine' enter_relC (rel := []) (rest := leftOf [] news) ?k1 ?k2 ?k3 ?k4 ?k5 ?kd ?kA ?kF ?kK ?k6 ?k7 ?k8 ?k9 ?kB ?kD ?_ ?c2 ?c3 ?c4; (case kA => exact rfl); (case kF => assumption); (case kK => assumption); (case k1 => k_asm); (case k2 => k_asm); (case k3 => k_asm); (case k4 => exact leftOf_news N (hrel)); (case k5 => k_asm); (case kd => exact leftOf_dis); (case k6 => k_is); (case k7 => k_is); (case k8 => ktr_room); (case k9 => exact BindsTo.of_eq rfl); (case kB => exact rfl); (case kD => decide +kernel); (case c2 => exact rfl); (case c3 => exact rfl); (case c4 => exact rfl); k_whole; intro g g2 L' h1 tk1 cells1 aG st2 F2 N2 Y2 B2 X2 T2 l1; (try k_lt l1); k_cells Y2; (try simp only [List.cons_append, List.nil_append] at N2); (try dsimp only); (refine wp_hide ?_); intro Q7 hQ7)
  repeat' ((fail_if_success (with_reducible (first | show wpAny _ _ (eval (Expr.ListComp _ _ _ _) _) _ _ _ | show wpAny _ _ (call (Value.type _) _) _ _ _ | show wpAny _ _ (subscriptTail _ _ (Value.ref _) _) _ _ _))); first | (with_reducible refine execs_hide ?_; intro Q9 hQ9 hR9) | (with_reducible refine hQ9 _ ?_; clear hQ9 hR9; (try clear Q9)) | ((with_reducible refine' hR9 _ _ ?hk9 ?_); (case hk9 => exact nofun); clear hQ9 hR9; (try clear Q9)) | (with_reducible refine hQ8 _ _ ?_; clear hQ8; (try clear Q8); (try dsimp only)) | (with_reducible refine hQ8 _ _ _ ?_; clear hQ8; (try clear Q8); (try dsimp only)) | (with_reducible refine hQ7 _ _ ?_; clear hQ7; (try clear Q7); (try dsimp only)) | (k_unfold; (try dsimp only)) | walk_at "my step" | fail "no step")
  obtain ⟨z, tz, hz, hz1, hz4⟩ := size_at (t1 := tk1) (t2 := tk1 + 1) (t3 := tk1 + 1 + 1) (t4 := tk1 + 1 + 1 + 1) (t5 := tk1 + 1 + 1 + 1 + 1) (t6 := tk1 + 1 + 1 + 1 + 1 + 1) hn0
  have hf0 : 0 ≤ n.fmod 6 := by rw [Int.fmod_eq_emod_of_nonneg _ (by decide)]; exact Int.emod_nonneg _ (by decide)
  have hf1 : n.fmod 6 < 2 ^ 63 := by
    rw [Int.fmod_eq_emod_of_nonneg _ (by decide)]; have := Int.emod_lt_of_pos n (b := 6) (by decide); (first | lia | omega)
  with_reducible rename News g2 _ _ _ => N3
  refine tget N3 List.mem_cons_self hf0 hf1 hz ?_
  repeat' ((fail_if_success (with_reducible (first | show wpAny _ _ (eval (Expr.ListComp _ _ _ _) _) _ _ _ | show wpAny _ _ (call (Value.type _) _) _ _ _ | show wpAny _ _ (subscriptTail _ _ (Value.ref _) _) _ _ _))); first | (with_reducible refine execs_hide ?_; intro Q9 hQ9 hR9) | (with_reducible refine hQ9 _ ?_; clear hQ9 hR9; (try clear Q9)) | ((with_reducible refine' hR9 _ _ ?hk9 ?_); (case hk9 => exact nofun); clear hQ9 hR9; (try clear Q9)) | (with_reducible refine hQ8 _ _ ?_; clear hQ8; (try clear Q8); (try dsimp only)) | (with_reducible refine hQ8 _ _ _ ?_; clear hQ8; (try clear Q8); (try dsimp only)) | (with_reducible refine hQ7 _ _ ?_; clear hQ7; (try clear Q7); (try dsimp only)) | (k_unfold; (try dsimp only)) | walk_at "my step" | fail "no step")
  refine' ListComp_any ?k1 ?k2 ?k3 ?k4 ?k5 ?_; case k1 => k_asm
  case k2 => with_unfolding_all rfl
  case k3 => decide
  case k4 => rfl
  case k5 => decide
  repeat' ((fail_if_success (with_reducible (first | show wpAny _ _ (pyIter _) _ _ _))); first | (with_reducible refine execs_hide ?_; intro Q9 hQ9 hR9) | (with_reducible refine hQ9 _ ?_; clear hQ9 hR9; (try clear Q9)) | ((with_reducible refine' hR9 _ _ ?hk9 ?_); (case hk9 => exact nofun); clear hQ9 hR9; (try clear Q9)) | (with_reducible refine hQ8 _ _ ?_; clear hQ8; (try clear Q8); (try dsimp only)) | (with_reducible refine hQ8 _ _ _ ?_; clear hQ8; (try clear Q8); (try dsimp only)) | (with_reducible refine hQ7 _ _ ?_; clear hQ7; (try clear Q7); (try dsimp only)) | (k_unfold; (try dsimp only)) | walk_at "my step" | fail "no step")
  with_reducible rename News g2 _ _ _ => N4
  with_reducible rename Fr g2 _ _ _ => F4
  with_reducible rename IsRange _ _ _ _ _ _ _ _ => hR
  refine' compAt_range _ ?k1 ?k2 ?k3 F4 N4 hR ?k5 (n := z.toNat) ?k6 ?k7 ?k8 (cstep0 (J := fun i ys => ∃ cs : List Nat, cs.length = i ∧ (∀ c ∈ cs, c = c0 ∨ c = c1) ∧ StrsAre ys (cs.map fun c => (⟨#[c]⟩ : Str))) ?_) (cfin0 ?_)
  case k1 => rfl
  case k2 => rfl
  case k3 => rfl
  case k5 => exact small_one (by decide) (by decide) (by (first | lia | omega)) (by (first | lia | omega))
  case k6 => rw [rangeSize_nat, Int.sub_zero]
  case k7 => unfold sizeLine; (first | lia | omega)
  case k8 => exact ⟨rfl, [], rfl, fun _ h => (nomatch h), .nil⟩
  · intro i ys own C oC D m₂ h₁ tk₁ E' hi hV hC hJ F N
    refine hideP ?_
    intro P9 kP9
    obtain ⟨v, ⟨u, rfl⟩, hx⟩ := hV
    refine kP9 ?_
    clear kP9 P9
    refine tests_nil ?_
    dsimp only [if_true]
    repeat' ((fail_if_success (with_reducible (first | show wpAny _ _ (call (Value.ref _) _) _ _ _ | show wpAny _ _ (call (Value.builtin _) _) _ _ _ | show wpAny _ _ (subscriptTail _ _ (Value.ref _) _) _ _ _))); first | (with_reducible refine execs_hide ?_; intro Q9 hQ9 hR9) | (with_reducible refine hQ9 _ ?_; clear hQ9 hR9; (try clear Q9)) | ((with_reducible refine' hR9 _ _ ?hk9 ?_); (case hk9 => exact nofun); clear hQ9 hR9; (try clear Q9)) | (with_reducible refine hQ8 _ _ ?_; clear hQ8; (try clear Q8); (try dsimp only)) | (with_reducible refine hQ8 _ _ _ ?_; clear hQ8; (try clear Q8); (try dsimp only)) | (with_reducible refine hQ7 _ _ ?_; clear hQ7; (try clear Q7); (try dsimp only)) | (k_unfold; (try dsimp only)) | walk_at "my step" | fail "no step")
    have hk01 : ((n.fdiv 6).fdiv (2 ^ (0 + (i : Int)).toNat)).fmod 2 = 0 ∨ ((n.fdiv 6).fdiv (2 ^ (0 + (i : Int)).toNat)).fmod 2 = 1 := by
      rw [Int.fmod_eq_emod_of_nonneg _ (by decide)]
      have h1 := Int.emod_nonneg ((n.fdiv 6).fdiv (2 ^ (0 + (i : Int)).toNat)) (b := 2) (by decide)
      have h2 := Int.emod_lt_of_pos ((n.fdiv 6).fdiv (2 ^ (0 + (i : Int)).toNat)) (b := 2) (by decide)
      (first | lia | omega)
    generalize ((n.fdiv 6).fdiv (2 ^ (0 + (i : Int)).toNat)).fmod 2 = kk at hk01 ⊢
    rcases hk01 with rfl | rfl
    · refine sget (c := c0) (by decide) (by decide) rfl ?_
      refine PEnd.mk (by assumption) (by assumption) ?_
      obtain ⟨cs, hl, hcs, hs⟩ := hJ
      exact ⟨cs ++ [c0], by simp [hl], fun c hc => (List.mem_append.mp hc).elim (hcs c) fun h => .inl (List.mem_singleton.mp h), by rw [List.map_append]; exact strs_snoc hs⟩
    · refine sget (c := c1) (by decide) (by decide) rfl ?_
      refine PEnd.mk (by assumption) (by assumption) ?_
      obtain ⟨cs, hl, hcs, hs⟩ := hJ
      exact ⟨cs ++ [c1], by simp [hl], fun c hc => (List.mem_append.mp hc).elim (hcs c) fun h => .inr (List.mem_singleton.mp h), by rw [List.map_append]; exact strs_snoc hs⟩
  · intro g ys hI D h tk FD ND nD
    obtain ⟨cs, hl, hcs, hs⟩ := hI
    dsimp only
    repeat' ((fail_if_success (with_reducible (first | show wpAny _ _ (call (Value.builtin _) _) _ _ _))); first | (with_reducible refine execs_hide ?_; intro Q9 hQ9 hR9) | (with_reducible refine hQ9 _ ?_; clear hQ9 hR9; (try clear Q9)) | ((with_reducible refine' hR9 _ _ ?hk9 ?_); (case hk9 => exact nofun); clear hQ9 hR9; (try clear Q9)) | (with_reducible refine hQ8 _ _ ?_; clear hQ8; (try clear Q8); (try dsimp only)) | (with_reducible refine hQ8 _ _ _ ?_; clear hQ8; (try clear Q8); (try dsimp only)) | (with_reducible refine hQ7 _ _ ?_; clear hQ7; (try clear Q7); (try dsimp only)) | (k_unfold; (try dsimp only)) | walk_at "my step" | fail "no step")
    refine join_list (items := ys.toArray) ⟨_, (ND _ List.mem_cons_self).1, rfl, _, rfl⟩ (by simpa using hs) (by rw [ones_len]; show cs.length + (cs.map _).length * 0 ≤ _; (first | lia | omega)) ?_
    intro t9 tk9
    have hj := join_one cs
    generalize hx : Txt.join (Str.ofString "") (cs.map fun c => (⟨#[c]⟩ : Str)) = x at hj ⊢
    repeat' (first | (with_reducible refine execs_hide ?_; intro Q9 hQ9 hR9) | (with_reducible refine hQ9 _ ?_; clear hQ9 hR9; (try clear Q9)) | ((with_reducible refine' hR9 _ _ ?hk9 ?_); (case hk9 => exact nofun); clear hQ9 hR9; (try clear Q9)) | (with_reducible refine hQ8 _ _ ?_; clear hQ8; (try clear Q8); (try dsimp only)) | (with_reducible refine hQ8 _ _ _ ?_; clear hQ8; (try clear Q8); (try dsimp only)) | (with_reducible refine hQ7 _ _ ?_; clear hQ7; (try clear Q7); (try dsimp only)) | (k_unfold; (try dsimp only)) | walk_at "my step" | fail "no step")
    have hz : x.cps.size = cs.length := by rw [← hj]; simp
    exact hret _ _ _ _ (by assumption) (back0 N (by assumption)) (by (first | lia | omega)) (by (first | lia | omega)) (by rw [hj]; exact hcs)
end
end Mine
end

noncomputable section
namespace Mine
set_option maxHeartbeats 400000
theorem f_kind_issn : builtinKind "issubclass.nested" = none := by decide +kernel
theorem f_plain_issn : plainId "issubclass.nested" = true := by decide +kernel
theorem f_args_issn (a b c : Value) : argsOk "issubclass.nested" ⟨[a, b, c], []⟩ := by unfold argsOk; kernel_rfl
theorem f_str_meta : typeOf (.type "str") = pure (.type "type") := kitMeta_of (by decide +kernel)
theorem f_str_str : isSubtype (.type "str") (.type "str") = pure true := by rw [isSubtype_type]; kernel_rfl
theorem issn_str {dep : Int} {tk : Tok} : Meets (Builtin.«issubclass.nested» ⟨[.type "str", .type "str", .int dep tk], []⟩) (fun _ R s => R (.ok (.ret (.bool true))) s) := by
  intro prog w A R s hs
  have hm := f_str_meta
  have hs2 := f_str_str
  repeat (any_goals (first | assumption | (rw [if_pos hm]) | (rw [hs2]) | wp_step))
theorem issn_tuple {tp : Addr} {dd : Option Addr} {its r : List Value} {n : Nat} {sl : Array (Option Value)} {tk : Tok} (hits : its = .type "str" :: r) :
    Meets (Builtin.«issubclass.nested» ⟨[.type "str", .ref tp, .int 0 tk], []⟩)
      (fun _ R s => s.heap.get? tp = some ⟨.type "tuple", dd, .seq its.toArray n, sl⟩ ∧ ∀ tk', R (.ok (.ret (.bool true))) { s with toks := tk' }) := by
  intro prog w A R s hs
  obtain ⟨h, g, d, tt, os⟩ := s
  obtain ⟨htp, hq⟩ := hs
  have hT2 : (⟨h, g, d, tt, os⟩ : Shared).TypeIs (.ref tp) "tuple" := ⟨_, htp, rfl⟩
  have f1 := F.isi_sub_tuple
  repeat (any_goals (first | assumption | wp_step))
  refine wpAny_arrayLoop ?_
  simp only [Option.getD_some, List.toList_toArray]
  rw [hits, List.forIn_cons]
  refine wpAny_bind (wpAny_bind (call_function_meets f_kind_issn f_plain_issn F.entry_issubclass_nested (f_args_issn _ _ _) issn_str ?_))
  show wpAny _ _ (truthy (.bool true) >>= _) _ _ _
  refine wpAny_bind (m := truthy (.bool true)) (wpAny_pure ?_)
  simp only [if_true]
  refine wpAny_bind (wpAny_pure (wpAny_pure (wpAny_pure ?_)))
  repeat (any_goals (first | assumption | wp_step))
  exact hq _
theorem issub_str {prog : Program} {w : World} {A : Around} {E : Value → Shared → Prop} {s : Shared} {Q : Value → Shared → Prop} {tp : Addr} {dd : Option Addr} {c : Value} {n : Nat} {sl : Array (Option Value)}
   (htp : s.heap.get? tp = some ⟨.type "tuple", dd, .seq [.type "str", c].toArray n, sl⟩) (h : ∀ tk', Q (.bool true) { s with toks := tk' }) :
   wpAny (model prog w) A (call (.builtin "issubclass") [.type "str", .ref tp]) Q E s :=
  call_issubclass (S := fun _ R s => s.heap.get? tp = some ⟨.type "tuple", dd, .seq [.type "str", c].toArray n, sl⟩ ∧ ∀ tk', R (.ok (.ret (.bool true))) { s with toks := tk' })
    (fun _ _ _ _ _ hs => issubclass_outer (issn_tuple rfl _ _ _ _ _ hs)) ⟨htp, h⟩
end Mine
end

noncomputable section
namespace Mine
def joinV (x y : Str) : Str := if x.length = 0 then y else x ++ ("/" ++ y)
theorem len_app (x y : Str) : (x ++ y).length = x.length + y.length := by
  show (x.cps ++ y.cps).size = x.cps.size + y.cps.size
  exact Array.size_append
theorem joinV_len (x y : Str) : (joinV x y).length ≤ x.length + y.length + 1 := by
  unfold joinV
  split
  · (first | lia | omega)
  · rw [len_app, len_app]
    have : (Str.ofString "/").length = 1 := by decide
    show x.length + ((Str.ofString "/").length + y.length) ≤ _
    (first | lia | omega)
section
variable {vq : Program} {vl : List Str} {w : World} {mean : ExcName → Option Value} {mg mb : Str → Option Value} {dp un : Nat} {gd : Option (List Code)} {env : Env} {outer : List Env} {A₀ : Around} {base h₀ : Heap} {L : Addr} {m : Str → Option Value} {s : Shared} {Q E : Value → Shared → Prop} {news : List (Addr × Obj)}
theorem c_get_sep {x : Str} {tx : Tok} (B : Below A₀ base outer h₀) (F : Fr h₀ L s.heap m) (X : (law0.heap_1 w.params).In h₀) (N : News h₀ L s.heap news) (T : TopH vq vl mean mg mb h₀) (hf : env.frame = some L) (hk : env.scope.kind = .function) (hdp : dp + 1 < recursionLimit) (hun : un + 8 < cLine)
   (hret : ∀ t h' tk', Fr h₀ L h' m → News h₀ L h' news → Q (.str "/" t) { s with heap := h', toks := tk' }) :
   wpAny (model PySem.Challenge.rw_il0067_01.row.prog w) (atop dp un gd env outer) (call (.ref 178) [.str x tx]) Q E s := by
  revert X; k_fill; intro X
  refine wpAny_call ?_
  k_dflt (refine' enter_rel (rel := []) (rest := leftOf [] news) ?k1 ?k2 ?k3 ?k4 ?k5 ?kd ?kA ?kF ?kK ?k6 ?k7 ?k8 ?k9 ?kB ?_ ?c2 ?c3 ?c4 ?c5; (case kA => exact rfl); (case kF => assumption); (case kK => assumption); (case k1 => k_asm); (case k2 => k_asm); (case k3 => k_asm); (case k4 => exact leftOf_news N (nil_sub)); (case k5 => k_asm); (case kd => exact leftOf_dis); (case k6 => k_is); (case k7 => k_is); (case k8 => ktr_room); (case k9 => exact BindsTo.of_eq rfl); (case c5 => decide); (case kB => exact locs rfl); (case c2 => exact rfl); (case c3 => exact rfl); (case c4 => exact rfl); k_whole; intro g g2 L' h1 aG st2 F2 N2 B2 X2 T2; (try dsimp only); (refine wp_hide ?_); intro Q7 hQ7)
  repeat' (first | (with_reducible refine execs_hide ?_; intro Q9 hQ9 hR9) | (with_reducible refine hQ9 _ ?_; clear hQ9 hR9; (try clear Q9)) | ((with_reducible refine' hR9 _ _ ?hk9 ?_); (case hk9 => exact nofun); clear hQ9 hR9; (try clear Q9)) | (with_reducible refine hQ8 _ _ ?_; clear hQ8; (try clear Q8); (try dsimp only)) | (with_reducible refine hQ8 _ _ _ ?_; clear hQ8; (try clear Q8); (try dsimp only)) | (with_reducible refine hQ7 _ _ ?_; clear hQ7; (try clear Q7); (try dsimp only)) | (k_unfold; (try dsimp only)) | ((with_reducible show wpAny _ _ (call (Value.builtin "issubclass") [Value.type "str", Value.ref _]) _ _ _); k_dflt (refine' issub_str ?k1 ?_; (case k1 => exact News.get (by k_asm) (by k_mem)); k_whole; intro tk9)) | walk_at "my step" | fail "no step")
  exact hret _ _ _ (by assumption) (back0 N (by assumption))
theorem c_fspath {x : Str} {tx : Tok} (B : Below A₀ base outer h₀) (F : Fr h₀ L s.heap m) (X : (law0.heap_1 w.params).In h₀) (N : News h₀ L s.heap news) (T : TopH vq vl mean mg mb h₀) (hf : env.frame = some L) (hk : env.scope.kind = .function) (hdp : dp + 1 < recursionLimit) (hun : un + 8 < cLine)
   (hret : ∀ t h' tk', Fr h₀ L h' m → News h₀ L h' news → Q (.str x t) { s with heap := h', toks := tk' }) :
   wpAny (model PySem.Challenge.rw_il0067_01.row.prog w) (atop dp un gd env outer) (call (.ref 164) [.str x tx]) Q E s := by
  revert X; k_fill; intro X
  refine wpAny_call ?_
  k_dflt (refine' enter_rel (rel := []) (rest := leftOf [] news) ?k1 ?k2 ?k3 ?k4 ?k5 ?kd ?kA ?kF ?kK ?k6 ?k7 ?k8 ?k9 ?kB ?_ ?c2 ?c3 ?c4 ?c5; (case kA => exact rfl); (case kF => assumption); (case kK => assumption); (case k1 => k_asm); (case k2 => k_asm); (case k3 => k_asm); (case k4 => exact leftOf_news N (nil_sub)); (case k5 => k_asm); (case kd => exact leftOf_dis); (case k6 => k_is); (case k7 => k_is); (case k8 => ktr_room); (case k9 => exact BindsTo.of_eq rfl); (case c5 => decide); (case kB => exact locs rfl); (case c2 => exact rfl); (case c3 => exact rfl); (case c4 => exact rfl); k_whole; intro g g2 L' h1 aG st2 F2 N2 B2 X2 T2; (try dsimp only); (refine wp_hide ?_); intro Q7 hQ7)
  repeat' (first | (with_reducible refine execs_hide ?_; intro Q9 hQ9 hR9) | (with_reducible refine hQ9 _ ?_; clear hQ9 hR9; (try clear Q9)) | ((with_reducible refine' hR9 _ _ ?hk9 ?_); (case hk9 => exact nofun); clear hQ9 hR9; (try clear Q9)) | (with_reducible refine hQ8 _ _ ?_; clear hQ8; (try clear Q8); (try dsimp only)) | (with_reducible refine hQ8 _ _ _ ?_; clear hQ8; (try clear Q8); (try dsimp only)) | (with_reducible refine hQ7 _ _ ?_; clear hQ7; (try clear Q7); (try dsimp only)) | (k_unfold; (try dsimp only)) | ((with_reducible show wpAny _ _ (call (Value.builtin "issubclass") [Value.type "str", Value.ref _]) _ _ _); k_dflt (refine' issub_str ?k1 ?_; (case k1 => exact News.get (by k_asm) (by k_mem)); k_whole; intro tk9)) | walk_at "my step" | fail "no step")
  exact hret _ _ _ (by assumption) (back0 N (by assumption))
theorem c_join {x y : Str} {tx ty : Tok} (B : Below A₀ base outer h₀) (F : Fr h₀ L s.heap m) (X : (law0.heap_1 w.params).In h₀) (N : News h₀ L s.heap news) (T : TopH vq vl mean mg mb h₀) (hf : env.frame = some L) (hk : env.scope.kind = .function) (hdp : dp + 5 < recursionLimit) (hun : un + 40 < cLine) (hx : x.length ≤ 4000) (hy : y.length ≤ 4000) (hys : Txt.startswith y "/" = false) (hxe : Txt.endswith x "/" = false)
   (hret : ∀ t h' tk', Fr h₀ L h' m → News h₀ L h' news → Q (.str (joinV x y) t) { s with heap := h', toks := tk' }) :
   wpAny (model PySem.Challenge.rw_il0067_01.row.prog w) (atop dp un gd env outer) (call (.ref 185) [.str x tx, .str y ty]) Q E s := by
  revert X; k_fill; intro X
  refine wpAny_call ?_
  k_dflt (refine' enter_star (rel := []) (rest := leftOf [] news) ?k1 ?k2 ?k3 ?k4 ?k5 ?kd ?kA ?kF ?kK ?k6 ?k7 ?k8 ?kV ?kP ?kG ?kB ?_ ?c2 ?c3 ?c4 ?c5; (case kA => exact rfl); (case kF => assumption); (case kK => assumption); (case k1 => k_asm); (case k2 => k_asm); (case k3 => k_asm); (case k4 => exact leftOf_news N (nil_sub)); (case k5 => k_asm); (case kd => exact leftOf_dis); (case k6 => k_is); (case k7 => k_is); (case k8 => ktr_room); (case kV => kl_lit); (case kP => exact rfl); (case kG => exact fun _ => rfl); (case kB => exact fun _ => locs rfl); (case c5 => decide); (case c2 => exact rfl); (case c3 => exact rfl); (case c4 => exact rfl); k_whole; intro D' g g2 L' h1 l1 aG st2 F2 N2 B2 X2 T2; (try k_lt l1); (try dsimp only); (refine wp_hide ?_); intro Q7 hQ7)
  repeat' (first | (with_reducible refine execs_hide ?_; intro Q9 hQ9 hR9) | (with_reducible refine hQ9 _ ?_; clear hQ9 hR9; (try clear Q9)) | ((with_reducible refine' hR9 _ _ ?hk9 ?_); (case hk9 => exact nofun); clear hQ9 hR9; (try clear Q9)) | (with_reducible refine hQ8 _ _ ?_; clear hQ8; (try clear Q8); (try dsimp only)) | (with_reducible refine hQ8 _ _ _ ?_; clear hQ8; (try clear Q8); (try dsimp only)) | (with_reducible refine hQ7 _ _ ?_; clear hQ7; (try clear Q7); (try dsimp only)) | (k_unfold; (try dsimp only)) | ((with_reducible show wpAny _ _ (call (Value.builtin "issubclass") [Value.type "str", Value.ref _]) _ _ _); k_dflt (refine' issub_str ?k1 ?_; (case k1 => exact News.get (by k_asm) (by k_mem)); k_whole; intro tk9)) | ((with_reducible show wpAny _ _ (call (Value.ref _) _) _ _ _); k_dflt (refine' c_get_sep ?k1 ?k2 ?k3 ?k4 ?k5 ?kf ?k6 ?k7 ?k8  ?_; (case k1 => k_asm); (case k2 => k_asm); (case k3 => k_asm); (case k4 => k_asm); (case k5 => k_asm); (case kf => first | exact rfl | assumption); (case k6 => first | exact rfl | assumption); (case k7 => ktr_room); (case k8 => ktr_units); k_whole; intro t9 h9 tk9 F9 N9; (try dsimp only); (try k_sweep))) | ((with_reducible show wpAny _ _ (call (Value.ref _) _) _ _ _); k_dflt (refine' c_fspath ?k1 ?k2 ?k3 ?k4 ?k5 ?kf ?k6 ?k7 ?k8  ?_; (case k1 => k_asm); (case k2 => k_asm); (case k3 => k_asm); (case k4 => k_asm); (case k5 => k_asm); (case kf => first | exact rfl | assumption); (case k6 => first | exact rfl | assumption); (case k7 => ktr_room); (case k8 => ktr_units); k_whole; intro t9 h9 tk9 F9 N9; (try dsimp only); (try k_sweep))) | walk_at "my step" | fail "no step")
  all_goals refine cb_retS hret ?_ (by assumption) (back0 N (by assumption))
  · unfold joinV; rw [if_neg (by simp_all)]
  · unfold joinV; rw [if_pos (by simp_all)]
end
end Mine
end

noncomputable section
namespace Mine
open PySem.AutoSeq1 (wpAny_loadPart')
namespace FM
theorem owner_map : Manifest.owners.lookup (String.ofList ['p', 'a', 'm'].reverse) = some Manifest.sig_map := by kernel_rfl
theorem slot_init : Slot "map" "__init__" "object.__init__" :=
  .of (owner := "object") (n := "__init__") (by rw [typeLookup_type, builtinLookup_eq_fast]; kernel_rfl) (by decide +kernel) (by decide +kernel) (by decide +kernel)
    (by first | exact .inl (by decide +kernel) | exact .inr (by decide +kernel)) (by rw [isSubtype_type]; kernel_rfl)
theorem slot_next : Slot "map" "__next__" "map.__next__" :=
  .of (owner := "map") (n := "__next__") (by rw [typeLookup_type, builtinLookup_eq_fast]; kernel_rfl) (by decide +kernel) (by decide +kernel) (by decide +kernel)
    (by first | exact .inl (by decide +kernel) | exact .inr (by decide +kernel)) (by rw [isSubtype_type]; kernel_rfl)
theorem slot_iter : Slot "map" "__iter__" "map.__iter__" :=
  .of (owner := "map") (n := "__iter__") (by rw [typeLookup_type, builtinLookup_eq_fast]; kernel_rfl) (by decide +kernel) (by decide +kernel) (by decide +kernel)
    (by first | exact .inl (by decide +kernel) | exact .inr (by decide +kernel)) (by rw [isSubtype_type]; kernel_rfl)
theorem entry_iter : entryFor table "map.__iter__" = some Builtin.«dict_keyiterator.__iter__» :=
  entryFor_alias (id' := "dict_keyiterator.__iter__") (by kernel_rfl) (by first | rfl | decide +kernel | (unfold String.splitOn; simp +decide [String.splitOnAux])) (by decide +kernel) (by kernel_rfl)
theorem entry_next : entryFor table "map.__next__" = some Builtin.«map.__next__» := entryFor_of_tree (by kernel_rfl)
theorem entry_new : entryFor table "map.__new__" = some Builtin.«map.__new__» := entryFor_of_tree (by kernel_rfl)
theorem args_next (a : Value) : argsOk "map.__next__" ⟨[a], []⟩ := by
  unfold argsOk; rw [signature?_of (id := "map.__next__") (n := ['_', '_', 't', 'x', 'e', 'n', '_', '_']) (o := ['p', 'a', 'm']) (by kernel_rfl) owner_map]; kernel_rfl
theorem args_iter (a : Value) : argsOk "map.__iter__" ⟨[a], []⟩ := by
  unfold argsOk; rw [signature?_of (id := "map.__iter__") (n := ['_', '_', 'r', 'e', 't', 'i', '_', '_']) (o := ['p', 'a', 'm']) (by kernel_rfl) owner_map]; kernel_rfl
theorem mro_map : mroOf (.type "map") = pure [.type "map", .type "object"] := by rw [mroOf_type]; kernel_rfl
theorem lookup_new : typeLookup (.type "map") "__new__" = pure (some (.builtin "map.__new__")) := by rw [typeLookup_type, builtinLookup_eq_fast]; kernel_rfl
theorem called : TypeCalled "map" "map.__new__" "object.__init__" :=
  ⟨by decide +kernel, by decide +kernel, ⟨_, _, mro_map⟩, madeBy_type mro_map lookup_new (by decide +kernel), by decide +kernel, by rw [isSubtype_type]; kernel_rfl, slot_init⟩
theorem typeCall (a b : Value) : checkTypeCall "map" ⟨[a, b], []⟩ = pure () := by kernel_rfl
theorem newCall (a b : Value) : checkBuiltinCall "map.__new__" ⟨[.type "map", a, b], []⟩ = pure () := by kernel_rfl
theorem no_len : typeLookup (.type "map") "__len__" = pure none := by rw [typeLookup_type, builtinLookup_eq_fast]; kernel_rfl
theorem no_hint : typeLookup (.type "map") "__length_hint__" = pure none := by rw [typeLookup_type, builtinLookup_eq_fast]; kernel_rfl
theorem sub_map : isSubtype (.type "map") (.type "map") = pure true := by rw [isSubtype_type]; kernel_rfl
end FM
abbrev mapO (TI : Addr) (f : Value) : Obj := { cls := .type "map", data := .fields #[.ref TI, f] }
section
variable {prog : Program} {w : World} {A : Around} {E : Value → Shared → Prop} {s : Shared} {MO TI it l : Addr} {f v : Value} {items : Array Value} {i : Nat}
theorem map_next {Q : Option Value → Shared → Prop} (hm : s.heap.get? MO = some (mapO TI f)) (hT : s.heap.get? TI = some (tupO [.ref it])) (hit : s.heap.IsListIter it l i) (hl : s.heap.IsList l items) (hx : items[i]? = some v) (n1 : MO ≠ it)
    (hc : ∀ h' (E' : Value → Shared → Prop), h'.IsListIter it l (i + 1) → Heap.SameBut it s.heap h' → wpAny (model prog w) A.in1 (call f [v]) (fun r s' => Q (some r) s') E' { s with heap := h' }) :
    wpAny (model prog w) A (pyNext (.ref MO)) Q E s := by
  have ht : s.TypeIs (.ref MO) "map" := ⟨_, hm, rfl⟩
  unfold pyNext
  refine wpAny_bind (wpAny_attempt (wpAny_callSpecial?_slot (name := Str.ofString "__next__") ht FM.slot_next (wpAny_call_entry FM.slot_next ht FM.entry_next ?_ (FM.args_next _))))
  show wpAny _ _ (field (.ref MO) 0 >>= _) _ _ _
  refine wpAny_bind (wpAny_field hm rfl (x := .ref TI) rfl (wpAny_bind (wpAny_seqItems hT rfl ?_)))
  refine wpAny_bind ?_
  simp only [List.forIn_cons, List.forIn_nil, List.forIn_toArray]
  refine wpAny_bind (wpAny_bind (wpAny_holding ?_))
  refine wpAny_nextOf_list_item hit hl hx fun h' a b => wpAny_pure (wpAny_pure ?_)
  show wpAny _ _ (field (.ref MO) 1 >>= _) _ _ _
  refine wpAny_bind (wpAny_field (b.extBut _ _ n1 hm) rfl (x := f) rfl (wpAny_bind (wpAny_holding (wpAny_mono (hc h' _ a b) (fun r s' h => ?_) fun _ _ e => e))))
  refine wpAny_bind (wpAny_letGo (wpAny_pure ⟨r, rfl, wpAny_pure h⟩))
theorem map_end {Q : Option Value → Shared → Prop} (hh : A.handled = none) (hm : s.heap.get? MO = some (mapO TI f)) (hT : s.heap.get? TI = some (tupO [.ref it])) (hit : s.heap.IsListIter it l i) (hl : s.heap.IsList l items) (hx : items[i]? = none)
    (hQ : ∀ h', Heap.ExtBut it s.heap h' → Q none { s with heap := h' }) :
    wpAny (model prog w) A (pyNext (.ref MO)) Q E s := by
  have ht : s.TypeIs (.ref MO) "map" := ⟨_, hm, rfl⟩
  unfold pyNext
  refine wpAny_bind (wpAny_attempt (wpAny_callSpecial?_slot (name := Str.ofString "__next__") ht FM.slot_next (wpAny_call_entry FM.slot_next ht FM.entry_next ?_ (FM.args_next _))))
  show wpAny _ _ (field (.ref MO) 0 >>= _) _ _ _
  refine wpAny_bind (wpAny_field hm rfl (x := .ref TI) rfl (wpAny_bind (wpAny_seqItems hT rfl ?_)))
  refine wpAny_bind ?_
  simp only [List.forIn_cons, List.forIn_nil, List.forIn_toArray]
  refine wpAny_bind (wpAny_bind (wpAny_holding ?_))
  refine wpAny_nextOf_list_end hh hit hl hx fun h' e hk he => ?_
  obtain ⟨o, ho, hc⟩ := he
  exact wpAny_bind (wpAny_isInstance (T := "StopIteration") (b := true) ⟨o, ho, hc⟩ isSubtype_stop (wpAny_pure (hQ _ hk)))
theorem map_iter {Q : Value → Shared → Prop} (hm : s.heap.get? MO = some (mapO TI f)) (h : Q (.ref MO) s) : wpAny (model prog w) A (pyIter (.ref MO)) Q E s := by
  have hT : s.TypeIs (.ref MO) "map" := ⟨_, hm, rfl⟩
  refine wpAny_pyIter_slot hT FM.slot_iter (wpAny_call_entry FM.slot_iter hT FM.entry_iter ?_ (FM.args_iter _))
  show wpAny _ _ (ret (.ref MO)) _ _ s
  exact wpAny_pure ⟨_, rfl, "map", _, hT, FM.slot_next.lookup, h⟩
end
theorem map_new (f : Addr) (l : Addr) (items : Array Value) :
    Meets (Builtin.«map.__new__» ⟨[.type "map", .ref f, .ref l], []⟩) (fun _ R s => s.heap.IsList l items ∧
      ∀ h1 h2, h1 = s.heap.push { cls := .type "list_iterator", data := .fields #[.ref l, .int 0 0] } → h2 = h1.push (tupO [.ref s.heap.objs.size]) →
        R (.ok (.ret (.ref h2.objs.size))) { s with heap := h2.push (mapO h1.objs.size (.ref f)) }) :=
  .of_wp fun prog w A R s h => by
    obtain ⟨hp, g, d, tk, os⟩ := s; obtain ⟨hl, h⟩ := h
    have hsub := FM.sub_map
    wp_walk using wpAny_pyIter_list hl
    exact ⟨_, rfl, h _ _ rfl rfl⟩
section
variable {prog : Program} {w : World} {A : Around} {E : Value → Shared → Prop} {s : Shared} {h₀ : Heap} {L l f : Addr} {m : Str → Option Value} {news : List (Addr × Obj)} {items : Array Value} {n : Nat}
theorem call_map {Q : Value → Shared → Prop} (F : Fr h₀ L s.heap m) (N : News h₀ L s.heap news) (hm : (l, ({ cls := .type "list", data := .seq items n } : Obj)) ∈ news)
    (h : ∀ it TI MO h', Fr h₀ L h' m → News h₀ L h' ((MO, mapO TI (.ref f)) :: (TI, tupO [.ref it]) :: (it, { cls := .type "list_iterator", data := .fields #[.ref l, .int 0 0] }) :: news) →
      (∀ p ∈ news, p.1 < it) → it < TI → TI < MO → Q (.ref MO) { s with heap := h' }) :
    wpAny (model prog w) A (call (.type "map") [.ref f, .ref l]) Q E s := by
  refine callType_new FM.called (by decide) (FM.typeCall _ _) (FM.newCall _ _) (fun obj => PySem.F.args_object_init_3 obj _ _) FM.entry_new (map_new f l items) ⟨⟨_, (N _ hm).1, rfl, _, rfl⟩, ?_⟩
  intro h1 h2 e1 e2
  have z1 : h1.objs.size = s.heap.objs.size + 1 := by rw [e1]; exact Heap.size_push ..
  have z2 : h2.objs.size = s.heap.objs.size + 2 := by rw [e2, Heap.size_push, z1]
  have F1 : Fr h₀ L h1 m := by rw [e1]; exact F.push _
  have F2 : Fr h₀ L h2 m := by rw [e2]; exact F1.push _
  have N1 := N.push F { cls := .type "list_iterator", data := .fields #[.ref l, .int 0 0] }
  rw [← e1] at N1
  have N2 := N1.push F1 (tupO [.ref s.heap.objs.size])
  rw [← e2] at N2
  refine ⟨⟨_, Heap.get?_push_size _ rfl, rfl⟩, h _ _ _ _ (F2.push _) (N2.push F2 _) (fun p hp => Heap.lt_size (N p hp).1) ?_ ?_⟩
  · rw [z1]; exact Nat.lt_succ_self _
  · rw [z1, z2]; exact Nat.lt_succ_self _
end
end Mine
end

noncomputable section
namespace Mine
abbrev listO (acc : Array Value) (c : Nat) : Obj := { cls := .type "list", data := .seq acc c }
section
variable {prog : Program} {w : World} {A : Around} {E : Value → Shared → Prop} {s : Shared} {h₀ : Heap} {L l f : Addr} {m : Str → Option Value} {news : List (Addr × Obj)} {items : Array Value} {n : Nat}
abbrev MapCalls (prog : Program) (w : World) (A : Around) (h₀ : Heap) (L : Addr) (m : Str → Option Value) (f : Addr) (items : Array Value) (G : Nat → Value → Prop) : Prop :=
  ∀ j v (s' : Shared) (nw : List (Addr × Obj)) (Q' E' : Value → Shared → Prop), items[j]? = some v → Fr h₀ L s'.heap m → News h₀ L s'.heap nw →
    (∀ r h' tk', G j r → Fr h₀ L h' m → News h₀ L h' nw → Q' r { s' with heap := h', toks := tk' }) → wpAny (model prog w) A (call (.ref f) [v]) Q' E' s'
structure MOff (D MO TI it : Addr) (news : List (Addr × Obj)) : Prop where
  dm : D ≠ MO
  dt : D ≠ TI
  di : D ≠ it
  mi : MO ≠ it
  ti : TI ≠ it
  nd : ∀ p ∈ news, p.1 ≠ D
  ni : ∀ p ∈ news, p.1 ≠ it
theorem li_obj {h : Heap} {it l : Addr} {i : Nat} (x : h.IsListIter it l i) : ∃ o, h.get? it = some o ∧ o.cls = .type "list_iterator" ∧ o.data = .fields #[.ref l, .int i 0] := x
theorem ext_loop {R : Result → Shared → Prop} {D MO TI it : Addr} {G : Nat → Value → Prop} {res : Value} (hh : A.handled = none) (hcalls : MapCalls prog w A.in1.in1 h₀ L m f items G) (hsz : items.size ≤ sizeLine) (O : MOff D MO TI it news) (hl : (l, ({ cls := .type "list", data := .seq items n } : Obj)) ∈ news) :
    ∀ (k i : Nat) (s : Shared) (acc : Array Value) (c : Nat) (oit : Obj), items.size - i = k → i ≤ items.size → acc.size = i → (∀ j r, acc[j]? = some r → G j r) → oit.cls = .type "list_iterator" → oit.data = .fields #[.ref l, .int i 0] → Fr h₀ L s.heap m →
      News h₀ L s.heap ((D, listO acc c) :: (MO, mapO TI (.ref f)) :: (TI, tupO [.ref it]) :: (it, oit) :: news) →
      (∀ h' tk' acc' c', acc'.size = items.size → (∀ j r, acc'[j]? = some r → G j r) → Fr h₀ L h' m → News h₀ L h' ((D, listO acc' c') :: news) → R (.ok (.ret res)) { s with heap := h', toks := tk' }) →
      codeAny (model prog w) A (.builtin "list.extend.loop" ⟨[.ref D, .ref MO, res], []⟩) R s := by
  intro k
  induction k with
  | zero =>
    intro i s acc c oit hk hi ha hG hc hd FF NN hR
    have hin : i = items.size := by (first | lia | omega)
    have gD := NN _ List.mem_cons_self
    have gM := NN _ (List.mem_cons_of_mem _ List.mem_cons_self)
    have gT := NN _ (List.mem_cons_of_mem _ (List.mem_cons_of_mem _ List.mem_cons_self))
    have gI := NN _ (List.mem_cons_of_mem _ (List.mem_cons_of_mem _ (List.mem_cons_of_mem _ List.mem_cons_self)))
    have gN : ∀ p ∈ news, _ := fun p hp => NN p (List.mem_cons_of_mem _ (List.mem_cons_of_mem _ (List.mem_cons_of_mem _ (List.mem_cons_of_mem _ hp))))
    refine codeAny_builtin PySem.F.entry_extend_loop ?_
    rw [Around.under_plainId PySem.F.plain_extend_loop _]
    show wpAny _ A.in1 (pyNext (.ref MO) >>= _) _ _ s
    refine wpAny_bind (map_end hh gM.1 gT.1 ⟨_, gI.1, hc, hd⟩ ⟨_, (gN _ hl).1, rfl, _, rfl⟩ (by simp [hin]) fun h' hk' => ?_)
    refine wpAny_pure (hR h' s.toks acc c (by (first | lia | omega)) hG ⟨FF.ns.at' fun o e => hk' _ o (Ne.symm gI.2.1) e, fun b o e => hk' b o (fun q => by rw [q, gI.2.2] at e; cases e) (FF.keep b o e), FF.above⟩ fun p hp => ?_)
    rcases List.mem_cons.mp hp with rfl | hp
    · exact ⟨hk' _ _ O.di gD.1, gD.2⟩
    · exact ⟨hk' _ _ (O.ni p hp) (gN p hp).1, (gN p hp).2⟩
  | succ k ih =>
    intro i s acc c oit hk hi ha hG hc hd FF NN hR
    have hlt : i < items.size := by (first | lia | omega)
    have gD := NN _ List.mem_cons_self
    have gM := NN _ (List.mem_cons_of_mem _ List.mem_cons_self)
    have gT := NN _ (List.mem_cons_of_mem _ (List.mem_cons_of_mem _ List.mem_cons_self))
    have gI := NN _ (List.mem_cons_of_mem _ (List.mem_cons_of_mem _ (List.mem_cons_of_mem _ List.mem_cons_self)))
    have gN : ∀ p ∈ news, _ := fun p hp => NN p (List.mem_cons_of_mem _ (List.mem_cons_of_mem _ (List.mem_cons_of_mem _ (List.mem_cons_of_mem _ hp))))
    refine codeAny_builtin PySem.F.entry_extend_loop ?_
    rw [Around.under_plainId PySem.F.plain_extend_loop _]
    show wpAny _ A.in1 (pyNext (.ref MO) >>= _) _ _ s
    refine wpAny_bind (map_next (v := items[i]) gM.1 gT.1 ⟨_, gI.1, hc, hd⟩ ⟨_, (gN _ hl).1, rfl, _, rfl⟩ (by simp [hlt]) O.mi fun h1 E' a1 b1 => ?_)
    obtain ⟨o1, e1, c1, d1⟩ := li_obj a1
    have F1 : Fr h₀ L h1 m := FF.change b1 gI.2.1 gI.2.2
    have N1 : News h₀ L h1 ((D, listO acc c) :: (MO, mapO TI (.ref f)) :: (TI, tupO [.ref it]) :: (it, o1) :: news) := fun p hp => by
      simp only [List.mem_cons] at hp
      rcases hp with rfl | rfl | rfl | rfl | hp
      · exact ⟨b1.extBut _ _ O.di gD.1, gD.2⟩
      · exact ⟨b1.extBut _ _ O.mi gM.1, gM.2⟩
      · exact ⟨b1.extBut _ _ O.ti gT.1, gT.2⟩
      · exact ⟨e1, gI.2⟩
      · exact ⟨b1.extBut _ _ (O.ni p hp) (gN p hp).1, (gN p hp).2⟩
    refine hcalls i items[i] _ _ _ _ (by simp [hlt]) F1 N1 fun r h2 tk2 hr F2 N2 => ?_
    have hS := (N2 _ List.mem_cons_self).1
    show wpAny _ A.in1 (updateSeq D (·.push r) >>= _) _ _ _
    have sb : Heap.SameBut D h2 (h2.update D (Obj.mapSeq (·.push r))) := Heap.SameBut.update ..
    have N3 : News h₀ L (h2.update D (Obj.mapSeq (·.push r))) ((D, Obj.mapSeq (·.push r) (listO acc c)) :: (MO, mapO TI (.ref f)) :: (TI, tupO [.ref it]) :: (it, o1) :: news) := fun p hp => by
      simp only [List.mem_cons] at hp
      rcases hp with rfl | rfl | rfl | rfl | hp
      · exact ⟨Heap.get?_update_self _ hS rfl, gD.2⟩
      · exact ⟨sb.extBut _ _ (Ne.symm O.dm) (N2 (MO, _) (by simp)).1, gM.2⟩
      · exact ⟨sb.extBut _ _ (Ne.symm O.dt) (N2 (TI, _) (by simp)).1, gT.2⟩
      · exact ⟨sb.extBut _ _ (Ne.symm O.di) (N2 (it, _) (by simp)).1, gI.2⟩
      · exact ⟨sb.extBut _ _ (O.nd p hp) (N2 p (by simp [hp])).1, (gN p hp).2⟩
    refine wpAny_bind ?_
    refine wpAny_updateSeq hS rfl (wpAny_pure ⟨plainId_quiet PySem.F.plain_extend_loop _, ih (i + 1) _ (acc.push r) _ o1 (by (first | lia | omega)) hlt (by rw [Array.size_push, ha]) ?_ c1 d1 (F2.change sb gD.2.1 gD.2.2) N3 fun h' tk' acc' c' z1 z2 z3 z4 => hR h' tk' acc' c' z1 z2 z3 z4⟩)
      (by rw [ha]; (first | lia | omega)) (by show (acc.push r).size ≤ sizeLine + 1; rw [Array.size_push, ha]; (first | lia | omega))
    · intro j v hj
      rw [Array.getElem?_push] at hj
      split at hj
      · rename_i e; cases hj; rw [e, ha]; exact hr
      · exact hG j v hj
theorem collect_map {Q : List Value → Shared → Prop} {MO TI it : Addr} {G : Nat → Value → Prop} (hh : A.handled = none) (hcalls : MapCalls prog w A.in1.in1 h₀ L m f items G) (hsz : items.size ≤ sizeLine) (hl : (l, ({ cls := .type "list", data := .seq items n } : Obj)) ∈ news)
    (F : Fr h₀ L s.heap m) (N : News h₀ L s.heap ((MO, mapO TI (.ref f)) :: (TI, tupO [.ref it]) :: (it, { cls := .type "list_iterator", data := .fields #[.ref l, .int 0 0] }) :: news)) (n1 : MO ≠ it) (n2 : TI ≠ it) (n3 : ∀ p ∈ news, p.1 ≠ it)
    (hQ : ∀ h' tk' (acc : Array Value), acc.size = items.size → (∀ j r, acc[j]? = some r → G j r) → Fr h₀ L h' m → News h₀ L h' news → Q acc.toList { s with heap := h', toks := tk' }) : wpAny (model prog w) A (collect (.ref MO)) Q E s := by
  have gM := N _ List.mem_cons_self
  have lt : ∀ p ∈ ((MO, mapO TI (.ref f)) :: (TI, tupO [.ref it]) :: (it, ({ cls := .type "list_iterator", data := .fields #[.ref l, .int 0 0] } : Obj)) :: news), p.1 < s.heap.objs.size := fun p hp => Heap.lt_size (N p hp).1
  have hSI : s.heap.objs.size ≠ MO := Nat.ne_of_gt (Heap.lt_size gM.1)
  unfold collect
  refine wpAny_bind (wpAny_runValue (codeAny_builtin PySem.F.entry_proto_collect ?_))
  rw [Around.under_plainId PySem.F.plain_proto_collect _]
  show wpAny _ A.in1 (newList [] >>= fun l => again (.builtin "list.__iadd__" ⟨[l, .ref MO], []⟩)) _ _ s
  refine wpAny_bind (wpAny_newObj_type ?_)
  refine wpAny_pure ⟨plainId_quiet PySem.F.plain_list_iadd _, codeAny_builtin PySem.F.entry_list_iadd ?_⟩
  rw [Around.under_plainId PySem.F.plain_list_iadd _]
  show wpAny _ A.in1 (Builtin.List.listExtendWith (.ref s.heap.objs.size) (.ref MO) (.ref s.heap.objs.size)) _ _ _
  have F1 := F.push { cls := .type "list", data := .seq ([] : List Value).toArray }
  have N1 := N.push F { cls := .type "list", data := .seq ([] : List Value).toArray }
  have gM1 := N1 _ (List.mem_cons_of_mem _ List.mem_cons_self)
  have hT : Shared.TypeIs { s with heap := s.heap.push { cls := .type "list", data := .seq ([] : List Value).toArray } } (.ref MO) "map" := ⟨_, gM1.1, rfl⟩
  unfold Builtin.List.listExtendWith
  refine wpAny_bind (wpAny_typeOf hT ?_)
  have h1 : Builtin.List.listSameRef (.ref s.heap.objs.size) (.ref MO) = false := by simp [Builtin.List.listSameRef, hSI]
  have h2 : (Value.type "map" == Value.type "list") = false := by decide
  have h3 : (Value.type "map" == Value.type "tuple") = false := by decide
  simp only [h1, h2, h3, Bool.or_false, Bool.false_eq_true, if_false]
  refine wpAny_bind (map_iter gM1.1 ?_)
  refine wpAny_bind (wpAny_holding ?_)
  unfold Builtin.List.listLengthHint
  refine wpAny_bind (wpAny_specialOf hT FM.no_len ?_)
  show wpAny _ A.in1 (specialOf (Value.ref MO) (Str.ofString "__length_hint__") >>= _) _ _ _
  refine wpAny_bind (wpAny_specialOf hT FM.no_hint ?_)
  refine wpAny_pure ?_
  show wpAny _ A.in1 (rule "list.extend.makes-room" >>= fun _ => Builtin.List.listTouch (.ref s.heap.objs.size) >>= fun _ =>
    again (.builtin "list.extend.loop" ⟨[.ref s.heap.objs.size, .ref MO, .ref s.heap.objs.size], []⟩)) _ _ _
  refine wpAny_bind (wpAny_rule ?_)
  have hS₁ : (s.heap.push { cls := .type "list", data := .seq ([] : List Value).toArray }).get? s.heap.objs.size = some { cls := .type "list", data := .seq ([] : List Value).toArray } := Heap.get?_push_size _ rfl
  refine wpAny_bind ?_
  show wpAny _ A.in1 (updateSeq s.heap.objs.size (·.push .none) >>= fun _ => updateSeq s.heap.objs.size (·.pop)) _ _ _
  refine wpAny_bind (wpAny_updateSeq hS₁ rfl ?_)
  have hS₂ := Heap.get?_update_self (Obj.mapSeq (·.push Value.none)) hS₁ rfl
  refine wpAny_updateSeq hS₂ rfl ?_
  have hS₃ := Heap.get?_update_self (Obj.mapSeq (·.pop)) hS₂ rfl
  have gD := N1 _ List.mem_cons_self
  have sb2 : Heap.SameBut s.heap.objs.size (s.heap.push { cls := .type "list", data := .seq ([] : List Value).toArray }) ((s.heap.push { cls := .type "list", data := .seq ([] : List Value).toArray }).update s.heap.objs.size (Obj.mapSeq (·.push Value.none))) := Heap.SameBut.update ..
  have sb3 : Heap.SameBut s.heap.objs.size ((s.heap.push { cls := .type "list", data := .seq ([] : List Value).toArray }).update s.heap.objs.size (Obj.mapSeq (·.push Value.none))) (((s.heap.push { cls := .type "list", data := .seq ([] : List Value).toArray }).update s.heap.objs.size (Obj.mapSeq (·.push Value.none))).update s.heap.objs.size (Obj.mapSeq (·.pop))) := Heap.SameBut.update ..
  have F3 := (F1.change sb2 gD.2.1 gD.2.2).change sb3 gD.2.1 gD.2.2
  have N3 : News h₀ L (((s.heap.push { cls := .type "list", data := .seq ([] : List Value).toArray }).update s.heap.objs.size (Obj.mapSeq (·.push Value.none))).update s.heap.objs.size (Obj.mapSeq (·.pop)))
      ((s.heap.objs.size, Obj.mapSeq (·.pop) (Obj.mapSeq (·.push Value.none) { cls := .type "list", data := .seq ([] : List Value).toArray })) :: (MO, mapO TI (.ref f)) :: (TI, tupO [.ref it]) :: (it, { cls := .type "list_iterator", data := .fields #[.ref l, .int 0 0] }) :: news) := fun p hp => by
    rcases List.mem_cons.mp hp with rfl | hp
    · exact ⟨hS₃, gD.2⟩
    · have z := N1 p (List.mem_cons_of_mem _ hp)
      have ne : p.1 ≠ s.heap.objs.size := Nat.ne_of_lt (lt p hp)
      exact ⟨sb3.extBut _ _ ne (sb2.extBut _ _ ne z.1), z.2⟩
  have O : MOff s.heap.objs.size MO TI it news := ⟨hSI, Nat.ne_of_gt (lt _ (List.mem_cons_of_mem _ List.mem_cons_self)), Nat.ne_of_gt (lt _ (List.mem_cons_of_mem _ (List.mem_cons_of_mem _ List.mem_cons_self))), n1, n2, fun p hp => Nat.ne_of_lt (lt p (List.mem_cons_of_mem _ (List.mem_cons_of_mem _ (List.mem_cons_of_mem _ hp)))), n3⟩
  refine wpAny_pure ⟨plainId_quiet PySem.F.plain_extend_loop _, ext_loop hh hcalls hsz O hl items.size 0 _ #[] _ { cls := .type "list_iterator", data := .fields #[.ref l, .int 0 0] } rfl (Nat.zero_le _) rfl (fun j r h => by simp at h) rfl rfl F3 N3 fun h' tk' acc' c' z1 z2 F4 N4 => ?_⟩
  show wpAny _ A (load s.heap.objs.size >>= _) _ _ _
  refine wpAny_bind (wpAny_load (N4 _ List.mem_cons_self).1 ?_)
  exact wpAny_pure (hQ h' tk' acc' z1 z2 F4 fun p hp => N4 p (List.mem_cons_of_mem _ hp))
theorem call_tuple_map {Q : Value → Shared → Prop} {MO TI it : Addr} {G : Nat → Value → Prop} (hh : A.handled = none) (hcalls : MapCalls prog w A.in1.in1.in1.in1 h₀ L m f items G) (hsz : items.size ≤ sizeLine) (hl : (l, ({ cls := .type "list", data := .seq items n } : Obj)) ∈ news)
    (F : Fr h₀ L s.heap m) (N : News h₀ L s.heap ((MO, mapO TI (.ref f)) :: (TI, tupO [.ref it]) :: (it, { cls := .type "list_iterator", data := .fields #[.ref l, .int 0 0] }) :: news)) (n1 : MO ≠ it) (n2 : TI ≠ it) (n3 : ∀ p ∈ news, p.1 ≠ it)
    (hQ : ∀ D h' tk' (acc : Array Value), acc.size = items.size → (∀ j r, acc[j]? = some r → G j r) → Fr h₀ L h' m → News h₀ L h' ((D, { cls := .type "tuple", data := .seq acc }) :: news) → (∀ p ∈ news, p.1 < D) → Q (.ref D) { s with heap := h', toks := tk' }) :
    wpAny (model prog w) A (call (.type "tuple") [.ref MO]) Q E s := by
  have gM := N _ List.mem_cons_self
  refine callType_codes (Q₁ := fun obj s₁ => s₁.TypeIs obj "tuple" ∧ Q obj s₁) PySem.F.called_tuple (PySem.F.typeCall_tuple_1 _) PySem.F.entry_object_init ?_ fun obj s₁ h₁ => ?_
  · refine codeAny_of_tree ?_
    show wpAny _ A.in1.in1 (do checkBuiltinCall "tuple.__new__" ⟨[.type "tuple", .ref MO], []⟩; again (.builtin "tuple.__new__" ⟨[.type "tuple", .ref MO], []⟩)) _ _ s
    refine wpAny_bind (wpAny_of_eq (PySem.F.newCall_tuple_1 _) (wpAny_pure ⟨plainId_quiet PySem.F.plain_tuple_new _, codeAny_builtin PySem.F.entry_tuple_new ?_⟩))
    rw [Around.under_plainId PySem.F.plain_tuple_new _]
    have hsub := sub_tuple_self
    have hinit := init_tuple_lookup
    have hmh := madeHere_tuple
    have hTI : s.TypeIs (.ref MO) "map" := ⟨_, gM.1, rfl⟩
    wp_walk using wpAny_typeOf hTI, collect_map (A := A.in1.in1) hh hcalls hsz hl F N n1 n2 n3
    intro h' tk' acc ha hG F' N'
    show wpAny _ _ (Builtin.Tuple.tupleExact acc.toList.toArray >>= fun v => ret v) _ _ _
    unfold Builtin.Tuple.tupleExact
    refine wpAny_bind (wpAny_newObj_type ?_ (by show acc.toList.toArray.size ≤ sizeLine; simp only [Array.toArray_toList]; rw [ha]; exact hsz))
    refine wpAny_pure ?_
    have e : acc.toList.toArray = acc := by simp
    rw [e]
    exact ⟨⟨_, Heap.get?_push_size _ rfl, rfl⟩, hQ _ _ _ acc ha hG (F'.push _) (N'.push F' _) fun p hp => Heap.lt_size (N' p hp).1⟩
  · exact ⟨h₁.1, PySem.F.args_object_init_2 obj _, object_init_meets PySem.F.called_tuple.init.lookup PySem.F.called_tuple.made (by decide) prog w A.in1 _ s₁ ⟨h₁.1, rfl, h₁.2⟩⟩
end
end Mine
end

noncomputable section
namespace Mine
structure ZOff (z TI TO i1 i2 : Addr) (f1 f2 : List Addr) : Prop where
  zTI : TI ≠ z
  zTO : TO ≠ z
  zi1 : i1 ≠ z
  zi2 : i2 ≠ z
  TT : TI ≠ TO
  I1 : TI ≠ i1
  I2 : TI ≠ i2
  O1 : TO ≠ i1
  O2 : TO ≠ i2
  i12 : i1 ≠ i2
  z1 : z ∉ f1
  z2 : z ∉ f2
  o1 : TO ∉ f1
  o2 : TO ∉ f2
  a1 : i2 ∉ f1
  a2 : i1 ∉ f2
structure Feed (prog : Program) (w : World) (A : Around) (it : Addr) (fp : List Addr) (n : Nat) (P : Nat → Value → Prop) (St : Nat → Heap → Prop) : Prop where
  frame : ∀ i h h', St i h → (∀ b ∈ fp, ∀ o, h.get? b = some o → h'.get? b = some o) → St i h'
  item : ∀ i (s : Shared) (Q : Value → Shared → Prop) (E : Value → Shared → Prop), i < n → St i s.heap →
    (∀ x h' tk, P i x → St (i + 1) h' → Heap.SameBut it s.heap h' → Q x { s with heap := h', toks := tk }) → wpAny (model prog w) A (Builtin.SmallTypes.nextOf (.ref it)) Q E s
section
variable {prog : Program} {w : World} {A : Around} {E : Value → Shared → Prop} {s : Shared} {z TI TO i1 i2 : Addr} {f1 f2 : List Addr} {n1 n2 k : Nat} {P1 P2 : Nat → Value → Prop} {S1 S2 : Nat → Heap → Prop} {a b : Value}
theorem Draws.stays {it : Addr} {fp : List Addr} {n i : Nat} {P : Nat → Value → Prop} {St : Nat → Heap → Prop} (D : Draws prog w A it fp n P St) {h h' : Heap} {c : Addr} (hs : Heap.SameBut c h h') (hc : c ∉ fp) (st : St i h) : St i h' :=
  D.frame _ _ _ st fun b hb o e => hs.extBut b o (fun q => hc (q ▸ hb)) e
theorem Feed.stays {it : Addr} {fp : List Addr} {n i : Nat} {P : Nat → Value → Prop} {St : Nat → Heap → Prop} (D : Feed prog w A it fp n P St) {h h' : Heap} {c : Addr} (hs : Heap.SameBut c h h') (hc : c ∉ fp) (st : St i h) : St i h' :=
  D.frame _ _ _ st fun b hb o e => hs.extBut b o (fun q => hc (q ▸ hb)) e
theorem nextOf_tuple {it t : Addr} {i : Nat} {items : Array Value} {x : Value} {Q : Value → Shared → Prop} (hit : s.heap.IsTupleIter it t i) (ht : s.heap.IsTuple t items) (hx : items[i]? = some x)
    (hQ : ∀ h', h'.IsTupleIter it t (i + 1) → Heap.SameBut it s.heap h' → Q x { s with heap := h' }) : wpAny (model prog w) A (Builtin.SmallTypes.nextOf (.ref it)) Q E s := by
  have hty := hit.typeIs
  obtain ⟨o, ho, hc, hd⟩ := hit
  obtain ⟨ol, hol, _, nl, hdl⟩ := ht
  unfold Builtin.SmallTypes.nextOf
  refine wpAny_bind (wpAny_callSpecial?_slot (name := Str.ofString "__next__") hty F.slot_tuple_iterator_next (wpAny_call_entry F.slot_tuple_iterator_next hty F.entry_tuple_iterator_next ?_ (F.args_tuple_iterator_next_1 _)))
  show wpAny _ _ (field (.ref it) 0 >>= _) _ _ s
  refine wpAny_bind (wpAny_field ho hd (x := .ref t) rfl ?_)
  show wpAny _ _ (if (Value.ref t == Value.none) = true then _ else _) _ _ s
  rw [if_neg (by intro q; cases q)]
  show wpAny _ _ (field (.ref it) 1 >>= _) _ _ s
  refine wpAny_bind (wpAny_field ho hd (x := .int i 0) rfl ?_)
  show wpAny _ _ (seqItems? (.ref t) >>= _) _ _ s
  refine wpAny_bind (wpAny_seqItems hol hdl ?_)
  simp only [Int.toNat_natCast, hx]
  refine wpAny_bind (wpAny_setField ho hd (by simp) (wpAny_pure ⟨x, rfl, wpAny_pure (hQ _ ⟨_, Heap.get?_update_self _ ho (Obj.isFreed_of_fields (Obj.data_mapFields hd _)), (Obj.cls_mapFields ..).trans hc, ?_⟩ (Heap.SameBut.update ..))⟩))
  rw [Obj.data_mapFields hd]
  simp [rawInt]
theorem Feed.tuple (it l : Addr) (hne : l ≠ it) (items : Array Value) :
    Feed prog w A it [it, l] items.size (fun i v => items[i]? = some v) (fun i h => h.IsTupleIter it l i ∧ h.IsTuple l items) where
  frame := fun _ _ _ st hk => ⟨st.1.at fun o e => hk it (by simp) o e, st.2.at fun o e => hk l (by simp) o e⟩
  item := fun i s Q E hi st hQ => nextOf_tuple st.1 st.2 (Array.getElem?_eq_getElem hi) fun h' a b => hQ _ h' s.toks (Array.getElem?_eq_getElem hi) ⟨a, st.2.extBut b.extBut hne⟩ b
theorem zipD_item {Q : Value → Shared → Prop} (D1 : Draws prog w A i1 f1 n1 P1 S1) (D2 : Feed prog w A i2 f2 n2 P2 S2) (O : ZOff z TI TO i1 i2 f1 f2)
    (hz : IsZip s.heap z TI TO .none) (hTI : IsPair s.heap TI (.ref i1) (.ref i2)) (hTO : IsPair s.heap TO a b) (st1 : S1 k s.heap) (st2 : S2 k s.heap) (lt1 : k < n1) (lt2 : k < n2)
    (hQ : ∀ x y h' tk, P1 k x → P2 k y → IsZip h' z TI TO (rawInt s.heap.objs.size) → IsPair h' TO x y → S1 (k + 1) h' → S2 (k + 1) h' → IsPair h' s.heap.objs.size x y →
      (∀ c o, c ≠ z → c ≠ TO → c ≠ i1 → c ≠ i2 → s.heap.get? c = some o → h'.get? c = some o) → Q (.ref s.heap.objs.size) { s with heap := h', toks := tk }) :
    wpAny (model prog w) A (Builtin.«zip.__next__» ⟨[.ref z], []⟩) (fun fin s' => ∃ v, fin = .done (.ret v) ∧ Q v s') E s := by
  show wpAny _ _ (field (.ref z) 2 >>= _) _ _ _
  refine wpAny_bind (wpAny_field hz rfl (x := .bool false) rfl ?_)
  show wpAny _ _ (field (.ref z) 3 >>= _) _ _ _
  refine wpAny_bind (wpAny_field hz rfl (x := .ref TI) rfl (wpAny_bind (wpAny_seqItems hTI rfl ?_)))
  show wpAny _ _ (Builtin.SmallTypes.ownedTupleIsFree (.ref z) >>= _) _ _ _
  refine wpAny_bind (wpAny_bind (wpAny_field hz rfl (x := .none) rfl (wpAny_pure ?_)))
  simp only [if_true]
  refine wpAny_bind (wpAny_rule (wpAny_bind (wpAny_field hz rfl (x := .ref TO) rfl (wpAny_bind (wpAny_setField_rec hz (by simp) fun u1 z1 b1 => ?_)))))
  have z1' : IsZip u1 z TI TO .ellipsis := z1
  have t1 : IsPair u1 TO a b := b1.extBut _ _ O.zTO hTO
  have p1 := Draws.stays D1 b1 O.z1 st1
  have q1 := Feed.stays D2 b1 O.z2 st2
  refine wpAny_bind ?_
  simp only [List.zipIdx_cons, List.zipIdx_nil, List.forIn_cons, List.forIn_nil]
  refine wpAny_bind (wpAny_bind (wpAny_onRaise ?_))
  show wpAny _ _ (Builtin.SmallTypes.nextOf (.ref i1) >>= _) _ _ _
  refine wpAny_bind (D1.item k _ _ _ lt1 p1 fun x u2 k2 hx p2 b2 => wpAny_pure ?_)
  have b2 : Heap.SameBut i1 u1 u2 := b2
  have t2 : IsPair u2 TO a b := b2.extBut _ _ O.O1 t1
  refine wpAny_bind (wpAny_seqItems t2 rfl (wpAny_bind (wpAny_updateSeq_pair t2 fun u3 t3 b3 => wpAny_bind (wpAny_letGo (wpAny_pure ?_)))))
  have t3 : IsPair u3 TO x b := t3
  have b3 : Heap.SameBut TO u2 u3 := b3
  have q3 : S2 k u3 := Feed.stays D2 b3 O.o2 (Feed.stays D2 b2 O.a2 q1)
  have p3 : S1 (k + 1) u3 := Draws.stays D1 b3 O.o1 p2
  refine wpAny_bind (wpAny_bind (wpAny_onRaise ?_))
  show wpAny _ _ (Builtin.SmallTypes.nextOf (.ref i2) >>= _) _ _ _
  refine wpAny_bind (D2.item k _ _ _ lt2 q3 fun y u4 k4 hy q4 b4 => wpAny_pure ?_)
  have b4 : Heap.SameBut i2 u3 u4 := b4
  have t4 : IsPair u4 TO x b := b4.extBut _ _ O.O2 t3
  refine wpAny_bind (wpAny_seqItems t4 rfl (wpAny_bind (wpAny_updateSeq_pair t4 fun u5 t5 b5 => wpAny_bind (wpAny_letGo (wpAny_pure (wpAny_pure ?_))))))
  have t5 : IsPair u5 TO x y := t5
  have b5 : Heap.SameBut TO u4 u5 := b5
  have p5 : S1 (k + 1) u5 := Draws.stays D1 b5 O.o1 (Draws.stays D1 b4 O.a1 p3)
  have q5 : S2 (k + 1) u5 := Feed.stays D2 b5 O.o2 q4
  have keep : ∀ c o, c ≠ z → c ≠ TO → c ≠ i1 → c ≠ i2 → s.heap.get? c = some o → u5.get? c = some o := fun c o c1 c2 c3 c4 e =>
    b5.extBut _ _ c2 (b4.extBut _ _ c4 (b3.extBut _ _ c2 (b2.extBut _ _ c3 (b1.extBut _ _ c1 e))))
  have z5 : IsZip u5 z TI TO .ellipsis := b5.extBut _ _ O.zTO.symm (b4.extBut _ _ O.zi2.symm (b3.extBut _ _ O.zTO.symm (b2.extBut _ _ O.zi1.symm z1')))
  have hsz : u5.objs.size = s.heap.objs.size := by rw [b5.1, b4.1, b3.1, b2.1]; exact b1.1
  refine wpAny_bind (wpAny_seqItems t5 rfl (wpAny_bind (wpAny_newTuple ?_)))
  show wpAny _ _ (Builtin.SmallTypes.ownedTupleHandOut (.ref z) (.ref u5.objs.size) >>= _) _ _ _
  have z6 : IsZip (u5.push { cls := .type "tuple", data := .seq #[x, y] }) z TI TO .ellipsis := Heap.get?_push_of_some _ z5
  refine wpAny_bind (wpAny_bind (wpAny_setField_rec z6 (by simp) fun u7 z7 b7 => ?_))
  have z7 : IsZip u7 z TI TO (rawInt u5.objs.size) := z7
  refine wpAny_setField_rec z7 (by simp) fun u8 z8 b8 => wpAny_pure ⟨_, rfl, ?_⟩
  have z8 : IsZip u8 z TI TO (rawInt u5.objs.size) := z8
  have b78 : ∀ c o, c ≠ z → u5.get? c = some o → u8.get? c = some o := fun c o c1 e => b8.extBut _ _ c1 (b7.extBut _ _ c1 (Heap.get?_push_of_some _ e))
  have hzl : z < u5.objs.size := Heap.lt_size z5
  have T8 : IsPair u8 u5.objs.size x y := b8.extBut _ _ (Nat.ne_of_gt hzl) (b7.extBut _ _ (Nat.ne_of_gt hzl) (Heap.get?_push_size _ rfl))
  show Q (.ref u5.objs.size) _
  rw [hsz] at z8 T8 ⊢
  exact hQ x y u8 _ hx hy z8 (b78 _ _ O.zTO t5) (D1.frame _ _ _ p5 fun c hc o e => b78 c o (fun q => O.z1 (q ▸ hc)) e) (D2.frame _ _ _ q5 fun c hc o e => b78 c o (fun q => O.z2 (q ▸ hc)) e) T8
    fun c o c1 c2 c3 c4 e => b78 c o c1 (keep c o c1 c2 c3 c4 e)
theorem zipD_end {Q : Fin → Shared → Prop} (D1 : Draws prog w A i1 f1 n1 P1 S1) (O : ZOff z TI TO i1 i2 f1 f2)
    (hz : IsZip s.heap z TI TO .none) (hTI : IsPair s.heap TI (.ref i1) (.ref i2)) (st1 : S1 n1 s.heap)
    (hE : ∀ h' e, (∀ c o, c ≠ z → c ≠ TO → c ≠ i1 → c ≠ i2 → s.heap.get? c = some o → h'.get? c = some o) → (∃ o, h'.get? e = some o ∧ o.cls = .type "StopIteration") → E (.ref e) { s with heap := h' }) :
    wpAny (model prog w) A (Builtin.«zip.__next__» ⟨[.ref z], []⟩) Q E s := by
  show wpAny _ _ (field (.ref z) 2 >>= _) _ _ _
  refine wpAny_bind (wpAny_field hz rfl (x := .bool false) rfl ?_)
  show wpAny _ _ (field (.ref z) 3 >>= _) _ _ _
  refine wpAny_bind (wpAny_field hz rfl (x := .ref TI) rfl (wpAny_bind (wpAny_seqItems hTI rfl ?_)))
  show wpAny _ _ (Builtin.SmallTypes.ownedTupleIsFree (.ref z) >>= _) _ _ _
  refine wpAny_bind (wpAny_bind (wpAny_field hz rfl (x := .none) rfl (wpAny_pure ?_)))
  simp only [if_true]
  refine wpAny_bind (wpAny_rule (wpAny_bind (wpAny_field hz rfl (x := .ref TO) rfl (wpAny_bind (wpAny_setField_rec hz (by simp) fun u1 z1 b1 => ?_)))))
  have z1' : IsZip u1 z TI TO .ellipsis := z1
  refine wpAny_bind ?_
  simp only [List.zipIdx_cons, List.zipIdx_nil, List.forIn_cons, List.forIn_nil]
  refine wpAny_bind (wpAny_bind (wpAny_onRaise ?_))
  show wpAny _ _ (Builtin.SmallTypes.nextOf (.ref i1) >>= _) _ _ _
  refine wpAny_bind (D1.done _ _ _ (Draws.stays D1 b1 O.z1 st1) fun u2 e b2 he => ?_)
  obtain ⟨oe, hoe, hce⟩ := he
  have z2 : IsZip u2 z TI TO .ellipsis := b2 _ _ O.zi1.symm z1'
  have hez : e ≠ z := fun q => by subst q; rw [z2] at hoe; cases hoe; simp at hce
  refine wpAny_setField_rec z2 (by simp) fun u3 _ b3 => hE u3 e (fun c o c1 _ c3 _ q => b3.extBut _ _ c1 (b2 _ _ c3 (b1.extBut _ _ c1 q))) ⟨oe, b3.extBut _ _ hez hoe, hce⟩
theorem zipD_next_item {Q : Option Value → Shared → Prop} (D1 : Draws prog w A.in1 i1 f1 n1 P1 S1) (D2 : Feed prog w A.in1 i2 f2 n2 P2 S2) (O : ZOff z TI TO i1 i2 f1 f2)
    (hz : IsZip s.heap z TI TO .none) (hTI : IsPair s.heap TI (.ref i1) (.ref i2)) (hTO : IsPair s.heap TO a b) (st1 : S1 k s.heap) (st2 : S2 k s.heap) (lt1 : k < n1) (lt2 : k < n2)
    (hQ : ∀ x y h' tk, P1 k x → P2 k y → IsZip h' z TI TO (rawInt s.heap.objs.size) → IsPair h' TO x y → S1 (k + 1) h' → S2 (k + 1) h' → IsPair h' s.heap.objs.size x y →
      (∀ c o, c ≠ z → c ≠ TO → c ≠ i1 → c ≠ i2 → s.heap.get? c = some o → h'.get? c = some o) → Q (some (.ref s.heap.objs.size)) { s with heap := h', toks := tk }) :
    wpAny (model prog w) A (pyNext (.ref z)) Q E s := by
  have hT : s.TypeIs (.ref z) "zip" := ⟨_, hz, rfl⟩
  unfold pyNext
  exact wpAny_bind (wpAny_attempt (wpAny_callSpecial?_slot (name := Str.ofString "__next__") hT F.slot_zip_next (wpAny_call_entry F.slot_zip_next hT F.entry_zip_next
    (zipD_item D1 D2 O hz hTI hTO st1 st2 lt1 lt2 fun x y h' tk a1 a2 a3 a4 a5 a6 a7 a8 => wpAny_pure (hQ x y h' tk a1 a2 a3 a4 a5 a6 a7 a8)) (F.args_zip_next_1 _))))
theorem zipD_next_end {Q : Option Value → Shared → Prop} (D1 : Draws prog w A.in1 i1 f1 n1 P1 S1) (O : ZOff z TI TO i1 i2 f1 f2)
    (hz : IsZip s.heap z TI TO .none) (hTI : IsPair s.heap TI (.ref i1) (.ref i2)) (st1 : S1 n1 s.heap)
    (hQ : ∀ h', (∀ c o, c ≠ z → c ≠ TO → c ≠ i1 → c ≠ i2 → s.heap.get? c = some o → h'.get? c = some o) → Q none { s with heap := h' }) : wpAny (model prog w) A (pyNext (.ref z)) Q E s := by
  have hT : s.TypeIs (.ref z) "zip" := ⟨_, hz, rfl⟩
  unfold pyNext
  refine wpAny_bind (wpAny_attempt (wpAny_callSpecial?_slot (name := Str.ofString "__next__") hT F.slot_zip_next (wpAny_call_entry F.slot_zip_next hT F.entry_zip_next
    (zipD_end D1 O hz hTI st1 fun h' e hk he => ?_) (F.args_zip_next_1 _))))
  obtain ⟨o, ho, hc⟩ := he
  exact wpAny_bind (wpAny_isInstance (T := "StopIteration") (b := true) ⟨o, ho, hc⟩ isSubtype_stop (wpAny_pure (hQ _ hk)))
theorem WalksT.zipD (D1 : Draws prog w A.in1 i1 f1 n1 P1 S1) (D2 : Feed prog w A.in1 i2 f2 n2 P2 S2) (O : ZOff z TI TO i1 i2 f1 f2) (hn : n1 ≤ n2)
    (l1 : ∀ i h, S1 i h → ∃ o, h.get? i1 = some o) (l2 : ∀ i h, S2 i h → ∃ o, h.get? i2 = some o) :
    WalksT prog w A z (z :: TI :: TO :: i1 :: i2 :: (f1 ++ f2)) [z, TO, i1, i2] n1
      (fun i vals => ∃ x y, P1 i x ∧ P2 i y ∧ vals = #[x, y])
      (fun i h => IsZip h z TI TO .none ∧ IsPair h TI (.ref i1) (.ref i2) ∧ (∃ a b, IsPair h TO a b) ∧ S1 i h ∧ S2 i h)
      (fun i T h => IsZip h z TI TO (rawInt T) ∧ IsPair h TI (.ref i1) (.ref i2) ∧ (∃ a b, IsPair h TO a b) ∧ S1 (i + 1) h ∧ S2 (i + 1) h ∧ T ≠ z ∧ T ≠ TO ∧ T ≠ i1 ∧ T ≠ i2) where
  sub := by ((repeat (refine allc (by ((repeat (first | exact List.Mem.head _ | refine List.Mem.tail _ ?_ | assumption | (refine List.mem_append_left _ ?_; assumption) | refine List.mem_append_right _ ?_)); done)) ?_)); first | exact List.forall_mem_nil _ | (intro z9 h9; (repeat (first | exact h9 | refine List.Mem.tail _ ?_ | exact List.mem_append_left _ h9 | refine List.mem_append_right _ ?_)); done))
  frame := fun i h h' hst hk => by
    obtain ⟨hz, hTI, ⟨a, b, hTO⟩, st1, st2⟩ := hst
    exact ⟨hk z (by ((repeat (first | exact List.Mem.head _ | refine List.Mem.tail _ ?_ | assumption | (refine List.mem_append_left _ ?_; assumption) | refine List.mem_append_right _ ?_)); done)) _ hz, hk TI (by ((repeat (first | exact List.Mem.head _ | refine List.Mem.tail _ ?_ | assumption | (refine List.mem_append_left _ ?_; assumption) | refine List.mem_append_right _ ?_)); done)) _ hTI, ⟨a, b, hk TO (by ((repeat (first | exact List.Mem.head _ | refine List.Mem.tail _ ?_ | assumption | (refine List.mem_append_left _ ?_; assumption) | refine List.mem_append_right _ ?_)); done)) _ hTO⟩, D1.frame _ _ _ st1 fun c hc => hk c (by simp [hc]), D2.frame _ _ _ st2 fun c hc => hk c (by simp [hc])⟩
  item := fun i s Q E hi hst hQ => by
    obtain ⟨hz, hTI, ⟨a, b, hTO⟩, st1, st2⟩ := hst
    refine zipD_next_item D1 D2 O hz hTI hTO st1 st2 hi (Nat.lt_of_lt_of_le hi hn) fun x y h' tk hx hy a1 a2 a3 a4 a5 hk => ?_
    have lt : ∀ {c o}, s.heap.get? c = some o → s.heap.objs.size ≠ c := fun e => Nat.ne_of_gt (Heap.lt_size e)
    exact hQ s.heap.objs.size #[x, y] h' tk ⟨_, _, hx, hy, rfl⟩ (Nat.le_refl _) ⟨_, a5, rfl, _, rfl⟩
      ⟨a1, hk _ _ O.zTI O.TT O.I1 O.I2 hTI, ⟨_, _, a2⟩, a3, a4, lt hz, lt hTO, (let ⟨_, e⟩ := l1 _ _ st1; lt e), (let ⟨_, e⟩ := l2 _ _ st2; lt e)⟩
      fun c o hc e => hk c o (fun x => hc (by rw [x]; ((repeat (first | exact List.Mem.head _ | refine List.Mem.tail _ ?_ | assumption | (refine List.mem_append_left _ ?_; assumption) | refine List.mem_append_right _ ?_)); done))) (fun x => hc (by rw [x]; ((repeat (first | exact List.Mem.head _ | refine List.Mem.tail _ ?_ | assumption | (refine List.mem_append_left _ ?_; assumption) | refine List.mem_append_right _ ?_)); done))) (fun x => hc (by rw [x]; ((repeat (first | exact List.Mem.head _ | refine List.Mem.tail _ ?_ | assumption | (refine List.mem_append_left _ ?_; assumption) | refine List.mem_append_right _ ?_)); done))) (fun x => hc (by rw [x]; ((repeat (first | exact List.Mem.head _ | refine List.Mem.tail _ ?_ | assumption | (refine List.mem_append_left _ ?_; assumption) | refine List.mem_append_right _ ?_)); done))) e
  go := fun elts k pos i T s Q E hm hQ => by
    obtain ⟨hz, hTI, ⟨a, b, hTO⟩, st1, st2, _⟩ := hm
    exact wpAny_letOwnedTupleGo_zip hz fun h' hz' hs' => hQ h' ⟨hz', hs'.extBut _ _ O.zTI hTI, ⟨a, b, hs'.extBut _ _ O.zTO hTO⟩, Draws.stays D1 hs' O.z1 st1, Feed.stays D2 hs' O.z2 st2⟩
      fun c o hc e => hs'.extBut _ _ (fun x => hc (by rw [x]; ((repeat (first | exact List.Mem.head _ | refine List.Mem.tail _ ?_ | assumption | (refine List.mem_append_left _ ?_; assumption) | refine List.mem_append_right _ ?_)); done))) e
  apart := fun i T h hm hT => by
    obtain ⟨_, _, _, _, _, t1, t2, t3, t4⟩ := hm
    simp at hT
    rcases hT with e | e | e | e
    · exact t1 e
    · exact t2 e
    · exact t3 e
    · exact t4 e
  done := fun s Q E hst hQ => by
    obtain ⟨hz, hTI, _, st1, _⟩ := hst
    exact zipD_next_end D1 O hz hTI st1 fun h' hk => hQ h' s.toks fun c o hc e =>
      hk c o (fun x => hc (by rw [x]; ((repeat (first | exact List.Mem.head _ | refine List.Mem.tail _ ?_ | assumption | (refine List.mem_append_left _ ?_; assumption) | refine List.mem_append_right _ ?_)); done))) (fun x => hc (by rw [x]; ((repeat (first | exact List.Mem.head _ | refine List.Mem.tail _ ?_ | assumption | (refine List.mem_append_left _ ?_; assumption) | refine List.mem_append_right _ ?_)); done))) (fun x => hc (by rw [x]; ((repeat (first | exact List.Mem.head _ | refine List.Mem.tail _ ?_ | assumption | (refine List.mem_append_left _ ?_; assumption) | refine List.mem_append_right _ ?_)); done))) (fun x => hc (by rw [x]; ((repeat (first | exact List.Mem.head _ | refine List.Mem.tail _ ?_ | assumption | (refine List.mem_append_left _ ?_; assumption) | refine List.mem_append_right _ ?_)); done))) e
  self := fun i s Q E hst hQ => wpAny_pyIter_zip hst.1 hQ
end
theorem zip_new_st (x : Str) (t : Tok) (l2 : Addr) (ys : Array Value) :
    Meets (Builtin.«zip.__new__» ⟨[.type "zip", .str x t, .ref l2], []⟩) (fun _ R s => s.heap.IsTuple l2 ys ∧
      ∀ h1 h2 h3 h4, h1 = s.heap.push { cls := .type (strIterType x), data := .fields #[.str x t, .int 0 0] } → h2 = h1.push { cls := .type "tuple_iterator", data := .fields #[.ref l2, .int 0 0] } →
        h3 = h2.push { cls := .type "tuple", data := .seq #[.ref s.heap.objs.size, .ref h1.objs.size] } → h4 = h3.push { cls := .type "tuple", data := .seq #[.none, .none] } →
        R (.ok (.ret (.ref h4.objs.size))) { s with heap := h4.push { cls := .type "zip", data := .fields #[.none, .bool false, .bool false, .ref h2.objs.size, .ref h3.objs.size] } }) :=
  .of_wp fun prog w A R s h => by
    obtain ⟨hp, g, d, tk, os⟩ := s; obtain ⟨hl2, h⟩ := h
    have hsub := sub_zip
    have hL2 : Heap.IsTuple (Shared.heap ⟨hp.push { cls := .type (strIterType x), data := .fields #[.str x t, .int 0 0] }, g, d, tk, os⟩) l2 ys := Heap.IsTuple.push hl2 _
    wp_walk using wpAny_pyIter_strU, wpAny_pyIter_tuple hL2
    exact ⟨_, rfl, h _ _ _ _ rfl rfl rfl rfl⟩
end Mine
end

noncomputable section
namespace Mine
def stItems : List Nat → List Value → List Itm
  | c :: r, y :: q => .pair (fun t => .str ⟨#[c]⟩ t) y :: stItems r q
  | _, _ => []
theorem stItems_len : ∀ (cs : List Nat) (ys : List Value), cs.length ≤ ys.length → (stItems cs ys).length = cs.length
  | [], _, _ => rfl
  | _ :: _, [], h => absurd h (by simp)
  | _ :: r, _ :: q, h => congrArg (· + 1) (stItems_len r q (by simpa using h))
theorem stItems_get : ∀ (cs : List Nat) (ys : List Value) (i : Nat) {c : Nat} {y : Value}, cs[i]? = some c → ys[i]? = some y → (stItems cs ys)[i]? = some (.pair (fun t => .str ⟨#[c]⟩ t) y)
  | [], _, _, _, _, h, _ => by simp at h
  | _ :: _, [], _, _, _, _, h => by simp at h
  | c' :: r, y' :: q, 0, c, y, h, h' => by
    have e : c' = c := by simpa using h
    have e' : y' = y := by simpa using h'
    subst e e'
    rfl
  | c' :: r, y' :: q, i + 1, c, y, h, h' => by
    have g := stItems_get r q i (c := c) (y := y) (by simpa using h) (by simpa using h')
    simpa [stItems] using g
section
variable {prog : Program} {w : World} {A : Around} {E : Value → Shared → Prop} {s : Shared} {env : Env} {h₀ : Heap} {target : Expr} {body : List Stmt} {Q : Flow → Shared → Prop}
theorem call_zip_st {x : Str} {t : Tok} {l2 : Addr} {ys : Array Value} {Q : Value → Shared → Prop} (hl2 : s.heap.IsTuple l2 ys)
    (h : ∀ h', IsZip h' (s.heap.objs.size + 4) (s.heap.objs.size + 2) (s.heap.objs.size + 3) .none → IsPair h' (s.heap.objs.size + 2) (.ref s.heap.objs.size) (.ref (s.heap.objs.size + 1)) →
      IsPair h' (s.heap.objs.size + 3) .none .none → h'.IsStrIter s.heap.objs.size (strIterType x) x t 0 → h'.IsTupleIter (s.heap.objs.size + 1) l2 0 →
      (∀ c o, s.heap.get? c = some o → h'.get? c = some o) → Q (.ref (s.heap.objs.size + 4)) { s with heap := h' }) :
    wpAny (model prog w) A (call (.type "zip") [.str x t, .ref l2]) Q E s := by
  refine callType_new F.called_zip (by decide) (F.typeCall_zip_2 _ _) (F.newCall_zip_2 _ _) (fun obj => F.args_object_init_3 obj _ _) F.entry_zip_new (zip_new_st x t l2 ys) ⟨hl2, ?_⟩
  intro h1 h2 h3 h4 e1 e2 e3 e4
  have z1 : h1.objs.size = s.heap.objs.size + 1 := by rw [e1]; exact Heap.size_push ..
  have z2 : h2.objs.size = s.heap.objs.size + 2 := by rw [e2, Heap.size_push, z1]
  have z3 : h3.objs.size = s.heap.objs.size + 3 := by rw [e3, Heap.size_push, z2]
  have z4 : h4.objs.size = s.heap.objs.size + 4 := by rw [e4, Heap.size_push, z3]
  have k1 : ∀ c o, s.heap.get? c = some o → h1.get? c = some o := fun c o e => by rw [e1]; exact Heap.get?_push_of_some _ e
  have k2 : ∀ c o, h1.get? c = some o → h2.get? c = some o := fun c o e => by rw [e2]; exact Heap.get?_push_of_some _ e
  have k3 : ∀ c o, h2.get? c = some o → h3.get? c = some o := fun c o e => by rw [e3]; exact Heap.get?_push_of_some _ e
  have k4 : ∀ c o, h3.get? c = some o → h4.get? c = some o := fun c o e => by rw [e4]; exact Heap.get?_push_of_some _ e
  have k5 : ∀ c o, h4.get? c = some o → (h4.push { cls := .type "zip", data := .fields #[.none, .bool false, .bool false, .ref h2.objs.size, .ref h3.objs.size] }).get? c = some o := fun c o e => Heap.get?_push_of_some _ e
  have g1 : h1.get? s.heap.objs.size = some { cls := .type (strIterType x), data := .fields #[.str x t, .int 0 0] } := by rw [e1]; exact Heap.get?_push_size _ rfl
  have g2 : h2.get? h1.objs.size = some { cls := .type "tuple_iterator", data := .fields #[.ref l2, .int 0 0] } := by rw [e2]; exact Heap.get?_push_size _ rfl
  have g3 : h3.get? h2.objs.size = some { cls := .type "tuple", data := .seq #[.ref s.heap.objs.size, .ref h1.objs.size] } := by rw [e3]; exact Heap.get?_push_size _ rfl
  have g4 : h4.get? h3.objs.size = some { cls := .type "tuple", data := .seq #[.none, .none] } := by rw [e4]; exact Heap.get?_push_size _ rfl
  have g5 : (h4.push { cls := .type "zip", data := .fields #[.none, .bool false, .bool false, .ref h2.objs.size, .ref h3.objs.size] }).get? h4.objs.size = some { cls := .type "zip", data := .fields #[.none, .bool false, .bool false, .ref h2.objs.size, .ref h3.objs.size] } := Heap.get?_push_size _ rfl
  refine ⟨⟨_, g5, rfl⟩, ?_⟩
  rw [z4] at g5 ⊢
  rw [z1] at g2 g3
  rw [z2] at g3
  rw [z3] at g4
  have g5' : IsZip (h4.push { cls := .type "zip", data := .fields #[.none, .bool false, .bool false, .ref h2.objs.size, .ref h3.objs.size] }) (s.heap.objs.size + 4) (s.heap.objs.size + 2) (s.heap.objs.size + 3) .none := by
    unfold IsZip; rw [g5, z2, z3]
  exact h _ g5' (k5 _ _ (k4 _ _ g3)) (k5 _ _ g4) ⟨_, k5 _ _ (k4 _ _ (k3 _ _ (k2 _ _ g1))), rfl, rfl⟩ ⟨_, k5 _ _ (k4 _ _ (k3 _ _ g2)), rfl, rfl⟩ fun c o e => k5 _ _ (k4 _ _ (k3 _ _ (k2 _ _ (k1 _ _ e))))
theorem itemsRest_of {ws : List (Addr × String)} {keep : List (Addr × Obj)} {items : List Itm} (J : Nat → (Str → Option Value) → List (Addr × Obj) → Prop) (hk : ∀ i m news, J i m news → SubL keep news)
    (turn : ∀ i a m news v h tk, items[i]? = some a → J i m news → a.Is v h → Fr h₀ env.locals h m → AllObj ws (fun its => News h₀ env.locals h (its ++ news) →
      wpAny (model prog w) A (assign target env v) (fun _ s₂ => wpAny (model prog w) A (execs body env) (UnrPostW h₀ env.locals { s with heap := h, toks := tk } its (fun m' n' => J (i + 1) m' n') Q) E s₂) E { s with heap := h, toks := tk }))
    (fin : ∀ m news h tk, J items.length m news → Fr h₀ env.locals h m → News h₀ env.locals h news → Q .next { s with heap := h, toks := tk }) :
    ∀ (k i : Nat) (m : Str → Option Value) (news : List (Addr × Obj)), items.length - i = k → i ≤ items.length → J i m news → ItemsRest prog w A E h₀ env target body Q s ws keep (items.drop i) m news := by
  intro k
  induction k with
  | zero =>
    intro i m news hik hi hJ
    have e : i = items.length := by (first | lia | omega)
    subst e
    rw [List.drop_length]
    exact fun h tk F N => fin m news h tk hJ F N
  | succ k ih =>
    intro i m news hik hi hJ
    have hlt : i < items.length := by (first | lia | omega)
    rw [List.drop_eq_getElem_cons hlt]
    intro v h tk ha F
    have t := turn i items[i] m news v h tk (List.getElem?_eq_getElem hlt) hJ ha F
    have mono : ∀ (ws : List (Addr × String)) (f g : List (Addr × Obj) → Prop), (∀ its, f its → g its) → AllObj ws f → AllObj ws g := by
      intro ws
      induction ws with
      | nil => intro f g hfg hf; exact hfg _ hf
      | cons w r ih2 => intro f g hfg hf o ho; exact ih2 _ _ (fun its => hfg _) (hf o ho)
    refine mono ws _ _ (fun its hN N => ?_) t
    refine wpAny_mono (hN N) (fun _ s₂ h₂ => wpAny_mono h₂ (fun f s₃ p => ?_) fun _ _ e => e) fun _ _ e => e
    have up : UnrEndW h₀ env.locals { s with heap := h, toks := tk } its (fun m' n' => J (i + 1) m' n') s₃ → UnrEndW h₀ env.locals { s with heap := h, toks := tk } its (fun m' n' => SubL keep n' ∧ ItemsRest prog w A E h₀ env target body Q s ws keep (items.drop (i + 1)) m' n') s₃ := by
      rintro ⟨h', tk', m', news', e, F', N', off, hJ'⟩
      exact ⟨h', tk', m', news', e, F', N', off, hk _ _ _ hJ', ih (i + 1) m' news' (by (first | lia | omega)) hlt hJ'⟩
    cases f with
    | ret v => exact p
    | brk => exact p
    | next => exact up p
    | cont => exact up p
theorem itemsRest_h {ws : List (Addr × String)} {keep : List (Addr × Obj)} {items : List Itm} (J : Nat → (Str → Option Value) → List (Addr × Obj) → Prop) (hk : ∀ i m news, J i m news → SubL keep news)
    (turn : ∀ i a m news v h tk, items[i]? = some a → J i m news → a.Is v h → Fr h₀ env.locals h m → ∀ Q' : List (Addr × Obj) → Flow → Shared → Prop, (∀ its f s', UnrPostW h₀ env.locals { s with heap := h, toks := tk } its (fun m' n' => J (i + 1) m' n') Q f s' → Q' its f s') →
      AllObj ws (fun its => News h₀ env.locals h (its ++ news) →
        wpAny (model prog w) A (assign target env v) (fun _ s₂ => wpAny (model prog w) A (execs body env) (Q' its) (fun _ _ => False) s₂) (fun _ _ => False) { s with heap := h, toks := tk }))
    (fin : ∀ m news h tk, J items.length m news → Fr h₀ env.locals h m → News h₀ env.locals h news → Q .next { s with heap := h, toks := tk }) :
    ∀ (k i : Nat) (m : Str → Option Value) (news : List (Addr × Obj)), items.length - i = k → i ≤ items.length → J i m news → ItemsRest prog w A E h₀ env target body Q s ws keep (items.drop i) m news :=
  itemsRest_of J hk (fun i a m news v h tk ha hJ hv F => by
    have t := turn i a m news v h tk ha hJ hv F _ fun _ _ _ x => x
    have mono : ∀ (ws : List (Addr × String)) (f g : List (Addr × Obj) → Prop), (∀ its, f its → g its) → AllObj ws f → AllObj ws g := by
      intro ws
      induction ws with
      | nil => intro f g hfg hf; exact hfg _ hf
      | cons w r ih2 => intro f g hfg hf o ho; exact ih2 _ _ (fun its => hfg _) (hf o ho)
    exact mono ws _ _ (fun its hN N => wpAny_mono (hN N) (fun _ s₂ h₂ => wpAny_mono h₂ (fun _ _ p => p) fun _ _ e => e.elim) fun _ _ e => e.elim) t) fin
theorem unr_end {L : Addr} {its all : List (Addr × Obj)} {rest : (Str → Option Value) → List (Addr × Obj) → Prop} {s₁ : Shared} {h' : Heap} {tk : Nat} {m' : Str → Option Value} (news' : List (Addr × Obj)) (F : Fr h₀ L h' m') (N : News h₀ L h' all)
    (hI : ∀ p ∈ its, p ∈ all) (sub : ∀ p ∈ news', p ∈ all) (off : ∀ p ∈ news', ∀ q ∈ its, p.1 ≠ q.1) (r : rest m' news') : UnrEndW h₀ L s₁ its rest { s₁ with heap := h', toks := tk } :=
  ⟨h', tk, m', news', rfl, F, fun p hp => by
    rcases List.mem_append.mp hp with hp | hp
    · exact N p (hI p hp)
    · exact N p (sub p hp), off, r⟩
theorem off_nat {I a : Nat} (h : a < I ∨ I + 4 < a) (k : Nat) (hk : k ≤ 4) : a ≠ I + k := by (first | lia | omega)
theorem off_its {I : Nat} {o1 o2 o3 o4 o5 : Obj} {news' : List (Addr × Obj)} (h : ∀ p ∈ news', (p.1 : Nat) < I ∨ I + 4 < (p.1 : Nat)) : ∀ p ∈ news', ∀ q ∈ [(I + 4, o1), (I + 2, o2), (I + 3, o3), (I, o4), (I + 1, o5)], p.1 ≠ q.1 := fun p hp q hq => by
  have hp' := h p hp
  simp only [List.mem_cons, List.not_mem_nil, or_false] at hq
  rcases hq with rfl | rfl | rfl | rfl | rfl
  · exact off_nat hp' 4 (by decide)
  · exact off_nat hp' 2 (by decide)
  · exact off_nat hp' 3 (by decide)
  · exact off_nat hp' 0 (by decide)
  · exact off_nat hp' 1 (by decide)
theorem zoff_new {n l2 : Nat} (h : l2 < n) : ZOff (n + 4) (n + 2) (n + 3) n (n + 1) [n] [n + 1, l2] := by
  constructor <;> (try simp only [List.mem_cons, List.not_mem_nil, or_false, not_or]) <;> (try constructor) <;> (refine neN ?_; (first | lia | omega))
theorem turns_zip {elts : List Expr} {k : Nat} {pos : Pos} {x : Str} {t : Tok} {l2 : Addr} {lo2 : Obj} {ys : List Value} {n2 : Nat} {m₀ : Str → Option Value} {news : List (Addr × Obj)} {its : List Itm}
    (hh : A.handled = none) (F : Fr h₀ env.locals s.heap m₀) (N : News h₀ env.locals s.heap news) (hm2 : (l2, lo2) ∈ news) (hc2 : lo2.cls = .type "tuple") (hd2 : lo2.data = .seq ys.toArray n2)
    (hx : strIterType x = "str_ascii_iterator") (hn : x.cps.size ≤ ys.length) (hit : stItems x.cps.toList ys = its)
    (rest₀ : ∀ I : Addr, (∀ p ∈ news, p.1 < I) → ItemsRest prog w A E h₀ env (.Tuple elts k pos) body Q s [(I + 4, "zip"), (I + 2, "tuple"), (I + 3, "tuple"), (I, "str_ascii_iterator"), (I + 1, "tuple_iterator")] [(l2, lo2)] its m₀ news) :
    wpAny (model prog w) A (call (.type "zip") [.str x t, .ref l2]) (fun xv s₁ => wpAny (model prog w) A (pyIter xv) (fun it s₂ => TurnsAt prog w A h₀ env (.Tuple elts k pos) body Q E it s₂) E s₁) E s := by
  subst hit
  have hax := N _ hm2
  have hl2 : s.heap.IsTuple l2 ys.toArray := ⟨lo2, hax.1, hc2, n2, hd2⟩
  have hlt : l2 < s.heap.objs.size := Heap.lt_size hax.1
  have hLs : env.locals < s.heap.objs.size := F.ns.lt
  have O := zoff_new hlt
  refine call_zip_st hl2 fun h' hz hTI hTO hi1 hi2 hk => ?_
  rw [hx] at hi1
  refine wpAny_pyIter_zip hz ?_
  have D1 := Draws.strAscii (prog := prog) (w := w) (A := A.in1) hh s.heap.objs.size x t
  have D2 := Feed.tuple (prog := prog) (w := w) (A := A.in1) (s.heap.objs.size + 1) l2 (Nat.ne_of_lt (Nat.lt_succ_of_lt hlt)) ys.toArray
  have W := WalksT.zipD D1 D2 O (by simpa using hn) (fun _ _ ⟨o, ho, _⟩ => ⟨o, ho⟩) (fun _ _ ⟨⟨o, ho, _⟩, _⟩ => ⟨o, ho⟩)
  have new : ∀ j, h₀.get? (s.heap.objs.size + j) = none := fun j => ktu_new F (Nat.le_add_right _ _)
  have new0 : h₀.get? s.heap.objs.size = none := ktu_new F (Nat.le_refl _)
  have nL : ∀ j, env.locals ≠ s.heap.objs.size + j := fun j => ktu_ne j hLs
  refine ktu_core (tk0 := s.toks) (keep := [(l2, lo2)]) (KTurns.ofWalksU W.toU) ?_ ?_ ?_ ?_ ?_ ?_ ?_ ?_ ?_ (F.keeps hk) (N.grown hk) (And.intro hm2 trivial) (rest₀ _ fun p hp => Heap.lt_size (N p hp).1)
  · rw [stItems_len _ _ (by simpa using hn)]; simp
  · rintro i v h ⟨T, vals, rfl, ⟨a, y, ⟨c, u, hc, rfl⟩, hy, rfl⟩, hT⟩
    exact ⟨_, stItems_get _ _ i (c := c) (y := y) (by simpa using hc) (by simpa using hy), T, u, rfl, hT⟩
  · rintro i h ⟨hz, hTI, ⟨a, b, hTO⟩, ⟨o1, ho1, hc1, _⟩, ⟨o2, ho2, hc2, _⟩, _⟩
    obtain ⟨q1, g1, k1⟩ : ∃ o : Obj, h.get? (s.heap.objs.size + 4) = some o ∧ o.cls = .type "zip" := ⟨_, hz, rfl⟩
    obtain ⟨q2, g2, k2⟩ : ∃ o : Obj, h.get? (s.heap.objs.size + 2) = some o ∧ o.cls = .type "tuple" := ⟨_, hTI, rfl⟩
    obtain ⟨q3, g3, k3⟩ : ∃ o : Obj, h.get? (s.heap.objs.size + 3) = some o ∧ o.cls = .type "tuple" := ⟨_, hTO, rfl⟩
    refine ⟨[(s.heap.objs.size + 4, q1), (s.heap.objs.size + 2, q2), (s.heap.objs.size + 3, q3), (s.heap.objs.size, o1), (s.heap.objs.size + 1, o2)], ⟨⟨rfl, k1⟩, ⟨rfl, k2⟩, ⟨rfl, k3⟩, ⟨rfl, hc1⟩, ⟨rfl, hc2⟩, trivial⟩, allc g1 (allc g2 (allc g3 (allc ho1 (allc ho2 (List.forall_mem_nil _)))))⟩
  · exact allc ⟨by ((repeat (first | exact List.Mem.head _ | refine List.Mem.tail _ ?_ | assumption | (refine List.mem_append_left _ ?_; assumption) | refine List.mem_append_right _ ?_)); done), new 4⟩ (allc ⟨by ((repeat (first | exact List.Mem.head _ | refine List.Mem.tail _ ?_ | assumption | (refine List.mem_append_left _ ?_; assumption) | refine List.mem_append_right _ ?_)); done), new 2⟩ (allc ⟨by ((repeat (first | exact List.Mem.head _ | refine List.Mem.tail _ ?_ | assumption | (refine List.mem_append_left _ ?_; assumption) | refine List.mem_append_right _ ?_)); done), new 3⟩ (allc ⟨by ((repeat (first | exact List.Mem.head _ | refine List.Mem.tail _ ?_ | assumption | (refine List.mem_append_left _ ?_; assumption) | refine List.mem_append_right _ ?_)); done), new0⟩ (allc ⟨by ((repeat (first | exact List.Mem.head _ | refine List.Mem.tail _ ?_ | assumption | (refine List.mem_append_left _ ?_; assumption) | refine List.mem_append_right _ ?_)); done), new 1⟩ (List.forall_mem_nil _)))))
  · ((repeat (refine allc (by ((repeat (first | exact List.Mem.head _ | refine List.Mem.tail _ ?_ | assumption | (refine List.mem_append_left _ ?_; assumption) | refine List.mem_append_right _ ?_)); done)) ?_)); first | exact List.forall_mem_nil _ | (intro z9 h9; (repeat (first | exact h9 | refine List.Mem.tail _ ?_ | exact List.mem_append_left _ h9 | refine List.mem_append_right _ ?_)); done))
  · (repeat refine allc (by first | (refine Or.inl ?_; ((repeat (first | exact List.Mem.head _ | refine List.Mem.tail _ ?_ | assumption | (refine List.mem_append_left _ ?_; assumption) | refine List.mem_append_right _ ?_)); done)) | (refine Or.inr ⟨lo2, ?_⟩; ((repeat (first | exact List.Mem.head _ | refine List.Mem.tail _ ?_ | assumption | (refine List.mem_append_left _ ?_; assumption) | refine List.mem_append_right _ ?_)); done))) ?_)
    exact List.forall_mem_nil _
  · intro hb
    simp only [List.cons_append, List.nil_append, List.mem_cons, List.not_mem_nil, or_false] at hb
    rcases hb with e | e | e | e | e | e | e | e
    · exact nL 4 e
    · exact nL 2 e
    · exact nL 3 e
    · exact Nat.ne_of_lt hLs e
    · exact nL 1 e
    · exact Nat.ne_of_lt hLs e
    · exact nL 1 e
    · exact hax.2.1 e.symm
  · intro p hp hb
    have hlp := Heap.lt_size (N p hp).1
    simp only [List.mem_cons, List.not_mem_nil, or_false] at hb
    rcases hb with e | e | e | e
    · exact ktu_ne 4 hlp e
    · exact ktu_ne 3 hlp e
    · exact Nat.ne_of_lt hlp e
    · exact ktu_ne 1 hlp e
  · exact ⟨hz, hTI, ⟨_, _, hTO⟩, hi1, hi2, hl2.at fun o e => hk l2 o e⟩
end
end Mine
end

noncomputable section
namespace Mine
open PyProof.Rows.LCg PyProof.V
def StrList (o : Obj) (ys : List Str) : Prop := ∃ (l : List Value) (n : Nat), o = listOf l.toArray n ∧ StrsAre l ys
inductive SplitJ (base : List (Addr × Obj)) (xs : List Str) (i : Nat) (ys : List Value) (nw : List (Addr × Obj)) : Prop
  | intro (ds : List (Addr × Obj)) (f1 : nw = ds.reverse ++ base) (f2 : ys = ds.map (fun p => Value.ref p.1)) (f3 : ds.length = i) (f4 : ∀ (j : Nat) (p : Addr × Obj), ds[j]? = some p → ∃ x, xs[j]? = some x ∧ StrList p.2 (Txt.split x "/")) : SplitJ base xs i ys nw
theorem splitJ_snoc {base nw : List (Addr × Obj)} {xs : List Str} {i : Nat} {ys : List Value} {z : Str} {d : Addr} {o : Obj} (h : SplitJ base xs i ys nw) (hz : xs[i]? = some z) (ho : StrList o (Txt.split z "/")) : SplitJ base xs (i + 1) (ys ++ [.ref d]) ((d, o) :: nw) := by
  obtain ⟨ds, rfl, rfl, hl, hd⟩ := h
  refine ⟨ds ++ [(d, o)], by simp, by simp, by simp [hl], fun j p hj => ?_⟩
  by_cases c : j < ds.length
  · rw [List.getElem?_append_left c] at hj
    exact hd j p hj
  · rw [List.getElem?_append_right (Nat.not_lt.mp c)] at hj
    obtain ⟨k, rfl⟩ : ∃ k, j = ds.length + k := ⟨j - ds.length, by (first | lia | omega)⟩
    rw [Nat.add_sub_cancel_left] at hj
    match k, hj with
    | 0, hj =>
      cases hj
      rw [Nat.add_zero, hl]
      exact ⟨z, hz, ho⟩
    | k + 1, hj => exact absurd hj (by simp)
theorem splitJ_two {base nw : List (Addr × Obj)} {x y : Str} {ys : List Value} (h : SplitJ base [x, y] 2 ys nw) : ∃ d1 d2 o1 o2, nw = (d2, o2) :: (d1, o1) :: base ∧ ys = [.ref d1, .ref d2] ∧ StrList o1 (Txt.split x "/") ∧ StrList o2 (Txt.split y "/") := by
  obtain ⟨ds, rfl, rfl, hl, hd⟩ := h
  obtain ⟨⟨d1, o1⟩, ⟨d2, o2⟩, rfl⟩ : ∃ p q, ds = [p, q] := by
    cases ds with
    | nil => cases hl
    | cons p r =>
      obtain ⟨q, rfl⟩ := List.length_eq_one_iff.mp (Nat.succ.inj hl)
      exact ⟨p, q, rfl⟩
  obtain ⟨z1, e1, s1⟩ := hd 0 (d1, o1) rfl
  obtain ⟨z2, e2, s2⟩ := hd 1 (d2, o2) rfl
  have e1' : x = z1 := Option.some.inj e1
  have e2' : y = z2 := Option.some.inj e2
  exact ⟨d1, d2, o1, o2, rfl, rfl, e1' ▸ s1, e2' ▸ s2⟩
theorem two_short {x y z : Str} (lx : x.length ≤ 100) (ly : y.length ≤ 100) (hz : z ∈ [x, y]) : z.length + 2 ≤ sizeLine := by
  have h9 := sizeLine_eq
  rcases List.mem_cons.mp hz with rfl | hz
  · (first | lia | omega)
  · rw [List.mem_singleton.mp hz]; (first | lia | omega)
theorem two_of {G : Nat → Value → Prop} {acc : Array Value} (h : acc.size = 2) (g : ∀ j r, acc[j]? = some r → G j r) : ∃ a b, acc = #[a, b] ∧ G 0 a ∧ G 1 b := by
  obtain ⟨l⟩ := acc
  match l, h, g with
  | [a, b], _, g => exact ⟨a, b, rfl, g 0 a rfl, g 1 b rfl⟩
inductive ListsJ (base : List (Addr × Obj)) (xss : List (List Str)) (i : Nat) (ys : List Value) (nw : List (Addr × Obj)) : Prop
  | intro (ds : List (Addr × Obj)) (f1 : nw = ds.reverse ++ base) (f2 : ys = ds.map (fun p => Value.ref p.1)) (f3 : ds.length = i) (f4 : ∀ (j : Nat) (p : Addr × Obj), ds[j]? = some p → ∃ z, xss[j]? = some z ∧ StrList p.2 z) : ListsJ base xss i ys nw
theorem listsJ_snoc {base nw : List (Addr × Obj)} {xss : List (List Str)} {i : Nat} {ys : List Value} {z : List Str} {d : Addr} {o : Obj} (h : ListsJ base xss i ys nw) (hz : xss[i]? = some z) (ho : StrList o z) : ListsJ base xss (i + 1) (ys ++ [.ref d]) ((d, o) :: nw) := by
  obtain ⟨ds, rfl, rfl, hl, hd⟩ := h
  refine ⟨ds ++ [(d, o)], by simp, by simp, by simp [hl], fun j p hj => ?_⟩
  by_cases c : j < ds.length
  · rw [List.getElem?_append_left c] at hj
    exact hd j p hj
  · rw [List.getElem?_append_right (Nat.not_lt.mp c)] at hj
    obtain ⟨k, rfl⟩ : ∃ k, j = ds.length + k := ⟨j - ds.length, by (first | lia | omega)⟩
    rw [Nat.add_sub_cancel_left] at hj
    match k, hj with
    | 0, hj =>
      cases hj
      rw [Nat.add_zero, hl]
      exact ⟨z, hz, ho⟩
    | k + 1, hj => exact absurd hj (by simp)
theorem listsJ_two {base nw : List (Addr × Obj)} {x y : List Str} {ys : List Value} (h : ListsJ base [x, y] 2 ys nw) : ∃ d1 d2 o1 o2, nw = (d2, o2) :: (d1, o1) :: base ∧ ys = [.ref d1, .ref d2] ∧ StrList o1 x ∧ StrList o2 y := by
  obtain ⟨ds, rfl, rfl, hl, hd⟩ := h
  obtain ⟨⟨d1, o1⟩, ⟨d2, o2⟩, rfl⟩ : ∃ p q, ds = [p, q] := by
    cases ds with
    | nil => cases hl
    | cons p r =>
      obtain ⟨q, rfl⟩ := List.length_eq_one_iff.mp (Nat.succ.inj hl)
      exact ⟨p, q, rfl⟩
  obtain ⟨z1, e1, s1⟩ := hd 0 (d1, o1) rfl
  obtain ⟨z2, e2, s2⟩ := hd 1 (d2, o2) rfl
  have e1' : x = z1 := Option.some.inj e1
  have e2' : y = z2 := Option.some.inj e2
  exact ⟨d1, d2, o1, o2, rfl, rfl, e1' ▸ s1, e2' ▸ s2⟩
theorem strs_snoc' {c : Str} {t : Tok} {vs : List Value} {ys : List Str} {i : Nat} (h : StrsAre vs (ys.take i)) (hc : ys[i]? = some c) : StrsAre (vs ++ [.str c t]) (ys.take (i + 1)) := by
  rw [List.take_add_one, hc]
  exact strs_snoc h
theorem strs_at : ∀ {vs : List Value} {ys : List Str} {i : Nat} {v : Value}, StrsAre vs ys → vs[i]? = some v → ∃ c t, v = .str c t ∧ ys[i]? = some c
  | _, _, _, _, .nil, h => by simp at h
  | _, _, 0, v, .cons z u r, h => by
    have e : Value.str z u = v := by simpa using h
    exact ⟨z, u, e.symm, rfl⟩
  | _, _, i + 1, v, .cons z u r, h => by
    obtain ⟨c, t, e, hc⟩ := strs_at (i := i) r (by simpa using h)
    exact ⟨c, t, e, by simpa using hc⟩
theorem strs_len : ∀ {vs : List Value} {ys : List Str}, StrsAre vs ys → vs.length = ys.length
  | _, _, .nil => rfl
  | _, _, .cons _ _ r => congrArg (· + 1) (strs_len r)
inductive ForE (base : List (Addr × Obj)) (ps : List (Str × Value)) (stored : List Str) (m₀ : Str → Option Value) (P : Nat → Prop) (i : Nat) (m' : Str → Option Value) (nw : List (Addr × Obj)) : Prop
  | intro  (f1 : nw = base) (f2 : P i) (f3 : (∀ p ∈ ps, m' p.1 = some p.2)) (f4 : ∀ z, (∀ p ∈ ps, z ≠ p.1) → stored.contains z = false → m' z = m₀ z) : ForE base ps stored m₀ P i m' nw
abbrev forE {g : Heap} {L : Addr} {h : Heap} {m₀ : Str → Option Value} {news : List (Addr × Obj)} (_ : Fr g L h m₀) (_ : News g L h news) (ps : List (Str × Value)) (stored : List Str) (P : Nat → Prop) := ForE news ps stored m₀ P
theorem off2 {I : Addr} {o1 o2 : Obj} {nw : List (Addr × Obj)} (h : ∀ p ∈ nw, p.1 < I) : ∀ p ∈ nw, ∀ q ∈ [((I + 1 : Nat), o1), ((I : Nat), o2)], p.1 ≠ q.1 := fun p hp q hq => by
  have hp' : (p.1 : Nat) < I := h p hp
  rcases List.mem_cons.mp hq with rfl | hq
  · exact Nat.ne_of_lt (Nat.lt_succ_of_lt hp')
  · rw [List.mem_singleton.mp hq]; exact Nat.ne_of_lt hp'
theorem ones_sum : ∀ {xs : List Str}, (∀ c ∈ xs, c.length = 1) → (xs.map (·.length)).sum = xs.length
  | [], _ => rfl
  | x :: r, h => by
    rw [List.map_cons, List.sum_cons, ones_sum fun c hc => h c (List.mem_cons_of_mem _ hc), h x List.mem_cons_self, List.length_cons, Nat.add_comm]
theorem join_len_le {xs : List Str} (h : ∀ c ∈ xs, c.length = 1) : (Txt.join (Str.ofString "/") xs).length ≤ 2 * xs.length := by
  show (Builtin.Str.glued (Str.ofString "/") xs).length ≤ _
  rw [size_glued, ones_sum h]
  have : (Str.ofString "/").length = 1 := by decide
  rw [this]
  (first | lia | omega)
theorem nil_app (r : Str) : Str.ofString "" ++ r = r := by
  show (⟨(Str.ofString "").cps ++ r.cps⟩ : Str) = r
  have : (Str.ofString "").cps = #[] := by decide
  rw [this, Array.empty_append]
def lcp : List Str → List Str → List Str
  | x :: xs, y :: ys => if x = y then x :: lcp xs ys else []
  | _, _ => []
theorem lcp_self : ∀ xs : List Str, lcp xs xs = xs
  | [] => rfl
  | x :: xs => by rw [lcp, if_pos rfl, lcp_self xs]
theorem lcp_comm : ∀ xs ys : List Str, lcp xs ys = lcp ys xs
  | [], [] => rfl
  | [], _ :: _ => rfl
  | _ :: _, [] => rfl
  | x :: xs, y :: ys => by
    rw [lcp, lcp]
    by_cases h : x = y
    · rw [if_pos h, if_pos h.symm, h, lcp_comm xs ys]
    · rw [if_neg h, if_neg (Ne.symm h)]
theorem lcp_full : ∀ xs ys : List Str, (∀ j, j < xs.length → xs[j]? = ys[j]?) → lcp xs ys = xs
  | [], ys, _ => by cases ys <;> rfl
  | x :: xs, [], h => by have := h 0 (Nat.succ_pos _); simp at this
  | x :: xs, y :: ys, h => by
    have e0 : x = y := by have := h 0 (Nat.succ_pos _); simpa using this
    rw [lcp, if_pos e0, lcp_full xs ys fun j hj => by have := h (j + 1) (Nat.succ_lt_succ hj); simpa using this]
theorem lcp_at : ∀ (i : Nat) (xs ys : List Str), (∀ j, j < i → xs[j]? = ys[j]?) → i < xs.length → i < ys.length → xs[i]? ≠ ys[i]? → lcp xs ys = xs.take i
  | _, [], _, _, h, _, _ => absurd h (Nat.not_lt_zero _)
  | _, _ :: _, [], _, _, h, _ => absurd h (Nat.not_lt_zero _)
  | 0, x :: xs, y :: ys, _, _, _, hn => by
    have e0 : x ≠ y := fun e => hn (by simp [e])
    rw [lcp, if_neg e0]
    rfl
  | i + 1, x :: xs, y :: ys, h, h1, h2, hn => by
    have e0 : x = y := by have := h 0 (Nat.succ_pos _); simpa using this
    rw [lcp, if_pos e0, List.take_succ_cons, lcp_at i xs ys (fun j hj => by have := h (j + 1) (Nat.succ_lt_succ hj); simpa using this) (Nat.lt_of_succ_lt_succ h1) (Nat.lt_of_succ_lt_succ h2) (by simpa using hn)]
theorem slice_upto (vs : List Value) {y : Int} (h : 0 ≤ y) : (slicePick vs.toArray none (some y) none).toList = vs.take y.toNat := by
  have e : sliceBounds none (some y) none vs.toArray.size = (((0 : Nat) : Int), ((min y.toNat vs.toArray.size : Nat) : Int), 1) := by
    simp only [sliceBounds, Option.getD_none, show (1 : Int) > 0 by decide, if_true, if_neg (show ¬ (y < 0) by (first | lia | omega))]
    congr 1
    congr 1
    (first | lia | omega)
  rw [kmk_pick_nat _ e]
  show ((vs.drop 0).take (min y.toNat vs.toArray.size - 0)) = _
  rw [List.drop_zero, Nat.sub_zero, List.size_toArray, kmk_take_min]
theorem strs_take : ∀ {vs : List Value} {ys : List Str} (i : Nat), StrsAre vs ys → StrsAre (vs.take i) (ys.take i)
  | _, _, 0, _ => .nil
  | _, _, _ + 1, .nil => .nil
  | _, _, i + 1, .cons z u r => .cons z u (strs_take i r)
end Mine
end

noncomputable section
namespace Mine
open PyProof.Rows.LCg PyProof.V
def leastAt (ws : List Str) (i : Nat) (w : Str) : Bool := !((ws.take i).any (· == w)) && (ws.filter (fun o => o != w && inS o w)).isEmpty
def leastUpto (ws : List Str) : Nat → List Str
  | 0 => []
  | i + 1 => leastUpto ws i ++ (match ws[i]? with | some w => if leastAt ws i w = true then [w] else [] | none => [])
theorem filt_snoc {ws : List Str} {i : Nat} {c : Str} {f : Str → Bool} (h : ws[i]? = some c) : (ws.take (i + 1)).filter f = (ws.take i).filter f ++ if f c = true then [c] else [] := by
  rw [List.take_add_one, h, List.filter_append]
  congr 1
  show List.filter f [c] = _
  rw [List.filter_cons]
  split <;> rfl
theorem strs_empty : ∀ {vs : List Value} {ys : List Str}, StrsAre vs ys → vs.isEmpty = ys.isEmpty
  | _, _, .nil => rfl
  | _, _, .cons _ _ _ => rfl
theorem vtruthy {prog : Program} {w : World} {A : Around} {s : Shared} {E : Value → Shared → Prop} {h₀ : Heap} {L D : Addr} {news : List (Addr × Obj)} {n : Nat} {ys : List Value} {Q : Bool → Shared → Prop} (N : News h₀ L s.heap news) (hm : (D, listOf ys.toArray n) ∈ news) (hf : ys.length ≤ 4000)
    (h : Q (!ys.isEmpty) { s with toks := s.toks + 1 + 1 }) : wpAny (model prog w) A (truthy (.ref D)) Q E s := by
  have hl : s.heap.IsList D ys.toArray := PySem.IsL.isList (n := n) (N _ hm).1
  refine wpAny_truthy_list hl (by simp; (first | lia | omega)) ?_
  have e : (!ys.toArray.isEmpty) = !ys.isEmpty := by cases ys <;> simp
  rw [e]; exact h
theorem fresh_new {g g₂ : Heap} {L D : Addr} {rel news : List (Addr × Obj)} (a : AbsG g g₂ L (leftOf rel news)) (hD : g₂.get? D = none) (hr : ∀ p ∈ rel, p.1 ≠ D) : ∀ p ∈ news, p.1 ≠ D := fun p hp e => by
  by_cases c : p ∈ leftOf rel news
  · have h1 := a.held p c
    rw [e, hD] at h1
    cases h1
  · refine c (List.mem_filter.mpr ⟨hp, List.all_eq_true.mpr fun q hq => decide_eq_true fun h => hr q hq (h.symm.trans e)⟩)
section
variable {vq : Program} {vl : List Str} {w : World} {mean : ExcName → Option Value} {mg mb : Str → Option Value} {dp un : Nat} {gd : Option (List Code)} {env : Env} {outer : List Env} {A₀ : Around} {base h₀ : Heap} {L : Addr} {m : Str → Option Value} {s : Shared} {Q E : Value → Shared → Prop} {news : List (Addr × Obj)}
theorem c_least {wa : Addr} {w0 w1 w2 : Str} {s0 s1 s2 : Tok} {wn : Nat} (B : Below A₀ base outer h₀) (F : Fr h₀ L s.heap m) (X : (law0.heap_1 w.params).In h₀) (N : News h₀ L s.heap news) (T : TopH vq vl mean mg mb h₀) (hf : env.frame = some L) (hk : env.scope.kind = .function) (hdp : dp + 10 < recursionLimit) (hun : un + 80 < cLine)
   (hw : (wa, listOf [.str w0 s0, .str w1 s1, .str w2 s2].toArray wn) ∈ news) (l0 : w0.length ≤ 4) (l1 : w1.length ≤ 4) (l2 : w2.length ≤ 4)
   (hret : ∀ D vs h' tk', Fr h₀ L h' m → News h₀ L h' ((D, listOf vs.toArray vs.length) :: news) → (∀ p ∈ news, p.1 ≠ D) → StrsAre vs (leastUpto [w0, w1, w2] 3) → Q (.ref D) { s with heap := h', toks := tk' }) :
   wpAny (model PySem.Challenge.rw_il0067_01.row.prog w) (atop dp un gd env outer) (call (.ref 207) [.ref wa]) Q E s := by
  have hall : ∀ y ∈ [w0, w1, w2], y.length ≤ 4 := allc (by assumption) (allc (by assumption) (allc (by assumption) (List.forall_mem_nil _)))
  revert X; k_fill; intro X
  have hrel : ∀ z ∈ [(wa, listOf [.str w0 s0, .str w1 s1, .str w2 s2].toArray wn)], z ∈ news := List.forall_mem_cons.mpr ⟨hw, List.forall_mem_nil _⟩
  refine wpAny_call ?_
  k_dflt (refine' enter_relC (rel := [(wa, listOf [.str w0 s0, .str w1 s1, .str w2 s2].toArray wn)]) (rest := leftOf [(wa, listOf [.str w0 s0, .str w1 s1, .str w2 s2].toArray wn)] news) ?k1 ?k2 ?k3 ?k4 ?k5 ?kd ?kA ?kF ?kK ?k6 ?k7 ?k8 ?k9 ?kB ?kD ?_ ?c2 ?c3 ?c4; (case kA => exact rfl); (case kF => assumption); (case kK => assumption); (case k1 => k_asm); (case k2 => k_asm); (case k3 => k_asm); (case k4 => exact leftOf_news N (hrel)); (case k5 => k_asm); (case kd => exact leftOf_dis); (case k6 => k_is); (case k7 => k_is); (case k8 => ktr_room); (case k9 => exact BindsTo.of_eq rfl); (case kB => exact rfl); (case kD => decide +kernel); (case c2 => exact rfl); (case c3 => exact rfl); (case c4 => exact rfl); k_whole; intro g g2 L' h1 tk1 cells1 aG st2 F2 N2 Y2 B2 X2 T2 l1; (try k_lt l1); k_cells Y2; (try simp only [List.cons_append, List.nil_append] at N2); (try dsimp only); (refine wp_hide ?_); intro Q7 hQ7)
  repeat' ((fail_if_success (with_reducible (first | show wpAny _ _ (eval (Expr.ListComp _ _ _ _) _) _ _ _ | show wpAny _ _ (call (Value.type _) _) _ _ _))); first | (with_reducible refine execs_hide ?_; intro Q9 hQ9 hR9) | (with_reducible refine hQ9 _ ?_; clear hQ9 hR9; (try clear Q9)) | ((with_reducible refine' hR9 _ _ ?hk9 ?_); (case hk9 => exact nofun); clear hQ9 hR9; (try clear Q9)) | (with_reducible refine hQ8 _ _ ?_; clear hQ8; (try clear Q8); (try dsimp only)) | (with_reducible refine hQ8 _ _ _ ?_; clear hQ8; (try clear Q8); (try dsimp only)) | (with_reducible refine hQ7 _ _ ?_; clear hQ7; (try clear Q7); (try dsimp only)) | (k_unfold; (try dsimp only)) | walk_at "my step" | fail "no step")
  refine' ListComp_cell ?k1 ?k2 ?k3 ?k4 ?k5 ?k6 ?_; case k1 => k_asm
  case k2 => with_unfolding_all rfl
  case k3 => intro _ _; rfl
  case k4 => intro _; rfl
  case k5 => rfl
  case k6 => decide
  repeat' ((fail_if_success (with_reducible (first | show wpAny _ _ (call (Value.type _) _) _ _ _))); first | (with_reducible refine execs_hide ?_; intro Q9 hQ9 hR9) | (with_reducible refine hQ9 _ ?_; clear hQ9 hR9; (try clear Q9)) | ((with_reducible refine' hR9 _ _ ?hk9 ?_); (case hk9 => exact nofun); clear hQ9 hR9; (try clear Q9)) | (with_reducible refine hQ8 _ _ ?_; clear hQ8; (try clear Q8); (try dsimp only)) | (with_reducible refine hQ8 _ _ _ ?_; clear hQ8; (try clear Q8); (try dsimp only)) | (with_reducible refine hQ7 _ _ ?_; clear hQ7; (try clear Q7); (try dsimp only)) | (k_unfold; (try dsimp only)) | walk_at "my step" | fail "no step")
  with_reducible rename News g2 _ _ _ => N4
  with_reducible rename Fr g2 _ _ _ => F4
  refine' compAtC_enum (fun i ys => StrsAre ys (leastUpto [w0, w1, w2] i)) ?k1 ?k2 ?k3 ?k4 F4 N4 (vs := [.str w0 s0, .str w1 s1, .str w2 s2]) (n := wn) ?k5 ?k6 ?k7 ?k8 ?k9
  case k1 => rfl
  case k2 => rfl
  case k3 => rfl
  case k4 => rfl
  case k5 => k_mem
  case k6 => exact Nat.le_of_ble_eq_true rfl
  case k7 => exact .nil
  case k8 =>
    intro g i ys own C oC D K oK m₂ cv h₁ tk₁ E' hi hV hC hK hJ F N
    refine hideP ?_
    intro P9 kP9
    obtain ⟨v, t, hv, hx, rfl⟩ := hV
    refine kP9 ?_
    clear kP9 P9
    refine tests_one ?_
    dsimp only [List.cons_append] at N ⊢
    repeat' ((fail_if_success (with_reducible (first | show wpAny _ _ (call (Value.type _) _) _ _ _ | show wpAny _ _ (eval (Expr.ListComp _ _ _ _) _) _ _ _ | show wpAny _ _ (subscriptTail _ _ (Value.ref _) _) _ _ _ | show wpAny _ _ (compareOp CmpOp.In _ _) _ _ _ | show wpAny _ _ (pyIter _) _ _ _))); first | (with_reducible refine execs_hide ?_; intro Q9 hQ9 hR9) | (with_reducible refine hQ9 _ ?_; clear hQ9 hR9; (try clear Q9)) | ((with_reducible refine' hR9 _ _ ?hk9 ?_); (case hk9 => exact nofun); clear hQ9 hR9; (try clear Q9)) | (with_reducible refine hQ8 _ _ ?_; clear hQ8; (try clear Q8); (try dsimp only)) | (with_reducible refine hQ8 _ _ _ ?_; clear hQ8; (try clear Q8); (try dsimp only)) | (with_reducible refine hQ7 _ _ ?_; clear hQ7; (try clear Q7); (try dsimp only)) | (k_unfold; (try dsimp only)) | walk_at "my step" | fail "no step")
    have hi3 : i < 3 := hi
    refine' kmk_slice_lit (s := ⟨_, _, _, _, _⟩) (l := wa) (its := [Value.str w0 s0, .str w1 s1, .str w2 s2].toArray) (zs := [Value.str w0 s0, .str w1 s1, .str w2 s2].take i) (by assumption) N (PySem.IsL.isList (n := wn) (N (wa, listOf [Value.str w0 s0, .str w1 s1, .str w2 s2].toArray wn) (by k_mem)).1) .none (.int _ _) ?sp3 ?sp4 ?sp5 ?sp6 ?sp7
    case sp3 => rw [slice_upto _ (Int.natCast_nonneg _), Int.toNat_natCast]
    case sp5 => with_unfolding_all rfl
    case sp6 => intro _; with_unfolding_all rfl
    case sp7 => exact Nat.le_of_ble_eq_true rfl
    intro D20 h20 F20 N20 l20
    k_lt l20
    dsimp only
    repeat' ((fail_if_success (with_reducible (first | show wpAny _ _ (call (Value.type _) _) _ _ _ | show wpAny _ _ (eval (Expr.ListComp _ _ _ _) _) _ _ _ | show wpAny _ _ (subscriptTail _ _ (Value.ref _) _) _ _ _ | show wpAny _ _ (compareOp CmpOp.In _ _) _ _ _ | show wpAny _ _ (pyIter _) _ _ _))); first | (with_reducible refine execs_hide ?_; intro Q9 hQ9 hR9) | (with_reducible refine hQ9 _ ?_; clear hQ9 hR9; (try clear Q9)) | ((with_reducible refine' hR9 _ _ ?hk9 ?_); (case hk9 => exact nofun); clear hQ9 hR9; (try clear Q9)) | (with_reducible refine hQ8 _ _ ?_; clear hQ8; (try clear Q8); (try dsimp only)) | (with_reducible refine hQ8 _ _ _ ?_; clear hQ8; (try clear Q8); (try dsimp only)) | (with_reducible refine hQ7 _ _ ?_; clear hQ7; (try clear Q7); (try dsimp only)) | (k_unfold; (try dsimp only)) | walk_at "my step" | fail "no step")
    have HS : StrsAre [Value.str w0 s0, .str w1 s1, .str w2 s2] [w0, w1, w2] := .cons _ _ (.cons _ _ (.cons _ _ .nil))
    obtain ⟨x, tx, rfl, hwx⟩ := strs_at HS hv
    refine notin_list_strs (vs := [Value.str w0 s0, .str w1 s1, .str w2 s2].take i) (ys := [w0, w1, w2].take i) (PySem.IsL.isList (n := 0) (N20 (D20, listOf ([Value.str w0 s0, .str w1 s1, .str w2 s2].take i).toArray 0) (by k_mem)).1) (strs_take i HS) ?_
    repeat' ((fail_if_success (with_reducible (first | show wpAny _ _ (call (Value.type _) _) _ _ _ | show wpAny _ _ (eval (Expr.ListComp _ _ _ _) _) _ _ _ | show wpAny _ _ (subscriptTail _ _ (Value.ref _) _) _ _ _ | show wpAny _ _ (compareOp CmpOp.In _ _) _ _ _ | show wpAny _ _ (pyIter _) _ _ _))); first | (with_reducible refine execs_hide ?_; intro Q9 hQ9 hR9) | (with_reducible refine hQ9 _ ?_; clear hQ9 hR9; (try clear Q9)) | ((with_reducible refine' hR9 _ _ ?hk9 ?_); (case hk9 => exact nofun); clear hQ9 hR9; (try clear Q9)) | (with_reducible refine hQ8 _ _ ?_; clear hQ8; (try clear Q8); (try dsimp only)) | (with_reducible refine hQ8 _ _ _ ?_; clear hQ8; (try clear Q8); (try dsimp only)) | (with_reducible refine hQ7 _ _ ?_; clear hQ7; (try clear Q7); (try dsimp only)) | (k_unfold; (try dsimp only)) | walk_at "my step" | fail "no step")
    · have hany : ([w0, w1, w2].take i).any (· == x) = true := by assumption
      refine PEnd.mk F20 (fun p hp => N20 p (List.mem_cons_of_mem _ hp)) ?_
      rw [leastUpto, hwx]
      simp only [leastAt, hany, Bool.not_true, Bool.false_and, Bool.false_eq_true, if_false, List.append_nil]
      exact hJ
    · have hany : ([w0, w1, w2].take i).any (· == x) = false := by assumption
      have hxl : x.length ≤ 4 := hall _ (List.mem_of_getElem? hwx)
      refine' ListComp_any F20 ?j1 ?j2 ?j3 ?j4 ?_
      case j1 => with_unfolding_all rfl
      case j2 => decide
      case j3 => rfl
      case j4 => decide
      repeat' ((fail_if_success (with_reducible (first | show wpAny _ _ (pyIter _) _ _ _))); first | (with_reducible refine execs_hide ?_; intro Q9 hQ9 hR9) | (with_reducible refine hQ9 _ ?_; clear hQ9 hR9; (try clear Q9)) | ((with_reducible refine' hR9 _ _ ?hk9 ?_); (case hk9 => exact nofun); clear hQ9 hR9; (try clear Q9)) | (with_reducible refine hQ8 _ _ ?_; clear hQ8; (try clear Q8); (try dsimp only)) | (with_reducible refine hQ8 _ _ _ ?_; clear hQ8; (try clear Q8); (try dsimp only)) | (with_reducible refine hQ7 _ _ ?_; clear hQ7; (try clear Q7); (try dsimp only)) | (k_unfold; (try dsimp only)) | walk_at "my step" | fail "no step")
      refine' compAt_list _ ?j1 ?j2 ?j3 F20 N20 (its := [Value.str w0 s0, .str w1 s1, .str w2 s2].toArray) (k := wn) ?j5 ?j6 ?j7 (cstep0 (J := fun i' vs => StrsAre vs (([w0, w1, w2].take i').filter (fun o => o != x && inS o x))) ?j8) (cfin0 ?j9)
      case j1 => rfl
      case j2 => rfl
      case j3 => rfl
      case j5 => k_mem
      case j6 => exact Nat.le_of_ble_eq_true rfl
      case j7 => exact ⟨rfl, .nil⟩
      case j8 =>
        intro i' vs' own' C' oC' D' m₂' h₁' tk₁' E'' hi' hV' hC' hJ' FF' NN'
        refine hideP ?_
        intro P9 kP9
        obtain ⟨v', hv', hx'⟩ := hV'
        obtain ⟨c', tc', rfl, hc'⟩ := strs_at HS (by simpa using hv')
        refine kP9 ?_
        clear kP9 P9
        have hcl : c'.length ≤ 4 := hall _ (List.mem_of_getElem? hc')
        refine tests_one ?_
        simp only [List.cons_append] at NN' ⊢
        repeat' ((fail_if_success (with_reducible (first | show wpAny _ _ (pyIter _) _ _ _))); first | (with_reducible refine execs_hide ?_; intro Q9 hQ9 hR9) | (with_reducible refine hQ9 _ ?_; clear hQ9 hR9; (try clear Q9)) | ((with_reducible refine' hR9 _ _ ?hk9 ?_); (case hk9 => exact nofun); clear hQ9 hR9; (try clear Q9)) | (with_reducible refine hQ8 _ _ ?_; clear hQ8; (try clear Q8); (try dsimp only)) | (with_reducible refine hQ8 _ _ _ ?_; clear hQ8; (try clear Q8); (try dsimp only)) | (with_reducible refine hQ7 _ _ ?_; clear hQ7; (try clear Q7); (try dsimp only)) | (k_unfold; (try dsimp only)) | walk_at "my step" | fail "no step")
        · refine PEnd.mk FF' NN' ?_
          rw [filt_snoc hc', if_neg (by simp_all [inS]), List.append_nil]
          exact hJ'
        · refine PEnd.mk FF' NN' ?_
          rw [filt_snoc hc', if_pos (by simp_all [inS])]
          exact strs_snoc hJ'
        · refine PEnd.mk FF' NN' ?_
          rw [filt_snoc hc', if_neg (by simp_all [inS]), List.append_nil]
          exact hJ'
      case j9 =>
        intro g9 vs9 hJ9 D9 h9 tk9 F9 N9 n9
        dsimp only
        repeat' ((fail_if_success (with_reducible (first | show wpAny _ _ (call (Value.type _) _) _ _ _ | show wpAny _ _ (eval (Expr.ListComp _ _ _ _) _) _ _ _ | show wpAny _ _ (subscriptTail _ _ (Value.ref _) _) _ _ _ | show wpAny _ _ (compareOp CmpOp.In _ _) _ _ _ | show wpAny _ _ (pyIter _) _ _ _ | show wpAny _ _ (truthy (Value.ref _)) _ _ _))); first | (with_reducible refine execs_hide ?_; intro Q9 hQ9 hR9) | (with_reducible refine hQ9 _ ?_; clear hQ9 hR9; (try clear Q9)) | ((with_reducible refine' hR9 _ _ ?hk9 ?_); (case hk9 => exact nofun); clear hQ9 hR9; (try clear Q9)) | (with_reducible refine hQ8 _ _ ?_; clear hQ8; (try clear Q8); (try dsimp only)) | (with_reducible refine hQ8 _ _ _ ?_; clear hQ8; (try clear Q8); (try dsimp only)) | (with_reducible refine hQ7 _ _ ?_; clear hQ7; (try clear Q7); (try dsimp only)) | (k_unfold; (try dsimp only)) | walk_at "my step" | fail "no step")
        refine vtruthy N9 (by k_mem) (by rw [strs_len hJ9]; exact Nat.le_trans (List.length_filter_le _ _) (by simp)) ?_
        have he : vs9.isEmpty = (([w0, w1, w2]).filter (fun o => o != x && inS o x)).isEmpty := strs_empty hJ9
        cases hb : vs9.isEmpty
        · repeat' ((fail_if_success (with_reducible (first | show wpAny _ _ (call (Value.type _) _) _ _ _ | show wpAny _ _ (eval (Expr.ListComp _ _ _ _) _) _ _ _ | show wpAny _ _ (subscriptTail _ _ (Value.ref _) _) _ _ _ | show wpAny _ _ (compareOp CmpOp.In _ _) _ _ _ | show wpAny _ _ (pyIter _) _ _ _ | show wpAny _ _ (truthy (Value.ref _)) _ _ _))); first | (with_reducible refine execs_hide ?_; intro Q9 hQ9 hR9) | (with_reducible refine hQ9 _ ?_; clear hQ9 hR9; (try clear Q9)) | ((with_reducible refine' hR9 _ _ ?hk9 ?_); (case hk9 => exact nofun); clear hQ9 hR9; (try clear Q9)) | (with_reducible refine hQ8 _ _ ?_; clear hQ8; (try clear Q8); (try dsimp only)) | (with_reducible refine hQ8 _ _ _ ?_; clear hQ8; (try clear Q8); (try dsimp only)) | (with_reducible refine hQ7 _ _ ?_; clear hQ7; (try clear Q7); (try dsimp only)) | (k_unfold; (try dsimp only)) | walk_at "my step" | fail "no step")
          refine PEnd.mk (by assumption) (fun p hp => N9 p (List.mem_cons_of_mem _ (List.mem_cons_of_mem _ hp))) ?_
          rw [leastUpto, hwx]
          simp only [leastAt, ← he, hb, Bool.and_false, Bool.false_eq_true, if_false, List.append_nil]
          exact hJ
        · repeat' ((fail_if_success (with_reducible (first | show wpAny _ _ (call (Value.type _) _) _ _ _ | show wpAny _ _ (eval (Expr.ListComp _ _ _ _) _) _ _ _ | show wpAny _ _ (subscriptTail _ _ (Value.ref _) _) _ _ _ | show wpAny _ _ (compareOp CmpOp.In _ _) _ _ _ | show wpAny _ _ (pyIter _) _ _ _ | show wpAny _ _ (truthy (Value.ref _)) _ _ _))); first | (with_reducible refine execs_hide ?_; intro Q9 hQ9 hR9) | (with_reducible refine hQ9 _ ?_; clear hQ9 hR9; (try clear Q9)) | ((with_reducible refine' hR9 _ _ ?hk9 ?_); (case hk9 => exact nofun); clear hQ9 hR9; (try clear Q9)) | (with_reducible refine hQ8 _ _ ?_; clear hQ8; (try clear Q8); (try dsimp only)) | (with_reducible refine hQ8 _ _ _ ?_; clear hQ8; (try clear Q8); (try dsimp only)) | (with_reducible refine hQ7 _ _ ?_; clear hQ7; (try clear Q7); (try dsimp only)) | (k_unfold; (try dsimp only)) | walk_at "my step" | fail "no step")
          refine PEnd.mk (by assumption) (fun p hp => N9 p (List.mem_cons_of_mem _ (List.mem_cons_of_mem _ hp))) ?_
          rw [leastUpto, hwx]
          simp only [leastAt, ← he, hb, hany, Bool.not_false, Bool.true_and, if_true]
          exact strs_snoc hJ
  case k9 =>
    intro g ys hJ D h tk FD ND nD
    dsimp only
    repeat' (first | (with_reducible refine execs_hide ?_; intro Q9 hQ9 hR9) | (with_reducible refine hQ9 _ ?_; clear hQ9 hR9; (try clear Q9)) | ((with_reducible refine' hR9 _ _ ?hk9 ?_); (case hk9 => exact nofun); clear hQ9 hR9; (try clear Q9)) | (with_reducible refine hQ8 _ _ ?_; clear hQ8; (try clear Q8); (try dsimp only)) | (with_reducible refine hQ8 _ _ _ ?_; clear hQ8; (try clear Q8); (try dsimp only)) | (with_reducible refine hQ7 _ _ ?_; clear hQ7; (try clear Q7); (try dsimp only)) | (k_unfold; (try dsimp only)) | walk_at "my step" | fail "no step")
    rename News h₀ _ _ _ => NE
    refine hret D ys _ _ (by assumption) (fun p hp => ?_) (fresh_new aG (ND (D, listOf ys.toArray ys.length) (by simp)).2.2 (fun p hp => nD p (by simp only [List.mem_cons, List.not_mem_nil, or_false] at hp ⊢; exact .inr hp))) hJ
    rcases List.mem_cons.mp hp with rfl | hp
    · exact NE _ (List.mem_append_left _ (by simp))
    · exact backR N hrel NE (by intro z hz; simp only [List.mem_cons, List.not_mem_nil, or_false] at hz; subst hz; simp) p hp
end
end Mine
end

noncomputable section
namespace Mine
open PyProof.Rows.LCg PyProof.V
def rangeItms (a : Int) (n : Nat) : List Itm := (List.range n).map fun (i : Nat) => .tok (fun t => .int (a + (i : Int)) t)
theorem rangeItms_len (a : Int) (n : Nat) : (rangeItms a n).length = n := by simp [rangeItms]
theorem rangeItms_get {a : Int} {n i : Nat} (h : i < n) : (rangeItms a n)[i]? = some (.tok (fun t => .int (a + (i : Int)) t)) := by simp [rangeItms, h]
section
variable {prog : Program} {w : World} {A : Around} {E : Value → Shared → Prop} {s : Shared} {env : Env} {h₀ : Heap} {body : List Stmt} {Q : Flow → Shared → Prop}
theorem turns_range {x : Str} {px : Pos} {r : Addr} {a b : Int} {t u v : Tok} {n : Nat} {m₀ : Str → Option Value} {news : List (Addr × Obj)}
    (hh : A.handled = none) (F : Fr h₀ env.locals s.heap m₀) (N : News h₀ env.locals s.heap news) (hr : IsRange s.heap r a b 1 t u v) (hsm : Builtin.Range.small a b 1 = true) (hn : Builtin.Range.rangeSize a b 1 = ((n : Nat) : Int))
    (rest₀ : ∀ I : Addr, (∀ p ∈ news, p.1 < I) → ItemsRest prog w A E h₀ env (.Name x px) body Q s [(I, "range_iterator")] [] (rangeItms a n) m₀ news) :
    wpAny (model prog w) A (pyIter (.ref r)) (fun it s₂ => TurnsAt prog w A h₀ env (.Name x px) body Q E it s₂) E s := by
  refine wpAny_pyIter_range hr hsm ?_
  refine ktu_core (tk0 := s.toks) (keep := []) (KTurns.ofWalks (range_walks hh a n).bound fun i v s Q E _ hq => wpAny_pure hq) (by rw [rangeItms_len]) ?_ ?_ ?_ ?_ ?_ ?_ ?_ ?_ (F.push _) (fun p hp => ⟨Heap.get?_push_of_some _ (N p hp).1, (N p hp).2⟩) trivial (rest₀ _ fun p hp => Heap.lt_size (N p hp).1)
  · rintro i v h hP
    obtain ⟨hi, t, rfl⟩ := hP
    exact ⟨_, rangeItms_get hi, t, rfl⟩
  · rintro i h st
    have e1 : ∃ o : Obj, h.get? s.heap.objs.size = some o ∧ o.cls = .type "range_iterator" := ⟨_, st, rfl⟩
    obtain ⟨oi, g, c⟩ := e1
    exact ⟨[(s.heap.objs.size, oi)], ⟨⟨rfl, c⟩, trivial⟩, fun p hp => by rw [List.mem_singleton.mp hp]; exact g⟩
  · intro b hb
    have hb' : b = s.heap.objs.size := by simpa using hb
    rw [hb']
    exact ⟨List.mem_cons_self .., next_is_new F⟩
  · intro b hb
    simpa using hb
  · intro b hb
    exact .inl (by simpa using hb)
  · intro hI
    have hb' : env.locals = s.heap.objs.size := by simpa using hI
    exact absurd F.ns.lt (hb' ▸ Nat.lt_irrefl _)
  · intro p hp hI
    exact absurd (Heap.lt_size (N p hp).1) ((List.mem_singleton.mp hI) ▸ Nat.lt_irrefl _)
  · show IsRangeIter _ _ _ _ _
    rw [hn]
    simpa using Heap.get?_push_size _ rfl
end
end Mine
end

noncomputable section
namespace Mine
def tB (led : Bool) : SetTable := { mask := 7, place := #[0], dummies := #[], finger := 0, led := led, moves := 0, plain := true }
abbrev setA (led : Bool) : Obj := { cls := .type "set", data := .set #[] 0 (.fresh 0 0 led) }
abbrev setB (led : Bool) : Obj := { cls := .type "set", data := .set #[(0, .bool false)] 1 (tB led) }
theorem lay_eq (led : Bool) : layNew (.fresh 0 0 led) #[] 0 (.bool false) = (#[(0, .bool false)], tB led, false, false) := by cases led <;> rfl
theorem entry_bool_hash : entryFor table "int.__hash__" = some Builtin.«int.__hash__» := entry_int_hash
theorem scan0 : byScan (.bool false) #[] = true := by simp [byScan, Value.scannable, scanBound]
theorem scan1 : byScan (.bool false) #[(0, .bool false)] = true := by simp [byScan, Value.scannable, scanBound]
section
variable {prog : Program} {w : World} {A : Around} {E : Value → Shared → Prop} {s : Shared} {a : Addr}
theorem new_set {Q : Value → Shared → Prop} (h : Q (.ref s.heap.objs.size) { s with heap := s.heap.push (setA (!(w.params.followText "set-order"))) }) : wpAny (model prog w) A (newSet (.type "set")) Q E s := by
  unfold newSet setsByText
  refine wpAny_bind (wpAny_bind (wpAny_askSetting (wpAny_pure ?_)))
  dsimp only
  simp only [newObj]
  exact wpAny_bind (wpAny_alloc (wpAny_pure h))
theorem hash_false {Q : Int → Shared → Prop} (h : Q 0 { s with toks := s.toks + 1 }) : wpAny (model prog w) A (pyHash (.bool false)) Q E s := by
  have hT : s.TypeIs (.bool false) "bool" := rfl
  unfold pyHash
  have hv : [Value.bool false].any Value.onHeap = false := rfl
  refine wpAny_bind ?_
  rw [cRoomFor, if_neg (by rw [hv]; exact Bool.false_ne_true)]; refine wpAny_pure ?_
  refine wpAny_bind (wpAny_specialOf hT F.slot_bool_hash.lookup ?_)
  show wpAny _ _ (if (some (Value.builtin "int.__hash__") == some Value.none) = true then _ else _) Q E s
  rw [if_neg (by rw [beq_builtin_none]; exact Bool.false_ne_true)]
  refine wpAny_bind (wpAny_specialOf hT F.slot_bool_hash.lookup ?_)
  show wpAny _ _ (callSpecialIfBoundUnlessNone? (.bool false) "__hash__" _ >>= _) Q E s
  refine wpAny_bind (wpAny_callSpecialIfBoundUnlessNone?_slot hT F.slot_bool_hash
    (wpAny_call_entry F.slot_bool_hash hT entry_int_hash
      (show wpAny _ _ (do ret (← mkInt (rawHash 0))) _ _ s from wpAny_ret_mkInt ?_) (args_int_hash _)))
  show wpAny _ _ (if (decide (-(2 : Int) ^ 63 ≤ rawHash 0) && decide (rawHash 0 < 2 ^ 63)) = true then _ else _) Q E _
  rw [if_pos (by decide)]
  exact wpAny_pure h
theorem add_first {led : Bool} {Q : Value → Shared → Prop} (ho : s.heap.get? a = some (setA led))
    (h : ∀ h', Heap.SameBut a s.heap h' → h'.get? a = some (setB led) → Q .none { s with heap := h', toks := s.toks + 1 }) : wpAny (model prog w) A (call (.builtin "set.add") [.ref a, .bool false]) Q E s := by
  have hT : s.TypeIs (.ref a) "set" := ⟨_, ho, rfl⟩
  refine wpAny_call_entry F.slot_set_add hT F.entry_set_add ?_ (F.args_set_add_2 _ _)
  unfold Builtin.«set.add» Builtin.Frozenset.oneOther
  simp only [List.isEmpty_nil, bind_assoc]
  unfold Builtin.Frozenset.addrOf setAdd
  refine wpAny_bind (wpAny_pure ?_)
  try dsimp only
  refine wpAny_bind (wpAny_pure ?_)
  try dsimp only
  refine wpAny_bind ?_
  refine wpAny_holding ?_
  refine wpAny_bind (hash_false ?_)
  unfold setAddHashed setAddHashedIn
  refine wpAny_holding (wpAny_bind (wpAny_setState_of ho rfl rfl ?_))
  dsimp only
  rw [if_pos scan0]
  unfold setAddByScan
  refine wpAny_bind ?_
  refine wpAny_bind (wpAny_rule ?_)
  show wpAny _ _ (setScanFrom a (.bool false) 0 true [] 0 >>= _) _ _ _
  unfold setScanFrom
  refine wpAny_bind (wpAny_pure ?_)
  dsimp only
  rw [lay_eq]
  refine wpAny_bind (wpAny_pure ?_)
  show wpAny _ _ (hashByValue 8 (.bool false) >>= _) _ _ _
  rw [hashByValue_scannable 8 rfl]
  refine wpAny_bind (wpAny_pure ?_)
  refine wpAny_bind (wpAny_storeSet_of ho rfl ?_ (Nat.le_of_ble_eq_true rfl))
  refine wpAny_pure (wpAny_pure ?_)
  show wpAny _ _ (ret Value.none) _ _ _
  refine wpAny_pure ⟨_, rfl, h _ (Heap.SameBut.update ..) ?_⟩
  exact Heap.get?_update_self (Obj.putSet #[(0, .bool false)] (tB led)) ho rfl
theorem eq_ff {Q : Bool → Shared → Prop} (h : Q true s) : wpAny (model prog w) A (eqBool (.bool false) (.bool false)) Q E s := by
  unfold eqBool
  refine wpAny_holding ?_
  rw [if_pos (by decide)]
  exact wpAny_bind (wpAny_rule (wpAny_pure h))
theorem add_again {led : Bool} {Q : Value → Shared → Prop} (ho : s.heap.get? a = some (setB led))
    (h : Q .none { s with toks := s.toks + 1 }) : wpAny (model prog w) A (call (.builtin "set.add") [.ref a, .bool false]) Q E s := by
  have hT : s.TypeIs (.ref a) "set" := ⟨_, ho, rfl⟩
  refine wpAny_call_entry F.slot_set_add hT F.entry_set_add ?_ (F.args_set_add_2 _ _)
  unfold Builtin.«set.add» Builtin.Frozenset.oneOther
  simp only [List.isEmpty_nil, bind_assoc]
  unfold Builtin.Frozenset.addrOf setAdd
  refine wpAny_bind (wpAny_pure ?_)
  try dsimp only
  refine wpAny_bind (wpAny_pure ?_)
  try dsimp only
  refine wpAny_bind ?_
  refine wpAny_holding ?_
  refine wpAny_bind (hash_false ?_)
  unfold setAddHashed setAddHashedIn
  refine wpAny_holding (wpAny_bind (wpAny_setState_of ho rfl rfl ?_))
  dsimp only
  rw [if_pos scan1]
  unfold setAddByScan
  refine wpAny_bind ?_
  refine wpAny_bind (wpAny_rule ?_)
  show wpAny _ _ (setScanFrom a (.bool false) 0 true [(0, .bool false)] 0 >>= _) _ _ _
  unfold setScanFrom
  rw [if_pos (by decide)]
  refine wpAny_bind (wpAny_bind (wpAny_setEpoch_of ho rfl rfl (wpAny_bind (eq_ff ?_))))
  simp only [Bool.and_self, if_true]
  refine wpAny_pure (wpAny_pure (wpAny_pure ?_))
  show wpAny _ _ (ret Value.none) _ _ _
  exact wpAny_pure ⟨_, rfl, h⟩
end
end Mine
end

noncomputable section
namespace Mine
namespace FS
theorem slot_next : Slot "set_iterator" "__next__" "set_iterator.__next__" :=
  .of (owner := "set_iterator") (n := "__next__") (by rw [typeLookup_type, builtinLookup_eq_fast]; kernel_rfl) (by decide +kernel) (by decide +kernel) (by decide +kernel)
    (by first | exact .inl (by decide +kernel) | exact .inr (by decide +kernel)) (by rw [isSubtype_type]; kernel_rfl)
theorem entry_next : entryFor table "set_iterator.__next__" = some Builtin.«set_iterator.__next__» := entryFor_of_tree (by kernel_rfl)
theorem entry_iter : entryFor table "set.__iter__" = some Builtin.«frozenset.__iter__» :=
  entryFor_alias (id' := "frozenset.__iter__") (by kernel_rfl) rfl (by decide +kernel) (by kernel_rfl)
theorem owner_si : Manifest.owners.lookup (String.ofList ['r', 'o', 't', 'a', 'r', 'e', 't', 'i', '_', 't', 'e', 's'].reverse) = some Manifest.sig_set_iterator := by kernel_rfl
theorem args_next (a : Value) : argsOk "set_iterator.__next__" ⟨[a], []⟩ := by
  unfold argsOk; rw [signature?_of (id := "set_iterator.__next__") (n := ['_', '_', 't', 'x', 'e', 'n', '_', '_']) (o := ['r', 'o', 't', 'a', 'r', 'e', 't', 'i', '_', 't', 'e', 's']) (by kernel_rfl) owner_si]; kernel_rfl
end FS
abbrev siO (a : Addr) (n0 k : Int) : Obj := { cls := .type "set_iterator", data := .fields #[.int n0 0, .int k 0, .ref a, .int 1 0, .int 1 0] }
section
variable {prog : Program} {w : World} {A : Around} {E : Value → Shared → Prop} {s : Shared} {a it : Addr}
theorem set_drawn {Q : Bool → Shared → Prop} (ho : s.heap.get? a = some (setB (!(w.params.followText "set-order")))) (h : Q false s) : wpAny (model prog w) A (setDrawn a) Q E s := by
  unfold setDrawn setsByText
  refine wpAny_bind (wpAny_setState_of ho rfl rfl (wpAny_bind (wpAny_bind (wpAny_askSetting (wpAny_pure (wpAny_pure ?_))))))
  show Q (!(w.params.followText "set-order") && _) s
  cases hb : w.params.followText "set-order"
  · exact h
  · exact h
theorem set_iter {Q : Value → Shared → Prop} (ho : s.heap.get? a = some (setB (!(w.params.followText "set-order"))))
    (h : Q (.ref s.heap.objs.size) { s with heap := s.heap.push (siO a 0 0) }) : wpAny (model prog w) A (pyIter (.ref a)) Q E s := by
  have hT : s.TypeIs (.ref a) "set" := ⟨_, ho, rfl⟩
  refine wpAny_pyIter_slot hT F.slot_set_iter (wpAny_call_entry F.slot_set_iter hT FS.entry_iter ?_ (F.args_set_iter_1 _))
  show wpAny _ _ (Builtin.Frozenset.sizeOf a >>= _) _ _ s
  refine wpAny_bind (wpAny_bind (wpAny_setEntries_of ho rfl rfl (wpAny_pure ?_)))
  refine wpAny_bind (set_drawn ho ?_)
  simp only [Bool.false_eq_true, if_false]
  refine wpAny_bind (wpAny_pure ?_)
  refine wpAny_bind (wpAny_setEpoch_of ho rfl rfl ?_)
  show wpAny _ _ (newObj (.type "set_iterator") _ >>= _) _ _ s
  refine wpAny_bind (wpAny_newObj_type ?_)
  exact wpAny_pure ⟨_, rfl, "set_iterator", _, ⟨_, Heap.get?_push_size _ rfl, rfl⟩, FS.slot_next.lookup, h⟩
theorem next_first {Q : Option (Value × Nat) → Shared → Prop} (ho : s.heap.get? a = some (setB (!(w.params.followText "set-order"))))
    (h : Q (some (.bool false, if w.params.followText "set-order" then 0 else 1)) s) : wpAny (model prog w) A (setNext a 0 0 1) Q E s := by
  unfold setNext setsByText
  refine wpAny_bind (wpAny_setState_of ho rfl rfl (wpAny_bind (wpAny_bind (wpAny_askSetting (wpAny_pure ?_)))))
  show wpAny _ _ (if w.params.followText "set-order" = true then _ else _) Q E s
  cases hb : w.params.followText "set-order"
  · rw [hb] at h
    rw [if_neg (by decide)]
    split
    · rename_i h9; exact absurd h9 (by decide)
    · refine wpAny_bind (m := pure ()) (wpAny_pure (wpAny_pure h))
  · rw [hb] at h
    rw [if_pos rfl]
    unfold setWalk setsByText
    refine wpAny_bind (wpAny_bind (wpAny_setState_of ho rfl rfl (wpAny_bind (wpAny_bind (wpAny_askSetting (wpAny_pure ?_))))))
    show wpAny _ _ (if w.params.followText "set-order" = true then _ else _) _ E s
    rw [hb, if_pos rfl]
    refine wpAny_bind (wpAny_askSetting (wpAny_pure (wpAny_pure ?_)))
    have e : ∀ f : Nat → Nat, pickOrder f #[((0 : Int), Value.bool false)] = #[(0, .bool false)] := fun f => by
      simp [pickOrder, pickOrder.go, Nat.mod_one]
    rw [e]
    exact h
end
end Mine
end

noncomputable section
namespace Mine
section
variable {prog : Program} {w : World} {A : Around} {E : Value → Shared → Prop} {s : Shared} {a it : Addr}
abbrev n0Of (w : World) : Nat := if w.params.followText "set-order" then 0 else 1
theorem next_second {Q : Option (Value × Nat) → Shared → Prop} (ho : s.heap.get? a = some (setB (!(w.params.followText "set-order"))))
    (h : Q none s) : wpAny (model prog w) A (setNext a (n0Of w) 1 1) Q E s := by
  unfold setNext setsByText n0Of
  refine wpAny_bind (wpAny_setState_of ho rfl rfl (wpAny_bind (wpAny_bind (wpAny_askSetting (wpAny_pure ?_)))))
  show wpAny _ _ (if w.params.followText "set-order" = true then _ else _) Q E s
  cases hb : w.params.followText "set-order"
  · rw [if_neg (by decide)]
    split
    · rename_i h9; exact absurd h9 (by decide)
    · refine wpAny_bind (m := pure ()) (wpAny_pure (wpAny_pure h))
  · rw [if_pos rfl]
    unfold setWalk setsByText
    refine wpAny_bind (wpAny_bind (wpAny_setState_of ho rfl rfl (wpAny_bind (wpAny_bind (wpAny_askSetting (wpAny_pure ?_))))))
    show wpAny _ _ (if w.params.followText "set-order" = true then _ else _) _ E s
    rw [hb, if_pos rfl]
    refine wpAny_bind (wpAny_askSetting (wpAny_pure (wpAny_pure ?_)))
    have e : ∀ f : Nat → Nat, pickOrder f #[((0 : Int), Value.bool false)] = #[(0, .bool false)] := fun f => by
      simp [pickOrder, pickOrder.go, Nat.mod_one]
    rw [e]
    exact h
theorem set_next1 {Q : Option Value → Shared → Prop} (ho : s.heap.get? a = some (setB (!(w.params.followText "set-order")))) (hi : s.heap.get? it = some (siO a 0 0)) (ne : a ≠ it)
    (h : ∀ h', h'.get? it = some (siO a (n0Of w) 1) → Heap.SameBut it s.heap h' → Q (some (.bool false)) { s with heap := h' }) : wpAny (model prog w) A (pyNext (.ref it)) Q E s := by
  have ht : s.TypeIs (.ref it) "set_iterator" := ⟨_, hi, rfl⟩
  unfold pyNext
  refine wpAny_bind (wpAny_attempt (wpAny_callSpecial?_slot (name := Str.ofString "__next__") ht FS.slot_next (wpAny_call_entry FS.slot_next ht FS.entry_next ?_ (FS.args_next _))))
  show wpAny _ _ (fieldsOf (.ref it) >>= _) _ _ _
  refine wpAny_bind (wpAny_fieldsOf hi rfl ?_)
  show wpAny _ _ (setEntries a >>= _) _ _ _
  refine wpAny_bind (wpAny_setEntries_of ho rfl rfl ?_)
  rw [if_neg (by decide)]
  show wpAny _ _ (setNext a 0 0 1 >>= _) _ _ _
  refine wpAny_bind (next_first ho ?_)
  show wpAny _ _ (setField (.ref it) 0 _ >>= _) _ _ _
  refine wpAny_bind (wpAny_setField_rec hi (by simp) fun h1 g1 b1 => ?_)
  refine wpAny_bind (wpAny_setField_rec g1 (by simp) fun h2 g2 b2 => ?_)
  exact wpAny_pure ⟨_, rfl, wpAny_pure (h h2 g2 (b1.trans b2))⟩
theorem set_next2 {Q : Option Value → Shared → Prop} (hh : A.handled = none) (ho : s.heap.get? a = some (setB (!(w.params.followText "set-order")))) (hi : s.heap.get? it = some (siO a (n0Of w) 1)) (ne : a ≠ it)
    (h : ∀ h', Heap.ExtBut it s.heap h' → Q none { s with heap := h' }) : wpAny (model prog w) A (pyNext (.ref it)) Q E s := by
  have ht : s.TypeIs (.ref it) "set_iterator" := ⟨_, hi, rfl⟩
  unfold pyNext
  refine wpAny_bind (wpAny_attempt (wpAny_callSpecial?_slot (name := Str.ofString "__next__") ht FS.slot_next (wpAny_call_entry FS.slot_next ht FS.entry_next ?_ (FS.args_next _))))
  show wpAny _ _ (fieldsOf (.ref it) >>= _) _ _ _
  refine wpAny_bind (wpAny_fieldsOf hi rfl ?_)
  show wpAny _ _ (setEntries a >>= _) _ _ _
  refine wpAny_bind (wpAny_setEntries_of ho rfl rfl ?_)
  rw [if_neg (by decide)]
  show wpAny _ _ (setNext a (n0Of w) 1 1 >>= _) _ _ _
  refine wpAny_bind (next_second ho ?_)
  show wpAny _ _ (setField (.ref it) 2 .none >>= _) _ _ _
  refine wpAny_bind (wpAny_setField_rec hi (by simp) fun h1 g1 b1 => ?_)
  show wpAny _ _ (newExc (.type "StopIteration") [] >>= _) _ _ _
  refine wpAny_bind ?_
  simp only [newExc, newTuple]
  refine wpAny_bind (wpAny_newObj_type ?_ (by size_fits))
  refine wpAny_bind (m := firstArgMember _ _) (wpAny_of_eq (a := Value.none) (by first | rfl | (simp only [firstArgMember]; rfl)) ?_)
  refine wpAny_newObj_type ?_ (by size_fits)
  simp only [raiseNew]
  refine wpAny_bind (wpAny_handled ?_)
  first | rw [show A.in1.handled = none from hh] | rw [hh]
  refine wpAny_bind (wpAny_pure (wpAny_throw ?_))
  refine wpAny_bind (wpAny_isInstance (T := "StopIteration") (b := true) ⟨_, Heap.get?_push_size _ rfl, rfl⟩ isSubtype_stop ?_)
  exact wpAny_pure (h _ ((b1.extBut.push _).push _))
theorem unpack_set {Q : List Value → Shared → Prop} (hh : A.handled = none) (ho : s.heap.get? a = some (setB (!(w.params.followText "set-order"))))
    (h : ∀ h', Heap.ExtBut s.heap.objs.size s.heap h' → Q [.bool false] { s with heap := h' }) : wpAny (model prog w) A (unpackItems (.ref a) 1 none) Q E s := by
  have hlt : a ≠ s.heap.objs.size := Nat.ne_of_lt (Heap.lt_size ho)
  have hT : s.TypeIs (.ref a) "set" := ⟨_, ho, rfl⟩
  unfold unpackItems
  refine wpAny_bind ?_
  unfold notIterableAtAll
  refine wpAny_bind (wpAny_specialOf hT F.slot_set_iter.lookup ?_)
  refine wpAny_pure ?_
  simp only [Bool.false_eq_true, if_false]
  refine wpAny_bind (wpAny_holding (set_iter ho ?_))
  have ho1 : (s.heap.push (siO a 0 0)).get? a = some (setB (!(w.params.followText "set-order"))) := Heap.get?_push_of_some _ ho
  refine wpAny_bind (wpAny_holding ?_)
  show wpAny _ _ (pyNext (.ref s.heap.objs.size) >>= _) _ _ _
  refine wpAny_bind (set_next1 ho1 (Heap.get?_push_size _ rfl) hlt fun h1 g1 b1 => ?_)
  refine wpAny_bind (wpAny_holding (wpAny_pure (wpAny_pure ?_)))
  rw [if_neg (by simp)]
  refine wpAny_bind (wpAny_holding (set_next2 hh (b1.extBut _ _ hlt ho1) g1 hlt fun h2 b2 => ?_))
  simp only [Option.isSome_none, Bool.false_eq_true, if_false]
  exact wpAny_pure (h h2 fun b o hb e => b2 b o hb (b1.extBut b o hb (Heap.get?_push_of_some _ e)))
end
end Mine
end

noncomputable section
namespace Mine
open PyProof.Rows.LCg PyProof.V
section
variable {prog : Program} {w : World} {A : Around} {E : Value → Shared → Prop} {s : Shared}
theorem compTurn_set (elt target iter : PySem.Expr) (ifs : List PySem.Expr) (scope : Scope) (pos : Pos) (it acc : Value) (env : Env) :
    compTurn (.SetComp elt [⟨target, iter, ifs, 0⟩] scope pos) 0 it acc env = (do
      standAt iter.pos
      match ← pyNext it with
      | none => pure (.done .next)
      | some v =>
        letOwnedTupleGo target it v
        assign target env v
        let mut ok := true
        for c in ifs do
          if ok then ok ← isTrue c env (eval c env)
        if ok then
          (do let v ← eval elt env; standAt elt.pos; let _ ← call (.builtin "set.add") [acc, v])
        again (.compLoop (.SetComp elt [⟨target, iter, ifs, 0⟩] scope pos) 0 it acc env)) := by rfl
theorem codeAny_compStart_set {elt target iter : PySem.Expr} {ifs : List PySem.Expr} {rest : List Comprehension} {scope : Scope} {pos : Pos} {it acc : Value} {env : Env} {R : Result → Shared → Prop}
    (h0 : codeAny (model prog w) A (.compLoop (.SetComp elt (⟨target, iter, ifs, 0⟩ :: rest) scope pos) 0 it acc env) R s)
    (h : wpAny (model prog w) A (pyIter it) (fun it' s' => codeAny (model prog w) A (.compLoop (.SetComp elt (⟨target, iter, ifs, 0⟩ :: rest) scope pos) 0 it' acc env) R s')
      (notedBy (model prog w) A env fun x s' => R (.error x) s') s) :
    codeAny (model prog w) A (.compStart (.SetComp elt (⟨target, iter, ifs, 0⟩ :: rest) scope pos) 0 it acc env) R s := by
  refine codeAny_of_tree ?_
  show wpAny _ _ ((compStart (.SetComp elt (⟨target, iter, ifs, 0⟩ :: rest) scope pos) 0 it acc env).onRaise (fun x => do noteFrame x env; standAt theWindowsPlace)) _ _ s
  refine wpAny_notedAt ?_
  unfold compStart
  show wpAny _ _ (ask >>= _) _ _ s
  refine wpAny_bind (wpAny_askSetting (wpAny_ite ?_))
  split
  · first
      | exact wpAny_bind (wpAny_pure (wpAny_pure (And.intro rfl h0)))
      | exact wpAny_pure (And.intro rfl h0)
  · first
      | exact wpAny_bind (wpAny_rule (wpAny_bind (wpAny_standAt (wpAny_bind (wpAny_mono h (fun it' s' h' => wpAny_pure (And.intro rfl h')) fun _ _ x => x)))))
      | (refine wpAny_bind (wpAny_rule ?_); show wpAny _ _ (standAt iter.pos >>= _) _ _ s; exact wpAny_bind (wpAny_standAt (wpAny_bind (wpAny_mono h (fun it' s' h' => wpAny_pure (And.intro rfl h')) fun _ _ x => x))))
theorem scomp_go {elt target iter : PySem.Expr} {ifs : List PySem.Expr} {scope : Scope} {pos : Pos} {it acc : Value} {env : Env} {R : Result → Shared → Prop} (I : Nat → Shared → Prop)
    (turn : ∀ n s, I n s → wpAny (model prog w) A (pyNext it) (fun r s₁ => match r with
      | none => R (.ok .next) s₁
      | some v => wpAny (model prog w) A (letOwnedTupleGo target it v) (fun _ s₀ => wpAny (model prog w) A (assign target env v) (fun _ s₂ =>
          wpAny (model prog w) A (testsOf env ifs) (fun ok s₃ => if ok = true then wpAny (model prog w) A (eval elt env) (fun x s₄ =>
            wpAny (model prog w) A (call (.builtin "set.add") [acc, x]) (fun _ s₅ => ∃ m, m < n ∧ I m s₅) (notedBy (model prog w) A env fun e s' => R (.error e) s') s₄) (notedBy (model prog w) A env fun e s' => R (.error e) s') s₃
            else ∃ m, m < n ∧ I m s₃) (notedBy (model prog w) A env fun e s' => R (.error e) s') s₂)
          (notedBy (model prog w) A env fun e s' => R (.error e) s') s₀) (notedBy (model prog w) A env fun e s' => R (.error e) s') s₁) (notedBy (model prog w) A env fun e s' => R (.error e) s') s)
    (n : Nat) (h : I n s) : codeAny (model prog w) A (.compLoop (.SetComp elt [⟨target, iter, ifs, 0⟩] scope pos) 0 it acc env) R s := by
  refine codeAny_loop rfl I (fun n s hI => ?_) n h
  show wpAny _ A ((compTurn (.SetComp elt [⟨target, iter, ifs, 0⟩] scope pos) 0 it acc env).onRaise (fun x => do noteFrame x env; theTreesLotGoes x)) _ _ s
  refine wpAny_noted ?_
  rw [compTurn_set]
  refine wpAny_bind (wpAny_standAt (wpAny_bind (wpAny_mono (turn n s hI) (fun r s₁ h₁ => ?_) fun _ _ h' => h')))
  cases r with
  | none => exact wpAny_pure h₁
  | some v =>
    refine wpAny_bind (wpAny_mono h₁ (fun _ s₀ h₀' => ?_) fun _ _ h' => h')
    refine wpAny_bind (wpAny_mono h₀' (fun _ s₂ h₂ => ?_) fun _ _ h' => h')
    refine wpAny_bind (wpAny_mono h₂ (fun okb s₃ h₃ => ?_) fun _ _ h' => h')
    cases okb with
    | false => exact wpAny_pure ⟨rfl, h₃⟩
    | true => exact wpAny_bind (wpAny_bind (wpAny_mono h₃ (fun x s₄ h₄ => wpAny_bind (wpAny_standAt (wpAny_bind (wpAny_mono h₄ (fun _ s₅ h₅ => wpAny_pure (wpAny_pure ⟨rfl, h₅⟩)) fun _ _ h' => h')))) fun _ _ h' => h'))
end
abbrev ledW (w : World) : Bool := !(w.params.followText "set-order")
abbrev sObj (w : World) (i : Nat) : Obj := if i = 0 then setA (ledW w) else setB (ledW w)
section
variable {prog : Program} {w : World} {A : Around} {E : Value → Shared → Prop} {s : Shared} {h₀ : Heap} {L : Addr} {m : Str → Option Value} {env : Env}
inductive SLoopI (h₀ : Heap) (L : Addr) (m : Str → Option Value) (s₂ : Shared) (n : Nat) (St : Nat → Heap → Prop) (C D : Addr) (w : World) (news : List (Addr × Obj)) (k : Nat) (s' : Shared) : Prop
  | intro (h' : Heap) (tk i : Nat) (m' : Str → Option Value) (e1 : s' = { s₂ with heap := h', toks := tk }) (e2 : i ≤ n) (e3 : k = n + 1 - i) (e4 : St i h') (e5 : Fr h₀ L h' m) (e6 : h'.Ns C m') (e7 : News h₀ L h' ((D, sObj w i) :: news)) : SLoopI h₀ L m s₂ n St C D w news k s'
theorem scomp_block {target elt iter : PySem.Expr} {scope : Scope} {cl : List (Str × Addr)} {pos : Pos} {s₂ : Shared} {I : Addr} {fp wr : List Addr} {n : Nat} {P Md : Nat → Value → Heap → Prop} {St : Nat → Heap → Prop} {news : List (Addr × Obj)}
    {V : Nat → (Str → Option Value) → Prop} {RR : Value → Addr → Result → Shared → Prop}
    (W : KTurns prog w A target I fp wr n P Md St)
    (hself : ∀ (s : Shared) (Q : Value → Shared → Prop) (E : Value → Shared → Prop), St 0 s.heap → Q (.ref I) s → wpAny (model prog w) A (pyIter (.ref I)) Q E s)
    (hcell : ∀ y ∈ scope.names, y.2 ≠ .cell) (hkind : scope.kind = .function)
    (hass : ∀ i v (s : Shared) C m₂ (Q : Unit → Shared → Prop) (E : Value → Shared → Prop), i < n → P i v s.heap → s.heap.Ns C m₂ → C ∉ fp →
      (∀ h' tk' m₃, V i m₃ → h'.Ns C m₃ → (∀ b o, b ≠ C → s.heap.get? b = some o → h'.get? b = some o) → Q () { s with heap := h', toks := tk' }) → wpAny (model prog w) A (assign target (compEnvC scope cl C env) v) Q E s)
    (hst : St 0 s₂.heap) (hfp : ∀ b ∈ fp, b < s₂.heap.objs.size) (F : Fr h₀ L s₂.heap m) (N : News h₀ L s₂.heap news) (hLf : L ∉ fp) (hwr : ∀ b ∈ wr, h₀.get? b = none) (hnw : ∀ p ∈ news, p.1 ∉ wr)
    (step : ∀ i own C oC D m₂ h₁ tk₁ (E' : Value → Shared → Prop), i < n → V i m₂ → NsObj oC m₂ → Fr h₀ L h₁ m → News h₀ L h₁ ((C, oC) :: (D, sObj w i) :: (news ++ own)) →
      wpAny (model prog w) A (eval elt (compEnvC scope cl C env)) (fun y s₄ => y = .bool false ∧ PEnd h₀ L m { s₂ with heap := h₁, toks := tk₁ } ((C, oC) :: (D, sObj w i) :: (news ++ own)) True s₄) E' { s₂ with heap := h₁, toks := tk₁ })
    (hRR : ∀ D C h tk m', Fr h₀ L h m → News h₀ L h ((D, sObj w n) :: news) → (∀ p ∈ news, p.1 ≠ D) → h.Ns C m' → h₀.get? C = none → h₀.get? D = none → C ≠ L → D ≠ L → C ≠ D → (∀ p ∈ news, p.1 ≠ C) → RR (.ref D) C (.ok .next) { s₂ with heap := h, toks := tk }) :
    wpAny (model prog w) A (newSet (.type "set")) (fun acc s₃ => wpAny (model prog w) A (newFunctionEnv scope env.globals cl [] env.qual none .none (some env)) (fun cenv s₄ =>
      codeAny (model prog w) A (.compStart (.SetComp elt [⟨target, iter, [], 0⟩] scope pos) 0 (.ref I) acc { cenv with scope := relabel scope env }) (RR acc cenv.locals) s₄) E s₃) E s₂ := by
  refine new_set (wpAny_newFunctionEnv hcell (by intro y hy; simp at hy) (fun h₁ hns₁ hsb₁ => ?_) hkind)
  dsimp only at hns₁ hsb₁ ⊢
  generalize hH2 : s₂.heap.push (setA (!(w.params.followText "set-order"))) = H2 at hns₁ hsb₁ ⊢
  have hC : H2.objs.size = s₂.heap.objs.size + 1 := by rw [← hH2, Heap.size_push]
  have hDC : s₂.heap.objs.size ≠ H2.objs.size := by rw [hC]; exact Nat.ne_of_lt (Nat.lt_succ_self _)
  have below : ∀ b, b < s₂.heap.objs.size → b ≠ H2.objs.size ∧ b ≠ s₂.heap.objs.size := fun b hb => ⟨by rw [hC]; exact Nat.ne_of_lt (Nat.lt_succ_of_lt hb), Nat.ne_of_lt hb⟩
  have hDf : s₂.heap.objs.size ∉ fp := fun hm => Nat.lt_irrefl _ (hfp _ hm)
  have hCf : H2.objs.size ∉ fp := fun hm => by have := hfp _ hm; rw [hC] at this; exact Nat.lt_irrefl _ (Nat.lt_of_succ_lt this)
  have old : ∀ b o, s₂.heap.get? b = some o → h₁.get? b = some o := fun b o e => hsb₁.extBut b o (below b (Heap.lt_size e)).1 (Heap.get?_push_of_some _ (hH2 ▸ Heap.get?_push_of_some _ e))
  have hacc : h₁.get? s₂.heap.objs.size = some (sObj w 0) := hsb₁.extBut _ _ hDC (Heap.get?_push_of_some _ (hH2 ▸ Heap.get?_push_size _ rfl))
  have hst₁ : St 0 h₁ := W.frame _ _ _ hst fun b _ o e => old b o e
  have fresh : ∀ a, s₂.heap.objs.size ≤ a → s₂.heap.get? a = none := fun a ha => by
    cases e : s₂.heap.get? a with
    | none => rfl
    | some o' => exact absurd (Heap.lt_size e) (Nat.not_lt.mpr ha)
  have fresh₀ : ∀ a, s₂.heap.objs.size ≤ a → h₀.get? a = none := fun a ha => by
    cases e : h₀.get? a with
    | none => rfl
    | some o' => have := F.keep a o' e; rw [fresh a ha] at this; cases this
  have hD₀ : h₀.get? s₂.heap.objs.size = none := fresh₀ _ (Nat.le_refl _)
  have hC₀ : h₀.get? H2.objs.size = none := fresh₀ _ (by rw [hC]; exact Nat.le_succ _)
  have hLlt : L < s₂.heap.objs.size := F.ns.lt
  have hDL : s₂.heap.objs.size ≠ L := Ne.symm (below L hLlt).2
  have hCL : H2.objs.size ≠ L := Ne.symm (below L hLlt).1
  have hLw : L ∉ wr := fun h => hLf (W.sub _ h)
  have hDw : s₂.heap.objs.size ∉ wr := fun h => hDf (W.sub _ h)
  have hCw : H2.objs.size ∉ wr := fun h => hCf (W.sub _ h)
  have oldw : ∀ b o, h₀.get? b = some o → b ∉ wr := fun b o e hb => by rw [hwr b hb] at e; cases e
  have off₀ : ∀ p ∈ news, p.1 ∉ wr ∧ p.1 ≠ H2.objs.size ∧ p.1 ≠ s₂.heap.objs.size := fun p hp => ⟨hnw p hp, (below _ (Heap.lt_size (N p hp).1)).1, (below _ (Heap.lt_size (N p hp).1)).2⟩
  have loop : ∀ s₃ : Shared, s₃ = { s₂ with heap := h₁, toks := s₂.toks + ([] : List (Str × Value)).length } →
      codeAny (model prog w) A (.compLoop (.SetComp elt [⟨target, iter, [], 0⟩] scope pos) 0 (.ref I) (.ref s₂.heap.objs.size) (compEnvC scope cl H2.objs.size env))
        (RR (.ref s₂.heap.objs.size) H2.objs.size) s₃ := by
    rintro s₃ rfl
    refine scomp_go
      (SLoopI h₀ L m s₂ n St H2.objs.size s₂.heap.objs.size w news) ?_ (n + 1)
      ⟨h₁, _, 0, _, rfl, Nat.zero_le _, rfl, hst₁, F.keeps old, hns₁, fun p hp => ?_⟩
    · rintro k s' ⟨h', tk, i, m', rfl, hi, rfl, hst', F', hn', N'⟩
      have hnx : ∀ h₂ : Heap, (∀ b o, b ∉ wr → h'.get? b = some o → h₂.get? b = some o) → Fr h₀ L h₂ m ∧ News h₀ L h₂ ((s₂.heap.objs.size, sObj w i) :: news) ∧ h₂.Ns H2.objs.size m' := fun h₂ hk => by
        refine ⟨⟨F'.ns.at' fun o e => hk _ o hLw e, fun b o e => hk b o (oldw b o e) (F'.keep b o e), F'.above⟩, fun p hp => ⟨hk _ _ ?_ (N' p hp).1, (N' p hp).2⟩, hn'.at' fun o e => hk _ o hCw e⟩
        rcases List.mem_cons.mp hp with rfl | hp
        · exact hDw
        · exact (off₀ p hp).1
      by_cases hlt : i < n
      · refine W.item i _ _ _ hlt hst' fun v h₂ tk₂ hMd hk₂ => ?_
        refine W.go i v _ _ _ hMd fun h₂' hP hst₂ hk₂' => ?_
        obtain ⟨F₂, N₂, hn₂⟩ := hnx h₂' fun b o hb x => hk₂' b o hb (hk₂ b o hb x)
        refine hass i v _ _ m' _ _ hlt hP hn₂ hCf fun h₃ tk₃ m₃ hV hn₃ hk₃ => ?_
        obtain ⟨oC, heC, hoC⟩ := ns_obj hn₃
        have hk3f : ∀ b ∈ fp, ∀ o, h₂'.get? b = some o → h₃.get? b = some o := fun b hb o e => hk₃ b o (fun q => hCf (by rw [← q]; exact hb)) e
        have hst₃ : St (i + 1) h₃ := W.frame _ _ _ hst₂ hk3f
        have F₃ : Fr h₀ L h₃ m := ⟨F₂.ns.at' fun o e => hk₃ _ o (Ne.symm hCL) e, fun b o e => hk₃ b o (fun q => by rw [q, hC₀] at e; cases e) (F₂.keep b o e), F₂.above⟩
        have Nown : News h₀ L h₃ (PyProof.Rows.ownOf h₀ fp h₃) := news_ownOf hLf
        have N₃ : News h₀ L h₃ ((H2.objs.size, oC) :: (s₂.heap.objs.size, sObj w i) :: (news ++ PyProof.Rows.ownOf h₀ fp h₃)) := fun p hp => by
          rcases List.mem_cons.mp hp with rfl | hp
          · exact ⟨heC, hCL, hC₀⟩
          · rcases List.mem_cons.mp hp with rfl | hp
            · have z := N₂ _ List.mem_cons_self
              exact ⟨hk₃ _ _ hDC z.1, z.2⟩
            · rcases List.mem_append.mp hp with hp | hp
              · have z := N₂ p (List.mem_cons_of_mem _ hp)
                exact ⟨hk₃ _ _ (off₀ p hp).2.1 z.1, z.2⟩
              · exact Nown p hp
        refine wpAny_tests_nil ?_
        simp only [if_true]
        refine wpAny_mono (step i _ _ oC _ m₃ h₃ tk₃ _ hlt hV hoC F₃ N₃) (fun y s₄ h₄ => ?_) fun _ _ e => e
        obtain ⟨rfl, h₄, tk₄, rfl, F₄, N₄, _⟩ := h₄
        have st₄ : St (i + 1) h₄ := W.frame _ _ _ hst₃ fun b hb o e => by
          cases hn : h₀.get? b with
          | some o₀ =>
            have : o₀ = o := by have q := F₃.keep b o₀ hn; rw [e] at q; exact (Option.some.inj q).symm
            exact this ▸ F₄.keep b o₀ hn
          | none => exact (N₄ _ (List.mem_cons_of_mem _ (List.mem_cons_of_mem _ (List.mem_append_right _ (mem_ownOf hb hn e))))).1
        have n₄ : h₄.Ns H2.objs.size m₃ := hoC.ns (N₄ _ List.mem_cons_self).1
        have zD := (N₄ _ (List.mem_cons_of_mem _ List.mem_cons_self)).1
        have fin : ∀ h₅ tk₅, Heap.SameBut s₂.heap.objs.size h₄ h₅ → h₅.get? s₂.heap.objs.size = some (setB (ledW w)) → ∃ k', k' < n + 1 - i ∧ SLoopI h₀ L m s₂ n St H2.objs.size s₂.heap.objs.size w news k' { s₂ with heap := h₅, toks := tk₅ } := by
          intro h₅ tk₅ hs₅ hD₅
          refine ⟨n + 1 - (i + 1), by (first | lia | omega), h₅, tk₅, i + 1, m₃, rfl, hlt, rfl, W.frame _ _ _ st₄ fun b hb o e => hs₅.extBut b o (fun q => hDf (q ▸ hb)) e, F₄.change hs₅ hDL hD₀, n₄.sameBut hs₅ (Ne.symm hDC), fun p hp => ?_⟩
          rcases List.mem_cons.mp hp with rfl | hp
          · exact ⟨hD₅, hDL, hD₀⟩
          · have z := N₄ p (List.mem_cons_of_mem _ (List.mem_cons_of_mem _ (List.mem_append_left _ hp)))
            exact ⟨hs₅.extBut _ _ (off₀ p hp).2.2 z.1, z.2⟩
        by_cases hi0 : i = 0
        · subst hi0
          exact add_first zD fun h₅ hs₅ hD₅ => fin h₅ _ hs₅ hD₅
        · rw [show sObj w i = setB (ledW w) from if_neg hi0] at zD
          exact add_again zD (fin h₄ _ (Heap.SameBut.refl _ _) zD)
      · obtain rfl : i = n := Nat.le_antisymm hi (Nat.not_lt.mp hlt)
        refine W.done _ _ _ hst' fun h₂ tk₂ hk₂ => ?_
        obtain ⟨F₂, N₂, hn₂⟩ := hnx h₂ hk₂
        exact hRR _ _ h₂ tk₂ _ F₂ N₂ (fun p hp => (off₀ p hp).2.2) hn₂ hC₀ hD₀ hCL hDL (Ne.symm hDC) (fun p hp => (off₀ p hp).2.1)
    · rcases List.mem_cons.mp hp with rfl | hp
      · exact ⟨hacc, hDL, hD₀⟩
      · exact ⟨old _ _ (N p hp).1, (N p hp).2⟩
  exact codeAny_compStart_set (loop _ rfl) (hself _ _ _ hst₁ (loop _ rfl))
end
end Mine
end

noncomputable section
namespace Mine
open PyProof.Rows.LCg PyProof.V
section
variable {prog : Program} {w : World} {A : Around} {E : Value → Shared → Prop} {s : Shared} {h₀ : Heap} {L : Addr} {m : Str → Option Value} {env : Env}
inductive SetSrc (prog : Program) (w : World) (A : Around) (h₀ : Heap) (L : Addr) (m : Str → Option Value) (env : Env) (elt : PySem.Expr) (x : Str) (scope : Scope) (cl : List (Str × Addr)) (Q : Value → Shared → Prop) (xv : Value) (s₁ : Shared) : Prop
  | intro (ax : Addr) (its : Array Value) (k : Nat) (news : List (Addr × Obj)) (f1 : xv = .ref ax) (f2 : A.handled = none) (f3 : Fr h₀ L s₁.heap m) (f4 : News h₀ L s₁.heap news) (f5 : (ax, ({ cls := .type "tuple", data := .seq its k } : Obj)) ∈ news) (f6 : its.size ≠ 0) (f7 : (∀ (i : Nat) v own C oC D oD m₂ h₁ tk₁ (E' : Value → Shared → Prop), its[i]? = some v → m₂ x = some v → NsObj oC m₂ → Fr h₀ L h₁ m → News h₀ L h₁ ((C, oC) :: (D, oD) :: (news ++ own)) → wpAny (model prog w) A (eval elt (compEnvC scope cl C env)) (fun y s₄ => y = .bool false ∧ PEnd h₀ L m { s₁ with heap := h₁, toks := tk₁ } ((C, oC) :: (D, oD) :: (news ++ own)) True s₄) E' { s₁ with heap := h₁, toks := tk₁ })) (f8 : ∀ D h tk, Fr h₀ L h m → News h₀ L h ((D, setB (ledW w)) :: news) → (∀ p ∈ news, p.1 ≠ D) → Q (.ref D) { s₁ with heap := h, toks := tk }) : SetSrc prog w A h₀ L m env elt x scope cl Q xv s₁
theorem SetComp_tup {elt iter : PySem.Expr} {x : Str} {px : Pos} {scope : Scope} {cl : List (Str × Addr)} {pos : Pos} {Q : Value → Shared → Prop} (F₀ : Fr h₀ L s.heap m)
    (hclos : closureFor scope env = pure cl) (hcell : ∀ y ∈ scope.names, y.2 ≠ .cell) (hkind : scope.kind = .function)
    (hnames : ∀ y ∈ scope.names, y.2 = .local → scope.names.lookup y.1 = some .local) (hx : scope.names.lookup x = some .local)
    (h : wpAny (model prog w) A (eval iter env) (fun xv s₁ => SetSrc prog w A h₀ L m env elt x scope cl Q xv s₁) E s)
    (hs : ∀ x, foldedSetIterable iter env x = pure x := by intro _; rfl) :
    wpAny (model prog w) A (eval (.SetComp elt [⟨.Name x px, iter, [], 0⟩] scope pos) env) Q E s := by
  rw [arm_eval_SetComp]
  show wpAny _ _ (comprehension (.SetComp elt [⟨.Name x px, iter, [], 0⟩] scope pos) scope env _ (newSet (.type "set")) false (eval iter env)) _ _ _
  refine wpAny_comprehension_free (use := none) rfl hs hclos hkind hnames (wpAny_mono h (fun xv s₁ h₁ => ?_) fun _ _ e => e)
  obtain ⟨ax, its, k, news, rfl, hh, F, N, hm, hn0, step, fin⟩ := h₁
  have hl : s₁.heap.IsTuple ax its := ⟨_, (N _ hm).1, rfl, _, rfl⟩
  have hlt : ax < s₁.heap.objs.size := Heap.lt_size (N _ hm).1
  have kk : ∀ o : Obj, ∀ b o', s₁.heap.get? b = some o' → (s₁.heap.push o).get? b = some o' := fun o b o' e => Heap.get?_push_of_some _ e
  refine wpAny_pyIter_tuple hl ?_
  refine scomp_block (KTurns.ofWalks (Walks.tuple hh s₁.heap.objs.size ax (Nat.ne_of_lt hlt) its) (fun i v s Q E _ hq => wpAny_pure hq)) (fun s Q E h hq => wpAny_pyIter_tupleiter h.1 hq) hcell hkind
    (V := fun i m₂ => ∃ v, its[i]? = some v ∧ m₂ x = some v) (fun i v s C m₂ Q E _ hP hn _ k => assign_one hkind hx hn fun h' tk' hn' hk' => k h' tk' _ ⟨v, hP, by simp⟩ hn' hk') ⟨⟨_, Heap.get?_push_size _ rfl, rfl, rfl⟩, hl.push _⟩ (fun b hb => ?_) (F.keeps (kk _)) (N.grown (kk _)) (fun h => ?_)
    (fun b hb => by rw [List.mem_singleton.mp hb]; exact get_fresh F) (fun p hp hb => Nat.ne_of_lt (Heap.lt_size (N p hp).1) (List.mem_singleton.mp hb)) ?_ ?_
  · rw [Heap.size_push]
    rcases List.mem_cons.mp hb with rfl | hb
    · exact Nat.lt_succ_self _
    · rw [List.mem_singleton.mp hb]; exact Nat.lt_succ_of_lt hlt
  · rcases List.mem_cons.mp h with rfl | hb
    · exact Nat.lt_irrefl _ F.ns.lt
    · exact (N _ hm).2.1 (List.mem_singleton.mp hb).symm
  · intro i own C oC D m₂ h₁ tk₁ E' hi hV hC F' N'
    obtain ⟨v, hv, hx'⟩ := hV
    exact step i v own C oC D _ m₂ h₁ tk₁ E' hv hx' hC F' N'
  · intro D C h' tk m' F' N' o1 hn hC₀ hD₀ hCL hDL hCD offC
    rw [show sObj w its.size = setB (ledW w) from if_neg hn0] at N'
    refine ⟨m', hn, fun h'' hs'' => fin D h'' tk (F'.change hs'' hCL hC₀) (fun p hp => ?_) o1⟩
    refine ⟨hs''.extBut _ _ ?_ (N' p hp).1, (N' p hp).2⟩
    rcases List.mem_cons.mp hp with rfl | hp
    · exact Ne.symm hCD
    · exact offC p hp
theorem assign_set1 {e1 : PySem.Expr} {kk : Nat} {pos : Pos} {D : Addr} {news : List (Addr × Obj)} {Q : Unit → Shared → Prop} (hh : A.handled = none) (F : Fr h₀ L s.heap m) (N : News h₀ L s.heap news) (hm : (D, setB (ledW w)) ∈ news) (h1 : assignEach [e1] env = [(false, assign e1 env)])
    (h : ∀ h', Fr h₀ L h' m → News h₀ L h' news → wpAny (model prog w) A (assign e1 env (.bool false)) Q E { s with heap := h' }) : wpAny (model prog w) A (assign (.Tuple [e1] kk pos) env (.ref D)) Q E s := by
  rw [arm_assign_Tuple]
  refine wpAny_bind (wpAny_standAt ?_)
  rw [h1]
  unfold unpack
  refine wpAny_bind (wpAny_holding (unpack_set hh (N _ hm).1 fun h' hk => ?_))
  have F' : Fr h₀ L h' m := ⟨F.ns.at' fun o e => hk _ o (Nat.ne_of_lt F.ns.lt) e, fun b o e => hk b o (Nat.ne_of_lt (Heap.lt_size (F.keep b o e))) (F.keep b o e), F.above⟩
  have N' : News h₀ L h' news := fun p hp => ⟨hk _ _ (Nat.ne_of_lt (Heap.lt_size (N p hp).1)) (N p hp).1, (N p hp).2⟩
  exact assignInOrder_cons (wpAny_mono (h h' F' N') (fun _ _ hq => assignInOrder_nil hq) fun _ _ e => e)
end
end Mine
end

noncomputable section
namespace Mine
open PySem.AutoSeq1 (wpAny_loadPart')
open PySem.MeetsSeq PySem.MeetsSeq2 PySem.MeetsSeq3 PySem.SeqRoads2 PySem.SeqAt
def RcLLt (A : Around) (s : Shared) (y x : Value) (b : Bool) : Prop :=
  ∀ (prog : Program) (w : World) (E : Value → Shared → Prop) (Q : Value → Shared → Prop), Q (.bool b) s → wpAny (model prog w) A (richCompare .Lt y x) Q E s
theorem loopLLt (l b : Addr) (items items2 : Array Value) (n n2 : Nat) (dd dd2 : Option Addr) (sl sl2 : Array (Option Value)) (e r : Nat → Bool) (k : Nat) :
    ∀ i : Nat, min items.size items2.size - i = k → i ≤ min items.size items2.size → Meets (Builtin.«list.__eq__.loop» ⟨[.ref l, .ref b, rawInt i, rawInt 0], []⟩)
      (fun A R s => s.heap.get? l = some { cls := .type "list", dict := dd, data := .seq items n, slots := sl } ∧ s.heap.get? b = some { cls := .type "list", dict := dd2, data := .seq items2 n2, slots := sl2 } ∧
        (∀ j (h1 : j < items.size) (h2 : j < items2.size), EqAt A.in1 s items[j] items2[j] (e j)) ∧ (∀ j (h1 : j < items.size) (h2 : j < items2.size), e j = false → RcLLt A.in1 s items[j] items2[j] (r j)) ∧
        R (.ok (.ret (.bool (lexFrom e r (decide (items.size < items2.size)) k i)))) s) := by
  induction k with
  | zero =>
    intro i hk hle prog w A R s h
    obtain ⟨hp, g, d, tk, os⟩ := s; obtain ⟨hl, hb, he, hr, h⟩ := h
    wp_walk using wpAny_loadPart' hl, wpAny_loadPart' hb
    have hi : items[((i : Nat) : Int).toNat]? = none ∨ items2[((i : Nat) : Int).toNat]? = none := by
      rcases Nat.lt_or_ge items.size items2.size with h' | h'
      · exact .inl (by simp; (first | lia | omega))
      · exact .inr (by simp; (first | lia | omega))
    generalize items[((i : Nat) : Int).toNat]? = z1 at hi ⊢
    generalize items2[((i : Nat) : Int).toNat]? = z2 at hi ⊢
    rcases hi with rfl | rfl
    · cases z2 <;> (wp_walk using wpAny_loadPart' hl, wpAny_loadPart' hb) <;> exact h
    · cases z1 <;> (wp_walk using wpAny_loadPart' hl, wpAny_loadPart' hb) <;> exact h
  | succ k ih =>
    intro i hk hle prog w A R s h
    obtain ⟨hp, g, d, tk, os⟩ := s; obtain ⟨hl, hb, he, hr, h⟩ := h
    wp_walk using wpAny_loadPart' hl, wpAny_loadPart' hb
    have hlt : i < items.size := by (first | lia | omega)
    have hlt2 : i < items2.size := by (first | lia | omega)
    have hi1 : items[((i : Nat) : Int).toNat]? = some items[i] := by simp [hlt]
    have hi2 : items2[((i : Nat) : Int).toNat]? = some items2[i] := by simp [hlt2]
    have hc : ((i : Int) + 1) = ((i + 1 : Nat) : Int) := by push_cast; rfl
    rw [lexFrom] at h
    rw [hi1, hi2]
    refine wpAny_bind (he i hlt hlt2 prog w _ _ ?_)
    cases hb' : e i with
    | true =>
      rw [hb'] at h
      wp_walk
      rw [hc]
      exact ⟨plainId_quiet plain_eq_loop _, codeAny_builtin entry_eq_loop (by
        rw [Around.under_plainId plain_eq_loop _]
        exact ih (i + 1) (by (first | lia | omega)) (by (first | lia | omega)) prog w A R _ ⟨hl, hb, he, hr, by simpa using h⟩)⟩
    | false =>
      rw [hb'] at h
      wp_walk using wpAny_loadPart' hl, wpAny_loadPart' hb
      rw [hi1, hi2]
      refine wpAny_bind (hr i hlt hlt2 hb' prog w _ _ ?_)
      wp_walk
      simpa using h
theorem listLLt (l b : Addr) (items items2 : Array Value) (n n2 : Nat) (dd dd2 : Option Addr) (sl sl2 : Array (Option Value)) (e r : Nat → Bool) :
    Meets (Builtin.«list.__lt__» ⟨[.ref l, .ref b], []⟩)
      (fun A R s => s.heap.get? l = some { cls := .type "list", dict := dd, data := .seq items n, slots := sl } ∧ s.heap.get? b = some { cls := .type "list", dict := dd2, data := .seq items2 n2, slots := sl2 } ∧
        (∀ j (h1 : j < items.size) (h2 : j < items2.size), EqAt A.in1 s items[j] items2[j] (e j)) ∧ (∀ j (h1 : j < items.size) (h2 : j < items2.size), e j = false → RcLLt A.in1 s items[j] items2[j] (r j)) ∧
        R (.ok (.ret (.bool (lexFrom e r (decide (items.size < items2.size)) (min items.size items2.size) 0)))) s) := by
  intro prog w A R s h
  obtain ⟨hp, g, d, tk, os⟩ := s; obtain ⟨hl, hb, he, hr, h⟩ := h
  have f3 := AutoSeq1.sub_list_list
  wp_walk using wpAny_loadPart' hl, wpAny_loadPart' hb
  exact ⟨plainId_quiet plain_eq_loop _, codeAny_builtin entry_eq_loop (by
    rw [Around.under_plainId plain_eq_loop _]
    exact loopLLt l b items items2 n n2 dd dd2 sl sl2 e r _ 0 rfl (Nat.zero_le _) prog w A R _ ⟨hl, hb, he, hr, by simpa using h⟩)⟩
def RcLGt (A : Around) (s : Shared) (y x : Value) (b : Bool) : Prop :=
  ∀ (prog : Program) (w : World) (E : Value → Shared → Prop) (Q : Value → Shared → Prop), Q (.bool b) s → wpAny (model prog w) A (richCompare .Gt y x) Q E s
theorem loopLGt (l b : Addr) (items items2 : Array Value) (n n2 : Nat) (dd dd2 : Option Addr) (sl sl2 : Array (Option Value)) (e r : Nat → Bool) (k : Nat) :
    ∀ i : Nat, min items.size items2.size - i = k → i ≤ min items.size items2.size → Meets (Builtin.«list.__eq__.loop» ⟨[.ref l, .ref b, rawInt i, rawInt 4], []⟩)
      (fun A R s => s.heap.get? l = some { cls := .type "list", dict := dd, data := .seq items n, slots := sl } ∧ s.heap.get? b = some { cls := .type "list", dict := dd2, data := .seq items2 n2, slots := sl2 } ∧
        (∀ j (h1 : j < items.size) (h2 : j < items2.size), EqAt A.in1 s items[j] items2[j] (e j)) ∧ (∀ j (h1 : j < items.size) (h2 : j < items2.size), e j = false → RcLGt A.in1 s items[j] items2[j] (r j)) ∧
        R (.ok (.ret (.bool (lexFrom e r (decide (items.size > items2.size)) k i)))) s) := by
  induction k with
  | zero =>
    intro i hk hle prog w A R s h
    obtain ⟨hp, g, d, tk, os⟩ := s; obtain ⟨hl, hb, he, hr, h⟩ := h
    wp_walk using wpAny_loadPart' hl, wpAny_loadPart' hb
    have hi : items[((i : Nat) : Int).toNat]? = none ∨ items2[((i : Nat) : Int).toNat]? = none := by
      rcases Nat.lt_or_ge items.size items2.size with h' | h'
      · exact .inl (by simp; (first | lia | omega))
      · exact .inr (by simp; (first | lia | omega))
    generalize items[((i : Nat) : Int).toNat]? = z1 at hi ⊢
    generalize items2[((i : Nat) : Int).toNat]? = z2 at hi ⊢
    rcases hi with rfl | rfl
    · cases z2 <;> (wp_walk using wpAny_loadPart' hl, wpAny_loadPart' hb) <;> exact h
    · cases z1 <;> (wp_walk using wpAny_loadPart' hl, wpAny_loadPart' hb) <;> exact h
  | succ k ih =>
    intro i hk hle prog w A R s h
    obtain ⟨hp, g, d, tk, os⟩ := s; obtain ⟨hl, hb, he, hr, h⟩ := h
    wp_walk using wpAny_loadPart' hl, wpAny_loadPart' hb
    have hlt : i < items.size := by (first | lia | omega)
    have hlt2 : i < items2.size := by (first | lia | omega)
    have hi1 : items[((i : Nat) : Int).toNat]? = some items[i] := by simp [hlt]
    have hi2 : items2[((i : Nat) : Int).toNat]? = some items2[i] := by simp [hlt2]
    have hc : ((i : Int) + 1) = ((i + 1 : Nat) : Int) := by push_cast; rfl
    rw [lexFrom] at h
    rw [hi1, hi2]
    refine wpAny_bind (he i hlt hlt2 prog w _ _ ?_)
    cases hb' : e i with
    | true =>
      rw [hb'] at h
      wp_walk
      rw [hc]
      exact ⟨plainId_quiet plain_eq_loop _, codeAny_builtin entry_eq_loop (by
        rw [Around.under_plainId plain_eq_loop _]
        exact ih (i + 1) (by (first | lia | omega)) (by (first | lia | omega)) prog w A R _ ⟨hl, hb, he, hr, by simpa using h⟩)⟩
    | false =>
      rw [hb'] at h
      wp_walk using wpAny_loadPart' hl, wpAny_loadPart' hb
      rw [hi1, hi2]
      refine wpAny_bind (hr i hlt hlt2 hb' prog w _ _ ?_)
      wp_walk
      simpa using h
theorem listLGt (l b : Addr) (items items2 : Array Value) (n n2 : Nat) (dd dd2 : Option Addr) (sl sl2 : Array (Option Value)) (e r : Nat → Bool) :
    Meets (Builtin.«list.__gt__» ⟨[.ref l, .ref b], []⟩)
      (fun A R s => s.heap.get? l = some { cls := .type "list", dict := dd, data := .seq items n, slots := sl } ∧ s.heap.get? b = some { cls := .type "list", dict := dd2, data := .seq items2 n2, slots := sl2 } ∧
        (∀ j (h1 : j < items.size) (h2 : j < items2.size), EqAt A.in1 s items[j] items2[j] (e j)) ∧ (∀ j (h1 : j < items.size) (h2 : j < items2.size), e j = false → RcLGt A.in1 s items[j] items2[j] (r j)) ∧
        R (.ok (.ret (.bool (lexFrom e r (decide (items.size > items2.size)) (min items.size items2.size) 0)))) s) := by
  intro prog w A R s h
  obtain ⟨hp, g, d, tk, os⟩ := s; obtain ⟨hl, hb, he, hr, h⟩ := h
  have f3 := AutoSeq1.sub_list_list
  wp_walk using wpAny_loadPart' hl, wpAny_loadPart' hb
  exact ⟨plainId_quiet plain_eq_loop _, codeAny_builtin entry_eq_loop (by
    rw [Around.under_plainId plain_eq_loop _]
    exact loopLGt l b items items2 n n2 dd dd2 sl sl2 e r _ 0 rfl (Nat.zero_le _) prog w A R _ ⟨hl, hb, he, hr, by simpa using h⟩)⟩
end Mine
end

noncomputable section
namespace Mine
section
variable {prog : Program} {w : World} {A : Around} {E : Value → Shared → Prop} {s : Shared}
theorem max2 {Q : Value → Shared → Prop} {v0 v1 : Value} {l : Addr} {bt : Bool} (hh : A.handled = none) (hl : s.heap.IsList l #[v0, v1])
    (hcmp : ∀ h' tk' (Q' E' : Value → Shared → Prop), (∀ b o, s.heap.get? b = some o → h'.get? b = some o) → Q' (.bool bt) { s with heap := h', toks := tk' } → wpAny (model prog w) A.in1.in1 (richCompare .Gt v1 v0) Q' E' { s with heap := h', toks := tk' })
    (hQ : ∀ h' tk', (∀ b o, s.heap.get? b = some o → h'.get? b = some o) → Q (if bt = true then v1 else v0) { s with heap := h', toks := tk' }) : wpAny (model prog w) A (call (.builtin "max") [.ref l]) Q E s := by
  have hname : (toString "max" ++ toString ".loop" : String) = "max.loop" := by decide
  obtain ⟨ol, hol, hcl, nl, hdl⟩ := hl
  have llt : l < s.heap.objs.size := Heap.lt_size hol
  refine call_function_tree F.kind_max F.plain_max F.entry_max (F.args_max1 _) ?_
  show wpAny _ A.in1 (Builtin.Builtins.bindParams "max" ["key", "default"] 0 ⟨[], []⟩ >>= _) _ _ s
  refine wpAny_bind (wpAny_of_eq (show Builtin.Builtins.bindParams "max" ["key", "default"] 0 ⟨[], []⟩ = pure [none, none] from rfl) ?_)
  refine wpAny_bind (wpAny_pure ?_)
  refine wpAny_bind (wpAny_pyIter_list ⟨ol, hol, hcl, nl, hdl⟩ ?_)
  refine wpAny_bind (wpAny_newObj_type ?_)
  dsimp only
  generalize hI : s.heap.objs.size = I at llt ⊢
  generalize hH1 : s.heap.push { cls := .type "list_iterator", data := .fields #[.ref l, .int 0 0] } = H1
  have hS : H1.objs.size = I + 1 := by rw [← hH1, Heap.size_push, hI]
  generalize hSS : H1.objs.size = S at hS ⊢
  have hIl : l ≠ I := Nat.ne_of_lt llt
  have hSI : S ≠ I := by rw [hS]; exact Nat.ne_of_gt (Nat.lt_succ_self _)
  have hSl : l ≠ S := by rw [hS]; exact Nat.ne_of_lt (Nat.lt_succ_of_lt llt)
  have old1 : ∀ b o, s.heap.get? b = some o → H1.get? b = some o := fun b o e => by rw [← hH1]; exact Heap.get?_push_of_some _ e
  generalize hH2 : H1.push { cls := .type "list", data := .seq ([] : List Value).toArray } = H2
  have old2 : ∀ b o, H1.get? b = some o → H2.get? b = some o := fun b o e => by rw [← hH2]; exact Heap.get?_push_of_some _ e
  have gI : H2.IsListIter I l 0 := ⟨_, old2 _ _ (by rw [← hH1, ← hI]; exact Heap.get?_push_size _ rfl), rfl, rfl⟩
  have gl : H2.IsList l #[v0, v1] := ⟨ol, old2 _ _ (old1 _ _ hol), hcl, nl, hdl⟩
  have gS : H2.get? S = some { cls := .type "list", data := .seq #[] } := by rw [← hH2, ← hSS]; exact Heap.get?_push_size _ rfl
  have old : ∀ b o, s.heap.get? b = some o → H2.get? b = some o := fun b o e => old2 _ _ (old1 _ _ e)
  have ne : ∀ b o, s.heap.get? b = some o → b ≠ I ∧ b ≠ S := fun b o e => by
    have := Heap.lt_size e
    rw [hI] at this
    exact ⟨Nat.ne_of_lt this, by rw [hS]; exact Nat.ne_of_lt (Nat.lt_succ_of_lt this)⟩
  rw [hname]
  refine wpAny_pure ⟨plainId_quiet F.plain_max_loop _, codeAny_builtin F.entry_max_loop ?_⟩
  rw [Around.under_plainId F.plain_max_loop _]
  show wpAny _ A.in1 (seqItems? (.ref S) >>= _) _ _ _
  refine wpAny_bind (wpAny_seqItems gS rfl ?_)
  show wpAny _ A.in1 (tryCatch (pyNext (.ref I)) _ >>= _) _ _ _
  refine wpAny_bind (wpAny_tryCatch (wpAny_pyNext_list_item gI gl (x := v0) rfl fun h3 i3 b3 => ?_))
  have s3 := b3.extBut _ _ hSI gS
  show wpAny _ A.in1 (updateSeq S (fun _ => #[v0, v0]) >>= _) _ _ _
  refine wpAny_bind ?_
  refine wpAny_updateSeq s3 rfl ?_
  have b4 : Heap.SameBut S h3 (h3.update S (Obj.mapSeq fun _ => #[v0, v0])) := Heap.SameBut.update ..
  have s4 := Heap.get?_update_self (Obj.mapSeq fun _ => #[v0, v0]) s3 rfl
  have i4 := i3.extBut b4.extBut (Ne.symm hSI)
  have l4 := (gl.extBut b3.extBut hIl).extBut b4.extBut hSl
  have k4 : ∀ b o, s.heap.get? b = some o → (h3.update S (Obj.mapSeq fun _ => #[v0, v0])).get? b = some o := fun b o e => b4.extBut _ _ (ne b o e).2 (b3.extBut _ _ (ne b o e).1 (old b o e))
  rw [hname]
  refine wpAny_pure ⟨plainId_quiet F.plain_max_loop _, codeAny_builtin F.entry_max_loop ?_⟩
  rw [Around.under_plainId F.plain_max_loop _]
  show wpAny _ A.in1 (seqItems? (.ref S) >>= _) _ _ _
  refine wpAny_bind (wpAny_seqItems s4 rfl ?_)
  show wpAny _ A.in1 (tryCatch (pyNext (.ref I)) _ >>= _) _ _ _
  refine wpAny_bind (wpAny_tryCatch (wpAny_pyNext_list_item i4 l4 (x := v1) rfl fun h5 i5 b5 => ?_))
  have s5 := b5.extBut _ _ hSI s4
  have l5 := l4.extBut b5.extBut hIl
  have k5 : ∀ b o, s.heap.get? b = some o → h5.get? b = some o := fun b o e => b5.extBut _ _ (ne b o e).1 (k4 b o e)
  show wpAny _ A.in1 (tryCatch (holding [v1, v1] (richCompare .Gt v1 v0 >>= _)) _ >>= _) _ _ _
  refine wpAny_bind (wpAny_tryCatch (wpAny_holding (wpAny_bind (wpAny_of_in1 (hcmp _ _ _ _ k5 ?_)))))
  refine wpAny_bind (wpAny_holding (wpAny_truthy_bool ?_))
  refine wpAny_bind (wpAny_letGo (wpAny_pure ?_))
  cases hb : bt with
  | true =>
    rw [hb] at hQ
    simp only [if_true] at hQ ⊢
    refine wpAny_bind ?_
    refine wpAny_updateSeq s5 rfl (wpAny_bind (wpAny_letGo ?_))
    have b6 : Heap.SameBut S h5 (h5.update S (Obj.mapSeq fun _ => #[v1, v1])) := Heap.SameBut.update ..
    have s6 := Heap.get?_update_self (Obj.mapSeq fun _ => #[v1, v1]) s5 rfl
    rw [hname]
    refine wpAny_pure ⟨plainId_quiet F.plain_max_loop _, codeAny_builtin F.entry_max_loop ?_⟩
    rw [Around.under_plainId F.plain_max_loop _]
    show wpAny _ A.in1 (seqItems? (.ref S) >>= _) _ _ _
    refine wpAny_bind (wpAny_seqItems s6 rfl ?_)
    show wpAny _ A.in1 (tryCatch (pyNext (.ref I)) _ >>= _) _ _ _
    refine wpAny_bind (wpAny_tryCatch (wpAny_pyNext_list_end hh (i5.extBut b6.extBut (Ne.symm hSI)) (l5.extBut b6.extBut hSl) rfl fun h7 b7 => ?_))
    have s7 := b7 _ _ hSI s6
    show wpAny _ A.in1 (updateSeq S (fun _ => #[]) >>= _) _ _ _
    refine wpAny_bind ?_
    refine wpAny_updateSeq s7 rfl (wpAny_bind (wpAny_letGo (wpAny_pure ?_)))
    exact hQ _ _ fun b o e => (Heap.get?_update_other _ _ (Ne.symm (ne b o e).2)).trans (b7 _ _ (ne b o e).1 (b6.extBut _ _ (ne b o e).2 (k5 b o e)))
  | false =>
    rw [hb] at hQ
    simp only [Bool.false_eq_true, if_false] at hQ ⊢
    refine wpAny_bind (wpAny_letGo ?_)
    rw [hname]
    refine wpAny_pure ⟨plainId_quiet F.plain_max_loop _, codeAny_builtin F.entry_max_loop ?_⟩
    rw [Around.under_plainId F.plain_max_loop _]
    show wpAny _ A.in1 (seqItems? (.ref S) >>= _) _ _ _
    refine wpAny_bind (wpAny_seqItems s5 rfl ?_)
    show wpAny _ A.in1 (tryCatch (pyNext (.ref I)) _ >>= _) _ _ _
    refine wpAny_bind (wpAny_tryCatch (wpAny_pyNext_list_end hh i5 l5 rfl fun h7 b7 => ?_))
    have s7 := b7 _ _ hSI s5
    show wpAny _ A.in1 (updateSeq S (fun _ => #[]) >>= _) _ _ _
    refine wpAny_bind ?_
    refine wpAny_updateSeq s7 rfl (wpAny_bind (wpAny_letGo (wpAny_pure ?_)))
    exact hQ _ _ fun b o e => (Heap.get?_update_other _ _ (Ne.symm (ne b o e).2)).trans (b7 _ _ (ne b o e).1 (k5 b o e))
theorem min2 {Q : Value → Shared → Prop} {v0 v1 : Value} {l : Addr} {bt : Bool} (hh : A.handled = none) (hl : s.heap.IsList l #[v0, v1])
    (hcmp : ∀ h' tk' (Q' E' : Value → Shared → Prop), (∀ b o, s.heap.get? b = some o → h'.get? b = some o) → Q' (.bool bt) { s with heap := h', toks := tk' } → wpAny (model prog w) A.in1.in1 (richCompare .Lt v1 v0) Q' E' { s with heap := h', toks := tk' })
    (hQ : ∀ h' tk', (∀ b o, s.heap.get? b = some o → h'.get? b = some o) → Q (if bt = true then v1 else v0) { s with heap := h', toks := tk' }) : wpAny (model prog w) A (call (.builtin "min") [.ref l]) Q E s := by
  have hname : (toString "min" ++ toString ".loop" : String) = "min.loop" := by decide
  obtain ⟨ol, hol, hcl, nl, hdl⟩ := hl
  have llt : l < s.heap.objs.size := Heap.lt_size hol
  refine call_function_tree F.kind_min F.plain_min F.entry_min (F.args_min1 _) ?_
  show wpAny _ A.in1 (Builtin.Builtins.bindParams "min" ["key", "default"] 0 ⟨[], []⟩ >>= _) _ _ s
  refine wpAny_bind (wpAny_of_eq (show Builtin.Builtins.bindParams "min" ["key", "default"] 0 ⟨[], []⟩ = pure [none, none] from rfl) ?_)
  refine wpAny_bind (wpAny_pure ?_)
  refine wpAny_bind (wpAny_pyIter_list ⟨ol, hol, hcl, nl, hdl⟩ ?_)
  refine wpAny_bind (wpAny_newObj_type ?_)
  dsimp only
  generalize hI : s.heap.objs.size = I at llt ⊢
  generalize hH1 : s.heap.push { cls := .type "list_iterator", data := .fields #[.ref l, .int 0 0] } = H1
  have hS : H1.objs.size = I + 1 := by rw [← hH1, Heap.size_push, hI]
  generalize hSS : H1.objs.size = S at hS ⊢
  have hIl : l ≠ I := Nat.ne_of_lt llt
  have hSI : S ≠ I := by rw [hS]; exact Nat.ne_of_gt (Nat.lt_succ_self _)
  have hSl : l ≠ S := by rw [hS]; exact Nat.ne_of_lt (Nat.lt_succ_of_lt llt)
  have old1 : ∀ b o, s.heap.get? b = some o → H1.get? b = some o := fun b o e => by rw [← hH1]; exact Heap.get?_push_of_some _ e
  generalize hH2 : H1.push { cls := .type "list", data := .seq ([] : List Value).toArray } = H2
  have old2 : ∀ b o, H1.get? b = some o → H2.get? b = some o := fun b o e => by rw [← hH2]; exact Heap.get?_push_of_some _ e
  have gI : H2.IsListIter I l 0 := ⟨_, old2 _ _ (by rw [← hH1, ← hI]; exact Heap.get?_push_size _ rfl), rfl, rfl⟩
  have gl : H2.IsList l #[v0, v1] := ⟨ol, old2 _ _ (old1 _ _ hol), hcl, nl, hdl⟩
  have gS : H2.get? S = some { cls := .type "list", data := .seq #[] } := by rw [← hH2, ← hSS]; exact Heap.get?_push_size _ rfl
  have old : ∀ b o, s.heap.get? b = some o → H2.get? b = some o := fun b o e => old2 _ _ (old1 _ _ e)
  have ne : ∀ b o, s.heap.get? b = some o → b ≠ I ∧ b ≠ S := fun b o e => by
    have := Heap.lt_size e
    rw [hI] at this
    exact ⟨Nat.ne_of_lt this, by rw [hS]; exact Nat.ne_of_lt (Nat.lt_succ_of_lt this)⟩
  rw [hname]
  refine wpAny_pure ⟨plainId_quiet F.plain_min_loop _, codeAny_builtin F.entry_min_loop ?_⟩
  rw [Around.under_plainId F.plain_min_loop _]
  show wpAny _ A.in1 (seqItems? (.ref S) >>= _) _ _ _
  refine wpAny_bind (wpAny_seqItems gS rfl ?_)
  show wpAny _ A.in1 (tryCatch (pyNext (.ref I)) _ >>= _) _ _ _
  refine wpAny_bind (wpAny_tryCatch (wpAny_pyNext_list_item gI gl (x := v0) rfl fun h3 i3 b3 => ?_))
  have s3 := b3.extBut _ _ hSI gS
  show wpAny _ A.in1 (updateSeq S (fun _ => #[v0, v0]) >>= _) _ _ _
  refine wpAny_bind ?_
  refine wpAny_updateSeq s3 rfl ?_
  have b4 : Heap.SameBut S h3 (h3.update S (Obj.mapSeq fun _ => #[v0, v0])) := Heap.SameBut.update ..
  have s4 := Heap.get?_update_self (Obj.mapSeq fun _ => #[v0, v0]) s3 rfl
  have i4 := i3.extBut b4.extBut (Ne.symm hSI)
  have l4 := (gl.extBut b3.extBut hIl).extBut b4.extBut hSl
  have k4 : ∀ b o, s.heap.get? b = some o → (h3.update S (Obj.mapSeq fun _ => #[v0, v0])).get? b = some o := fun b o e => b4.extBut _ _ (ne b o e).2 (b3.extBut _ _ (ne b o e).1 (old b o e))
  rw [hname]
  refine wpAny_pure ⟨plainId_quiet F.plain_min_loop _, codeAny_builtin F.entry_min_loop ?_⟩
  rw [Around.under_plainId F.plain_min_loop _]
  show wpAny _ A.in1 (seqItems? (.ref S) >>= _) _ _ _
  refine wpAny_bind (wpAny_seqItems s4 rfl ?_)
  show wpAny _ A.in1 (tryCatch (pyNext (.ref I)) _ >>= _) _ _ _
  refine wpAny_bind (wpAny_tryCatch (wpAny_pyNext_list_item i4 l4 (x := v1) rfl fun h5 i5 b5 => ?_))
  have s5 := b5.extBut _ _ hSI s4
  have l5 := l4.extBut b5.extBut hIl
  have k5 : ∀ b o, s.heap.get? b = some o → h5.get? b = some o := fun b o e => b5.extBut _ _ (ne b o e).1 (k4 b o e)
  show wpAny _ A.in1 (tryCatch (holding [v1, v1] (richCompare .Lt v1 v0 >>= _)) _ >>= _) _ _ _
  refine wpAny_bind (wpAny_tryCatch (wpAny_holding (wpAny_bind (wpAny_of_in1 (hcmp _ _ _ _ k5 ?_)))))
  refine wpAny_bind (wpAny_holding (wpAny_truthy_bool ?_))
  refine wpAny_bind (wpAny_letGo (wpAny_pure ?_))
  cases hb : bt with
  | true =>
    rw [hb] at hQ
    simp only [if_true] at hQ ⊢
    refine wpAny_bind ?_
    refine wpAny_updateSeq s5 rfl (wpAny_bind (wpAny_letGo ?_))
    have b6 : Heap.SameBut S h5 (h5.update S (Obj.mapSeq fun _ => #[v1, v1])) := Heap.SameBut.update ..
    have s6 := Heap.get?_update_self (Obj.mapSeq fun _ => #[v1, v1]) s5 rfl
    rw [hname]
    refine wpAny_pure ⟨plainId_quiet F.plain_min_loop _, codeAny_builtin F.entry_min_loop ?_⟩
    rw [Around.under_plainId F.plain_min_loop _]
    show wpAny _ A.in1 (seqItems? (.ref S) >>= _) _ _ _
    refine wpAny_bind (wpAny_seqItems s6 rfl ?_)
    show wpAny _ A.in1 (tryCatch (pyNext (.ref I)) _ >>= _) _ _ _
    refine wpAny_bind (wpAny_tryCatch (wpAny_pyNext_list_end hh (i5.extBut b6.extBut (Ne.symm hSI)) (l5.extBut b6.extBut hSl) rfl fun h7 b7 => ?_))
    have s7 := b7 _ _ hSI s6
    show wpAny _ A.in1 (updateSeq S (fun _ => #[]) >>= _) _ _ _
    refine wpAny_bind ?_
    refine wpAny_updateSeq s7 rfl (wpAny_bind (wpAny_letGo (wpAny_pure ?_)))
    exact hQ _ _ fun b o e => (Heap.get?_update_other _ _ (Ne.symm (ne b o e).2)).trans (b7 _ _ (ne b o e).1 (b6.extBut _ _ (ne b o e).2 (k5 b o e)))
  | false =>
    rw [hb] at hQ
    simp only [Bool.false_eq_true, if_false] at hQ ⊢
    refine wpAny_bind (wpAny_letGo ?_)
    rw [hname]
    refine wpAny_pure ⟨plainId_quiet F.plain_min_loop _, codeAny_builtin F.entry_min_loop ?_⟩
    rw [Around.under_plainId F.plain_min_loop _]
    show wpAny _ A.in1 (seqItems? (.ref S) >>= _) _ _ _
    refine wpAny_bind (wpAny_seqItems s5 rfl ?_)
    show wpAny _ A.in1 (tryCatch (pyNext (.ref I)) _ >>= _) _ _ _
    refine wpAny_bind (wpAny_tryCatch (wpAny_pyNext_list_end hh i5 l5 rfl fun h7 b7 => ?_))
    have s7 := b7 _ _ hSI s5
    show wpAny _ A.in1 (updateSeq S (fun _ => #[]) >>= _) _ _ _
    refine wpAny_bind ?_
    refine wpAny_updateSeq s7 rfl (wpAny_bind (wpAny_letGo (wpAny_pure ?_)))
    exact hQ _ _ fun b o e => (Heap.get?_update_other _ _ (Ne.symm (ne b o e).2)).trans (b7 _ _ (ne b o e).1 (k5 b o e))
end
end Mine
end

noncomputable section
namespace Mine
open PySem.AutoSeq1 (wpAny_loadPart')
open PySem.MeetsSeq PySem.MeetsSeq2 PySem.MeetsSeq3 PySem.SeqRoads2 PySem.SeqAt
theorem str_of_strs : ∀ {vs : List Value} {ys : List Str} {i : Nat} {v : Value}, StrsAre vs ys → vs[i]? = some v → ∃ t, v = .str (ys.getD i Str.empty) t
  | _, _, _, _, .nil, h => by simp at h
  | _, _, 0, v, .cons z u r, h => by
    have e : Value.str z u = v := by simpa using h
    exact ⟨u, by rw [← e]; rfl⟩
  | _, _, i + 1, v, .cons z u r, h => by
    obtain ⟨t, e⟩ := str_of_strs (i := i) r (by simpa using h)
    exact ⟨t, by rw [e]; rfl⟩
theorem strs_len' : ∀ {vs : List Value} {ys : List Str}, StrsAre vs ys → vs.length = ys.length
  | _, _, .nil => rfl
  | _, _, .cons _ _ r => congrArg (· + 1) (strs_len' r)
def eqT (xs ys : List Str) (j : Nat) : Bool := xs.getD j Str.empty == ys.getD j Str.empty
def ltT (xs ys : List Str) (j : Nat) : Bool := decide ((xs.getD j Str.empty).cps.toList < (ys.getD j Str.empty).cps.toList)
def ltTs (xs ys : List Str) : Bool := lexFrom (eqT xs ys) (ltT xs ys) (decide (xs.length < ys.length)) (min xs.length ys.length) 0
def gtTs (xs ys : List Str) : Bool := lexFrom (eqT xs ys) (fun j => ltT ys xs j) (decide (xs.length > ys.length)) (min xs.length ys.length) 0
section
variable {prog : Program} {w : World} {A : Around} {E : Value → Shared → Prop} {s : Shared}
theorem RcLLt.str (a b : Str) (t u : Tok) : RcLLt A s (.str a t) (.str b u) (decide (a.cps.toList < b.cps.toList)) := fun prog w E Q hq => by
  exact PyProof.Rows.lt_str hq
theorem RcLGt.str (a b : Str) (t u : Tok) : RcLGt A s (.str a t) (.str b u) (decide (b.cps.toList < a.cps.toList)) := fun prog w E Q hq => by
  exact P.gt_str hq
theorem lt_texts {l b : Addr} {vs ws : List Value} {xs ys : List Str} {Q : Value → Shared → Prop} (hl : s.heap.IsList l vs.toArray) (hb : s.heap.IsList b ws.toArray) (hx : StrsAre vs xs) (hy : StrsAre ws ys) (hu : A.units < cLine) (h : Q (.bool (ltTs xs ys)) s) :
    wpAny (model prog w) A (richCompare .Lt (.ref l) (.ref b)) Q E s := by
  obtain ⟨⟨cls, dd, data, sl⟩, ho, hc, n, hd⟩ := hl
  obtain ⟨⟨cls2, dd2, data2, sl2⟩, ho2, hc2, n2, hd2⟩ := hb
  simp only at hc hd hc2 hd2
  subst hc hd hc2 hd2
  refine richCompare_meets_room (op := .Lt) ⟨_, ho, rfl⟩ ⟨_, ho2, rfl⟩ F.slot_list_lt F.entry_list_lt (F.args_list_lt_2 _ _)
    (listLLt l b vs.toArray ws.toArray n n2 dd dd2 sl sl2 (eqT xs ys) (ltT xs ys)) ⟨ho, ho2, ?_, ?_, (fun z => nomatch z), ?_⟩ hu
  · intro k h1 h2
    obtain ⟨t, e1⟩ := str_of_strs (i := k) (v := vs.toArray[k]) hx (by simp [List.getElem?_eq_getElem (show k < vs.length by simpa using h1)])
    obtain ⟨u, e2⟩ := str_of_strs (i := k) (v := ws.toArray[k]) hy (by simp [List.getElem?_eq_getElem (show k < ws.length by simpa using h2)])
    rw [e1, e2]
    exact (PyProof.Rows.eqGives_str _ _ t u).at _ _
  · intro k h1 h2 _
    obtain ⟨t, e1⟩ := str_of_strs (i := k) (v := vs.toArray[k]) hx (by simp [List.getElem?_eq_getElem (show k < vs.length by simpa using h1)])
    obtain ⟨u, e2⟩ := str_of_strs (i := k) (v := ws.toArray[k]) hy (by simp [List.getElem?_eq_getElem (show k < ws.length by simpa using h2)])
    rw [e1, e2]
    exact RcLLt.str _ _ t u
  · have e1 : vs.toArray.size = xs.length := by rw [List.size_toArray]; exact strs_len' hx
    have e2 : ws.toArray.size = ys.length := by rw [List.size_toArray]; exact strs_len' hy
    rw [e1, e2]
    exact h
theorem gt_texts {l b : Addr} {vs ws : List Value} {xs ys : List Str} {Q : Value → Shared → Prop} (hl : s.heap.IsList l vs.toArray) (hb : s.heap.IsList b ws.toArray) (hx : StrsAre vs xs) (hy : StrsAre ws ys) (hu : A.units < cLine) (h : Q (.bool (gtTs xs ys)) s) :
    wpAny (model prog w) A (richCompare .Gt (.ref l) (.ref b)) Q E s := by
  obtain ⟨⟨cls, dd, data, sl⟩, ho, hc, n, hd⟩ := hl
  obtain ⟨⟨cls2, dd2, data2, sl2⟩, ho2, hc2, n2, hd2⟩ := hb
  simp only at hc hd hc2 hd2
  subst hc hd hc2 hd2
  refine richCompare_meets_room (op := .Gt) ⟨_, ho, rfl⟩ ⟨_, ho2, rfl⟩ F.slot_list_gt F.entry_list_gt (F.args_list_gt_2 _ _)
    (listLGt l b vs.toArray ws.toArray n n2 dd dd2 sl sl2 (eqT xs ys) (fun j => ltT ys xs j)) ⟨ho, ho2, ?_, ?_, (fun z => nomatch z), ?_⟩ hu
  · intro k h1 h2
    obtain ⟨t, e1⟩ := str_of_strs (i := k) (v := vs.toArray[k]) hx (by simp [List.getElem?_eq_getElem (show k < vs.length by simpa using h1)])
    obtain ⟨u, e2⟩ := str_of_strs (i := k) (v := ws.toArray[k]) hy (by simp [List.getElem?_eq_getElem (show k < ws.length by simpa using h2)])
    rw [e1, e2]
    exact (PyProof.Rows.eqGives_str _ _ t u).at _ _
  · intro k h1 h2 _
    obtain ⟨t, e1⟩ := str_of_strs (i := k) (v := vs.toArray[k]) hx (by simp [List.getElem?_eq_getElem (show k < vs.length by simpa using h1)])
    obtain ⟨u, e2⟩ := str_of_strs (i := k) (v := ws.toArray[k]) hy (by simp [List.getElem?_eq_getElem (show k < ws.length by simpa using h2)])
    rw [e1, e2]
    exact RcLGt.str _ _ t u
  · have e1 : vs.toArray.size = xs.length := by rw [List.size_toArray]; exact strs_len' hx
    have e2 : ws.toArray.size = ys.length := by rw [List.size_toArray]; exact strs_len' hy
    rw [e1, e2]
    exact h
section
variable {h₀ : Heap} {L : Addr} {m : Str → Option Value} {news : List (Addr × Obj)} {l d3 d4 : Addr} {n n3 n4 : Nat} {l3 l4 : List Value} {xs ys : List Str}
theorem min_texts {Q : Value → Shared → Prop} (hh : A.handled = none) (F : Fr h₀ L s.heap m) (N : News h₀ L s.heap news) (hm : (l, listOf #[.ref d3, .ref d4] n) ∈ news) (h3 : (d3, listOf l3.toArray n3) ∈ news) (h4 : (d4, listOf l4.toArray n4) ∈ news) (hx : StrsAre l3 xs) (hy : StrsAre l4 ys) (hu : A.units + 2 < cLine)
    (h : ∀ h' tk', Fr h₀ L h' m → News h₀ L h' news → Q (.ref (if ltTs ys xs = true then d4 else d3)) { s with heap := h', toks := tk' }) : wpAny (model prog w) A (call (.builtin "min") [.ref l]) Q E s := by
  refine min2 (bt := ltTs ys xs) hh ⟨_, (N _ hm).1, rfl, _, rfl⟩ (fun h' tk' Q' E' k hq => ?_) fun h' tk' k => ?_
  · exact lt_texts ⟨_, k _ _ (N _ h4).1, rfl, _, rfl⟩ ⟨_, k _ _ (N _ h3).1, rfl, _, rfl⟩ hy hx hu hq
  · have := h h' tk' (F.keeps k) (N.grown k)
    cases hb : ltTs ys xs
    · rw [hb] at this; exact this
    · rw [hb] at this; exact this
theorem max_texts {Q : Value → Shared → Prop} (hh : A.handled = none) (F : Fr h₀ L s.heap m) (N : News h₀ L s.heap news) (hm : (l, listOf #[.ref d3, .ref d4] n) ∈ news) (h3 : (d3, listOf l3.toArray n3) ∈ news) (h4 : (d4, listOf l4.toArray n4) ∈ news) (hx : StrsAre l3 xs) (hy : StrsAre l4 ys) (hu : A.units + 2 < cLine)
    (h : ∀ h' tk', Fr h₀ L h' m → News h₀ L h' news → Q (.ref (if gtTs ys xs = true then d4 else d3)) { s with heap := h', toks := tk' }) : wpAny (model prog w) A (call (.builtin "max") [.ref l]) Q E s := by
  refine max2 (bt := gtTs ys xs) hh ⟨_, (N _ hm).1, rfl, _, rfl⟩ (fun h' tk' Q' E' k hq => ?_) fun h' tk' k => ?_
  · exact gt_texts ⟨_, k _ _ (N _ h4).1, rfl, _, rfl⟩ ⟨_, k _ _ (N _ h3).1, rfl, _, rfl⟩ hy hx hu hq
  · have := h h' tk' (F.keeps k) (N.grown k)
    cases hb : gtTs ys xs
    · rw [hb] at this; exact this
    · rw [hb] at this; exact this
end
end
end Mine
end

noncomputable section
namespace Mine
theorem lexFrom_shift (e r : Nat → Bool) (fin : Bool) : ∀ (k i : Nat), lexFrom e r fin k (i + 1) = lexFrom (fun j => e (j + 1)) (fun j => r (j + 1)) fin k i
  | 0, _ => rfl
  | k + 1, i => by
    rw [lexFrom, lexFrom, lexFrom_shift e r fin k (i + 1)]
theorem min_succ' (a b : Nat) : min (a + 1) (b + 1) = min a b + 1 := by (first | lia | omega)
theorem ltTs_nil (ys : List Str) : ltTs [] ys = decide (0 < ys.length) := by
  unfold ltTs; rw [List.length_nil, Nat.zero_min]; rfl
theorem ltTs_nil' (xs : List Str) : ltTs xs [] = false := by
  unfold ltTs; rw [List.length_nil, Nat.min_zero]; simp [lexFrom]
theorem ltTs_cons (x y : Str) (xs ys : List Str) : ltTs (x :: xs) (y :: ys) = if (x == y) = true then ltTs xs ys else decide (x.cps.toList < y.cps.toList) := by
  unfold ltTs
  rw [List.length_cons, List.length_cons, min_succ', lexFrom, lexFrom_shift]
  have e1 : decide (xs.length + 1 < ys.length + 1) = decide (xs.length < ys.length) := by simp
  rw [e1]
  rfl
theorem gtTs_nil (ys : List Str) : gtTs [] ys = false := by
  unfold gtTs; rw [List.length_nil, Nat.zero_min]; simp [lexFrom]
theorem gtTs_nil' (xs : List Str) : gtTs xs [] = decide (0 < xs.length) := by
  unfold gtTs; rw [List.length_nil, Nat.min_zero]; simp [lexFrom]
theorem gtTs_cons (x y : Str) (xs ys : List Str) : gtTs (x :: xs) (y :: ys) = if (x == y) = true then gtTs xs ys else decide (y.cps.toList < x.cps.toList) := by
  unfold gtTs
  rw [List.length_cons, List.length_cons, min_succ', lexFrom, lexFrom_shift]
  have e1 : decide (xs.length + 1 > ys.length + 1) = decide (xs.length > ys.length) := by simp
  rw [e1]
  rfl
theorem lt_of_nle (x y : Str) (h : x ≠ y) (h1 : ¬ x.cps.toList < y.cps.toList) : y.cps.toList < x.cps.toList := by
  have h2 : y.cps.toList ≤ x.cps.toList := List.not_lt.mp h1
  rcases List.le_iff_lt_or_eq.mp h2 with h3 | h3
  · exact h3
  · exact absurd (by cases x; cases y; simp only [Str.mk.injEq]; exact (Array.toList_inj.mp h3).symm) h
theorem tt_absurd : ∀ (xs ys : List Str), ltTs xs ys = true → gtTs xs ys = true → False
  | [], ys, _, h => by rw [gtTs_nil] at h; cases h
  | x :: xs, [], h, _ => by rw [ltTs_nil'] at h; cases h
  | x :: xs, y :: ys, h1, h2 => by
    rw [ltTs_cons] at h1
    rw [gtTs_cons] at h2
    split at h1
    · rename_i e
      rw [if_pos e] at h2
      exact tt_absurd xs ys h1 h2
    · rename_i e
      rw [if_neg e] at h2
      exact List.lt_asymm (of_decide_eq_true h1) (of_decide_eq_true h2)
theorem ff_eq : ∀ (xs ys : List Str), ltTs xs ys = false → gtTs xs ys = false → xs = ys
  | [], [], _, _ => rfl
  | [], y :: ys, h, _ => by rw [ltTs_nil] at h; simp at h
  | x :: xs, [], _, h => by rw [gtTs_nil'] at h; simp at h
  | x :: xs, y :: ys, h1, h2 => by
    rw [ltTs_cons] at h1
    rw [gtTs_cons] at h2
    split at h1
    · rename_i e
      rw [if_pos e] at h2
      rw [eq_of_beq e, ff_eq xs ys h1 h2]
    · rename_i e
      rw [if_neg e] at h2
      exact absurd (lt_of_nle x y (fun q => e (by rw [q]; exact beq_self_eq_true _)) (of_decide_eq_false h1)) (of_decide_eq_false h2)
theorem lt_inside : ∀ (xs ys : List Str), ltTs xs ys = true → ∀ i, i < xs.length → (∀ j, j < i → xs[j]? = ys[j]?) → i < ys.length
  | [], ys, _, i, hi, _ => absurd hi (Nat.not_lt_zero _)
  | x :: xs, [], h, _, _, _ => by rw [ltTs_nil'] at h; cases h
  | x :: xs, y :: ys, h, 0, _, _ => Nat.succ_pos _
  | x :: xs, y :: ys, h, i + 1, hi, he => by
    have e0 : x = y := by have := he 0 (Nat.succ_pos _); simpa using this
    rw [ltTs_cons, if_pos (by rw [e0]; exact beq_self_eq_true _)] at h
    exact Nat.succ_lt_succ (lt_inside xs ys h i (Nat.lt_of_succ_lt_succ hi) fun j hj => by have := he (j + 1) (Nat.succ_lt_succ hj); simpa using this)
theorem gt_inside : ∀ (xs ys : List Str), gtTs xs ys = true → ∀ i, i < ys.length → (∀ j, j < i → ys[j]? = xs[j]?) → i < xs.length
  | xs, [], _, i, hi, _ => absurd hi (Nat.not_lt_zero _)
  | [], y :: ys, h, _, _, _ => by rw [gtTs_nil] at h; cases h
  | x :: xs, y :: ys, h, 0, _, _ => Nat.succ_pos _
  | x :: xs, y :: ys, h, i + 1, hi, he => by
    have e0 : y = x := by have := he 0 (Nat.succ_pos _); simpa using this
    rw [gtTs_cons, if_pos (by rw [e0]; exact beq_self_eq_true _)] at h
    exact Nat.succ_lt_succ (gt_inside xs ys h i (Nat.lt_of_succ_lt_succ hi) fun j hj => by have := he (j + 1) (Nat.succ_lt_succ hj); simpa using this)
end Mine
end

noncomputable section
namespace Mine
open PyProof.Rows.LCg PyProof.V
theorem two_cases {a b v : Value} {i : Nat} (h : ([a, b].toArray)[i]? = some v) : (i = 0 ∧ v = a) ∨ (i = 1 ∧ v = b) := by
  match i, h with
  | 0, h => cases h; exact .inl ⟨rfl, rfl⟩
  | 1, h => cases h; exact .inr ⟨rfl, rfl⟩
  | i + 2, h => exact absurd h (by simp)
theorem two_str {x y : Str} {t u : Tok} {v : Value} {i : Nat} (h : ([Value.str x t, .str y u].toArray)[i]? = some v) : ∃ z tz, v = .str z tz ∧ [x, y][i]? = some z := by
  rcases two_cases h with ⟨rfl, rfl⟩ | ⟨rfl, rfl⟩
  · exact ⟨_, _, rfl, rfl⟩
  · exact ⟨_, _, rfl, rfl⟩
theorem two_prop {P : Str → Prop} {x y : Str} {t u : Tok} {v : Value} {i : Nat} (h : ([Value.str x t, .str y u].toArray)[i]? = some v) (hx : P x) (hy : P y) : ∃ z tz, v = .str z tz ∧ P z := by
  rcases two_cases h with ⟨rfl, rfl⟩ | ⟨rfl, rfl⟩
  · exact ⟨_, _, rfl, hx⟩
  · exact ⟨_, _, rfl, hy⟩
inductive MinMax (d3 d4 : Addr) (l3 l4 : List Value) (n3 n4 : Nat) (xs ys : List Str) : Prop
  | intro (a5 b5 : Addr) (la lb : List Value) (na nb : Nat) (as bs : List Str) (f1 : (if ltTs ys xs = true then d4 else d3) = a5) (f2 : (if gtTs ys xs = true then d4 else d3) = b5)
    (f3 : ∀ l : List (Addr × Obj), (d3, listOf l3.toArray n3) ∈ l → (d4, listOf l4.toArray n4) ∈ l → (a5, listOf la.toArray na) ∈ l) (f4 : ∀ l : List (Addr × Obj), (d3, listOf l3.toArray n3) ∈ l → (d4, listOf l4.toArray n4) ∈ l → (b5, listOf lb.toArray nb) ∈ l)
    (f5 : StrsAre la as) (f6 : StrsAre lb bs) (f7 : ∀ c ∈ as, c.length = 1) (f8 : as.length ≤ 100) (f9 : bs.length ≤ 100) (f10 : ∀ i, i < as.length → (∀ j, j < i → as[j]? = bs[j]?) → i < bs.length) (f11 : lcp as bs = lcp xs ys) : MinMax d3 d4 l3 l4 n3 n4 xs ys
theorem minMax_of {d3 d4 : Addr} {l3 l4 : List Value} {n3 n4 : Nat} {xs ys : List Str} (hl3 : StrsAre l3 xs) (hl4 : StrsAre l4 ys) (hx : ∀ c ∈ xs, c.length = 1) (hy : ∀ c ∈ ys, c.length = 1) (hxl : xs.length ≤ 100) (hyl : ys.length ≤ 100) : MinMax d3 d4 l3 l4 n3 n4 xs ys := by
  cases hc1 : ltTs ys xs <;> cases hc2 : gtTs ys xs
  · exact ⟨d3, d3, l3, l3, n3, n3, xs, xs, by simp [hc1], by simp [hc2], fun _ h _ => h, fun _ h _ => h, hl3, hl3, hx, hxl, hxl, fun _ h _ => h, by rw [ff_eq ys xs hc1 hc2]⟩
  · exact ⟨d3, d4, l3, l4, n3, n4, xs, ys, by simp [hc1], by simp [hc2], fun _ h _ => h, fun _ _ h => h, hl3, hl4, hx, hxl, hyl, gt_inside ys xs hc2, rfl⟩
  · exact ⟨d4, d3, l4, l3, n4, n3, ys, xs, by simp [hc1], by simp [hc2], fun _ _ h => h, fun _ h _ => h, hl4, hl3, hy, hyl, hxl, lt_inside ys xs hc1, lcp_comm _ _⟩
  · exact (tt_absurd ys xs hc1 hc2).elim
section
variable {prog : Program} {w : World} {A : Around} {E : Value → Shared → Prop} {s : Shared} {h₀ : Heap} {L : Addr} {m : Str → Option Value} {news : List (Addr × Obj)} {l d3 d4 : Addr} {n n3 n4 : Nat} {l3 l4 : List Value} {xs ys : List Str}
theorem min_at {a5 : Addr} {Q : Value → Shared → Prop} (e : (if ltTs ys xs = true then d4 else d3) = a5) (hh : A.handled = none) (F : Fr h₀ L s.heap m) (N : News h₀ L s.heap news) (hm : (l, listOf #[.ref d3, .ref d4] n) ∈ news) (h3 : (d3, listOf l3.toArray n3) ∈ news) (h4 : (d4, listOf l4.toArray n4) ∈ news) (hx : StrsAre l3 xs) (hy : StrsAre l4 ys) (hu : A.units + 2 < cLine)
    (h : ∀ h' tk', Fr h₀ L h' m → News h₀ L h' news → Q (.ref a5) { s with heap := h', toks := tk' }) : wpAny (model prog w) A (call (.builtin "min") [.ref l]) Q E s := by
  subst e; exact min_texts hh F N hm h3 h4 hx hy hu h
theorem max_at {b5 : Addr} {Q : Value → Shared → Prop} (e : (if gtTs ys xs = true then d4 else d3) = b5) (hh : A.handled = none) (F : Fr h₀ L s.heap m) (N : News h₀ L s.heap news) (hm : (l, listOf #[.ref d3, .ref d4] n) ∈ news) (h3 : (d3, listOf l3.toArray n3) ∈ news) (h4 : (d4, listOf l4.toArray n4) ∈ news) (hx : StrsAre l3 xs) (hy : StrsAre l4 ys) (hu : A.units + 2 < cLine)
    (h : ∀ h' tk', Fr h₀ L h' m → News h₀ L h' news → Q (.ref b5) { s with heap := h', toks := tk' }) : wpAny (model prog w) A (call (.builtin "max") [.ref l]) Q E s := by
  subst e; exact max_texts hh F N hm h3 h4 hx hy hu h
end
section
variable {vq : Program} {vl : List Str} {w : World} {mean : ExcName → Option Value} {mg mb : Str → Option Value} {dp un : Nat} {gd : Option (List Code)} {env : Env} {outer : List Env} {A₀ : Around} {base h₀ : Heap} {L : Addr} {m : Str → Option Value} {s : Shared} {Q E : Value → Shared → Prop} {news : List (Addr × Obj)}
theorem c_common {x y : Str} {xs ys : List Str} {pa : Addr} {tx ty : Tok} {pn : Nat} (B : Below A₀ base outer h₀) (F : Fr h₀ L s.heap m) (X : (law0.heap_1 w.params).In h₀) (N : News h₀ L s.heap news) (T : TopH vq vl mean mg mb h₀) (hf : env.frame = some L) (hk : env.scope.kind = .function) (hdp : dp + 20 < recursionLimit) (hun : un + 200 < cLine)
   (hxs : Txt.split x "/" = xs) (hys : Txt.split y "/" = ys) (hxl : xs.length ≤ 100) (hyl : ys.length ≤ 100) (hxc : ∀ c ∈ xs, c.length = 1 ∧ c ≠ ".") (hyc : ∀ c ∈ ys, c.length = 1 ∧ c ≠ ".") (hsx : Txt.startswith x "/" = false) (hsy : Txt.startswith y "/" = false) (lx : x.length ≤ 100) (ly : y.length ≤ 100) (hp : (pa, listOf [Value.str x tx, Value.str y ty].toArray pn) ∈ news)
   (hret : ∀ t h' tk', Fr h₀ L h' m → News h₀ L h' news → Q (.str (Txt.join "/" (lcp xs ys)) t) { s with heap := h', toks := tk' }) :
   wpAny (model PySem.Challenge.rw_il0067_01.row.prog w) (atop dp un gd env outer) (call (.ref 190) [.ref pa]) Q E s := by
  revert X; k_fill; intro X
  have hrel : ∀ z ∈ [(pa, listOf [Value.str x tx, Value.str y ty].toArray pn)], z ∈ news := List.forall_mem_cons.mpr ⟨hp, List.forall_mem_nil _⟩
  refine wpAny_call ?_
  k_dflt (refine' enter_relC (rel := [(pa, listOf [Value.str x tx, Value.str y ty].toArray pn)]) (rest := leftOf [(pa, listOf [Value.str x tx, Value.str y ty].toArray pn)] news) ?k1 ?k2 ?k3 ?k4 ?k5 ?kd ?kA ?kF ?kK ?k6 ?k7 ?k8 ?k9 ?kB ?kD ?_ ?c2 ?c3 ?c4; (case kA => exact rfl); (case kF => assumption); (case kK => assumption); (case k1 => k_asm); (case k2 => k_asm); (case k3 => k_asm); (case k4 => exact leftOf_news N (hrel)); (case k5 => k_asm); (case kd => exact leftOf_dis); (case k6 => k_is); (case k7 => k_is); (case k8 => ktr_room); (case k9 => exact BindsTo.of_eq rfl); (case kB => exact rfl); (case kD => decide +kernel); (case c2 => exact rfl); (case c3 => exact rfl); (case c4 => exact rfl); k_whole; intro g g2 L' h1 tk1 cells1 aG st2 F2 N2 Y2 B2 X2 T2 l1; (try k_lt l1); k_cells Y2; (try simp only [List.cons_append, List.nil_append] at N2); (try dsimp only); (refine wp_hide ?_); intro Q7 hQ7)
  repeat' ((fail_if_success (with_reducible (first | show wpAny _ _ (eval (Expr.ListComp _ _ _ _) _) _ _ _ | show wpAny _ _ (call (Value.type _) _) _ _ _ | show wpAny _ _ (subscriptTail _ _ (Value.ref _) _) _ _ _ | show wpAny _ _ (exec (Stmt.Assign _ (Expr.ListComp _ _ _ _) _) _) _ _ _ | show wpAny _ _ (exec (Stmt.For _ _ _ _ _) _) _ _ _))); first | (with_reducible refine execs_hide ?_; intro Q9 hQ9 hR9) | (with_reducible refine hQ9 _ ?_; clear hQ9 hR9; (try clear Q9)) | ((with_reducible refine' hR9 _ _ ?hk9 ?_); (case hk9 => exact nofun); clear hQ9 hR9; (try clear Q9)) | (with_reducible refine hQ8 _ _ ?_; clear hQ8; (try clear Q8); (try dsimp only)) | (with_reducible refine hQ8 _ _ _ ?_; clear hQ8; (try clear Q8); (try dsimp only)) | (with_reducible refine hQ7 _ _ ?_; clear hQ7; (try clear Q7); (try dsimp only)) | (k_unfold; (try dsimp only)) | walk_at "my step" | fail "no step")
  refine call_map F2 N2 (by k_mem) ?_
  intro it TI MO h3 F3 N3 lit lti ltm
  dsimp only
  repeat' ((fail_if_success (with_reducible (first | show wpAny _ _ (eval (Expr.ListComp _ _ _ _) _) _ _ _ | show wpAny _ _ (call (Value.type _) _) _ _ _ | show wpAny _ _ (subscriptTail _ _ (Value.ref _) _) _ _ _ | show wpAny _ _ (exec (Stmt.Assign _ (Expr.ListComp _ _ _ _) _) _) _ _ _ | show wpAny _ _ (exec (Stmt.For _ _ _ _ _) _) _ _ _))); first | (with_reducible refine execs_hide ?_; intro Q9 hQ9 hR9) | (with_reducible refine hQ9 _ ?_; clear hQ9 hR9; (try clear Q9)) | ((with_reducible refine' hR9 _ _ ?hk9 ?_); (case hk9 => exact nofun); clear hQ9 hR9; (try clear Q9)) | (with_reducible refine hQ8 _ _ ?_; clear hQ8; (try clear Q8); (try dsimp only)) | (with_reducible refine hQ8 _ _ _ ?_; clear hQ8; (try clear Q8); (try dsimp only)) | (with_reducible refine hQ7 _ _ ?_; clear hQ7; (try clear Q7); (try dsimp only)) | (k_unfold; (try dsimp only)) | walk_at "my step" | fail "no step")
  refine call_tuple_map (G := fun j r => (j = 0 ∧ ∃ t, r = .str x t) ∨ (j = 1 ∧ ∃ t, r = .str y t)) rfl (fun j v s' nw Q' E' hj FF NN k => ?_) (Nat.le_of_ble_eq_true rfl) (by k_mem) F3 N3 ?n1 ?n2 ?n3 ?_
  case n1 => exact Nat.ne_of_gt (Nat.lt_trans lti ltm)
  case n2 => exact Nat.ne_of_gt lti
  case n3 => exact fun p hp => Nat.ne_of_lt (lit p hp)
  · rcases two_cases hj with ⟨rfl, rfl⟩ | ⟨rfl, rfl⟩
    · refine c_fspath B2 FF X2 NN T2 rfl rfl ?k7 ?k8 fun t h' tk' F' N' => k _ _ _ (.inl ⟨rfl, t, rfl⟩) F' N'
      case k7 => ktr_room
      case k8 => ktr_units
    · refine c_fspath B2 FF X2 NN T2 rfl rfl ?k7 ?k8 fun t h' tk' F' N' => k _ _ _ (.inr ⟨rfl, t, rfl⟩) F' N'
      case k7 => ktr_room
      case k8 => ktr_units
  intro pt h4 tk4 acc4 hs4 hg4 F4 N4 lpt
  obtain ⟨a4, b4, rfl, ha4, hb4⟩ := two_of hs4 hg4
  obtain ⟨t4, rfl⟩ : ∃ t, a4 = .str x t := by rcases ha4 with h | h; exact h.2; exact absurd h.1 (by decide)
  obtain ⟨u4, rfl⟩ : ∃ t, b4 = .str y t := by rcases hb4 with h | h; exact absurd h.1 (by decide); exact h.2
  k_lt lpt
  repeat' ((fail_if_success (with_reducible (first | show wpAny _ _ (eval (Expr.ListComp _ _ _ _) _) _ _ _ | show wpAny _ _ (call (Value.type _) _) _ _ _ | show wpAny _ _ (exec (Stmt.Assign _ (Expr.ListComp _ _ _ _) _) _) _ _ _ | show wpAny _ _ (exec (Stmt.For _ _ _ _ _) _) _ _ _))); first | (with_reducible refine execs_hide ?_; intro Q9 hQ9 hR9) | (with_reducible refine hQ9 _ ?_; clear hQ9 hR9; (try clear Q9)) | ((with_reducible refine' hR9 _ _ ?hk9 ?_); (case hk9 => exact nofun); clear hQ9 hR9; (try clear Q9)) | (with_reducible refine hQ8 _ _ ?_; clear hQ8; (try clear Q8); (try dsimp only)) | (with_reducible refine hQ8 _ _ _ ?_; clear hQ8; (try clear Q8); (try dsimp only)) | (with_reducible refine hQ7 _ _ ?_; clear hQ7; (try clear Q7); (try dsimp only)) | (k_unfold; (try dsimp only)) | walk_at "my step" | fail "no step")
  refine wpAny_Try_except (wpAny_mono (E := fun _ _ => False) ?_ (fun f s₁ h => h) (fun _ _ h => h.elim))
  repeat' ((fail_if_success (with_reducible (first | show wpAny _ _ (eval (Expr.ListComp _ _ _ _) _) _ _ _ | show wpAny _ _ (call (Value.type _) _) _ _ _ | show wpAny _ _ (exec (Stmt.Assign _ (Expr.ListComp _ _ _ _) _) _) _ _ _ | show wpAny _ _ (exec (Stmt.For _ _ _ _ _) _) _ _ _))); first | (with_reducible refine execs_hide ?_; intro Q9 hQ9 hR9) | (with_reducible refine hQ9 _ ?_; clear hQ9 hR9; (try clear Q9)) | ((with_reducible refine' hR9 _ _ ?hk9 ?_); (case hk9 => exact nofun); clear hQ9 hR9; (try clear Q9)) | (with_reducible refine hQ8 _ _ ?_; clear hQ8; (try clear Q8); (try dsimp only)) | (with_reducible refine hQ8 _ _ _ ?_; clear hQ8; (try clear Q8); (try dsimp only)) | (with_reducible refine hQ7 _ _ ?_; clear hQ7; (try clear Q7); (try dsimp only)) | (k_unfold; (try dsimp only)) | walk_at "my step" | fail "no step")
  with_reducible rename News g2 _ _ _ => N5
  with_reducible rename Fr g2 _ _ _ => F5
  refine' Assign_ListComp_any F5 ?k1 ?k2 ?k3 ?k4 ?k5 ?k6 ?k7 ?k8 ?_
  case k1 => rfl
  case k2 => with_unfolding_all rfl
  case k3 => with_unfolding_all rfl
  case k4 => decide
  case k5 => rfl
  case k6 => decide
  case k7 => rfl
  case k8 => rfl
  repeat' ((fail_if_success (with_reducible (first | show wpAny _ _ (pyIter _) _ _ _))); first | (with_reducible refine execs_hide ?_; intro Q9 hQ9 hR9) | (with_reducible refine hQ9 _ ?_; clear hQ9 hR9; (try clear Q9)) | ((with_reducible refine' hR9 _ _ ?hk9 ?_); (case hk9 => exact nofun); clear hQ9 hR9; (try clear Q9)) | (with_reducible refine hQ8 _ _ ?_; clear hQ8; (try clear Q8); (try dsimp only)) | (with_reducible refine hQ8 _ _ _ ?_; clear hQ8; (try clear Q8); (try dsimp only)) | (with_reducible refine hQ7 _ _ ?_; clear hQ7; (try clear Q7); (try dsimp only)) | (k_unfold; (try dsimp only)) | walk_at "my step" | fail "no step")
  refine' compAt_tuple (SplitJ (nsOf N5) [x, y]) ?k1 ?k2 ?k3 F5 N5 ?k5 ?k6 ?k7 ?k8 ?k9
  case k1 => rfl
  case k2 => rfl
  case k3 => rfl
  case k5 => k_mem
  case k6 => exact Nat.le_of_ble_eq_true rfl
  case k7 => exact ⟨[], rfl, rfl, rfl, fun j p h => by simp at h⟩
  case k8 =>
    intro g i ys news₁ own C oC D m₂ h₁ tk₁ E' wr hi hV hC hJ off hw FF NN
    have hJ0 := hJ
    obtain ⟨ds, rfl, rfl, hl, hds⟩ := hJ
    obtain ⟨v, hv, hx⟩ := hV
    refine tests_nil ?_
    dsimp only [if_true]
    obtain ⟨z, tz, rfl, hz⟩ : ∃ z tz, v = .str z tz ∧ [x, y][i]? = some z := by
      exact two_str hv
    have hi2 : i = 0 ∨ i = 1 := by
      have : i < 2 := hi
      (first | lia | omega)
    rcases hi2 with rfl | rfl
    · cases List.eq_nil_of_length_eq_zero hl
      dsimp only [List.reverse_nil, List.nil_append, nsOf, List.cons_append, List.map_nil] at NN ⊢
      repeat' ((fail_if_success (with_reducible (first | show wpAny _ _ (call (Value.builtin _) _) _ _ _ | show wpAny _ _ (call (Value.type _) _) _ _ _))); first | (with_reducible refine execs_hide ?_; intro Q9 hQ9 hR9) | (with_reducible refine hQ9 _ ?_; clear hQ9 hR9; (try clear Q9)) | ((with_reducible refine' hR9 _ _ ?hk9 ?_); (case hk9 => exact nofun); clear hQ9 hR9; (try clear Q9)) | (with_reducible refine hQ8 _ _ ?_; clear hQ8; (try clear Q8); (try dsimp only)) | (with_reducible refine hQ8 _ _ _ ?_; clear hQ8; (try clear Q8); (try dsimp only)) | (with_reducible refine hQ7 _ _ ?_; clear hQ7; (try clear Q7); (try dsimp only)) | (k_unfold; (try dsimp only)) | walk_at "my step" | fail "no step")
      refine splitN1A FF NN (by decide) (fun l9 h9 k9 e9 s9 a9 _ F9 N9 => ?_) (two_short lx ly (List.mem_of_getElem? hz))
      exact CEnd.more F9 N9 hw (fun p hp => Nat.ne_of_lt (Heap.lt_size (NN p hp).1)) off (splitJ_snoc hJ0 hz ⟨_, _, rfl, e9 ▸ s9⟩)
    · obtain ⟨⟨p1, q1⟩, rfl⟩ : ∃ p, ds = [p] := List.length_eq_one_iff.mp hl
      simp only [List.reverse_cons, List.reverse_nil, List.nil_append, nsOf, List.cons_append, List.map_cons, List.map_nil] at NN ⊢
      repeat' ((fail_if_success (with_reducible (first | show wpAny _ _ (call (Value.builtin _) _) _ _ _ | show wpAny _ _ (call (Value.type _) _) _ _ _))); first | (with_reducible refine execs_hide ?_; intro Q9 hQ9 hR9) | (with_reducible refine hQ9 _ ?_; clear hQ9 hR9; (try clear Q9)) | ((with_reducible refine' hR9 _ _ ?hk9 ?_); (case hk9 => exact nofun); clear hQ9 hR9; (try clear Q9)) | (with_reducible refine hQ8 _ _ ?_; clear hQ8; (try clear Q8); (try dsimp only)) | (with_reducible refine hQ8 _ _ _ ?_; clear hQ8; (try clear Q8); (try dsimp only)) | (with_reducible refine hQ7 _ _ ?_; clear hQ7; (try clear Q7); (try dsimp only)) | (k_unfold; (try dsimp only)) | walk_at "my step" | fail "no step")
      refine splitN1A FF NN (by decide) (fun l9 h9 k9 e9 s9 a9 _ F9 N9 => ?_) (two_short lx ly (List.mem_of_getElem? hz))
      exact CEnd.more F9 N9 hw (fun p hp => Nat.ne_of_lt (Heap.lt_size (NN p hp).1)) off (splitJ_snoc hJ0 hz ⟨_, _, rfl, e9 ▸ s9⟩)
  case k9 =>
    intro g ys news' hJ
    obtain ⟨d1, d2, o1, o2, rfl, rfl, hs1, hs2⟩ := splitJ_two hJ
    clear hJ
    obtain ⟨l1, n1, rfl, hl1⟩ := hs1
    obtain ⟨l2, n2, rfl, hl2⟩ := hs2
    rw [hxs] at hl1
    rw [hys] at hl2
    intro D6 h6 tk6 F6 N6 n6
    dsimp only
    repeat' ((fail_if_success (with_reducible (first | show wpAny _ _ (eval (Expr.ListComp _ _ _ _) _) _ _ _ | show wpAny _ _ (call (Value.type _) _) _ _ _ | show wpAny _ _ (exec (Stmt.Assign _ (Expr.ListComp _ _ _ _) _) _) _ _ _ | show wpAny _ _ (exec (Stmt.For _ _ _ _ _) _) _ _ _ | show wpAny _ _ (call (Value.builtin _) _) _ _ _))); first | (with_reducible refine execs_hide ?_; intro Q9 hQ9 hR9) | (with_reducible refine hQ9 _ ?_; clear hQ9 hR9; (try clear Q9)) | ((with_reducible refine' hR9 _ _ ?hk9 ?_); (case hk9 => exact nofun); clear hQ9 hR9; (try clear Q9)) | (with_reducible refine hQ8 _ _ ?_; clear hQ8; (try clear Q8); (try dsimp only)) | (with_reducible refine hQ8 _ _ _ ?_; clear hQ8; (try clear Q8); (try dsimp only)) | (with_reducible refine hQ7 _ _ ?_; clear hQ7; (try clear Q7); (try dsimp only)) | (k_unfold; (try dsimp only)) | walk_at "my step" | fail "no step")
    refine wpAny_Try_except (wpAny_mono (E := fun _ _ => False) ?_ (fun f s₁ h => h) (fun _ _ h => h.elim))
    repeat' ((fail_if_success (with_reducible (first | show wpAny _ _ (eval (Expr.ListComp _ _ _ _) _) _ _ _ | show wpAny _ _ (call (Value.type _) _) _ _ _ | show wpAny _ _ (exec (Stmt.Assign _ (Expr.ListComp _ _ _ _) _) _) _ _ _ | show wpAny _ _ (exec (Stmt.For _ _ _ _ _) _) _ _ _ | show wpAny _ _ (call (Value.builtin _) _) _ _ _))); first | (with_reducible refine execs_hide ?_; intro Q9 hQ9 hR9) | (with_reducible refine hQ9 _ ?_; clear hQ9 hR9; (try clear Q9)) | ((with_reducible refine' hR9 _ _ ?hk9 ?_); (case hk9 => exact nofun); clear hQ9 hR9; (try clear Q9)) | (with_reducible refine hQ8 _ _ ?_; clear hQ8; (try clear Q8); (try dsimp only)) | (with_reducible refine hQ8 _ _ _ ?_; clear hQ8; (try clear Q8); (try dsimp only)) | (with_reducible refine hQ7 _ _ ?_; clear hQ7; (try clear Q7); (try dsimp only)) | (k_unfold; (try dsimp only)) | walk_at "my step" | fail "no step")
    refine' SetComp_tup F6 ?q1 ?q2 ?q3 ?q4 ?q5 ?_
    case q1 => with_unfolding_all rfl
    case q2 => decide
    case q3 => rfl
    case q4 => decide
    case q5 => rfl
    repeat' ((fail_if_success (with_reducible (first | show wpAny _ _ (pyIter _) _ _ _))); first | (with_reducible refine execs_hide ?_; intro Q9 hQ9 hR9) | (with_reducible refine hQ9 _ ?_; clear hQ9 hR9; (try clear Q9)) | ((with_reducible refine' hR9 _ _ ?hk9 ?_); (case hk9 => exact nofun); clear hQ9 hR9; (try clear Q9)) | (with_reducible refine hQ8 _ _ ?_; clear hQ8; (try clear Q8); (try dsimp only)) | (with_reducible refine hQ8 _ _ _ ?_; clear hQ8; (try clear Q8); (try dsimp only)) | (with_reducible refine hQ7 _ _ ?_; clear hQ7; (try clear Q7); (try dsimp only)) | (k_unfold; (try dsimp only)) | walk_at "my step" | fail "no step")
    refine ⟨pt, #[Value.str x t4, Value.str y u4], 0, _, rfl, rfl, F6, N6, by k_mem, by simp, ?_, ?_⟩
    · intro i v own C oC D oD m₂ h₁ tk₁ E' hv hx hC FF NN
      obtain ⟨z, tz, rfl, hz⟩ : ∃ z tz, v = .str z tz ∧ Txt.startswith z "/" = false := by
        exact two_prop (P := fun z => Txt.startswith z "/" = false) hv hsx hsy
      dsimp only [nsOf, List.cons_append, List.nil_append] at NN ⊢
      repeat' ((fail_if_success (with_reducible (first | show wpAny _ _ (call (Value.builtin _) _) _ _ _))); first | (with_reducible refine execs_hide ?_; intro Q9 hQ9 hR9) | (with_reducible refine hQ9 _ ?_; clear hQ9 hR9; (try clear Q9)) | ((with_reducible refine' hR9 _ _ ?hk9 ?_); (case hk9 => exact nofun); clear hQ9 hR9; (try clear Q9)) | (with_reducible refine hQ8 _ _ ?_; clear hQ8; (try clear Q8); (try dsimp only)) | (with_reducible refine hQ8 _ _ _ ?_; clear hQ8; (try clear Q8); (try dsimp only)) | (with_reducible refine hQ7 _ _ ?_; clear hQ7; (try clear Q7); (try dsimp only)) | (k_unfold; (try dsimp only)) | walk_at "my step" | fail "no step")
      refine SC.startswith ?_
      rw [hz]
      exact ⟨rfl, PEnd.mk FF NN trivial⟩
    · intro D8 h8 tk8 F8 N8 n8
      dsimp only
      simp only [nsOf] at N8
      repeat' ((fail_if_success (with_reducible (first | show wpAny _ _ (assign _ _ _) _ _ _))); first | (with_reducible refine execs_hide ?_; intro Q9 hQ9 hR9) | (with_reducible refine hQ9 _ ?_; clear hQ9 hR9; (try clear Q9)) | ((with_reducible refine' hR9 _ _ ?hk9 ?_); (case hk9 => exact nofun); clear hQ9 hR9; (try clear Q9)) | (with_reducible refine hQ8 _ _ ?_; clear hQ8; (try clear Q8); (try dsimp only)) | (with_reducible refine hQ8 _ _ _ ?_; clear hQ8; (try clear Q8); (try dsimp only)) | (with_reducible refine hQ7 _ _ ?_; clear hQ7; (try clear Q7); (try dsimp only)) | (k_unfold; (try dsimp only)) | walk_at "my step" | fail "no step")
      refine assign_set1 rfl F8 N8 List.mem_cons_self rfl ?_
      intro h9 F9 N9
      dsimp only
      repeat' ((fail_if_success (with_reducible (first | show wpAny _ _ (eval (Expr.ListComp _ _ _ _) _) _ _ _ | show wpAny _ _ (call (Value.type _) _) _ _ _ | show wpAny _ _ (exec (Stmt.Assign _ (Expr.ListComp _ _ _ _) _) _) _ _ _ | show wpAny _ _ (exec (Stmt.For _ _ _ _ _) _) _ _ _ | show wpAny _ _ (call (Value.builtin _) _) _ _ _))); first | (with_reducible refine execs_hide ?_; intro Q9 hQ9 hR9) | (with_reducible refine hQ9 _ ?_; clear hQ9 hR9; (try clear Q9)) | ((with_reducible refine' hR9 _ _ ?hk9 ?_); (case hk9 => exact nofun); clear hQ9 hR9; (try clear Q9)) | (with_reducible refine hQ8 _ _ ?_; clear hQ8; (try clear Q8); (try dsimp only)) | (with_reducible refine hQ8 _ _ _ ?_; clear hQ8; (try clear Q8); (try dsimp only)) | (with_reducible refine hQ7 _ _ ?_; clear hQ7; (try clear Q7); (try dsimp only)) | (k_unfold; (try dsimp only)) | walk_at "my step" | fail "no step")
      with_reducible rename News g2 _ _ _ => N10
      with_reducible rename Fr g2 _ _ _ => F10
      refine' Assign_ListComp_any F10 ?k1 ?k2 ?k3 ?k4 ?k5 ?k6 ?k7 ?k8 ?_
      case k1 => rfl
      case k2 => with_unfolding_all rfl
      case k3 => with_unfolding_all rfl
      case k4 => decide
      case k5 => rfl
      case k6 => decide
      case k7 => rfl
      case k8 => rfl
      repeat' ((fail_if_success (with_reducible (first | show wpAny _ _ (pyIter _) _ _ _))); first | (with_reducible refine execs_hide ?_; intro Q9 hQ9 hR9) | (with_reducible refine hQ9 _ ?_; clear hQ9 hR9; (try clear Q9)) | ((with_reducible refine' hR9 _ _ ?hk9 ?_); (case hk9 => exact nofun); clear hQ9 hR9; (try clear Q9)) | (with_reducible refine hQ8 _ _ ?_; clear hQ8; (try clear Q8); (try dsimp only)) | (with_reducible refine hQ8 _ _ _ ?_; clear hQ8; (try clear Q8); (try dsimp only)) | (with_reducible refine hQ7 _ _ ?_; clear hQ7; (try clear Q7); (try dsimp only)) | (k_unfold; (try dsimp only)) | walk_at "my step" | fail "no step")
      refine' compAt_list (ListsJ (nsOf N10) [xs, ys]) ?k1 ?k2 ?k3 F10 N10 ?k5 ?k6 ?k7 ?k8 ?k9
      case k1 => rfl
      case k2 => rfl
      case k3 => rfl
      case k5 => k_mem
      case k6 => exact Nat.le_of_ble_eq_true rfl
      case k7 => exact ⟨[], rfl, rfl, rfl, fun j p h => by simp at h⟩
      case k8 =>
        intro g i ys news₁ own C oC D m₂ h₁ tk₁ E' wr hi hV hC hJ off hw FF NN
        have hJ0 := hJ
        obtain ⟨ds, rfl, rfl, hl, hds⟩ := hJ
        obtain ⟨v, hv, hx⟩ := hV
        refine tests_nil ?_
        rw [if_pos rfl]
        have hi2 : i = 0 ∨ i = 1 := by
          have : i < 2 := hi
          (first | lia | omega)
        rcases hi2 with rfl | rfl
        · cases List.eq_nil_of_length_eq_zero hl
          dsimp only [List.reverse_nil, List.nil_append, nsOf, List.cons_append, List.map_nil] at NN ⊢
          repeat' ((fail_if_success (with_reducible (first | show wpAny _ _ (eval (Expr.ListComp _ _ _ _) _) _ _ _ | show wpAny _ _ (pyIter _) _ _ _))); first | (with_reducible refine execs_hide ?_; intro Q9 hQ9 hR9) | (with_reducible refine hQ9 _ ?_; clear hQ9 hR9; (try clear Q9)) | ((with_reducible refine' hR9 _ _ ?hk9 ?_); (case hk9 => exact nofun); clear hQ9 hR9; (try clear Q9)) | (with_reducible refine hQ8 _ _ ?_; clear hQ8; (try clear Q8); (try dsimp only)) | (with_reducible refine hQ8 _ _ _ ?_; clear hQ8; (try clear Q8); (try dsimp only)) | (with_reducible refine hQ7 _ _ ?_; clear hQ7; (try clear Q7); (try dsimp only)) | (k_unfold; (try dsimp only)) | walk_at "my step" | fail "no step")
          refine' ListComp_any FF ?j1 ?j2 ?j3 ?j4 ?_
          case j1 => with_unfolding_all rfl
          case j2 => decide
          case j3 => rfl
          case j4 => decide
          repeat' ((fail_if_success (with_reducible (first | show wpAny _ _ (pyIter _) _ _ _))); first | (with_reducible refine execs_hide ?_; intro Q9 hQ9 hR9) | (with_reducible refine hQ9 _ ?_; clear hQ9 hR9; (try clear Q9)) | ((with_reducible refine' hR9 _ _ ?hk9 ?_); (case hk9 => exact nofun); clear hQ9 hR9; (try clear Q9)) | (with_reducible refine hQ8 _ _ ?_; clear hQ8; (try clear Q8); (try dsimp only)) | (with_reducible refine hQ8 _ _ _ ?_; clear hQ8; (try clear Q8); (try dsimp only)) | (with_reducible refine hQ7 _ _ ?_; clear hQ7; (try clear Q7); (try dsimp only)) | (k_unfold; (try dsimp only)) | walk_at "my step" | fail "no step")
          cases hv
          refine' compAt_list _ ?j1 ?j2 ?j3 FF NN ?j5 ?j6 ?j7 (cstep0 (J := fun i vs => StrsAre vs (xs.take i)) ?j8) (cfin0 ?j9)
          case j1 => rfl
          case j2 => rfl
          case j3 => rfl
          case j5 => k_mem
          case j6 => rw [List.size_toArray, strs_len hl1]; exact Nat.le_trans hxl (Nat.le_of_ble_eq_true rfl)
          case j7 => exact ⟨rfl, .nil⟩
          case j8 =>
            intro i' vs' own' C' oC' D' m₂' h₁' tk₁' E'' hi' hV' hC' hJ' FF' NN'
            obtain ⟨v', hv', hx'⟩ := hV'
            obtain ⟨c', tc', rfl, hc'⟩ := strs_at hl1 (by simpa using hv')
            have hcc := hxc c' (List.mem_of_getElem? hc')
            refine tests_one ?_
            simp only [List.cons_append] at NN' ⊢
            repeat' ((fail_if_success (with_reducible (first | show wpAny _ _ (pyIter _) _ _ _))); first | (with_reducible refine execs_hide ?_; intro Q9 hQ9 hR9) | (with_reducible refine hQ9 _ ?_; clear hQ9 hR9; (try clear Q9)) | ((with_reducible refine' hR9 _ _ ?hk9 ?_); (case hk9 => exact nofun); clear hQ9 hR9; (try clear Q9)) | (with_reducible refine hQ8 _ _ ?_; clear hQ8; (try clear Q8); (try dsimp only)) | (with_reducible refine hQ8 _ _ _ ?_; clear hQ8; (try clear Q8); (try dsimp only)) | (with_reducible refine hQ7 _ _ ?_; clear hQ7; (try clear Q7); (try dsimp only)) | (k_unfold; (try dsimp only)) | walk_at "my step" | fail "no step")
            · exact PEnd.mk FF' NN' (strs_snoc' hJ' hc')
            · rename_i hbn; exact absurd (by simpa using hbn) hcc.2
            · exfalso; have := hcc.1; (first | lia | omega)
          case j9 =>
            intro g9 vs9 hJ9 D9 h9 tk9 F9 N9 n9
            dsimp only
            rw [List.take_of_length_le (by rw [List.size_toArray, strs_len hl1]; exact Nat.le_refl _)] at hJ9
            exact CEnd.more F9 N9 hw n9 off (listsJ_snoc hJ0 rfl ⟨_, _, rfl, hJ9⟩)
        · obtain ⟨⟨p1, q1⟩, rfl⟩ : ∃ p, ds = [p] := List.length_eq_one_iff.mp hl
          simp only [List.reverse_cons, List.reverse_nil, List.nil_append, nsOf, List.cons_append, List.map_cons, List.map_nil] at NN ⊢
          repeat' ((fail_if_success (with_reducible (first | show wpAny _ _ (eval (Expr.ListComp _ _ _ _) _) _ _ _ | show wpAny _ _ (pyIter _) _ _ _))); first | (with_reducible refine execs_hide ?_; intro Q9 hQ9 hR9) | (with_reducible refine hQ9 _ ?_; clear hQ9 hR9; (try clear Q9)) | ((with_reducible refine' hR9 _ _ ?hk9 ?_); (case hk9 => exact nofun); clear hQ9 hR9; (try clear Q9)) | (with_reducible refine hQ8 _ _ ?_; clear hQ8; (try clear Q8); (try dsimp only)) | (with_reducible refine hQ8 _ _ _ ?_; clear hQ8; (try clear Q8); (try dsimp only)) | (with_reducible refine hQ7 _ _ ?_; clear hQ7; (try clear Q7); (try dsimp only)) | (k_unfold; (try dsimp only)) | walk_at "my step" | fail "no step")
          refine' ListComp_any FF ?i1 ?i2 ?i3 ?i4 ?_
          case i1 => with_unfolding_all rfl
          case i2 => decide
          case i3 => rfl
          case i4 => decide
          repeat' ((fail_if_success (with_reducible (first | show wpAny _ _ (pyIter _) _ _ _))); first | (with_reducible refine execs_hide ?_; intro Q9 hQ9 hR9) | (with_reducible refine hQ9 _ ?_; clear hQ9 hR9; (try clear Q9)) | ((with_reducible refine' hR9 _ _ ?hk9 ?_); (case hk9 => exact nofun); clear hQ9 hR9; (try clear Q9)) | (with_reducible refine hQ8 _ _ ?_; clear hQ8; (try clear Q8); (try dsimp only)) | (with_reducible refine hQ8 _ _ _ ?_; clear hQ8; (try clear Q8); (try dsimp only)) | (with_reducible refine hQ7 _ _ ?_; clear hQ7; (try clear Q7); (try dsimp only)) | (k_unfold; (try dsimp only)) | walk_at "my step" | fail "no step")
          cases hv
          refine' compAt_list _ ?i1 ?i2 ?i3 FF NN ?i5 ?i6 ?i7 (cstep0 (J := fun i vs => StrsAre vs (ys.take i)) ?i8) (cfin0 ?i9)
          case i1 => rfl
          case i2 => rfl
          case i3 => rfl
          case i5 => k_mem
          case i6 => rw [List.size_toArray, strs_len hl2]; exact Nat.le_trans hyl (Nat.le_of_ble_eq_true rfl)
          case i7 => exact ⟨rfl, .nil⟩
          case i8 =>
            intro i' vs' own' C' oC' D' m₂' h₁' tk₁' E'' hi' hV' hC' hJ' FF' NN'
            obtain ⟨v', hv', hx'⟩ := hV'
            obtain ⟨c', tc', rfl, hc'⟩ := strs_at hl2 (by simpa using hv')
            have hcc := hyc c' (List.mem_of_getElem? hc')
            refine tests_one ?_
            simp only [List.cons_append] at NN' ⊢
            repeat' ((fail_if_success (with_reducible (first | show wpAny _ _ (pyIter _) _ _ _))); first | (with_reducible refine execs_hide ?_; intro Q9 hQ9 hR9) | (with_reducible refine hQ9 _ ?_; clear hQ9 hR9; (try clear Q9)) | ((with_reducible refine' hR9 _ _ ?hk9 ?_); (case hk9 => exact nofun); clear hQ9 hR9; (try clear Q9)) | (with_reducible refine hQ8 _ _ ?_; clear hQ8; (try clear Q8); (try dsimp only)) | (with_reducible refine hQ8 _ _ _ ?_; clear hQ8; (try clear Q8); (try dsimp only)) | (with_reducible refine hQ7 _ _ ?_; clear hQ7; (try clear Q7); (try dsimp only)) | (k_unfold; (try dsimp only)) | walk_at "my step" | fail "no step")
            · exact PEnd.mk FF' NN' (strs_snoc' hJ' hc')
            · rename_i hbn; exact absurd (by simpa using hbn) hcc.2
            · exfalso; have := hcc.1; (first | lia | omega)
          case i9 =>
            intro g9 vs9 hJ9 D9 h9 tk9 F9 N9 n9
            dsimp only
            rw [List.take_of_length_le (by rw [List.size_toArray, strs_len hl2]; exact Nat.le_refl _)] at hJ9
            exact CEnd.more F9 N9 hw n9 off (listsJ_snoc hJ0 rfl ⟨_, _, rfl, hJ9⟩)
      case k9 =>
        intro g ys9 news9 hJ
        obtain ⟨d3, d4, o3, o4, rfl, rfl, hs3, hs4⟩ := listsJ_two hJ
        clear hJ
        obtain ⟨l3, n3, rfl, hl3⟩ := hs3
        obtain ⟨l4, n4, rfl, hl4⟩ := hs4
        intro D11 h11 tk11 F11 N11 n11
        dsimp only
        simp only [nsOf] at N11
        repeat' ((fail_if_success (with_reducible (first | show wpAny _ _ (eval (Expr.ListComp _ _ _ _) _) _ _ _ | show wpAny _ _ (call (Value.type _) _) _ _ _ | show wpAny _ _ (exec (Stmt.Assign _ (Expr.ListComp _ _ _ _) _) _) _ _ _ | show wpAny _ _ (exec (Stmt.For _ _ _ _ _) _) _ _ _ | show wpAny _ _ (call (Value.builtin _) _) _ _ _))); first | (with_reducible refine execs_hide ?_; intro Q9 hQ9 hR9) | (with_reducible refine hQ9 _ ?_; clear hQ9 hR9; (try clear Q9)) | ((with_reducible refine' hR9 _ _ ?hk9 ?_); (case hk9 => exact nofun); clear hQ9 hR9; (try clear Q9)) | (with_reducible refine hQ8 _ _ ?_; clear hQ8; (try clear Q8); (try dsimp only)) | (with_reducible refine hQ8 _ _ _ ?_; clear hQ8; (try clear Q8); (try dsimp only)) | (with_reducible refine hQ7 _ _ ?_; clear hQ7; (try clear Q7); (try dsimp only)) | (k_unfold; (try dsimp only)) | walk_at "my step" | fail "no step")
        obtain ⟨a5, b5, la, lb, na, nb, as, bs, hka, hkb, hma, hmb, hla, hlb, hac, hal, hbl, hins, hlc⟩ := minMax_of (d3 := d3) (d4 := d4) (n3 := n3) (n4 := n4) hl3 hl4 (fun c hc => (hxc c hc).1) (fun c hc => (hyc c hc).1) hxl hyl
        refine' min_at (d3 := d3) (d4 := d4) hka rfl F11 N11 ?m11 ?m12 ?m13 hl3 hl4 ?m14 ?_
        case m11 => k_mem
        case m12 => k_mem
        case m13 => k_mem
        case m14 => ktr_units
        intro h12 tk12 F12 N12
        clear F11 N11
        repeat' ((fail_if_success (with_reducible (first | show wpAny _ _ (eval (Expr.ListComp _ _ _ _) _) _ _ _ | show wpAny _ _ (call (Value.type _) _) _ _ _ | show wpAny _ _ (exec (Stmt.Assign _ (Expr.ListComp _ _ _ _) _) _) _ _ _ | show wpAny _ _ (exec (Stmt.For _ _ _ _ _) _) _ _ _ | show wpAny _ _ (call (Value.builtin _) _) _ _ _))); first | (with_reducible refine execs_hide ?_; intro Q9 hQ9 hR9) | (with_reducible refine hQ9 _ ?_; clear hQ9 hR9; (try clear Q9)) | ((with_reducible refine' hR9 _ _ ?hk9 ?_); (case hk9 => exact nofun); clear hQ9 hR9; (try clear Q9)) | (with_reducible refine hQ8 _ _ ?_; clear hQ8; (try clear Q8); (try dsimp only)) | (with_reducible refine hQ8 _ _ _ ?_; clear hQ8; (try clear Q8); (try dsimp only)) | (with_reducible refine hQ7 _ _ ?_; clear hQ7; (try clear Q7); (try dsimp only)) | (k_unfold; (try dsimp only)) | walk_at "my step" | fail "no step")
        with_reducible rename News g2 _ _ _ => N13
        with_reducible rename Fr g2 _ _ _ => F13
        refine' max_at (d3 := d3) (d4 := d4) hkb rfl F13 N13 ?n11 ?n12 ?n13 hl3 hl4 ?n14 ?_
        case n11 => k_mem
        case n12 => k_mem
        case n13 => k_mem
        case n14 => ktr_units
        intro h14 tk14 F14 N14
        clear F13 N13
        repeat' ((fail_if_success (with_reducible (first | show wpAny _ _ (eval (Expr.ListComp _ _ _ _) _) _ _ _ | show wpAny _ _ (call (Value.type _) _) _ _ _ | show wpAny _ _ (exec (Stmt.Assign _ (Expr.ListComp _ _ _ _) _) _) _ _ _ | show wpAny _ _ (exec (Stmt.For _ _ _ _ _) _) _ _ _ | show wpAny _ _ (call (Value.builtin _) _) _ _ _))); first | (with_reducible refine execs_hide ?_; intro Q9 hQ9 hR9) | (with_reducible refine hQ9 _ ?_; clear hQ9 hR9; (try clear Q9)) | ((with_reducible refine' hR9 _ _ ?hk9 ?_); (case hk9 => exact nofun); clear hQ9 hR9; (try clear Q9)) | (with_reducible refine hQ8 _ _ ?_; clear hQ8; (try clear Q8); (try dsimp only)) | (with_reducible refine hQ8 _ _ _ ?_; clear hQ8; (try clear Q8); (try dsimp only)) | (with_reducible refine hQ7 _ _ ?_; clear hQ7; (try clear Q7); (try dsimp only)) | (k_unfold; (try dsimp only)) | walk_at "my step" | fail "no step")
        with_unfolding_all refine' For_turns (by assumption) ?_
        repeat' ((fail_if_success (with_reducible (first | show wpAny _ _ (eval (Expr.ListComp _ _ _ _) _) _ _ _ | show wpAny _ _ (call (Value.type _) _) _ _ _ | show wpAny _ _ (exec (Stmt.Assign _ (Expr.ListComp _ _ _ _) _) _) _ _ _ | show wpAny _ _ (exec (Stmt.For _ _ _ _ _) _) _ _ _ | show wpAny _ _ (call (Value.builtin _) _) _ _ _ | show wpAny _ _ (pyIter _) _ _ _))); first | (with_reducible refine execs_hide ?_; intro Q9 hQ9 hR9) | (with_reducible refine hQ9 _ ?_; clear hQ9 hR9; (try clear Q9)) | ((with_reducible refine' hR9 _ _ ?hk9 ?_); (case hk9 => exact nofun); clear hQ9 hR9; (try clear Q9)) | (with_reducible refine hQ8 _ _ ?_; clear hQ8; (try clear Q8); (try dsimp only)) | (with_reducible refine hQ8 _ _ _ ?_; clear hQ8; (try clear Q8); (try dsimp only)) | (with_reducible refine hQ7 _ _ ?_; clear hQ7; (try clear Q7); (try dsimp only)) | (k_unfold; (try dsimp only)) | walk_at "my step" | fail "no step")
        with_reducible rename News g2 _ _ _ => N15
        with_reducible rename Fr g2 _ _ _ => F15
        have hd3 : (a5, listOf la.toArray na) ∈ nsOf N15 := hma _ (by k_mem) (by k_mem)
        with_unfolding_all refine ktu_enum (n := na) (by rfl) F15 N15 hd3 (by rfl) (by rfl) rfl ?_
        intro I lI
        refine' itemsRest_h (forE F15 N15 [(Str.ofString "common", Value.ref a5), (Str.ofString "s1", .ref a5), (Str.ofString "s2", .ref b5), (Str.ofString "isabs", .bool false)] [Str.ofString "i", Str.ofString "c"] (fun i => ∀ j, j < i → as[j]? = bs[j]?)) ?jk2 ?jturn2 ?jfin2 _ 0 _ _ rfl (Nat.zero_le _) ?j02
        case j02 => exact ⟨rfl, fun j hj => absurd hj (Nat.not_lt_zero _), by ((try dsimp only); (repeat (refine allc (by first | with_unfolding_all rfl | (refine' lkT ?q3 ?q4 ?q5; (case q3 => assumption); (case q4 => with_unfolding_all rfl); (case q5 => with_unfolding_all rfl))) ?_)); exact List.forall_mem_nil _), fun _ _ _ => rfl⟩
        case jk2 =>
          rintro i m' news' ⟨rfl, _⟩
          exact ⟨hd3, trivial⟩
        case jturn2 =>
          intro i a m' news' v hh tkk ha' hJ9 hv Fz Q8 hQ8
          ktu_objs
          obtain ⟨rfl, hP, hzps, hzm⟩ := hJ9
          have hil : i < la.length := by
            have := (List.getElem?_eq_some_iff.mp ha').1
            rwa [enumItems_length] at this
          have hiA : i < as.length := by rw [← strs_len hla]; exact hil
          have hiB : i < bs.length := hins i hiA hP
          have hjl : i < lb.length := by rw [strs_len hlb]; exact hiB
          obtain ⟨c, tc, hcv, hcx⟩ := strs_at hla (List.getElem?_eq_getElem hil)
          obtain ⟨c2, tc2, hcv2, hcx2⟩ := strs_at hlb (List.getElem?_eq_getElem hjl)
          have ha2 := enumItems_get la 0 i (List.getElem?_eq_getElem hil)
          rw [ha'] at ha2
          obtain rfl := Option.some.inj ha2
          rw [hcv] at hv
          obtain ⟨T, tt, rfl, hTT⟩ := hv
          repeat' ((fail_if_success (with_reducible (first | show wpAny _ _ (eval (Expr.ListComp _ _ _ _) _) _ _ _ | show wpAny _ _ (call (Value.type _) _) _ _ _ | show wpAny _ _ (exec (Stmt.Assign _ (Expr.ListComp _ _ _ _) _) _) _ _ _ | show wpAny _ _ (exec (Stmt.For _ _ _ _ _) _) _ _ _ | show wpAny _ _ (call (Value.builtin _) _) _ _ _ | show wpAny _ _ (subscriptTail _ _ (Value.ref _) _) _ _ _ | show UnrEndW _ _ _ _ _ _))); first | (with_reducible refine execs_hide ?_; intro Q9 hQ9 hR9) | (with_reducible refine hQ9 _ ?_; clear hQ9 hR9; (try clear Q9)) | ((with_reducible refine' hR9 _ _ ?hk9 ?_); (case hk9 => exact nofun); clear hQ9 hR9; (try clear Q9)) | (with_reducible refine hQ8 _ _ ?_; clear hQ8; (try clear Q8); (try dsimp only)) | (with_reducible refine hQ8 _ _ _ ?_; clear hQ8; (try clear Q8); (try dsimp only)) | (with_reducible refine hQ7 _ _ ?_; clear hQ7; (try clear Q7); (try dsimp only)) | (k_unfold; (try dsimp only)) | walk_at "my step" | fail "no step")
          with_reducible rename News g2 _ _ _ => N17
          have hl100 : lb.length ≤ 100 := by rw [strs_len hlb]; exact hbl
          refine lget (vs := lb) (v := .str c2 tc2) N17 (.tail _ (.tail _ (hmb _ (by k_mem) (by k_mem)))) (by (first | lia | omega)) (by (first | lia | omega)) (by rw [Int.toNat_natCast, Nat.zero_add, List.getElem?_eq_getElem hjl, hcv2]) ?_
          repeat' ((fail_if_success (with_reducible (first | show wpAny _ _ (eval (Expr.ListComp _ _ _ _) _) _ _ _ | show wpAny _ _ (call (Value.type _) _) _ _ _ | show wpAny _ _ (exec (Stmt.Assign _ (Expr.ListComp _ _ _ _) _) _) _ _ _ | show wpAny _ _ (exec (Stmt.For _ _ _ _ _) _) _ _ _ | show wpAny _ _ (call (Value.builtin _) _) _ _ _ | show wpAny _ _ (subscriptTail _ _ (Value.ref _) _) _ _ _ | show UnrEndW _ _ _ _ _ _))); first | (with_reducible refine execs_hide ?_; intro Q9 hQ9 hR9) | (with_reducible refine hQ9 _ ?_; clear hQ9 hR9; (try clear Q9)) | ((with_reducible refine' hR9 _ _ ?hk9 ?_); (case hk9 => exact nofun); clear hQ9 hR9; (try clear Q9)) | (with_reducible refine hQ8 _ _ ?_; clear hQ8; (try clear Q8); (try dsimp only)) | (with_reducible refine hQ8 _ _ _ ?_; clear hQ8; (try clear Q8); (try dsimp only)) | (with_reducible refine hQ7 _ _ ?_; clear hQ7; (try clear Q7); (try dsimp only)) | (k_unfold; (try dsimp only)) | walk_at "my step" | fail "no step")
          · rename_i hne
            have hcne : c ≠ c2 := by simpa using hne
            refine' kmk_slice_lit (s := ⟨_, _, _, _, _⟩) (l := a5) (its := la.toArray) (zs := la.take i) (by assumption) N17 (PySem.IsL.isList (n := na) (N17 (a5, listOf la.toArray na) (.tail _ (.tail _ hd3))).1) .none (.int _ _) ?sp3 ?sp4 ?sp5 ?sp6 ?sp7
            case sp3 => rw [slice_upto _ (Int.natCast_nonneg _), Int.toNat_natCast, Nat.zero_add]
            case sp5 => with_unfolding_all rfl
            case sp6 => intro _; with_unfolding_all rfl
            case sp7 => rw [List.size_toArray, strs_len hla]; have := sizeLine_eq; (first | lia | omega)
            intro D20 h20 F20 N20 l20
            k_lt l20
            dsimp only
            repeat' ((fail_if_success (with_reducible (first | show wpAny _ _ (eval (Expr.ListComp _ _ _ _) _) _ _ _ | show wpAny _ _ (call (Value.type _) _) _ _ _ | show wpAny _ _ (exec (Stmt.Assign _ (Expr.ListComp _ _ _ _) _) _) _ _ _ | show wpAny _ _ (exec (Stmt.For _ _ _ _ _) _) _ _ _ | show wpAny _ _ (call (Value.builtin _) _) _ _ _ | show wpAny _ _ (subscriptTail _ _ (Value.ref _) _) _ _ _ | show UnrEndW _ _ _ _ _ _))); first | (with_reducible refine execs_hide ?_; intro Q9 hQ9 hR9) | (with_reducible refine hQ9 _ ?_; clear hQ9 hR9; (try clear Q9)) | ((with_reducible refine' hR9 _ _ ?hk9 ?_); (case hk9 => exact nofun); clear hQ9 hR9; (try clear Q9)) | (with_reducible refine hQ8 _ _ ?_; clear hQ8; (try clear Q8); (try dsimp only)) | (with_reducible refine hQ8 _ _ _ ?_; clear hQ8; (try clear Q8); (try dsimp only)) | (with_reducible refine hQ7 _ _ ?_; clear hQ7; (try clear Q7); (try dsimp only)) | (k_unfold; (try dsimp only)) | walk_at "my step" | fail "no step")
            with_reducible rename News g2 _ _ _ => N21
            have hti : ∀ c ∈ as.take i, c.length = 1 := fun c hc => hac c (List.mem_of_mem_take hc)
            have hli : (as.take i).length ≤ 100 := Nat.le_trans (List.length_take_le' i as) hal
            refine join_list (items := (la.take i).toArray) ⟨_, (N21 (D20, listOf (la.take i).toArray 0) (by k_mem)).1, rfl, _, rfl⟩ (by simpa using strs_take i hla) (by rw [ones_sum hti]; show (as.take i).length + (as.take i).length * 1 ≤ _; (first | lia | omega)) ?_
            intro t22 tk22
            have hjl9 := join_len_le hti
            have hjr := lcp_at i as bs hP hiA hiB (by rw [hcx, hcx2]; exact fun e => hcne (Option.some.inj e))
            rw [← hjr] at hjl9 hli ⊢
            generalize hjq : Txt.join (Str.ofString "/") (lcp as bs) = jr at hjl9 ⊢
            have hjl2 : jr.length ≤ 200 := by (first | lia | omega)
            clear hjl9
            repeat' ((fail_if_success (with_reducible (first | show wpAny _ _ (eval (Expr.ListComp _ _ _ _) _) _ _ _ | show wpAny _ _ (call (Value.type _) _) _ _ _ | show wpAny _ _ (exec (Stmt.Assign _ (Expr.ListComp _ _ _ _) _) _) _ _ _ | show wpAny _ _ (exec (Stmt.For _ _ _ _ _) _) _ _ _ | show wpAny _ _ (call (Value.builtin _) _) _ _ _ | show wpAny _ _ (subscriptTail _ _ (Value.ref _) _) _ _ _ | show UnrEndW _ _ _ _ _ _))); first | (with_reducible refine execs_hide ?_; intro Q9 hQ9 hR9) | (with_reducible refine hQ9 _ ?_; clear hQ9 hR9; (try clear Q9)) | ((with_reducible refine' hR9 _ _ ?hk9 ?_); (case hk9 => exact nofun); clear hQ9 hR9; (try clear Q9)) | (with_reducible refine hQ8 _ _ ?_; clear hQ8; (try clear Q8); (try dsimp only)) | (with_reducible refine hQ8 _ _ _ ?_; clear hQ8; (try clear Q8); (try dsimp only)) | (with_reducible refine hQ7 _ _ ?_; clear hQ7; (try clear Q7); (try dsimp only)) | (k_unfold; (try dsimp only)) | walk_at "my step" | fail "no step")
            exact cb_retS hret (by rw [nil_app, ← hjq, hlc]) (by assumption) (backR N hrel (by assumption) (by kcj_all))
          · rename_i heq
            have hce : c = c2 := by simpa using heq
            refine unr_end _ (by assumption) N17 (fun p hp => List.mem_append_left _ hp) (fun p hp => List.mem_append_right [_, _] hp) (off2 lI) ⟨rfl, fun j hj => ?_, by ((try dsimp only); (repeat (refine allc (by first | with_unfolding_all rfl | (refine' lkT ?q3 ?q4 ?q5; (case q3 => assumption); (case q4 => with_unfolding_all rfl); (case q5 => with_unfolding_all rfl))) ?_)); exact List.forall_mem_nil _), by ((repeat (first | exact sm_rfl | refine sm_store (by kernel_rfl) ?_ | (refine' sm_trans ?q6 (by kernel_rfl) ?_; (case q6 => assumption)))); done)⟩
            rcases Nat.lt_succ_iff_lt_or_eq.mp hj with hj | rfl
            · exact hP j hj
            · rw [hcx, hcx2, hce]
        case jfin2 =>
          rintro m' news' hh tkk ⟨rfl, hP, hzps, hzm⟩ Fz Nz
          repeat' ((fail_if_success (with_reducible (first | show wpAny _ _ (eval (Expr.ListComp _ _ _ _) _) _ _ _ | show wpAny _ _ (call (Value.type _) _) _ _ _ | show wpAny _ _ (exec (Stmt.Assign _ (Expr.ListComp _ _ _ _) _) _) _ _ _ | show wpAny _ _ (exec (Stmt.For _ _ _ _ _) _) _ _ _ | show wpAny _ _ (call (Value.builtin _) _) _ _ _ | show wpAny _ _ (subscriptTail _ _ (Value.ref _) _) _ _ _))); first | (with_reducible refine execs_hide ?_; intro Q9 hQ9 hR9) | (with_reducible refine hQ9 _ ?_; clear hQ9 hR9; (try clear Q9)) | ((with_reducible refine' hR9 _ _ ?hk9 ?_); (case hk9 => exact nofun); clear hQ9 hR9; (try clear Q9)) | (with_reducible refine hQ8 _ _ ?_; clear hQ8; (try clear Q8); (try dsimp only)) | (with_reducible refine hQ8 _ _ _ ?_; clear hQ8; (try clear Q8); (try dsimp only)) | (with_reducible refine hQ7 _ _ ?_; clear hQ7; (try clear Q7); (try dsimp only)) | (k_unfold; (try dsimp only)) | walk_at "my step" | fail "no step")
          with_reducible rename News g2 _ _ _ => N19
          refine join_list (items := la.toArray) ⟨_, (N19 (a5, listOf la.toArray na) hd3).1, rfl, _, rfl⟩ (by simpa using hla) (by rw [ones_sum hac]; show as.length + as.length * 1 ≤ _; (first | lia | omega)) ?_
          intro t20 tk20
          have hjl := join_len_le (xs := as) hac
          generalize hjr : Txt.join (Str.ofString "/") as = jr at hjl ⊢
          have hjl2 : jr.length ≤ 200 := by (first | lia | omega)
          clear hjl
          repeat' ((fail_if_success (with_reducible (first | show wpAny _ _ (eval (Expr.ListComp _ _ _ _) _) _ _ _ | show wpAny _ _ (call (Value.type _) _) _ _ _ | show wpAny _ _ (exec (Stmt.Assign _ (Expr.ListComp _ _ _ _) _) _) _ _ _ | show wpAny _ _ (exec (Stmt.For _ _ _ _ _) _) _ _ _ | show wpAny _ _ (call (Value.builtin _) _) _ _ _ | show wpAny _ _ (subscriptTail _ _ (Value.ref _) _) _ _ _))); first | (with_reducible refine execs_hide ?_; intro Q9 hQ9 hR9) | (with_reducible refine hQ9 _ ?_; clear hQ9 hR9; (try clear Q9)) | ((with_reducible refine' hR9 _ _ ?hk9 ?_); (case hk9 => exact nofun); clear hQ9 hR9; (try clear Q9)) | (with_reducible refine hQ8 _ _ ?_; clear hQ8; (try clear Q8); (try dsimp only)) | (with_reducible refine hQ8 _ _ _ ?_; clear hQ8; (try clear Q8); (try dsimp only)) | (with_reducible refine hQ7 _ _ ?_; clear hQ7; (try clear Q7); (try dsimp only)) | (k_unfold; (try dsimp only)) | walk_at "my step" | fail "no step")
          rw [enumItems_length, strs_len hla] at hP
          exact cb_retS hret (by rw [nil_app, ← hjr, ← hlc, lcp_full as bs hP]) (by assumption) (backR N hrel (by assumption) (by kcj_all))
end
end Mine
end

noncomputable section
namespace Mine
open PySem.StrLaws PySem.Builtin.Str
theorem cut_inj {c : Nat} : ∀ {p q a b : List Nat}, c ∉ p → c ∉ q → p ++ c :: a = q ++ c :: b → p = q ∧ a = b
  | [], [], _, _, _, _, h => ⟨rfl, (List.cons.inj h).2⟩
  | [], _ :: _, _, _, _, h2, h => absurd (List.cons.inj h).1 fun e => h2 (e ▸ List.mem_cons_self)
  | _ :: _, [], _, _, h1, _, h => absurd (List.cons.inj h).1 fun e => h1 (e ▸ List.mem_cons_self)
  | x :: p, y :: q, a, b, h1, h2, h => by
    obtain ⟨e1, e2⟩ := List.cons.inj h
    obtain ⟨e3, e4⟩ := cut_inj (fun m => h1 (List.mem_cons_of_mem _ m)) (fun m => h2 (List.mem_cons_of_mem _ m)) e2
    exact ⟨by rw [e1, e3], e4⟩
theorem str_ext {a b : Str} (h : a.cps.toList = b.cps.toList) : a = b := by
  obtain ⟨⟨a⟩⟩ := a; obtain ⟨⟨b⟩⟩ := b
  have : a = b := h
  rw [this]
theorem join_cons2 (c : Nat) (p q : Str) (r : List Str) : (Str.join ⟨#[c]⟩ (p :: q :: r)).cps.toList = p.cps.toList ++ c :: (Str.join ⟨#[c]⟩ (q :: r)).cps.toList := by
  show (p ++ ⟨#[c]⟩ ++ Str.join ⟨#[c]⟩ (q :: r)).cps.toList = _
  simp [Str.cps_append]
theorem join_inj {c : Nat} : ∀ {ps qs : List Str}, ps ≠ [] → qs ≠ [] → (∀ p ∈ ps, c ∉ p.cps.toList) → (∀ p ∈ qs, c ∉ p.cps.toList) → (Str.join ⟨#[c]⟩ ps).cps.toList = (Str.join ⟨#[c]⟩ qs).cps.toList → ps = qs
  | [], _, h, _, _, _, _ => absurd rfl h
  | _, [], _, h, _, _, _ => absurd rfl h
  | [p], [q], _, _, _, _, h => by
    have : p = q := str_ext h
    rw [this]
  | [p], q :: q2 :: r, _, _, h1, _, h => by
    rw [join_cons2] at h
    have h : p.cps.toList = _ := h
    exact absurd (h ▸ List.mem_append_right _ List.mem_cons_self) (h1 p List.mem_cons_self)
  | p :: p2 :: r, [q], _, _, _, h2, h => by
    rw [join_cons2] at h
    have h : _ = q.cps.toList := h
    exact absurd (h ▸ List.mem_append_right _ List.mem_cons_self) (h2 q List.mem_cons_self)
  | p :: p2 :: r, q :: q2 :: t, _, _, h1, h2, h => by
    rw [join_cons2, join_cons2] at h
    obtain ⟨e1, e2⟩ := cut_inj (h1 p List.mem_cons_self) (h2 q List.mem_cons_self) h
    rw [str_ext e1, join_inj (List.cons_ne_nil _ _) (List.cons_ne_nil _ _) (fun x hx => h1 x (List.mem_cons_of_mem _ hx)) (fun x hx => h2 x (List.mem_cons_of_mem _ hx)) e2]
theorem split_ne (x y : Str) : Txt.split x y ≠ [] := by
  unfold Txt.split
  split
  · exact List.cons_ne_nil _ _
  · split
    · exact List.cons_ne_nil _ _
    · rw [partsBetween_eq]
      obtain ⟨p, r, e⟩ := partsFrom_ne x y.length 0 (occurrences x y 0 x.length (x.length + 1))
      rw [e]
      exact List.cons_ne_nil _ _
theorem split_join {c : Nat} {ps : List Str} (hne : ps ≠ []) (hf : ∀ p ∈ ps, c ∉ p.cps.toList) : Txt.split (Str.join ⟨#[c]⟩ ps) ⟨#[c]⟩ = ps :=
  join_inj (split_ne _ _) hne (split_free _ c) hf (by rw [join_split])
theorem slash : (Str.ofString "/") = ⟨#[47]⟩ := by decide
theorem tjoin_eq (a : Str) (ps : List Str) : Txt.join a ps = Str.join a ps := glued_eq_join a ps
abbrev ones (cs : List Nat) : List Str := cs.map fun c => ⟨#[c]⟩
theorem signs_ones (x : Str) : PyProof.Rows.signs x = ones x.cps.toList := rfl
theorem ones_free {c : Nat} {cs : List Nat} (h : c ∉ cs) : ∀ p ∈ ones cs, c ∉ p.cps.toList := fun p hp hc => by
  obtain ⟨a, ha, rfl⟩ := List.mem_map.mp hp
  have hc : c ∈ [a] := hc
  rw [List.mem_singleton] at hc
  exact h (hc ▸ ha)
theorem split_ones {cs : List Nat} (hne : cs ≠ []) (h : 47 ∉ cs) : Txt.split (Txt.join (Str.ofString "/") (ones cs)) (Str.ofString "/") = ones cs := by
  rw [tjoin_eq, slash]
  exact split_join (by simpa using hne) (ones_free h)
theorem join_ones_inj {a b : List Nat} (ha : a ≠ []) (hb : b ≠ []) (h1 : 47 ∉ a) (h2 : 47 ∉ b) (h : Txt.join (Str.ofString "/") (ones a) = Txt.join (Str.ofString "/") (ones b)) : a = b := by
  have h3 : ones a = ones b := by rw [← split_ones ha h1, ← split_ones hb h2, h]
  have h4 := congrArg (List.map fun (p : Str) => p.cps.toList.headD 0) h3
  simpa [Function.comp_def] using h4
theorem join_ones_head (c : Nat) (cs : List Nat) : ∃ r, (Txt.join (Str.ofString "/") (ones (c :: cs))).cps.toList = c :: r := by
  rw [tjoin_eq, slash]
  cases cs with
  | nil => exact ⟨[], rfl⟩
  | cons d r => exact ⟨_, join_cons2 47 ⟨#[c]⟩ ⟨#[d]⟩ (ones r)⟩
theorem starts_of_head {x : Str} {c : Nat} {r : List Nat} (h : x.cps.toList = c :: r) (hc : c ≠ 47) : Txt.startswith x (Str.ofString "/") = false := by
  rw [slash]
  unfold Txt.startswith
  rw [subAt_eq, h]
  have : (⟨#[47]⟩ : Str).length = 1 := rfl
  rw [this]
  simp [hc]
theorem join_ones_starts {cs : List Nat} (hne : cs ≠ []) (h : 47 ∉ cs) : Txt.startswith (Txt.join (Str.ofString "/") (ones cs)) (Str.ofString "/") = false := by
  cases cs with
  | nil => exact absurd rfl hne
  | cons c r =>
    obtain ⟨t, e⟩ := join_ones_head c r
    exact starts_of_head e fun e => h (e ▸ List.mem_cons_self)
theorem slice_end (y : Str) {k : Int} (h0 : 0 < k) (h1 : k ≤ y.length) : (Txt.slice y (some (-k)) none).cps.toList = y.cps.toList.drop (y.cps.toList.length - k.toNat) := by
  have e := sliceText_from_neg (x := y) (i := -k) (by (first | lia | omega)) (by (first | lia | omega))
  have e2 : Txt.slice y (some (-k)) none = sliceText y (some (-k)) none := rfl
  have hl : y.length = y.cps.toList.length := by simp [Str.length]
  rw [e2, e]
  show List.take _ (List.drop _ _) = _
  have e3 : (-k + (y.length : Int)).toNat = y.cps.toList.length - k.toNat := by (first | lia | omega)
  rw [e3, List.take_of_length_le]
  rw [List.length_drop]
  (first | lia | omega)
theorem slice_from (y : Str) {k : Int} (h0 : 0 ≤ k) (h1 : k ≤ y.length) : (Txt.slice y (some k) none).cps.toList = y.cps.toList.drop k.toNat := by
  have hl : y.length = y.cps.toList.length := by simp [Str.length]
  have e := sliceText_from (x := y) (i := k) ⟨h0, by (first | lia | omega)⟩
  have e2 : Txt.slice y (some k) none = sliceText y (some k) none := rfl
  rw [e2, e]
  show List.take _ (List.drop _ _) = _
  rw [List.take_of_length_le]
  rw [List.length_drop]
  (first | lia | omega)
end Mine
end

noncomputable section
namespace Mine
open PySem.StrLaws PySem.Builtin.Str
def lc : List Nat → List Nat → List Nat
  | x :: xs, y :: ys => if x = y then x :: lc xs ys else []
  | _, _ => []
theorem lc_ones : ∀ a b : List Nat, lcp (ones a) (ones b) = ones (lc a b)
  | [], b => by cases b <;> rfl
  | _ :: _, [] => rfl
  | x :: a, y :: b => by
    show lcp (⟨#[x]⟩ :: ones a) (⟨#[y]⟩ :: ones b) = _
    rw [lcp, lc]
    by_cases h : x = y
    · rw [if_pos (by rw [h]), if_pos h, lc_ones a b]
      rfl
    · rw [if_neg (fun e => h (by have := congrArg (fun (s : Str) => s.cps.toList) e; simpa using this)), if_neg h]
      rfl
theorem lc_sub : ∀ (a b : List Nat), ∀ c ∈ lc a b, c ∈ a
  | [], b, c, h => by cases b <;> simp [lc] at h
  | _ :: _, [], c, h => by simp [lc] at h
  | x :: a, y :: b, c, h => by
    rw [lc] at h
    split at h
    · rcases List.mem_cons.mp h with rfl | h
      · exact List.mem_cons_self
      · exact List.mem_cons_of_mem _ (lc_sub a b c h)
    · cases h
theorem lc_pre : ∀ a b : List Nat, (lc a b = a) ↔ a.isPrefixOf b = true
  | [], b => by cases b <;> simp [lc]
  | _ :: _, [] => by simp [lc]
  | x :: a, y :: b => by
    rw [lc]
    by_cases h : x = y
    · rw [if_pos h]
      simp [h, lc_pre a b]
    · rw [if_neg h]
      simp [h]
theorem lcp_beq {a b : List Nat} (ha : a ≠ []) (h1 : 47 ∉ a) : (Txt.join (Str.ofString "/") (lcp (ones a) (ones b)) == Txt.join (Str.ofString "/") (ones a)) = a.isPrefixOf b := by
  rw [lc_ones]
  by_cases h : lc a b = a
  · rw [h, (lc_pre a b).mp h]
    simp
  · have h2 : a.isPrefixOf b = false := by
      cases e : a.isPrefixOf b
      · rfl
      · exact absurd ((lc_pre a b).mpr e) h
    rw [h2]
    refine beq_eq_false_iff_ne.mpr fun e => ?_
    by_cases hn : lc a b = []
    · obtain ⟨c, r, rfl⟩ := List.exists_cons_of_ne_nil ha
      obtain ⟨t, e2⟩ := join_ones_head c r
      rw [← e, hn] at e2
      cases e2
    · exact h (join_ones_inj hn ha (fun m => h1 (lc_sub a b _ m)) h1 e)
end Mine
end

noncomputable section
namespace Mine
open PyProof.Rows.LCg PyProof.V
structure Lp where
  a : Addr
  i : Nat
  j : Nat
  ti : Tok
  tj : Tok
  x : Str
  tx : Tok
abbrev Lp.v (d : Lp) : Value := .ref d.a
abbrev Lp.o (d : Lp) : Obj := tupO [.int (d.i : Int) d.ti, .int (d.j : Int) d.tj, .str d.x d.tx]
abbrev Lp.d (d : Lp) : Nat × Nat × List Nat := (d.i, d.j, d.x.cps.toList)
abbrev lapO (ds : List Lp) (n : Nat) : Obj := listOf (ds.map Lp.v).toArray n
def tailIs (x y : List Nat) (k : Nat) : Bool := (y.drop (y.length - k)).isPrefixOf x
def lapRow (late early : Nat) (x y : List Nat) : Nat → List (Nat × Nat × List Nat)
  | 0 => []
  | k + 1 => lapRow late early x y k ++ if tailIs x y (k + 1) = true then [(late, early, x.drop (k + 1))] else []
def lapMid (ws : List (List Nat)) (late : Nat) (x : List Nat) : Nat → List (Nat × Nat × List Nat)
  | 0 => []
  | j + 1 => lapMid ws late x j ++ match ws[j]? with | some y => lapRow late j x y (min x.length y.length - 1) | none => []
def lapAll (ws : List (List Nat)) : Nat → List (Nat × Nat × List Nat)
  | 0 => []
  | i + 1 => lapAll ws i ++ match ws[i]? with | some x => lapMid ws i x ws.length | none => []
inductive LapJ (la : Addr) (fx : List (Addr × Obj)) (Off : Nat → Prop) (ps : List (Str × Value)) (stored : List Str) (Z : Nat → List (Nat × Nat × List Nat) → Prop) (m₀ : Str → Option Value) (i : Nat) (m' : Str → Option Value) (news' : List (Addr × Obj)) : Prop
  | intro (ds : List Lp) (n : Nat) (tl : List (Addr × Obj)) (f1 : news' = (la, lapO ds n) :: (fx ++ tl)) (f2 : Z i (ds.map Lp.d)) (f3 : (∀ d ∈ ds, (d.a, d.o) ∈ tl)) (f4 : (∀ z ∈ tl, Off z.1)) (f5 : (∀ z ∈ ps, m' z.1 = some z.2)) (f6 : (∀ z, (∀ p ∈ ps, z ≠ p.1) → stored.contains z = false → m' z = m₀ z)) : LapJ la fx Off ps stored Z m₀ i m' news'
abbrev lapJ {g : Heap} {L : Addr} {h : Heap} {m₀ : Str → Option Value} (_ : Fr g L h m₀) (la : Addr) (fx : List (Addr × Obj)) (Off : Nat → Prop) (ps : List (Str × Value)) (stored : List Str) (Z : Nat → List (Nat × Nat × List Nat) → Prop) := LapJ la fx Off ps stored Z m₀
theorem lapAll_next {W : List (List Nat)} {i : Nat} {x : List Nat} {l : List (Nat × Nat × List Nat)} (h : W[i]? = some x) (e : l = lapAll W i ++ lapMid W i x W.length) : l = lapAll W (i + 1) := by
  rw [lapAll, h]; exact e
theorem lapMid_next {W : List (List Nat)} {i j : Nat} {x y : List Nat} {l : List (Nat × Nat × List Nat)} (h : W[j]? = some y) (e : l = lapMid W i x j ++ lapRow i j x y (min x.length y.length - 1)) : l = lapMid W i x (j + 1) := by
  rw [lapMid, h]; exact e
theorem nperm {g h : Heap} {L : Addr} {news news' : List (Addr × Obj)} (N : News g L h news) (e : ∀ p ∈ news', p ∈ news) : News g L h news' := fun p hp => N p (e p hp)
theorem dot_codes : (Str.ofString ".").cps.toList = [46] := by decide
theorem one_dot {a : Nat} (h : a ≠ 46) : (⟨#[a]⟩ : Str) ≠ "." := fun e => by
  have h1 : ([a] : List Nat) = (Str.ofString ".").cps.toList := congrArg (fun (s : Str) => s.cps.toList) e
  rw [dot_codes] at h1
  exact h (List.cons.inj h1).1
theorem ones_one (cs : List Nat) : ∀ c ∈ ones cs, c.length = 1 := fun c hc => by
  obtain ⟨a, ha, rfl⟩ := List.mem_map.mp hc
  rfl
theorem lapp {prog : Program} {w : World} {A : Around} {E : Value → Shared → Prop} {s : Shared} {h₀ : Heap} {L D : Addr} {m : Str → Option Value} {vs : List Value} {n : Nat} {rest : List (Addr × Obj)} {v : Value} {Q : Value → Shared → Prop} (F : Fr h₀ L s.heap m) (N : News h₀ L s.heap ((D, listOf vs.toArray n) :: rest)) (hd : ∀ p ∈ rest, p.1 ≠ D) (hf : vs.length ≤ 4000)
    (h : ∀ h', Fr h₀ L h' m → News h₀ L h' ((D, listOf (vs ++ [v]).toArray (n + 1)) :: rest) → Q .none { s with heap := h' }) : wpAny (model prog w) A (call (.builtin "list.append") [.ref D, v]) Q E s := by
  refine append_K (its := vs.toArray) (n := n) (news' := (D, listOf (vs ++ [v]).toArray (n + 1)) :: rest) F N ?_ h (by simp [sizeLine]; (first | lia | omega))
  have e : vs.toArray.push v = (vs ++ [v]).toArray := by simp
  rw [e]
  exact Upd.head hd
theorem lapRow_yes {i j k : Nat} {x y : List Nat} {l : List (Nat × Nat × List Nat)} (h : (y.drop (y.length - (k + 1))).isPrefixOf x = true) (e : l = [(i, j, x.drop (k + 1))]) : lapRow i j x y k ++ l = lapRow i j x y (k + 1) := by
  rw [lapRow, tailIs, if_pos h, e]
theorem lapRow_no {i j k : Nat} {x y : List Nat} {l : List (Nat × Nat × List Nat)} (h : (y.drop (y.length - (k + 1))).isPrefixOf x = false) (e : l = lapRow i j x y k) : l = lapRow i j x y (k + 1) := by
  rw [lapRow, tailIs, if_neg (by rw [h]; exact Bool.false_ne_true), e, List.append_nil]
theorem lapRow_len (i j : Nat) (x y : List Nat) : ∀ k, (lapRow i j x y k).length ≤ k
  | 0 => Nat.le_refl _
  | k + 1 => by
    have ih := lapRow_len i j x y k
    rw [lapRow, List.length_append]
    split
    · simp only [List.length_cons, List.length_nil]; (first | lia | omega)
    · simp only [List.length_nil]; (first | lia | omega)
theorem lapMid_len {W : List (List Nat)} (hW : ∀ z ∈ W, z.length ≤ 4) (i : Nat) (x : List Nat) : ∀ j, (lapMid W i x j).length ≤ 4 * j
  | 0 => Nat.le_refl _
  | j + 1 => by
    have ih := lapMid_len hW i x j
    rw [lapMid, List.length_append]
    cases h : W[j]? with
    | none => simp only [List.length_nil]; (first | lia | omega)
    | some y =>
      have := lapRow_len i j x y (min x.length y.length - 1)
      have := hW y (List.mem_of_getElem? h)
      dsimp only
      (first | lia | omega)
theorem lapAll_len {W : List (List Nat)} (hW : ∀ z ∈ W, z.length ≤ 4) : ∀ i, (lapAll W i).length ≤ 4 * W.length * i
  | 0 => Nat.le_refl _
  | i + 1 => by
    have ih := lapAll_len hW i
    rw [lapAll, List.length_append, Nat.mul_succ]
    cases h : W[i]? with
    | none => simp only [List.length_nil]; (first | lia | omega)
    | some x =>
      have := lapMid_len hW i x W.length
      dsimp only
      (first | lia | omega)
theorem off1s {I : Addr} {o1 : Obj} {nw : List (Addr × Obj)} (h : ∀ p ∈ nw, p.1 ≠ I) : ∀ p ∈ nw, ∀ q ∈ [((I : Nat), o1)], p.1 ≠ q.1 := fun p hp q hq => by
  rw [List.mem_singleton.mp hq]; exact h p hp
theorem off2s {I : Addr} {o1 o2 : Obj} {nw : List (Addr × Obj)} (h : ∀ p ∈ nw, (p.1 : Nat) < I ∨ I + 1 < (p.1 : Nat)) : ∀ p ∈ nw, ∀ q ∈ [((I + 1 : Nat), o1), ((I : Nat), o2)], p.1 ≠ q.1 := fun p hp q hq => by
  have h9 := h p hp
  have key : ∀ I a b : Nat, (a < I ∨ I + 1 < a) → (b = I ∨ b = I + 1) → a ≠ b := by intro I a b h1 h2; (first | lia | omega)
  refine key I _ _ h9 ?_
  rcases List.mem_cons.mp hq with rfl | hq
  · exact .inr rfl
  · rw [List.mem_singleton.mp hq]; exact .inl rfl
section
variable {vq : Program} {vl : List Str} {w : World} {mean : ExcName → Option Value} {mg mb : Str → Option Value} {dp un : Nat} {gd : Option (List Code)} {env : Env} {outer : List Env} {A₀ : Around} {base h₀ : Heap} {L : Addr} {m : Str → Option Value} {s : Shared} {Q E : Value → Shared → Prop} {news : List (Addr × Obj)}
theorem c_laps {wa : Addr} {vs : List Value} {ws : List Str} {wn c0 c1 : Nat} (B : Below A₀ base outer h₀) (F : Fr h₀ L s.heap m) (X : (law0.heap_1 w.params).In h₀) (N : News h₀ L s.heap news) (T : TopH vq vl mean mg mb h₀) (hf : env.frame = some L) (hk : env.scope.kind = .function) (hdp : dp + 40 < recursionLimit) (hun : un + 300 < cLine)
   (hw : (wa, listOf vs.toArray wn) ∈ news) (hvs : StrsAre vs ws) (hwl : ws.length ≤ 3) (hlet : ∀ x ∈ ws, 1 ≤ x.length ∧ x.length ≤ 4 ∧ ∀ c ∈ x.cps.toList, c = c0 ∨ c = c1)
   (hc0 : c0 ≠ 47 ∧ c0 ≠ 46) (hc1 : c1 ≠ 47 ∧ c1 ≠ 46)
   (hret : ∀ la ds n tl h' tk', Fr h₀ L h' m → News h₀ L h' ((la, lapO ds n) :: (tl ++ news)) → (∀ p ∈ news, p.1 ≠ la) → (∀ d ∈ ds, (d.a, d.o) ∈ tl) → (ds.map Lp.d) = lapAll (ws.map (·.cps.toList)) ws.length → Q (.ref la) { s with heap := h', toks := tk' }) :
   wpAny (model PySem.Challenge.rw_il0067_01.row.prog w) (atop dp un gd env outer) (call (.ref 219) [.ref wa]) Q E s := by
  revert X; k_fill; intro X
  have hrel : ∀ z ∈ [(wa, listOf vs.toArray wn)], z ∈ news := List.forall_mem_cons.mpr ⟨hw, List.forall_mem_nil _⟩
  refine wpAny_call ?_
  k_dflt (refine' enter_rel (rel := [(wa, listOf vs.toArray wn)]) (rest := leftOf [(wa, listOf vs.toArray wn)] news) ?k1 ?k2 ?k3 ?k4 ?k5 ?kd ?kA ?kF ?kK ?k6 ?k7 ?k8 ?k9 ?kB ?_ ?c2 ?c3 ?c4 ?c5; (case kA => exact rfl); (case kF => assumption); (case kK => assumption); (case k1 => k_asm); (case k2 => k_asm); (case k3 => k_asm); (case k4 => exact leftOf_news N (hrel)); (case k5 => k_asm); (case kd => exact leftOf_dis); (case k6 => k_is); (case k7 => k_is); (case k8 => ktr_room); (case k9 => exact BindsTo.of_eq rfl); (case c5 => decide); (case kB => exact locs rfl); (case c2 => exact rfl); (case c3 => exact rfl); (case c4 => exact rfl); k_whole; intro g g2 L' h1 aG st2 F2 N2 B2 X2 T2; (try dsimp only); (refine wp_hide ?_); intro Q7 hQ7)
  repeat' ((fail_if_success (with_reducible (first | show wpAny _ _ (eval (Expr.ListComp _ _ _ _) _) _ _ _ | show wpAny _ _ (call (Value.type _) _) _ _ _ | show wpAny _ _ (exec (Stmt.For _ _ _ _ _) _) _ _ _))); first | (with_reducible refine execs_hide ?_; intro Q9 hQ9 hR9) | (with_reducible refine hQ9 _ ?_; clear hQ9 hR9; (try clear Q9)) | ((with_reducible refine' hR9 _ _ ?hk9 ?_); (case hk9 => exact nofun); clear hQ9 hR9; (try clear Q9)) | (with_reducible refine hQ8 _ _ ?_; clear hQ8; (try clear Q8); (try dsimp only)) | (with_reducible refine hQ8 _ _ _ ?_; clear hQ8; (try clear Q8); (try dsimp only)) | (with_reducible refine hQ7 _ _ ?_; clear hQ7; (try clear Q7); (try dsimp only)) | (k_unfold; (try dsimp only)) | walk_at "my step" | fail "no step")
  with_unfolding_all refine' For_turns (by assumption) ?_
  repeat' ((fail_if_success (with_reducible (first | show wpAny _ _ (eval (Expr.ListComp _ _ _ _) _) _ _ _ | show wpAny _ _ (call (Value.type _) _) _ _ _ | show wpAny _ _ (exec (Stmt.Assign _ (Expr.ListComp _ _ _ _) _) _) _ _ _ | show wpAny _ _ (exec (Stmt.For _ _ _ _ _) _) _ _ _ | show wpAny _ _ (call (Value.builtin _) _) _ _ _ | show wpAny _ _ (pyIter _) _ _ _))); first | (with_reducible refine execs_hide ?_; intro Q9 hQ9 hR9) | (with_reducible refine hQ9 _ ?_; clear hQ9 hR9; (try clear Q9)) | ((with_reducible refine' hR9 _ _ ?hk9 ?_); (case hk9 => exact nofun); clear hQ9 hR9; (try clear Q9)) | (with_reducible refine hQ8 _ _ ?_; clear hQ8; (try clear Q8); (try dsimp only)) | (with_reducible refine hQ8 _ _ _ ?_; clear hQ8; (try clear Q8); (try dsimp only)) | (with_reducible refine hQ7 _ _ ?_; clear hQ7; (try clear Q7); (try dsimp only)) | (k_unfold; (try dsimp only)) | walk_at "my step" | fail "no step")
  rename_i la h'a lwa h'b F3 N3
  have hwm : (wa, listOf vs.toArray wn) ∈ nsOf N3 := by k_mem
  with_unfolding_all refine ktu_enum (n := wn) (by rfl) F3 N3 hwm (by rfl) (by rfl) rfl ?_
  intro I lI
  have hII : (wa : Nat) < I := lI (wa, listOf vs.toArray wn) (by k_mem)
  have hIl : (la : Nat) < I := lI (la, _) List.mem_cons_self
  refine' itemsRest_h (lapJ F3 la [(wa, listOf vs.toArray wn)] (fun a => a ≠ la ∧ a ≠ wa ∧ (a < I ∨ I + 1 < a)) [(Str.ofString "laps", Value.ref la), (Str.ofString "words", .ref wa)] [Str.ofString "late", Str.ofString "word", Str.ofString "early", Str.ofString "other", Str.ofString "size", Str.ofString "tail"] (fun i l => l = lapAll (ws.map (·.cps.toList)) i)) ?ok ?oturn ?ofin _ 0 _ _ rfl (Nat.zero_le _) ?o0
  case o0 => exact ⟨[], 0, [], rfl, rfl, fun _ h => (nomatch h), fun _ h => (nomatch h), by ((try dsimp only); (repeat (refine allc (by first | with_unfolding_all rfl | (refine' lkT ?q3 ?q4 ?q5; (case q3 => assumption); (case q4 => with_unfolding_all rfl); (case q5 => with_unfolding_all rfl))) ?_)); exact List.forall_mem_nil _), fun _ _ _ => rfl⟩
  case ok =>
    rintro i m' news' ⟨ds, n, tl, rfl, _⟩
    exact ⟨by ((repeat (first | exact List.Mem.head _ | refine List.Mem.tail _ ?_ | assumption | (refine List.mem_append_left _ ?_; assumption) | refine List.mem_append_right _ ?_)); done), trivial⟩
  case oturn =>
    intro i a m' news' v hh tkk ha' hJ9 hv Fz Q8 hQ8
    ktu_objs
    obtain ⟨ds, n, tl, rfl, hZ, hin, hoff, hzps, hzm⟩ := hJ9
    have hil : i < vs.length := by
      have := (List.getElem?_eq_some_iff.mp ha').1
      rwa [enumItems_length] at this
    obtain ⟨x, tx, hxv, hxw⟩ := strs_at hvs (List.getElem?_eq_getElem hil)
    have ha2 := enumItems_get vs 0 i (List.getElem?_eq_getElem hil)
    rw [ha'] at ha2
    obtain rfl := Option.some.inj ha2
    rw [hxv] at hv
    obtain ⟨T, tt, rfl, hTT⟩ := hv
    repeat' ((fail_if_success (with_reducible (first | show wpAny _ _ (eval (Expr.ListComp _ _ _ _) _) _ _ _ | show wpAny _ _ (call (Value.type _) _) _ _ _ | show wpAny _ _ (exec (Stmt.Assign _ (Expr.ListComp _ _ _ _) _) _) _ _ _ | show wpAny _ _ (exec (Stmt.For _ _ _ _ _) _) _ _ _ | show wpAny _ _ (call (Value.builtin _) _) _ _ _ | show wpAny _ _ (subscriptTail _ _ (Value.ref _) _) _ _ _ | show UnrEndW _ _ _ _ _ _))); first | (with_reducible refine execs_hide ?_; intro Q9 hQ9 hR9) | (with_reducible refine hQ9 _ ?_; clear hQ9 hR9; (try clear Q9)) | ((with_reducible refine' hR9 _ _ ?hk9 ?_); (case hk9 => exact nofun); clear hQ9 hR9; (try clear Q9)) | (with_reducible refine hQ8 _ _ ?_; clear hQ8; (try clear Q8); (try dsimp only)) | (with_reducible refine hQ8 _ _ _ ?_; clear hQ8; (try clear Q8); (try dsimp only)) | (with_reducible refine hQ7 _ _ ?_; clear hQ7; (try clear Q7); (try dsimp only)) | (k_unfold; (try dsimp only)) | walk_at "my step" | fail "no step")
    with_unfolding_all refine' For_turns (by assumption) ?_
    repeat' ((fail_if_success (with_reducible (first | show wpAny _ _ (eval (Expr.ListComp _ _ _ _) _) _ _ _ | show wpAny _ _ (call (Value.type _) _) _ _ _ | show wpAny _ _ (exec (Stmt.Assign _ (Expr.ListComp _ _ _ _) _) _) _ _ _ | show wpAny _ _ (exec (Stmt.For _ _ _ _ _) _) _ _ _ | show wpAny _ _ (call (Value.builtin _) _) _ _ _ | show wpAny _ _ (pyIter _) _ _ _))); first | (with_reducible refine execs_hide ?_; intro Q9 hQ9 hR9) | (with_reducible refine hQ9 _ ?_; clear hQ9 hR9; (try clear Q9)) | ((with_reducible refine' hR9 _ _ ?hk9 ?_); (case hk9 => exact nofun); clear hQ9 hR9; (try clear Q9)) | (with_reducible refine hQ8 _ _ ?_; clear hQ8; (try clear Q8); (try dsimp only)) | (with_reducible refine hQ8 _ _ _ ?_; clear hQ8; (try clear Q8); (try dsimp only)) | (with_reducible refine hQ7 _ _ ?_; clear hQ7; (try clear Q7); (try dsimp only)) | (k_unfold; (try dsimp only)) | walk_at "my step" | fail "no step")
    rename_i oE hE oL hL _ _ _ _ hb4 F4 N4
    have N5 : News g2 L' hb4 ((la, lapO ds n) :: ([(I + 1, oE), (I, oL), (wa, listOf vs.toArray wn)] ++ tl)) := nperm N4 (by ((repeat (refine allc (by ((repeat (first | exact List.Mem.head _ | refine List.Mem.tail _ ?_ | assumption | (refine List.mem_append_left _ ?_; assumption) | refine List.mem_append_right _ ?_)); done)) ?_)); first | exact List.forall_mem_nil _ | (intro z9 h9; (repeat (first | exact h9 | refine List.Mem.tail _ ?_ | exact List.mem_append_left _ h9 | refine List.mem_append_right _ ?_)); done)))
    have hwm5 : (wa, listOf vs.toArray wn) ∈ nsOf N5 := by ((repeat (first | exact List.Mem.head _ | refine List.Mem.tail _ ?_ | assumption | (refine List.mem_append_left _ ?_; assumption) | refine List.mem_append_right _ ?_)); done)
    with_unfolding_all refine ktu_enum (n := wn) (by rfl) F4 N5 hwm5 (by rfl) (by rfl) rfl ?_
    intro I2 lI2
    have hI12 : (I + 1 : Nat) < I2 := lI2 (I + 1, oE) (by ((repeat (first | exact List.Mem.head _ | refine List.Mem.tail _ ?_ | assumption | (refine List.mem_append_left _ ?_; assumption) | refine List.mem_append_right _ ?_)); done))
    refine' itemsRest_h (lapJ F4 la [(I + 1, oE), (I, oL), (wa, listOf vs.toArray wn)] (fun a => (a ≠ la ∧ a ≠ wa ∧ (a < I ∨ I + 1 < a)) ∧ (a < I2 ∨ I2 + 1 < a)) [(Str.ofString "laps", Value.ref la), (Str.ofString "words", .ref wa), (Str.ofString "late", .int ((0 + i : Nat) : Int) tt), (Str.ofString "word", .str x tx)] [Str.ofString "early", Str.ofString "other", Str.ofString "size", Str.ofString "tail"] (fun j l => l = lapAll (ws.map (·.cps.toList)) i ++ lapMid (ws.map (·.cps.toList)) i x.cps.toList j)) ?mk ?mturn ?mfin _ 0 _ _ rfl (Nat.zero_le _) ?m0
    case m0 => exact ⟨ds, n, tl, rfl, by rw [hZ]; simp [lapMid], hin, fun z hz => ⟨hoff z hz, .inl (lI2 z (by ((repeat (first | exact List.Mem.head _ | refine List.Mem.tail _ ?_ | assumption | (refine List.mem_append_left _ ?_; assumption) | refine List.mem_append_right _ ?_)); done)))⟩, by ((try dsimp only); (repeat (refine allc (by first | with_unfolding_all rfl | (refine' lkT ?q3 ?q4 ?q5; (case q3 => assumption); (case q4 => with_unfolding_all rfl); (case q5 => with_unfolding_all rfl))) ?_)); exact List.forall_mem_nil _), fun _ _ _ => rfl⟩
    case mk =>
      rintro j m' news' ⟨ds, n, tl, rfl, _⟩
      exact ⟨by ((repeat (first | exact List.Mem.head _ | refine List.Mem.tail _ ?_ | assumption | (refine List.mem_append_left _ ?_; assumption) | refine List.mem_append_right _ ?_)); done), trivial⟩
    case mfin =>
      rintro m9 news9 hh9 tkk9 ⟨ds9, n9, tl9, rfl, hZ9, hin9, hoff9, hzps9, hzm9⟩ Fz Nz
      repeat' ((fail_if_success (with_reducible (first | show wpAny _ _ (eval (Expr.ListComp _ _ _ _) _) _ _ _ | show wpAny _ _ (call (Value.type _) _) _ _ _ | show wpAny _ _ (exec (Stmt.Assign _ (Expr.ListComp _ _ _ _) _) _) _ _ _ | show wpAny _ _ (exec (Stmt.For _ _ _ _ _) _) _ _ _ | show wpAny _ _ (call (Value.builtin _) _) _ _ _ | show wpAny _ _ (subscriptTail _ _ (Value.ref _) _) _ _ _ | show UnrEndW _ _ _ _ _ _))); first | (with_reducible refine execs_hide ?_; intro Q9 hQ9 hR9) | (with_reducible refine hQ9 _ ?_; clear hQ9 hR9; (try clear Q9)) | ((with_reducible refine' hR9 _ _ ?hk9 ?_); (case hk9 => exact nofun); clear hQ9 hR9; (try clear Q9)) | (with_reducible refine hQ8 _ _ ?_; clear hQ8; (try clear Q8); (try dsimp only)) | (with_reducible refine hQ8 _ _ _ ?_; clear hQ8; (try clear Q8); (try dsimp only)) | (with_reducible refine hQ7 _ _ ?_; clear hQ7; (try clear Q7); (try dsimp only)) | (k_unfold; (try dsimp only)) | walk_at "my step" | fail "no step")
      refine unr_end ((la, lapO ds9 n9) :: ([(wa, listOf vs.toArray wn)] ++ tl9)) (by assumption) Nz (by ((repeat (refine allc (by ((repeat (first | exact List.Mem.head _ | refine List.Mem.tail _ ?_ | assumption | (refine List.mem_append_left _ ?_; assumption) | refine List.mem_append_right _ ?_)); done)) ?_)); first | exact List.forall_mem_nil _ | (intro z9 h9; (repeat (first | exact h9 | refine List.Mem.tail _ ?_ | exact List.mem_append_left _ h9 | refine List.mem_append_right _ ?_)); done))) (by ((repeat (refine allc (by ((repeat (first | exact List.Mem.head _ | refine List.Mem.tail _ ?_ | assumption | (refine List.mem_append_left _ ?_; assumption) | refine List.mem_append_right _ ?_)); done)) ?_)); first | exact List.forall_mem_nil _ | (intro z9 h9; (repeat (first | exact h9 | refine List.Mem.tail _ ?_ | exact List.mem_append_left _ h9 | refine List.mem_append_right _ ?_)); done))) (off2s ?_) ⟨ds9, n9, tl9, rfl, ?_, hin9, fun z hz => (hoff9 z hz).1, by ((try dsimp only); (repeat (refine allc (by first | with_unfolding_all rfl | (refine' lkT ?q3 ?q4 ?q5; (case q3 => assumption); (case q4 => with_unfolding_all rfl); (case q5 => with_unfolding_all rfl))) ?_)); exact List.forall_mem_nil _), by ((repeat (first | exact sm_rfl | refine sm_store (by kernel_rfl) ?_ | (refine' sm_trans ?q6 (by kernel_rfl) ?_; (case q6 => assumption)))); done)⟩
      · simp only [List.cons_append, List.nil_append, List.forall_mem_cons]
        exact ⟨.inl hIl, .inl hII, fun z hz => (hoff9 z hz).1.2.2⟩
      · refine lapAll_next (by rw [List.getElem?_map, hxw]; rfl) ?_
        rw [hZ9, enumItems_length, strs_len hvs, List.length_map]
    case mturn =>
      intro j a m9 news9 v9 hh9 tkk9 ha9 hJ9 hv9 Fz Q8 hQ8
      ktu_objs
      obtain ⟨ds9, n9, tl9, rfl, hZ9, hin9, hoff9, hzps9, hzm9⟩ := hJ9
      have hjl : j < vs.length := by
        have := (List.getElem?_eq_some_iff.mp ha9).1
        rwa [enumItems_length] at this
      obtain ⟨y, ty, hyv, hyw⟩ := strs_at hvs (List.getElem?_eq_getElem hjl)
      have ha2 := enumItems_get vs 0 j (List.getElem?_eq_getElem hjl)
      rw [ha9] at ha2
      obtain rfl := Option.some.inj ha2
      rw [hyv] at hv9
      obtain ⟨T9, tt9, rfl, hTT9⟩ := hv9
      repeat' ((fail_if_success (with_reducible (first | show wpAny _ _ (eval (Expr.ListComp _ _ _ _) _) _ _ _ | show wpAny _ _ (call (Value.type _) _) _ _ _ | show wpAny _ _ (exec (Stmt.Assign _ (Expr.ListComp _ _ _ _) _) _) _ _ _ | show wpAny _ _ (exec (Stmt.For _ _ _ _ _) _) _ _ _ | show wpAny _ _ (call (Value.builtin _) _) _ _ _ | show wpAny _ _ (subscriptTail _ _ (Value.ref _) _) _ _ _ | show UnrEndW _ _ _ _ _ _))); first | (with_reducible refine execs_hide ?_; intro Q9 hQ9 hR9) | (with_reducible refine hQ9 _ ?_; clear hQ9 hR9; (try clear Q9)) | ((with_reducible refine' hR9 _ _ ?hk9 ?_); (case hk9 => exact nofun); clear hQ9 hR9; (try clear Q9)) | (with_reducible refine hQ8 _ _ ?_; clear hQ8; (try clear Q8); (try dsimp only)) | (with_reducible refine hQ8 _ _ _ ?_; clear hQ8; (try clear Q8); (try dsimp only)) | (with_reducible refine hQ7 _ _ ?_; clear hQ7; (try clear Q7); (try dsimp only)) | (k_unfold; (try dsimp only)) | walk_at "my step" | fail "no step")
      have hxb := hlet x (List.mem_of_getElem? hxw)
      have hyb := hlet y (List.mem_of_getElem? hyw)
      with_unfolding_all refine' For_turns (by assumption) ?_
      repeat' ((fail_if_success (with_reducible (first | show wpAny _ _ (eval (Expr.ListComp _ _ _ _) _) _ _ _ | show wpAny _ _ (call (Value.type _) _) _ _ _ | show wpAny _ _ (exec (Stmt.Assign _ (Expr.ListComp _ _ _ _) _) _) _ _ _ | show wpAny _ _ (exec (Stmt.For _ _ _ _ _) _) _ _ _ | show wpAny _ _ (pyIter _) _ _ _))); first | (with_reducible refine execs_hide ?_; intro Q9 hQ9 hR9) | (with_reducible refine hQ9 _ ?_; clear hQ9 hR9; (try clear Q9)) | ((with_reducible refine' hR9 _ _ ?hk9 ?_); (case hk9 => exact nofun); clear hQ9 hR9; (try clear Q9)) | (with_reducible refine hQ8 _ _ ?_; clear hQ8; (try clear Q8); (try dsimp only)) | (with_reducible refine hQ8 _ _ _ ?_; clear hQ8; (try clear Q8); (try dsimp only)) | (with_reducible refine hQ7 _ _ ?_; clear hQ7; (try clear Q7); (try dsimp only)) | (k_unfold; (try dsimp only)) | walk_at "my step" | fail "no step")
      have ekk : (if (y.length : Int) < (x.length : Int) then (y.length : Int) else (x.length : Int)) = ((min x.length y.length : Nat) : Int) := by split <;> (first | lia | omega)
      rw [ekk]
      have hkk1 : 1 ≤ min x.length y.length := by (first | lia | omega)
      have hkk4 : min x.length y.length ≤ 4 := by (first | lia | omega)
      generalize hkk : min x.length y.length = kk at hkk1 hkk4 ⊢
      generalize (if (y.length : Int) < (x.length : Int) then _ else _ : Tok) = tkk9'
      repeat' ((fail_if_success (with_reducible (first | show wpAny _ _ (eval (Expr.ListComp _ _ _ _) _) _ _ _ | show wpAny _ _ (exec (Stmt.Assign _ (Expr.ListComp _ _ _ _) _) _) _ _ _ | show wpAny _ _ (exec (Stmt.For _ _ _ _ _) _) _ _ _ | show wpAny _ _ (pyIter _) _ _ _))); first | (with_reducible refine execs_hide ?_; intro Q9 hQ9 hR9) | (with_reducible refine hQ9 _ ?_; clear hQ9 hR9; (try clear Q9)) | ((with_reducible refine' hR9 _ _ ?hk9 ?_); (case hk9 => exact nofun); clear hQ9 hR9; (try clear Q9)) | (with_reducible refine hQ8 _ _ ?_; clear hQ8; (try clear Q8); (try dsimp only)) | (with_reducible refine hQ8 _ _ _ ?_; clear hQ8; (try clear Q8); (try dsimp only)) | (with_reducible refine hQ7 _ _ ?_; clear hQ7; (try clear Q7); (try dsimp only)) | (k_unfold; (try dsimp only)) | walk_at "my step" | fail "no step")
      rename_i oE2 hE2 oL2 hL2 _ _ _ _ _ _ _ _ _ _ _ _ _ _ _ hR F6 N6 _
      have N7 := nperm N6 (news' := (la, lapO ds9 n9) :: ([(I2 + 1, oE2), (I2, oL2), (I + 1, oE), (I, oL), (wa, listOf vs.toArray wn)] ++ tl9)) (by ((repeat (refine allc (by ((repeat (first | exact List.Mem.head _ | refine List.Mem.tail _ ?_ | assumption | (refine List.mem_append_left _ ?_; assumption) | refine List.mem_append_right _ ?_)); done)) ?_)); first | exact List.forall_mem_nil _ | (intro z9 h9; (repeat (first | exact h9 | refine List.Mem.tail _ ?_ | exact List.mem_append_left _ h9 | refine List.mem_append_right _ ?_)); done)))
      with_unfolding_all refine turns_range (n := kk - 1) (by rfl) F6 N7 hR ?rsm ?rn ?_
      case rsm => exact small_one (by decide) (by decide) (by (first | lia | omega)) (by (first | lia | omega))
      case rn => rw [rangeSize_nat]; (first | lia | omega)
      intro I3 lI3
      have hI23 : (I2 + 1 : Nat) < I3 := lI3 (I2 + 1, oE2) (by ((repeat (first | exact List.Mem.head _ | refine List.Mem.tail _ ?_ | assumption | (refine List.mem_append_left _ ?_; assumption) | refine List.mem_append_right _ ?_)); done))
      refine' itemsRest_h (lapJ F6 la [(I2 + 1, oE2), (I2, oL2), (I + 1, oE), (I, oL), (wa, listOf vs.toArray wn)] (fun a => ((a ≠ la ∧ a ≠ wa ∧ (a < I ∨ I + 1 < a)) ∧ (a < I2 ∨ I2 + 1 < a)) ∧ a ≠ I3) [(Str.ofString "laps", Value.ref la), (Str.ofString "words", .ref wa), (Str.ofString "late", .int ((0 + i : Nat) : Int) tt), (Str.ofString "word", .str x tx), (Str.ofString "early", .int ((0 + j : Nat) : Int) tt9), (Str.ofString "other", .str y ty)] [Str.ofString "size", Str.ofString "tail"] (fun k l => l = lapAll (ws.map (·.cps.toList)) i ++ lapMid (ws.map (·.cps.toList)) i x.cps.toList j ++ lapRow i j x.cps.toList y.cps.toList k)) ?ik ?iturn ?ifin _ 0 _ _ rfl (Nat.zero_le _) ?i0
      case i0 => exact ⟨ds9, n9, tl9, rfl, by rw [hZ9]; simp [lapRow], hin9, fun z hz => ⟨hoff9 z hz, Nat.ne_of_lt (lI3 z (by ((repeat (first | exact List.Mem.head _ | refine List.Mem.tail _ ?_ | assumption | (refine List.mem_append_left _ ?_; assumption) | refine List.mem_append_right _ ?_)); done)))⟩, by ((try dsimp only); (repeat (refine allc (by first | with_unfolding_all rfl | (refine' lkT ?q3 ?q4 ?q5; (case q3 => assumption); (case q4 => with_unfolding_all rfl); (case q5 => with_unfolding_all rfl))) ?_)); exact List.forall_mem_nil _), fun _ _ _ => rfl⟩
      case ik =>
        rintro k m' news' ⟨ds, n, tl, rfl, _⟩
        trivial
      case ifin =>
        rintro mA newsA hhA tkkA ⟨dsA, nA, tlA, rfl, hZA, hinA, hoffA, hzpsA, hzmA⟩ Fz Nz
        repeat' ((fail_if_success (with_reducible (first | show wpAny _ _ (eval (Expr.ListComp _ _ _ _) _) _ _ _ | show wpAny _ _ (call (Value.type _) _) _ _ _ | show wpAny _ _ (exec (Stmt.Assign _ (Expr.ListComp _ _ _ _) _) _) _ _ _ | show wpAny _ _ (exec (Stmt.For _ _ _ _ _) _) _ _ _ | show wpAny _ _ (call (Value.builtin _) _) _ _ _ | show wpAny _ _ (subscriptTail _ _ (Value.ref _) _) _ _ _ | show UnrEndW _ _ _ _ _ _))); first | (with_reducible refine execs_hide ?_; intro Q9 hQ9 hR9) | (with_reducible refine hQ9 _ ?_; clear hQ9 hR9; (try clear Q9)) | ((with_reducible refine' hR9 _ _ ?hk9 ?_); (case hk9 => exact nofun); clear hQ9 hR9; (try clear Q9)) | (with_reducible refine hQ8 _ _ ?_; clear hQ8; (try clear Q8); (try dsimp only)) | (with_reducible refine hQ8 _ _ _ ?_; clear hQ8; (try clear Q8); (try dsimp only)) | (with_reducible refine hQ7 _ _ ?_; clear hQ7; (try clear Q7); (try dsimp only)) | (k_unfold; (try dsimp only)) | walk_at "my step" | fail "no step")
        refine unr_end ((la, lapO dsA nA) :: ([(I + 1, oE), (I, oL), (wa, listOf vs.toArray wn)] ++ tlA)) (by assumption) Nz (by ((repeat (refine allc (by ((repeat (first | exact List.Mem.head _ | refine List.Mem.tail _ ?_ | assumption | (refine List.mem_append_left _ ?_; assumption) | refine List.mem_append_right _ ?_)); done)) ?_)); first | exact List.forall_mem_nil _ | (intro z9 h9; (repeat (first | exact h9 | refine List.Mem.tail _ ?_ | exact List.mem_append_left _ h9 | refine List.mem_append_right _ ?_)); done))) (by ((repeat (refine allc (by ((repeat (first | exact List.Mem.head _ | refine List.Mem.tail _ ?_ | assumption | (refine List.mem_append_left _ ?_; assumption) | refine List.mem_append_right _ ?_)); done)) ?_)); first | exact List.forall_mem_nil _ | (intro z9 h9; (repeat (first | exact h9 | refine List.Mem.tail _ ?_ | exact List.mem_append_left _ h9 | refine List.mem_append_right _ ?_)); done))) (off2s ?_) ⟨dsA, nA, tlA, rfl, ?_, hinA, fun z hz => (hoffA z hz).1, by ((try dsimp only); (repeat (refine allc (by first | with_unfolding_all rfl | (refine' lkT ?q3 ?q4 ?q5; (case q3 => assumption); (case q4 => with_unfolding_all rfl); (case q5 => with_unfolding_all rfl))) ?_)); exact List.forall_mem_nil _), by ((repeat (first | exact sm_rfl | refine sm_store (by kernel_rfl) ?_ | (refine' sm_trans ?q6 (by kernel_rfl) ?_; (case q6 => assumption)))); done)⟩
        · simp only [List.cons_append, List.nil_append, List.forall_mem_cons]
          exact ⟨.inl (lI2 _ List.mem_cons_self), .inl hI12, .inl (lI2 (I, oL) (by ((repeat (first | exact List.Mem.head _ | refine List.Mem.tail _ ?_ | assumption | (refine List.mem_append_left _ ?_; assumption) | refine List.mem_append_right _ ?_)); done))), .inl (lI2 (wa, listOf vs.toArray wn) (by ((repeat (first | exact List.Mem.head _ | refine List.Mem.tail _ ?_ | assumption | (refine List.mem_append_left _ ?_; assumption) | refine List.mem_append_right _ ?_)); done))), fun z hz => (hoffA z hz).1.2⟩
        · show List.map Lp.d _ = _
          rw [hZA, List.append_assoc]
          congr 1
          refine (lapMid_next (by rw [List.getElem?_map, hyw]; rfl) ?_)
          rw [List.length_map, List.length_range, ← hkk]
          simp [Str.length]
      case iturn =>
        intro k a mA newsA vA hhA tkkA haA' hJ9 hvA Fz Q8 hQ8
        ktu_objs
        obtain ⟨dsA, nA, tlA, rfl, hZA, hinA, hoffA, hzpsA, hzmA⟩ := hJ9
        have haA : (rangeItms 1 (kk - 1))[k]? = some a := haA'
        have hkl : k < kk - 1 := by
          have := (List.getElem?_eq_some_iff.mp haA).1
          rwa [rangeItms_len] at this
        rw [rangeItms_get hkl] at haA
        obtain rfl := Option.some.inj haA
        obtain ⟨ttA, rfl⟩ := hvA
        repeat' ((fail_if_success (with_reducible (first | show wpAny _ _ (eval (Expr.ListComp _ _ _ _) _) _ _ _ | show wpAny _ _ (call (Value.type _) _) _ _ _ | show wpAny _ _ (exec (Stmt.Assign _ (Expr.ListComp _ _ _ _) _) _) _ _ _ | show wpAny _ _ (exec (Stmt.For _ _ _ _ _) _) _ _ _ | show wpAny _ _ (subscriptTail _ _ (Value.ref _) _) _ _ _ | show UnrEndW _ _ _ _ _ _ | show wpAny _ _ (call (Value.ref _) _) _ _ _))); first | (with_reducible refine execs_hide ?_; intro Q9 hQ9 hR9) | (with_reducible refine hQ9 _ ?_; clear hQ9 hR9; (try clear Q9)) | ((with_reducible refine' hR9 _ _ ?hk9 ?_); (case hk9 => exact nofun); clear hQ9 hR9; (try clear Q9)) | (with_reducible refine hQ8 _ _ ?_; clear hQ8; (try clear Q8); (try dsimp only)) | (with_reducible refine hQ8 _ _ _ ?_; clear hQ8; (try clear Q8); (try dsimp only)) | (with_reducible refine hQ7 _ _ ?_; clear hQ7; (try clear Q7); (try dsimp only)) | (k_unfold; (try dsimp only)) | walk_at "my step" | fail "no step")
        rename_i oR hoR _ _ _ _ _ _ _ _ tA1 _ _ _ tB1 pa9 _ F8 N8 l8
        have hkx : k + 1 < x.length := by (first | lia | omega)
        have hky : k + 1 < y.length := by (first | lia | omega)
        have hsl : (Txt.slice y (some (-(1 + (k : Int)))) none).cps.toList = y.cps.toList.drop (y.cps.toList.length - (k + 1)) := by
          have := slice_end y (k := 1 + (k : Int)) (by (first | lia | omega)) (by (first | lia | omega))
          rwa [show (1 + (k : Int)).toNat = k + 1 by (first | lia | omega)] at this
        have hszx : x.cps.toList.length = x.length := by simp [Str.length]
        have hszy : y.cps.toList.length = y.length := by simp [Str.length]
        have lets : ∀ z ∈ ws, ∀ c ∈ z.cps.toList, c ≠ 47 ∧ c ≠ 46 := fun z hz c hc => by
          rcases (hlet z hz).2.2 c hc with rfl | rfl <;> assumption
        have lx9 := lets x (List.mem_of_getElem? hxw)
        have ly9 := lets y (List.mem_of_getElem? hyw)
        have tl9' : ∀ c ∈ y.cps.toList.drop (y.cps.toList.length - (k + 1)), c ≠ 47 ∧ c ≠ 46 := fun c hc => ly9 c (List.mem_of_mem_drop hc)
        have hz0 : (Txt.slice y (some (-(1 + (k : Int)))) none).cps.toList ≠ [] := by
          rw [hsl]; intro e
          have := congrArg List.length e
          rw [List.length_drop, List.length_nil] at this
          (first | lia | omega)
        have hz47 : 47 ∉ (Txt.slice y (some (-(1 + (k : Int)))) none).cps.toList := by rw [hsl]; exact fun hm => (tl9' _ hm).1 rfl
        have hx0 : x.cps.toList ≠ [] := by intro e; rw [e] at hszx; simp at hszx; (first | lia | omega)
        have hx47 : 47 ∉ x.cps.toList := fun hm => (lx9 _ hm).1 rfl
        have hzl : (Txt.slice y (some (-(1 + (k : Int)))) none).length ≤ 4 := by
          have e : (Txt.slice y (some (-(1 + (k : Int)))) none).length = (Txt.slice y (some (-(1 + (k : Int)))) none).cps.toList.length := by simp [Str.length]
          rw [e, hsl, List.length_drop]; (first | lia | omega)
        refine' c_common (x := Txt.join (Str.ofString "/") (PyProof.Rows.signs (Txt.slice y (some (-(1 + (k : Int)))) none))) (y := Txt.join (Str.ofString "/") (PyProof.Rows.signs x)) (xs := ones (Txt.slice y (some (-(1 + (k : Int)))) none).cps.toList) (ys := ones x.cps.toList) ?k1 ?k2 ?k3 ?k4 ?k5 ?kf ?k6 ?k7 ?k8 ?x1 ?x2 ?x3 ?x4 ?x5 ?x6 ?x7 ?x8 ?x9 ?x10 ?x11 ?_
        case k1 => k_asm
        case k2 => k_asm
        case k3 => k_asm
        case k4 => exact N8
        case k5 => k_asm
        case kf => exact rfl
        case k6 => exact rfl
        case k7 => ktr_room
        case k8 => ktr_units
        case x1 => exact split_ones hz0 hz47
        case x2 => exact split_ones hx0 hx47
        case x3 => rw [List.length_map, hsl, List.length_drop]; (first | lia | omega)
        case x4 => rw [List.length_map]; (first | lia | omega)
        case x5 =>
          intro c hc
          obtain ⟨a, ha, rfl⟩ := List.mem_map.mp hc
          exact ⟨rfl, one_dot (tl9' a (hsl ▸ ha)).2⟩
        case x6 =>
          intro c hc
          obtain ⟨a, ha, rfl⟩ := List.mem_map.mp hc
          exact ⟨rfl, one_dot (lx9 a ha).2⟩
        case x7 => exact join_ones_starts hz0 hz47
        case x8 => exact join_ones_starts hx0 hx47
        case x9 => exact Nat.le_trans (join_len_le (ones_one _)) (by rw [PyProof.Rows.signs_length]; (first | lia | omega))
        case x10 => exact Nat.le_trans (join_len_le (ones_one _)) (by rw [PyProof.Rows.signs_length]; (first | lia | omega))
        case x11 => k_mem
        intro t10 h10 tk10 F10 N10
        repeat' ((fail_if_success (with_reducible (first | show wpAny _ _ (eval (Expr.ListComp _ _ _ _) _) _ _ _ | show wpAny _ _ (call (Value.type _) _) _ _ _ | show wpAny _ _ (exec (Stmt.Assign _ (Expr.ListComp _ _ _ _) _) _) _ _ _ | show wpAny _ _ (exec (Stmt.For _ _ _ _ _) _) _ _ _ | show wpAny _ _ (subscriptTail _ _ (Value.ref _) _) _ _ _ | show UnrEndW _ _ _ _ _ _ | show wpAny _ _ (call (Value.ref _) _) _ _ _))); first | (with_reducible refine execs_hide ?_; intro Q9 hQ9 hR9) | (with_reducible refine hQ9 _ ?_; clear hQ9 hR9; (try clear Q9)) | ((with_reducible refine' hR9 _ _ ?hk9 ?_); (case hk9 => exact nofun); clear hQ9 hR9; (try clear Q9)) | (with_reducible refine hQ8 _ _ ?_; clear hQ8; (try clear Q8); (try dsimp only)) | (with_reducible refine hQ8 _ _ _ ?_; clear hQ8; (try clear Q8); (try dsimp only)) | (with_reducible refine hQ7 _ _ ?_; clear hQ7; (try clear Q7); (try dsimp only)) | (k_unfold; (try dsimp only)) | walk_at "my step" | fail "no step")
        · rename_i t11 _ _ D9 _ F11 N11 l11
          have hb9 : (Txt.join (Str.ofString "/") (lcp (ones (Txt.slice y (some (-(1 + (k : Int)))) none).cps.toList) (ones x.cps.toList)) == Txt.join (Str.ofString "/") (PyProof.Rows.signs (Txt.slice y (some (-(1 + (k : Int)))) none))) = true := by assumption
          rw [signs_ones, lcp_beq hz0 hz47, hsl] at hb9
          have hsx := slice_from x (k := 1 + (k : Int)) (by (first | lia | omega)) (by (first | lia | omega))
          have hkn : (1 + (k : Int)).toNat = k + 1 := by (first | lia | omega)
          rw [hkn] at hsx
          have hlA : dsA.length ≤ 100 := by
            have e := congrArg List.length hZA
            simp only [List.length_map, List.length_append] at e
            have hW : ∀ z ∈ ws.map (·.cps.toList), z.length ≤ 4 := fun z hz => by
              obtain ⟨u, hu, rfl⟩ := List.mem_map.mp hz
              have := (hlet u hu).2.1
              simpa [Str.length] using this
            have h1 := lapRow_len i j x.cps.toList y.cps.toList k
            have h2 := lapMid_len hW i x.cps.toList j
            have h3 := lapAll_len hW i
            rw [List.length_map] at h3
            have hi3 : i < 3 := by rw [strs_len hvs] at hil; (first | lia | omega)
            have hj3 : j < 3 := by rw [strs_len hvs] at hjl; (first | lia | omega)
            have h4 : 4 * ws.length * i ≤ 4 * 3 * 3 := Nat.mul_le_mul (by (first | lia | omega)) (by (first | lia | omega))
            (first | lia | omega)
          have N12 := nperm N11 (news' := (la, lapO dsA nA) :: ([(I3, oR), (I2 + 1, oE2), (I2, oL2), (I + 1, oE), (I, oL), (wa, listOf vs.toArray wn)] ++ ((D9, tupO [.int ((0 + i : Nat) : Int) tt, .int ((0 + j : Nat) : Int) tt9, .str (Txt.slice x (some (1 + (k : Int))) none) t11]) :: tlA))) (by ((repeat (refine allc (by ((repeat (first | exact List.Mem.head _ | refine List.Mem.tail _ ?_ | assumption | (refine List.mem_append_left _ ?_; assumption) | refine List.mem_append_right _ ?_)); done)) ?_)); first | exact List.forall_mem_nil _ | (intro z9 h9; (repeat (first | exact h9 | refine List.Mem.tail _ ?_ | exact List.mem_append_left _ h9 | refine List.mem_append_right _ ?_)); done)))
          have hDla : D9 ≠ la := Ne.symm (Nat.ne_of_lt l11.2.2.1)
          refine lapp (vs := dsA.map Lp.v) (n := nA) F11 N12 ?pd (by rw [List.length_map]; (first | lia | omega)) fun h12 F12 N13 => ?_
          case pd =>
            simp only [List.cons_append, List.nil_append, List.forall_mem_cons]
            refine ⟨?_, ?_, ?_, ?_, ?_, ?_, hDla, fun z hz => (hoffA z hz).1.1.1⟩
            · exact Nat.ne_of_lt (lI3 (la, lapO ds9 n9) List.mem_cons_self) |>.symm
            · exact Nat.ne_of_gt (lI2 (la, lapO ds n) List.mem_cons_self |> fun h => Nat.lt_succ_of_lt h)
            · exact Nat.ne_of_gt (lI2 (la, lapO ds n) List.mem_cons_self)
            · exact Nat.ne_of_gt (Nat.lt_succ_of_lt hIl)
            · exact Nat.ne_of_gt hIl
            · exact Nat.ne_of_lt lwa
          repeat' ((fail_if_success (with_reducible (first | show wpAny _ _ (eval (Expr.ListComp _ _ _ _) _) _ _ _ | show wpAny _ _ (call (Value.type _) _) _ _ _ | show wpAny _ _ (exec (Stmt.Assign _ (Expr.ListComp _ _ _ _) _) _) _ _ _ | show wpAny _ _ (exec (Stmt.For _ _ _ _ _) _) _ _ _ | show wpAny _ _ (subscriptTail _ _ (Value.ref _) _) _ _ _ | show UnrEndW _ _ _ _ _ _ | show wpAny _ _ (call (Value.ref _) _) _ _ _))); first | (with_reducible refine execs_hide ?_; intro Q9 hQ9 hR9) | (with_reducible refine hQ9 _ ?_; clear hQ9 hR9; (try clear Q9)) | ((with_reducible refine' hR9 _ _ ?hk9 ?_); (case hk9 => exact nofun); clear hQ9 hR9; (try clear Q9)) | (with_reducible refine hQ8 _ _ ?_; clear hQ8; (try clear Q8); (try dsimp only)) | (with_reducible refine hQ8 _ _ _ ?_; clear hQ8; (try clear Q8); (try dsimp only)) | (with_reducible refine hQ7 _ _ ?_; clear hQ7; (try clear Q7); (try dsimp only)) | (k_unfold; (try dsimp only)) | walk_at "my step" | fail "no step")
          have hnt : (x.cps.toList.drop (k + 1)) = (Txt.slice x (some (1 + (k : Int))) none).cps.toList := hsx.symm
          refine unr_end ((la, lapO (dsA ++ [⟨D9, 0 + i, 0 + j, tt, tt9, Txt.slice x (some (1 + (k : Int))) none, t11⟩]) (nA + 1)) :: ([(I2 + 1, oE2), (I2, oL2), (I + 1, oE), (I, oL), (wa, listOf vs.toArray wn)] ++ ((D9, tupO [.int ((0 + i : Nat) : Int) tt, .int ((0 + j : Nat) : Int) tt9, .str (Txt.slice x (some (1 + (k : Int))) none) t11]) :: tlA))) (by assumption) N13 (by ((repeat (refine allc (by ((repeat (first | exact List.Mem.head _ | refine List.Mem.tail _ ?_ | assumption | (refine List.mem_append_left _ ?_; assumption) | refine List.mem_append_right _ ?_)); done)) ?_)); first | exact List.forall_mem_nil _ | (intro z9 h9; (repeat (first | exact h9 | refine List.Mem.tail _ ?_ | exact List.mem_append_left _ h9 | refine List.mem_append_right _ ?_)); done))) (allc (by show (la, listOf (List.map Lp.v (dsA ++ [_])).toArray _) ∈ _; rw [List.map_append]; ((repeat (first | exact List.Mem.head _ | refine List.Mem.tail _ ?_ | assumption | (refine List.mem_append_left _ ?_; assumption) | refine List.mem_append_right _ ?_)); done)) (by ((repeat (refine allc (by ((repeat (first | exact List.Mem.head _ | refine List.Mem.tail _ ?_ | assumption | (refine List.mem_append_left _ ?_; assumption) | refine List.mem_append_right _ ?_)); done)) ?_)); first | exact List.forall_mem_nil _ | (intro z9 h9; (repeat (first | exact h9 | refine List.Mem.tail _ ?_ | exact List.mem_append_left _ h9 | refine List.mem_append_right _ ?_)); done)))) (off1s ?_) ⟨dsA ++ [⟨D9, 0 + i, 0 + j, tt, tt9, Txt.slice x (some (1 + (k : Int))) none, t11⟩], nA + 1, _, rfl, ?_, ?_, ?_, by ((try dsimp only); (repeat (refine allc (by first | with_unfolding_all rfl | (refine' lkT ?q3 ?q4 ?q5; (case q3 => assumption); (case q4 => with_unfolding_all rfl); (case q5 => with_unfolding_all rfl))) ?_)); exact List.forall_mem_nil _), by ((repeat (first | exact sm_rfl | refine sm_store (by kernel_rfl) ?_ | (refine' sm_trans ?q6 (by kernel_rfl) ?_; (case q6 => assumption)))); done)⟩
          · simp only [List.cons_append, List.nil_append, List.forall_mem_cons]
            refine ⟨Nat.ne_of_lt (lI3 (la, lapO ds9 n9) List.mem_cons_self), Nat.ne_of_lt hI23, Nat.ne_of_lt (Nat.lt_of_succ_lt hI23), Nat.ne_of_lt (lI3 (I + 1, oE) (by ((repeat (first | exact List.Mem.head _ | refine List.Mem.tail _ ?_ | assumption | (refine List.mem_append_left _ ?_; assumption) | refine List.mem_append_right _ ?_)); done))), Nat.ne_of_lt (lI3 (I, oL) (by ((repeat (first | exact List.Mem.head _ | refine List.Mem.tail _ ?_ | assumption | (refine List.mem_append_left _ ?_; assumption) | refine List.mem_append_right _ ?_)); done))), Nat.ne_of_lt (lI3 (wa, listOf vs.toArray wn) (by ((repeat (first | exact List.Mem.head _ | refine List.Mem.tail _ ?_ | assumption | (refine List.mem_append_left _ ?_; assumption) | refine List.mem_append_right _ ?_)); done))), Nat.ne_of_gt l11.2.1, fun z hz => (hoffA z hz).2⟩
          · show List.map Lp.d _ = _
            rw [List.map_append, hZA, List.append_assoc]
            congr 1
            refine lapRow_yes hb9 ?_
            simp only [List.map_cons, List.map_nil, Nat.zero_add, hnt]
          · intro d hd
            rcases List.mem_append.mp hd with hd | hd
            · exact List.mem_cons_of_mem _ (hinA d hd)
            · rw [List.mem_singleton.mp hd]; exact List.mem_cons_self
          · intro z hz
            rcases List.mem_cons.mp hz with rfl | hz
            · exact ⟨⟨⟨hDla, Nat.ne_of_gt l11.2.2.2.2.2.2.2.1, .inr l11.2.2.2.2.2.1⟩, .inr l11.2.2.2.1⟩, Nat.ne_of_gt l11.2.1⟩
            · exact hoffA z hz
        · have hb9 : (Txt.join (Str.ofString "/") (lcp (ones (Txt.slice y (some (-(1 + (k : Int)))) none).cps.toList) (ones x.cps.toList)) == Txt.join (Str.ofString "/") (PyProof.Rows.signs (Txt.slice y (some (-(1 + (k : Int)))) none))) = false := by assumption
          rw [signs_ones, lcp_beq hz0 hz47, hsl] at hb9
          refine unr_end ((la, lapO dsA nA) :: ([(I2 + 1, oE2), (I2, oL2), (I + 1, oE), (I, oL), (wa, listOf vs.toArray wn)] ++ tlA)) (by assumption) N10 (by ((repeat (refine allc (by ((repeat (first | exact List.Mem.head _ | refine List.Mem.tail _ ?_ | assumption | (refine List.mem_append_left _ ?_; assumption) | refine List.mem_append_right _ ?_)); done)) ?_)); first | exact List.forall_mem_nil _ | (intro z9 h9; (repeat (first | exact h9 | refine List.Mem.tail _ ?_ | exact List.mem_append_left _ h9 | refine List.mem_append_right _ ?_)); done))) (by ((repeat (refine allc (by ((repeat (first | exact List.Mem.head _ | refine List.Mem.tail _ ?_ | assumption | (refine List.mem_append_left _ ?_; assumption) | refine List.mem_append_right _ ?_)); done)) ?_)); first | exact List.forall_mem_nil _ | (intro z9 h9; (repeat (first | exact h9 | refine List.Mem.tail _ ?_ | exact List.mem_append_left _ h9 | refine List.mem_append_right _ ?_)); done))) (off1s ?_) ⟨dsA, nA, tlA, rfl, ?_, hinA, hoffA, by ((try dsimp only); (repeat (refine allc (by first | with_unfolding_all rfl | (refine' lkT ?q3 ?q4 ?q5; (case q3 => assumption); (case q4 => with_unfolding_all rfl); (case q5 => with_unfolding_all rfl))) ?_)); exact List.forall_mem_nil _), by ((repeat (first | exact sm_rfl | refine sm_store (by kernel_rfl) ?_ | (refine' sm_trans ?q6 (by kernel_rfl) ?_; (case q6 => assumption)))); done)⟩
          · simp only [List.cons_append, List.nil_append, List.forall_mem_cons]
            refine ⟨Nat.ne_of_lt (lI3 (la, lapO ds9 n9) List.mem_cons_self), Nat.ne_of_lt hI23, Nat.ne_of_lt (Nat.lt_of_succ_lt hI23), Nat.ne_of_lt (lI3 (I + 1, oE) (by ((repeat (first | exact List.Mem.head _ | refine List.Mem.tail _ ?_ | assumption | (refine List.mem_append_left _ ?_; assumption) | refine List.mem_append_right _ ?_)); done))), Nat.ne_of_lt (lI3 (I, oL) (by ((repeat (first | exact List.Mem.head _ | refine List.Mem.tail _ ?_ | assumption | (refine List.mem_append_left _ ?_; assumption) | refine List.mem_append_right _ ?_)); done))), Nat.ne_of_lt (lI3 (wa, listOf vs.toArray wn) (by ((repeat (first | exact List.Mem.head _ | refine List.Mem.tail _ ?_ | assumption | (refine List.mem_append_left _ ?_; assumption) | refine List.mem_append_right _ ?_)); done))), fun z hz => (hoffA z hz).2⟩
          · show List.map Lp.d _ = _
            rw [hZA]
            congr 1
            exact lapRow_no hb9 rfl
  case ofin =>
    rintro m9 news9 hh9 tkk9 ⟨ds9, n9, tl9, rfl, hZ9, hin9, hoff9, hzps9, hzm9⟩ Fz Nz
    repeat' ((fail_if_success (with_reducible (first | show wpAny _ _ (eval (Expr.ListComp _ _ _ _) _) _ _ _ | show wpAny _ _ (call (Value.type _) _) _ _ _ | show wpAny _ _ (exec (Stmt.Assign _ (Expr.ListComp _ _ _ _) _) _) _ _ _ | show wpAny _ _ (exec (Stmt.For _ _ _ _ _) _) _ _ _ | show wpAny _ _ (call (Value.builtin _) _) _ _ _ | show wpAny _ _ (subscriptTail _ _ (Value.ref _) _) _ _ _ | show UnrEndW _ _ _ _ _ _))); first | (with_reducible refine execs_hide ?_; intro Q9 hQ9 hR9) | (with_reducible refine hQ9 _ ?_; clear hQ9 hR9; (try clear Q9)) | ((with_reducible refine' hR9 _ _ ?hk9 ?_); (case hk9 => exact nofun); clear hQ9 hR9; (try clear Q9)) | (with_reducible refine hQ8 _ _ ?_; clear hQ8; (try clear Q8); (try dsimp only)) | (with_reducible refine hQ8 _ _ _ ?_; clear hQ8; (try clear Q8); (try dsimp only)) | (with_reducible refine hQ7 _ _ ?_; clear hQ7; (try clear Q7); (try dsimp only)) | (k_unfold; (try dsimp only)) | walk_at "my step" | fail "no step")
    rename News h₀ _ _ _ => NE
    refine hret la ds9 n9 tl9 _ _ (by assumption) (fun p hp => ?_) (fresh_new aG (Nz (la, lapO ds9 n9) List.mem_cons_self).2.2 (fun p hp => by rw [List.mem_singleton.mp hp]; exact Nat.ne_of_lt lwa)) hin9 ?_
    · rcases List.mem_cons.mp hp with rfl | hp
      · exact NE _ (List.mem_append_left _ List.mem_cons_self)
      · rcases List.mem_append.mp hp with hp | hp
        · exact NE _ (List.mem_append_left _ (by simp [hp]))
        · exact backR N hrel NE (by ((repeat (refine allc (by ((repeat (first | exact List.Mem.head _ | refine List.Mem.tail _ ?_ | assumption | (refine List.mem_append_left _ ?_; assumption) | refine List.mem_append_right _ ?_)); done)) ?_)); first | exact List.forall_mem_nil _ | (intro z9 h9; (repeat (first | exact h9 | refine List.Mem.tail _ ?_ | exact List.mem_append_left _ h9 | refine List.mem_append_right _ ?_)); done))) p hp
    · rw [hZ9, enumItems_length, strs_len hvs]
end
end Mine
end

noncomputable section
namespace Mine
open PyProof.Rows.LCg PyProof.V
section
variable {prog : Program} {w : World} {A : Around} {E : Value → Shared → Prop} {s : Shared} {h₀ : Heap} {L : Addr} {m : Str → Option Value} {env : Env}
theorem kturns_also {target : PySem.Expr} {I : Addr} {fp wr : List Addr} {n : Nat} {P Md : Nat → Value → Heap → Prop} {St : Nat → Heap → Prop} (W : KTurns prog w A target I fp wr n P Md St) (st : List (Addr × Obj)) (hst : ∀ p ∈ st, p.1 ∉ wr) :
    KTurns prog w A target I (fp ++ st.map (·.1)) wr n (fun i v h => P i v h ∧ ∀ p ∈ st, h.get? p.1 = some p.2) (fun i v h => Md i v h ∧ ∀ p ∈ st, h.get? p.1 = some p.2) (fun i h => St i h ∧ ∀ p ∈ st, h.get? p.1 = some p.2) where
  sub := fun b hb => List.mem_append_left _ (W.sub b hb)
  frame := fun i h h' hs hk => ⟨W.frame i h h' hs.1 fun b hb o e => hk b (List.mem_append_left _ hb) o e, fun p hp => hk _ (List.mem_append_right _ (List.mem_map_of_mem hp)) _ (hs.2 p hp)⟩
  item := fun i s Q E hi hs hQ => W.item i s Q E hi hs.1 fun v h' tk hM hk => hQ v h' tk ⟨hM, fun p hp => hk _ _ (hst p hp) (hs.2 p hp)⟩ hk
  go := fun i v s Q E hM hQ => W.go i v s Q E hM.1 fun h' hP hS hk => hQ h' ⟨hP, fun p hp => hk _ _ (hst p hp) (hM.2 p hp)⟩ ⟨hS, fun p hp => hk _ _ (hst p hp) (hM.2 p hp)⟩ hk
  done := fun s Q E hs hQ => W.done s Q E hs.1 hQ
theorem assign3 {env : Env} {a b c : Str} {pa pb pc tp : Pos} {kk : Nat} {T : Addr} {x y z : Value} {m : Str → Option Value} {Q : Unit → Shared → Prop} (hh : A.handled = none) (ht : s.heap.IsTuple T #[x, y, z])
    (ha : env.kindOf a = some .local) (hb : env.kindOf b = some .local) (hc : env.kindOf c = some .local) (hp : (env.scope.kind == .class || (env.scope.kind == .module && env.locals != env.globals)) = false) (hn : s.heap.Ns env.locals m)
    (h : ∀ (h' : Heap) (tk : Nat), h'.Ns env.locals (fun q => if q = c then some z else if q = b then some y else if q = a then some x else m q) → (∀ c o, c ≠ env.locals → s.heap.get? c = some o → h'.get? c = some o) → Q () { s with heap := h', toks := tk }) :
    wpAny (model prog w) A (assign (.Tuple [.Name a pa, .Name b pb, .Name c pc] kk tp) env (.ref T)) Q E s := by
  refine wpAny_assign_Tuple hh ht rfl rfl fun h₁ he₁ => ?_
  have hL : env.locals ≠ s.heap.objs.size := Nat.ne_of_lt hn.lt
  have hn₁ : h₁.Ns env.locals m := hn.at' fun o e => he₁ _ o hL e
  have up₁ : ∀ c o, s.heap.get? c = some o → h₁.get? c = some o := fun c o e => he₁ c o (Nat.ne_of_lt (Heap.lt_size e)) e
  show wpAny _ _ (assignInOrder [assign (.Name a pa) env, assign (.Name b pb) env, assign (.Name c pc) env] [x, y, z]) _ _ _
  refine assignInOrder_cons ?_
  refine wpAny_assign_Name (wpAny_storeName_local ha hn₁ (fun h₂ hn₂ hs₂ => ?_) hp)
  refine assignInOrder_cons ?_
  refine wpAny_assign_Name (wpAny_storeName_local hb hn₂ (fun h₃ hn₃ hs₃ => ?_) hp)
  refine assignInOrder_cons ?_
  refine wpAny_assign_Name (wpAny_storeName_local hc hn₃ (fun h₄ hn₄ hs₄ => ?_) hp)
  refine assignInOrder_nil ?_
  exact h h₄ _ hn₄ fun c o hc e => hs₄.extBut c o hc (hs₃.extBut c o hc (hs₂.extBut c o hc (up₁ c o e)))
theorem compAt_list3 {elt : PySem.Expr} {ifs : List PySem.Expr} {a b c : Str} {pa pb pc tp : Pos} {kk : Nat} {scope : Scope} {cl : List (Str × Addr)} {Fin : Shared → List Value → List (Addr × Obj) → Prop} {ax : Addr} {ds : List Lp} {k : Nat} {news : List (Addr × Obj)}
    (J : Nat → List Value → List (Addr × Obj) → Prop) (hh : A.handled = none) (hkind : scope.kind = .function) (hxa : scope.names.lookup a = some .local) (hxb : scope.names.lookup b = some .local) (hxc : scope.names.lookup c = some .local) (hab : a ≠ b) (hac : a ≠ c) (hbc : b ≠ c)
    (F : Fr h₀ L s.heap m) (N : News h₀ L s.heap news) (hm : (ax, lapO ds k) ∈ news) (hin : ∀ d ∈ ds, (d.a, d.o) ∈ news) (hsz : ds.length ≤ sizeLine) (h0 : J 0 [] news)
    (step : CStep prog w A h₀ L m env elt ifs scope cl s (fun i m₂ => ∃ d, ds[i]? = some d ∧ m₂ a = some (.int (d.i : Int) d.ti) ∧ m₂ b = some (.int (d.j : Int) d.tj) ∧ m₂ c = some (.str d.x d.tx)) J ds.length) (fin : CFin Fin s J ds.length) :
    wpAny (model prog w) A (pyIter (.ref ax)) (fun it s₂ => CompAt prog w A h₀ L m env (.Tuple [.Name a pa, .Name b pb, .Name c pc] kk tp) elt ifs scope cl Fin it s₂) E s := by
  have hl : s.heap.IsList ax (ds.map Lp.v).toArray := ⟨_, (N _ hm).1, rfl, _, rfl⟩
  have hlt : ax < s.heap.objs.size := Heap.lt_size (N _ hm).1
  have k9 : ∀ o : Obj, ∀ b o', s.heap.get? b = some o' → (s.heap.push o).get? b = some o' := fun o b o' e => Heap.get?_push_of_some _ e
  have hdl : ∀ p ∈ ds.map (fun d => ((d.a, d.o) : Addr × Obj)), p ∈ news := fun p hp => by
    obtain ⟨d, hd, rfl⟩ := List.mem_map.mp hp
    exact hin d hd
  have hdw : ∀ p ∈ ds.map (fun d => ((d.a, d.o) : Addr × Obj)), p.1 ∉ [s.heap.objs.size] := fun p hp hb => Nat.ne_of_lt (Heap.lt_size (N p (hdl p hp)).1) (List.mem_singleton.mp hb)
  refine wpAny_pyIter_list hl ?_
  have W := kturns_also (KTurns.ofWalks (target := .Tuple [.Name a pa, .Name b pb, .Name c pc] kk tp) (Walks.list (prog := prog) (w := w) hh s.heap.objs.size ax (Nat.ne_of_lt hlt) (ds.map Lp.v).toArray) fun i v s Q E st q => letGo_listiter st.1 q) (ds.map (fun d => ((d.a, d.o) : Addr × Obj))) hdw
  refine ⟨s.heap.objs.size, _, [s.heap.objs.size], _, _, _, _, news, (fun i m₂ => ∃ d, ds[i]? = some d ∧ m₂ a = some (.int (d.i : Int) d.ti) ∧ m₂ b = some (.int (d.j : Int) d.tj) ∧ m₂ c = some (.str d.x d.tx)), J, rfl, W, by simpa using hsz, ?_, ?_, ?_, ?_, ?_, F.keeps (k9 _), N.grown (k9 _), ?_, ?_, ?_, h0, ?_, ?_⟩
  · rintro i h ⟨⟨⟨o, e, _⟩, _⟩, _⟩ b hb
    rw [List.mem_singleton.mp hb]; exact ⟨o, e⟩
  · exact fun s' Q E hst hQ => (Walks.list (prog := prog) (w := w) hh s.heap.objs.size ax (Nat.ne_of_lt hlt) (ds.map Lp.v).toArray).self 0 s' Q E hst.1 hQ
  · rintro i v s' C m₂ Q E hi ⟨hP, hS⟩ hn hC k
    have hP' : (ds.map Lp.v).toArray[i]? = some v := hP
    have hP2 : (ds.map Lp.v)[i]? = some v := by simpa using hP'
    rw [List.getElem?_map] at hP2
    obtain ⟨d, hd, rfl⟩ := Option.map_eq_some_iff.mp hP2
    have hT : s'.heap.IsTuple d.a #[.int (d.i : Int) d.ti, .int (d.j : Int) d.tj, .str d.x d.tx] := ⟨_, hS (d.a, d.o) (List.mem_map_of_mem (List.mem_of_getElem? hd)), rfl, _, rfl⟩
    refine assign3 (env := compEnvC scope cl C env) hh hT (lookup_relabel_local hxa) (lookup_relabel_local hxb) (lookup_relabel_local hxc) (by simp [compEnvC, relabel, hkind]) hn fun h₄ tk₄ hn₄ hs₄ => ?_
    exact k _ _ _ ⟨d, hd, by simp [hab, hac], by simp [hbc], by simp⟩ hn₄ hs₄
  · exact ⟨⟨⟨_, Heap.get?_push_size _ rfl, rfl, rfl⟩, hl.push _⟩, fun p hp => k9 _ _ _ (N p (hdl p hp)).1⟩
  · intro b hb
    show b < (s.heap.push _).objs.size
    rw [Heap.size_push]
    rcases List.mem_append.mp hb with hb | hb
    · rcases List.mem_cons.mp hb with rfl | hb
      · exact Nat.lt_succ_self _
      · rw [List.mem_singleton.mp hb]; exact Nat.lt_succ_of_lt hlt
    · obtain ⟨p, hp, rfl⟩ := List.mem_map.mp hb
      exact Nat.lt_succ_of_lt (Heap.lt_size (N p (hdl p hp)).1)
  · intro hb
    rcases List.mem_append.mp hb with hb | hb
    · rcases List.mem_cons.mp hb with e | hb
      · exact Nat.lt_irrefl _ (e ▸ F.ns.lt)
      · exact (N _ hm).2.1 (List.mem_singleton.mp hb).symm
    · obtain ⟨p, hp, e⟩ := List.mem_map.mp hb
      exact (N p (hdl p hp)).2.1 e
  · intro b hb
    rw [List.mem_singleton.mp hb]; exact get_fresh F
  · exact fun p hp hb => Nat.ne_of_lt (Heap.lt_size (N p hp).1) (List.mem_singleton.mp hb)
  · intro i ys news₁ own C oC D m₂ h₁ tk₁ E' hi hV hC hJ off hw F' N'
    exact step _ i ys news₁ own C oC D m₂ h₁ tk₁ E' _ (by simpa using hi) hV hC hJ off hw F' N'
  · intro ys news' hJ
    exact fin _ ys news' (by simpa using hJ)
end
end Mine
end

noncomputable section
namespace Mine
open PyProof.Rows.LCg PyProof.V
structure Rw where
  a : Addr
  l : List Value
  n : Nat
abbrev Rw.p (r : Rw) : Addr × Obj := (r.a, listOf r.l.toArray r.n)
abbrev Rw.v (r : Rw) : Value := .ref r.a
def Rw.app (r : Rw) (v : Value) : Rw := ⟨r.a, r.l ++ [v], r.n + 1⟩
section
variable {prog : Program} {w : World} {A : Around} {E : Value → Shared → Prop} {s : Shared} {h₀ : Heap} {L : Addr} {m : Str → Option Value}
theorem row_app {a tl : List (Addr × Obj)} {rs : List Rw} {p : Nat} {r : Rw} {v : Value} {Q : Value → Shared → Prop} (hr : rs[p]? = some r) (hnd : (rs.map Rw.a).Nodup) (F : Fr h₀ L s.heap m) (N : News h₀ L s.heap (a ++ (rs.map Rw.p ++ tl)))
    (ha : ∀ z ∈ a, z.1 ≠ r.a) (ht : ∀ z ∈ tl, z.1 ≠ r.a) (hf : r.l.length ≤ 4000)
    (h : ∀ h', Fr h₀ L h' m → News h₀ L h' (a ++ ((rs.set p (r.app v)).map Rw.p ++ tl)) → Q .none { s with heap := h' }) :
    wpAny (model prog w) A (call (.builtin "list.append") [.ref r.a, v]) Q E s := by
  have hm : r ∈ rs := List.mem_of_getElem? hr
  have z := N r.p (List.mem_append_right _ (List.mem_append_left _ (List.mem_map_of_mem hm)))
  refine append_at (its := r.l.toArray) (n := r.n) z.1 (fun h' hs ho => h h' (F.change hs z.2.1 z.2.2) fun q hq => ?_) (by simp [sizeLine]; (first | lia | omega))
  have other : ∀ q ∈ (a ++ (rs.map Rw.p ++ tl)), q.1 ≠ r.a → h'.get? q.1 = some q.2 ∧ q.1 ≠ L ∧ h₀.get? q.1 = none := fun q hq hne => ⟨hs.extBut _ _ hne (N q hq).1, (N q hq).2⟩
  rcases List.mem_append.mp hq with hq | hq
  · exact other q (List.mem_append_left _ hq) (ha q hq)
  · rcases List.mem_append.mp hq with hq | hq
    · obtain ⟨y, hy, rfl⟩ := List.mem_map.mp hq
      obtain ⟨i, hi⟩ := List.getElem?_of_mem hy
      rw [List.getElem?_set] at hi
      split at hi
      · split at hi
        · obtain rfl := Option.some.inj hi
          refine ⟨?_, z.2⟩
          show h'.get? r.a = some (listOf (r.l ++ [v]).toArray (r.n + 1))
          rw [ho]
          simp
        · cases hi
      · rename_i hpi
        refine other _ (List.mem_append_right _ (List.mem_append_left _ (List.mem_map_of_mem (List.mem_of_getElem? hi)))) fun e => hpi ?_
        have hlt1 := (List.getElem?_eq_some_iff.mp hr).1
        have hlt2 := (List.getElem?_eq_some_iff.mp hi).1
        have e1 : (rs.map Rw.a)[p]'(by simpa using hlt1) = (rs.map Rw.a)[i]'(by simpa using hlt2) := by
          have h1 := (List.getElem?_eq_some_iff.mp hr).2
          have h2 := (List.getElem?_eq_some_iff.mp hi).2
          simp only [List.getElem_map, h1, h2]
          exact e.symm
        exact (List.getElem_inj hnd).mp e1
    · exact other q (List.mem_append_right _ (List.mem_append_right _ hq)) (ht q hq)
end
theorem Rw.app_a (r : Rw) (v : Value) : (r.app v).a = r.a := rfl
theorem set_a {rs : List Rw} {p : Nat} {r : Rw} {v : Value} (hr : rs[p]? = some r) : (rs.set p (r.app v)).map Rw.a = rs.map Rw.a := by
  rw [List.map_set, Rw.app_a]
  refine List.ext_getElem? fun i => ?_
  rw [List.getElem?_set]
  split
  · rename_i h
    subst h
    rw [List.getElem?_map, hr]
    have := (List.getElem?_eq_some_iff.mp hr).1
    simp [this]
  · rfl
def lapSum (ls : List (Nat × Nat × Int)) (C : Nat → Nat → Int) (p t : Nat) : Nat → Int
  | 0 => 0
  | i + 1 => lapSum ls C p t i + match ls[i]? with | some e => if e.1 = p ∧ e.2.2 ≤ (t : Int) then C e.2.1 ((t : Int) - e.2.2).toNat else 0 | none => 0
def convSum (c K : Nat → Int) (t : Nat) : Nat → Int
  | 0 => 0
  | s + 1 => convSum c K t s + c (s + 1) * K (t - (s + 1))
def clustSum (C : Nat → Nat → Int) (K : Nat → Int) (t : Nat) : Nat → Int
  | 0 => 0
  | j + 1 => clustSum C K t j + convSum (C j) K t t
def priceSum (K : Nat → Int) (ps : List Int) (t : Nat) : Nat → Int
  | 0 => 0
  | i + 1 => priceSum K ps t i + match ps[i]? with | some p => if p ≤ (t : Int) then K ((t : Int) - p).toNat else 0 | none => 0
structure CountSpec (C : Nat → Nat → Int) (K : Nat → Int) (wts : List Int) (ls : List (Nat × Nat × Int)) (ps : List Int) (kk top : Nat) : Prop where
  c : ∀ p t, p < kk → t ≤ top → ∀ w, wts[p]? = some w → C p t = (if (t : Int) = w then -1 else 0) - lapSum ls C p t ls.length
  k : ∀ t, t ≤ top → K t = (if t = 0 then 1 else 0) + priceSum K ps t ps.length + clustSum C K t kk
  small : ∀ t, t ≤ top → (K t).natAbs < 2 ^ 60
  lap : ∀ e ∈ ls, e.2.1 < kk ∧ 1 ≤ e.2.2
  price : ∀ p ∈ ps, 1 ≤ p
theorem ints_range {vs : List Value} {f : Nat → Int} {n i : Nat} (h : IntsAre vs ((List.range n).map f)) (hi : i < n) : ∃ t, vs[i]? = some (.int (f i) t) :=
  h.get i (f i) (by simp [hi])
theorem ints_range_snoc {vs : List Value} {f : Nat → Int} {n : Nat} {v : Int} {t : Tok} (h : IntsAre vs ((List.range n).map f)) (e : v = f n) : IntsAre (vs ++ [.int v t]) ((List.range (n + 1)).map f) := by
  subst e
  rw [List.range_succ, List.map_append]
  exact h.append (.cons _ t .nil)
def RowsOk (C : Nat → Nat → Int) (t p : Nat) (rs : List Rw) : Prop := ∀ q r, rs[q]? = some r → IntsAre r.l ((List.range (if q < p then t + 1 else t)).map (C q))
theorem RowsOk.next {C : Nat → Nat → Int} {t p : Nat} {rs : List Rw} {r : Rw} {v : Int} {u : Tok} (h : RowsOk C t p rs) (hr : rs[p]? = some r) (e : v = C p t) : RowsOk C t (p + 1) (rs.set p (r.app (.int v u))) := by
  intro q y hy
  rw [List.getElem?_set] at hy
  split at hy
  · rename_i hpq
    subst hpq
    split at hy
    · obtain rfl := Option.some.inj hy
      rw [if_pos (Nat.lt_succ_self _)]
      have h1 := h p r hr
      rw [if_neg (Nat.lt_irrefl _)] at h1
      exact ints_range_snoc h1 e
    · cases hy
  · rename_i hpq
    have h1 := h q y hy
    by_cases c : q < p
    · rw [if_pos c] at h1
      rw [if_pos (Nat.lt_succ_of_lt c)]
      exact h1
    · rw [if_neg c] at h1
      rw [if_neg (by (first | lia | omega))]
      exact h1
theorem RowsOk.all {C : Nat → Nat → Int} {t : Nat} {rs : List Rw} (h : RowsOk C t rs.length rs) : RowsOk C (t + 1) 0 rs := by
  intro q r hr
  have h1 := h q r hr
  rw [if_pos (List.getElem?_eq_some_iff.mp hr).1] at h1
  rw [if_neg (Nat.not_lt_zero _)]
  exact h1
theorem mul_small {a b : Int} (h : b.natAbs < 2 ^ 60) : IntMulOk a b := by
  exact IntMulOk.of_right (PySem.intBits_le_iff.mpr (Nat.lt_of_lt_of_le h (Nat.pow_le_pow_right (by decide) (by decide))))
end Mine
end

noncomputable section
namespace Mine
open PyProof.Rows.LCg PyProof.V
structure Lq where
  a : Addr
  i : Nat
  j : Nat
  r : Int
  ti : Tok
  tj : Tok
  tr : Tok
abbrev Lq.v (d : Lq) : Value := .ref d.a
abbrev Lq.o (d : Lq) : Obj := tupO [.int (d.i : Int) d.ti, .int (d.j : Int) d.tj, .int d.r d.tr]
abbrev Lq.d (d : Lq) : Nat × Nat × Int := (d.i, d.j, d.r)
inductive LqJ (fx : List (Addr × Obj)) (f : Lp → Nat × Nat × Int) (ds : List Lp) (i : Nat) (ys : List Value) (nw : List (Addr × Obj)) : Prop
  | intro (es : List Lq) (tl' : List (Addr × Obj)) (f1 : nw = fx ++ tl') (f2 : ys = es.map Lq.v) (f3 : es.map Lq.d = (ds.take i).map f) (f4 : ∀ e ∈ es, (e.a, e.o) ∈ tl') : LqJ fx f ds i ys nw
theorem lapRow_mem {i j : Nat} {x y : List Nat} {e : Nat × Nat × List Nat} : ∀ {k : Nat}, e ∈ lapRow i j x y k → ∃ s, 1 ≤ s ∧ s ≤ k ∧ tailIs x y s = true ∧ e = (i, j, x.drop s)
  | 0, h => by rw [lapRow] at h; cases h
  | k + 1, h => by
    rw [lapRow] at h
    rcases List.mem_append.mp h with h | h
    · obtain ⟨s, a, b, c, d⟩ := lapRow_mem h
      exact ⟨s, a, Nat.le_succ_of_le b, c, d⟩
    · split at h
      · exact ⟨k + 1, Nat.succ_pos _, Nat.le_refl _, by assumption, List.mem_singleton.mp h⟩
      · cases h
theorem lapMid_mem {W : List (List Nat)} {i : Nat} {x : List Nat} {e : Nat × Nat × List Nat} : ∀ {n : Nat}, e ∈ lapMid W i x n → ∃ j y s, j < n ∧ W[j]? = some y ∧ 1 ≤ s ∧ s < x.length ∧ s < y.length ∧ tailIs x y s = true ∧ e = (i, j, x.drop s)
  | 0, h => by rw [lapMid] at h; cases h
  | n + 1, h => by
    rw [lapMid] at h
    rcases List.mem_append.mp h with h | h
    · obtain ⟨j, y, s, a, b⟩ := lapMid_mem h
      exact ⟨j, y, s, Nat.lt_succ_of_lt a, b⟩
    · cases hy : W[n]? with
      | none => rw [hy] at h; cases h
      | some y =>
        rw [hy] at h
        obtain ⟨s, a, b, c, d⟩ := lapRow_mem h
        exact ⟨n, y, s, Nat.lt_succ_self _, hy, a, by (first | lia | omega), by (first | lia | omega), c, d⟩
theorem lapAll_mem {W : List (List Nat)} {e : Nat × Nat × List Nat} : ∀ {n : Nat}, e ∈ lapAll W n → ∃ i x j y s, i < n ∧ W[i]? = some x ∧ j < W.length ∧ W[j]? = some y ∧ 1 ≤ s ∧ s < x.length ∧ s < y.length ∧ tailIs x y s = true ∧ e = (i, j, x.drop s)
  | 0, h => by rw [lapAll] at h; cases h
  | n + 1, h => by
    rw [lapAll] at h
    rcases List.mem_append.mp h with h | h
    · obtain ⟨i, x, j, y, s, a, b⟩ := lapAll_mem h
      exact ⟨i, x, j, y, s, Nat.lt_succ_of_lt a, b⟩
    · cases hx : W[n]? with
      | none => rw [hx] at h; cases h
      | some x =>
        rw [hx] at h
        obtain ⟨j, y, s, a, b⟩ := lapMid_mem h
        exact ⟨n, x, j, y, s, Nat.lt_succ_self _, hx, a, b⟩
theorem cend_at {h₀ : Heap} {L : Addr} {m : Str → Option Value} {s₁ : Shared} {C D x : Addr} {oC oD ox : Obj} {wr : List Addr} {own a b : List (Addr × Obj)} {rest : List (Addr × Obj) → Prop} {h' : Heap} {tk' : Nat}
    (F : Fr h₀ L h' m) (N : News h₀ L h' ((x, ox) :: (C, oC) :: (D, oD) :: ((a ++ b) ++ own))) (hw : ∀ q ∈ wr, ∃ o, (q, o) ∈ own) (l : ∀ p ∈ (C, oC) :: (D, oD) :: ((a ++ b) ++ own), p.1 ≠ x) (off : ∀ p ∈ a ++ b, p.1 ∉ wr ∧ p.1 ≠ C ∧ p.1 ≠ D) (r : rest (a ++ (x, ox) :: b)) : CEnd h₀ L m s₁ C oC D oD wr own rest { s₁ with heap := h', toks := tk' } := by
  refine ⟨h', tk', a ++ (x, ox) :: b, rfl, F, fun p hp => N p ?_, fun p hp => ?_, r⟩
  · simp only [List.mem_cons, List.mem_append] at hp ⊢
    rcases hp with h | h | (h | h | h) | h <;> simp [h]
  · rcases List.mem_append.mp hp with hp | hp
    · exact off p (List.mem_append_left _ hp)
    · rcases List.mem_cons.mp hp with rfl | hp
      · refine ⟨fun hb => ?_, Ne.symm (l _ List.mem_cons_self), Ne.symm (l _ (List.mem_cons_of_mem _ List.mem_cons_self))⟩
        obtain ⟨o, ho⟩ := hw _ hb
        exact l (_, o) (List.mem_cons_of_mem _ (List.mem_cons_of_mem _ (List.mem_append_right _ ho))) rfl
      · exact off p (List.mem_append_right _ hp)
theorem codes_le {c0 c1 : Nat} {ws : List Str} (hlet : ∀ x ∈ ws, 1 ≤ x.length ∧ x.length ≤ 4 ∧ ∀ c ∈ x.cps.toList, c = c0 ∨ c = c1) : ∀ z ∈ ws.map (·.cps.toList), z.length ≤ 4 := fun z hz => by
  obtain ⟨u, hu, rfl⟩ := List.mem_map.mp hz
  have := (hlet u hu).2.1
  simpa [Str.length] using this
theorem laps_len {c0 c1 : Nat} {ws : List Str} {ds : List Lp} (hlet : ∀ x ∈ ws, 1 ≤ x.length ∧ x.length ≤ 4 ∧ ∀ c ∈ x.cps.toList, c = c0 ∨ c = c1) (hwl : ws.length ≤ 3) (hds : (ds.map Lp.d) = lapAll (ws.map (·.cps.toList)) ws.length) : ds.length ≤ 36 := by
  have e := congrArg List.length hds
  have h3 := lapAll_len (codes_le hlet) ws.length
  rw [List.length_map] at e h3
  have h4 : 4 * ws.length * ws.length ≤ 4 * 3 * 3 := Nat.mul_le_mul (by (first | lia | omega)) hwl
  (first | lia | omega)
theorem laps_let {c0 c1 : Nat} {ws : List Str} {ds : List Lp} {d : Lp} (hlet : ∀ x ∈ ws, 1 ≤ x.length ∧ x.length ≤ 4 ∧ ∀ c ∈ x.cps.toList, c = c0 ∨ c = c1) (hds : (ds.map Lp.d) = lapAll (ws.map (·.cps.toList)) ws.length) (hd : d ∈ ds) :
    (∀ c ∈ d.x.cps.toList, c = c0 ∨ c = c1) ∧ d.x.cps.size ≤ 4 := by
  have hmem : d.d ∈ lapAll (ws.map (·.cps.toList)) ws.length := hds ▸ List.mem_map_of_mem hd
  obtain ⟨i2, x2, j2, y2, s2, _, hx2, _, _, _, _, _, _, he⟩ := lapAll_mem hmem
  have he2 : d.x.cps.toList = x2.drop s2 := congrArg (·.2.2) he
  have hx3 := List.mem_of_getElem? hx2
  obtain ⟨u, hu, rfl⟩ := List.mem_map.mp hx3
  refine ⟨fun c hc => (hlet u hu).2.2 c (List.mem_of_mem_drop (he2 ▸ hc)), ?_⟩
  have h4 := congrArg List.length he2
  have h5 := codes_le hlet _ hx3
  rw [List.length_drop] at h4
  simp only [Array.length_toList] at h4 h5
  (first | lia | omega)
abbrev lsOf (c0 : Nat) (p q : Int) (ws : List Str) : List (Nat × Nat × Int) := (lapAll (ws.map (·.cps.toList)) ws.length).map fun e => (e.1, e.2.1, wtOf c0 p q e.2.2)
abbrev laqO (es : List Lq) (n : Nat) : Obj := listOf (es.map Lq.v).toArray n
abbrev row0 (a : Addr) : Addr × Obj := (a, listOf ([] : List Value).toArray 0)
inductive RwJ (fx tl : List (Addr × Obj)) (i : Nat) (ys : List Value) (nw : List (Addr × Obj)) : Prop
  | intro (as : List Addr) (f1 : nw = fx ++ (as.map row0 ++ tl)) (f2 : ys = as.map Value.ref) (f3 : as.length = i) (f4 : as.Nodup) (f5 : ∀ a ∈ as, ∀ z ∈ fx ++ tl, z.1 ≠ a) : RwJ fx tl i ys nw
inductive CtJ (cb : Addr) (fx tl : List (Addr × Obj)) (as : List Addr) (C : Nat → Nat → Int) (K : Nat → Int) (ps : List (Str × Value)) (stored : List Str) (m₀ : Str → Option Value) (t : Nat) (m' : Str → Option Value) (nw : List (Addr × Obj)) : Prop
  | intro (rs : List Rw) (cv : List Value) (nb : Nat) (f1 : nw = (cb, listOf cv.toArray nb) :: (fx ++ (rs.map Rw.p ++ tl))) (f2 : rs.map Rw.a = as) (f3 : RowsOk C t 0 rs) (f4 : IntsAre cv ((List.range t).map K)) (f5 : (∀ z ∈ ps, m' z.1 = some z.2)) (f6 : (∀ z, (∀ p ∈ ps, z ≠ p.1) → stored.contains z = false → m' z = m₀ z)) : CtJ cb fx tl as C K ps stored m₀ t m' nw
abbrev ctJ {g : Heap} {L : Addr} {h : Heap} {m₀ : Str → Option Value} (_ : Fr g L h m₀) (cb : Addr) (fx tl : List (Addr × Obj)) (as : List Addr) (C : Nat → Nat → Int) (K : Nat → Int) (ps : List (Str × Value)) (stored : List Str) (_I : Addr) := CtJ cb fx tl as C K ps stored m₀
inductive CrJ (cO : Addr × Obj) (fx tl : List (Addr × Obj)) (as : List Addr) (C : Nat → Nat → Int) (t : Nat) (ps : List (Str × Value)) (stored : List Str) (m₀ : Str → Option Value) (p : Nat) (m' : Str → Option Value) (nw : List (Addr × Obj)) : Prop
  | intro (rs : List Rw) (f1 : nw = cO :: (fx ++ (rs.map Rw.p ++ tl))) (f2 : rs.map Rw.a = as) (f3 : RowsOk C t p rs) (f4 : (∀ z ∈ ps, m' z.1 = some z.2)) (f5 : (∀ z, (∀ p ∈ ps, z ≠ p.1) → stored.contains z = false → m' z = m₀ z)) : CrJ cO fx tl as C t ps stored m₀ p m' nw
abbrev crJ {g : Heap} {L : Addr} {h : Heap} {m₀ : Str → Option Value} (_ : Fr g L h m₀) (cO : Addr × Obj) (fx tl : List (Addr × Obj)) (as : List Addr) (C : Nat → Nat → Int) (t : Nat) (ps : List (Str × Value)) (stored : List Str) (_I : Addr) := CrJ cO fx tl as C t ps stored m₀
theorem led_lt {I cb : Addr} {o o' : Obj} {fx tl : List (Addr × Obj)} {rs rs0 : List Rw} (h : ∀ z ∈ (cb, o) :: (fx ++ (rs0.map Rw.p ++ tl)), z.1 < I) (e : rs.map Rw.a = rs0.map Rw.a) : ∀ z ∈ (cb, o') :: (fx ++ (rs.map Rw.p ++ tl)), z.1 < I := by
  intro z hz
  rcases List.mem_cons.mp hz with rfl | hz
  · exact h (cb, o) List.mem_cons_self
  · rcases List.mem_append.mp hz with hz | hz
    · exact h z (.tail _ (List.mem_append_left _ hz))
    · rcases List.mem_append.mp hz with hz | hz
      · obtain ⟨r, hr, rfl⟩ := List.mem_map.mp hz
        have hm : r.a ∈ rs0.map Rw.a := e ▸ List.mem_map_of_mem hr
        obtain ⟨r2, hr2, e2⟩ := List.mem_map.mp hm
        have := h r2.p (.tail _ (List.mem_append_right _ (List.mem_append_left _ (List.mem_map_of_mem hr2))))
        show r.a < I
        rw [← e2]
        exact this
      · exact h z (.tail _ (List.mem_append_right _ (List.mem_append_right _ hz)))
theorem nperm_swap {α : Type} {a b z : α} {l : List α} (h : z ∈ a :: b :: l) : z ∈ b :: a :: l := by
  rcases List.mem_cons.mp h with rfl | h
  · exact .tail _ (.head _)
  · rcases List.mem_cons.mp h with rfl | h
    · exact .head _
    · exact .tail _ (.tail _ h)
inductive CutI (h₀ : Heap) (L : Addr) (m : Str → Option Value) (news : List (Addr × Obj)) (s : Shared) (v : Int) (x : Value) (s' : Shared) : Prop
  | intro (t : _) (h' : _) (tk' : _) (f1 : x = .int v t) (f2 : s' = { s with heap := h', toks := tk' }) (f3 : Fr h₀ L h' m) (f4 : News h₀ L h' news) : CutI h₀ L m news s v x s'
theorem CutI.mk {h₀ : Heap} {L : Addr} {m : Str → Option Value} {news : List (Addr × Obj)} {s : Shared} {v u : Int} {t : Tok} {h' : Heap} {tk' : Nat} (e : u = v) (F : Fr h₀ L h' m) (N : News h₀ L h' news) : CutI h₀ L m news s v (.int u t) { s with heap := h', toks := tk' } := ⟨t, h', tk', by rw [e], rfl, F, N⟩
theorem cut_int {M : Model} {A : Around} {E : Value → Shared → Prop} {s : Shared} {h₀ : Heap} {L : Addr} {m : Str → Option Value} {news : List (Addr × Obj)} {v : Int} {Q : Value → Shared → Prop} {tree : Sem Value} (_F : Fr h₀ L s.heap m) (_N : News h₀ L s.heap news)
    (h1 : wpAny M A tree (CutI h₀ L m news s v) E s) (h2 : ∀ t h' tk', Fr h₀ L h' m → News h₀ L h' news → Q (.int v t) { s with heap := h', toks := tk' }) : wpAny M A tree Q E s :=
  wpAny_mono h1 (fun x s' h => by
    obtain ⟨t, h', tk', rfl, rfl, F, N⟩ := h
    exact h2 t h' tk' F N) fun _ _ e => e
inductive ForV (base : List (Addr × Obj)) (ps : List (Str × Value)) (stored : List Str) (nm : Str) (f : Nat → Int) (m₀ : Str → Option Value) (i : Nat) (m' : Str → Option Value) (nw : List (Addr × Obj)) : Prop
  | intro (t : _) (f1 : nw = base) (f2 : (∀ z ∈ (nm, Value.int (f i) t) :: ps, m' z.1 = some z.2)) (f3 : ∀ z, (∀ p ∈ (nm, Value.int (f i) t) :: ps, z ≠ p.1) → stored.contains z = false → m' z = m₀ z) : ForV base ps stored nm f m₀ i m' nw
abbrev forV {g : Heap} {L : Addr} {h : Heap} {m₀ : Str → Option Value} {news : List (Addr × Obj)} (_ : Fr g L h m₀) (_ : News g L h news) (ps : List (Str × Value)) (stored : List Str) (nm : Str) (f : Nat → Int) := ForV news ps stored nm f m₀
theorem lapSum_no {ls : List (Nat × Nat × Int)} {C : Nat → Nat → Int} {p t i a b : Nat} {r : Int} (h : ls[i]? = some (a, b, r)) (hn : ¬ (a = p ∧ r ≤ (t : Int))) : lapSum ls C p t (i + 1) = lapSum ls C p t i := by
  rw [lapSum, h]
  dsimp only
  rw [if_neg hn, Int.add_zero]
theorem lapSum_yes {ls : List (Nat × Nat × Int)} {C : Nat → Nat → Int} {p t i a b : Nat} {r : Int} (h : ls[i]? = some (a, b, r)) (hn : a = p ∧ r ≤ (t : Int)) : lapSum ls C p t (i + 1) = lapSum ls C p t i + C b ((t : Int) - r).toNat := by
  rw [lapSum, h]
  dsimp only
  rw [if_pos hn]
def valF (w0 : Int) (ls : List (Nat × Nat × Int)) (C : Nat → Nat → Int) (p t i : Nat) : Int := (if (t : Int) = w0 then -1 else 0) - lapSum ls C p t i
theorem valF_zero {w0 : Int} {ls : List (Nat × Nat × Int)} {C : Nat → Nat → Int} {p t : Nat} : valF w0 ls C p t 0 = if (t : Int) = w0 then -1 else 0 := by rw [valF, lapSum, Int.sub_zero]
theorem valF_no {w0 : Int} {ls : List (Nat × Nat × Int)} {C : Nat → Nat → Int} {p t i a b : Nat} {r : Int} (h : ls[i]? = some (a, b, r)) (hn : ¬ (a = p ∧ r ≤ (t : Int))) : valF w0 ls C p t (i + 1) = valF w0 ls C p t i := by
  rw [valF, valF, lapSum_no h hn]
theorem valF_yes {w0 : Int} {ls : List (Nat × Nat × Int)} {C : Nat → Nat → Int} {p t i a b : Nat} {r : Int} (h : ls[i]? = some (a, b, r)) (hn : a = p ∧ r ≤ (t : Int)) : valF w0 ls C p t (i + 1) = valF w0 ls C p t i - C b ((t : Int) - r).toNat := by
  rw [valF, valF, lapSum_yes h hn, Int.sub_sub]
def cntP (K : Nat → Int) (ps : List Int) (t i : Nat) : Int := (if (t : Int) = 0 then 1 else 0) + priceSum K ps t i
theorem cntP_zero {K : Nat → Int} {ps : List Int} {t : Nat} : cntP K ps t 0 = if (t : Int) = 0 then 1 else 0 := by rw [cntP, priceSum, Int.add_zero]
theorem cntP_yes {K : Nat → Int} {ps : List Int} {t i : Nat} {p : Int} (h : ps[i]? = some p) (hp : p ≤ (t : Int)) : cntP K ps t (i + 1) = cntP K ps t i + K ((t : Int) - p).toNat := by
  rw [cntP, cntP, priceSum, h]
  dsimp only
  rw [if_pos hp, Int.add_assoc]
theorem cntP_no {K : Nat → Int} {ps : List Int} {t i : Nat} {p : Int} (h : ps[i]? = some p) (hp : ¬ p ≤ (t : Int)) : cntP K ps t (i + 1) = cntP K ps t i := by
  rw [cntP, cntP, priceSum, h]
  dsimp only
  rw [if_neg hp, Int.add_zero]
def cntC (C : Nat → Nat → Int) (K : Nat → Int) (ps : List Int) (t j : Nat) : Int := cntP K ps t ps.length + clustSum C K t j
theorem cntC_zero {C : Nat → Nat → Int} {K : Nat → Int} {ps : List Int} {t : Nat} : cntC C K ps t 0 = cntP K ps t ps.length := by rw [cntC, clustSum, Int.add_zero]
def cntS (C : Nat → Nat → Int) (K : Nat → Int) (ps : List Int) (t j s : Nat) : Int := cntC C K ps t j + convSum (C j) K t s
theorem cntS_zero {C : Nat → Nat → Int} {K : Nat → Int} {ps : List Int} {t j : Nat} : cntS C K ps t j 0 = cntC C K ps t j := by rw [cntS, convSum, Int.add_zero]
theorem cntS_next {C : Nat → Nat → Int} {K : Nat → Int} {ps : List Int} {t j s : Nat} : cntS C K ps t j (s + 1) = cntS C K ps t j s + C j (s + 1) * K (t - (s + 1)) := by rw [cntS, cntS, convSum, Int.add_assoc]
theorem cntS_all {C : Nat → Nat → Int} {K : Nat → Int} {ps : List Int} {t j : Nat} : cntC C K ps t (j + 1) = cntS C K ps t j t := by rw [cntS, cntC, cntC, clustSum, Int.add_assoc]
section
variable {vq : Program} {vl : List Str} {w : World} {mean : ExcName → Option Value} {mg mb : Str → Option Value} {dp un : Nat} {gd : Option (List Code)} {env : Env} {outer : List Env} {A₀ : Around} {base h₀ : Heap} {L : Addr} {m : Str → Option Value} {s : Shared} {Q E : Value → Shared → Prop} {news : List (Addr × Obj)}
theorem c_counted {c0 c1 : Nat} {nm : Str} {wa pa : Addr} {vs : List Value} {ws : List Str} {wn pn top : Nat} {p q : Int} {C : Nat → Nat → Int} {K : Nat → Int} {tn tp tq tT : Tok} (B : Below A₀ base outer h₀) (F : Fr h₀ L s.heap m) (X : (law0.heap_1 w.params).In h₀) (N : News h₀ L s.heap news) (T : TopH vq vl mean mg mb h₀) (hf : env.frame = some L) (hk : env.scope.kind = .function) (hdp : dp + 60 < recursionLimit) (hun : un + 500 < cLine)
   (hw : (wa, listOf vs.toArray wn) ∈ news) (hp : (pa, tupO [.int p tp, .int q tq]) ∈ news) (hvs : StrsAre vs ws) (hwl : ws.length ≤ 3) (hlet : ∀ x ∈ ws, 1 ≤ x.length ∧ x.length ≤ 4 ∧ ∀ c ∈ x.cps.toList, c = c0 ∨ c = c1)
   (hc0 : c0 ≠ 47 ∧ c0 ≠ 46) (hc1 : c1 ≠ 47 ∧ c1 ≠ 46) (hnm : nm = ⟨#[c0, c1]⟩) (hne : c0 ≠ c1)
   (S : CountSpec C K (ws.map fun x => wtOf c0 p q x.cps.toList) (lsOf c0 p q ws) [p, q] ws.length top) (htop : top ≤ 100)
   (hret : ∀ ra rv n h' tk', Fr h₀ L h' m → News h₀ L h' ((ra, listOf rv.toArray n) :: news) → (∀ z ∈ news, z.1 ≠ ra) → IntsAre rv ((List.range (top + 1)).map K) → Q (.ref ra) { s with heap := h', toks := tk' }) :
   wpAny (model PySem.Challenge.rw_il0067_01.row.prog w) (atop dp un gd env outer) (call (.ref 224) [.ref wa, .str nm tn, .ref pa, .int (top : Int) tT]) Q E s := by
  revert X; k_fill; intro X
  have hrel : ∀ z ∈ [(wa, listOf vs.toArray wn), (pa, tupO [.int p tp, .int q tq])], z ∈ news := List.forall_mem_cons.mpr ⟨hw, List.forall_mem_cons.mpr ⟨hp, List.forall_mem_nil _⟩⟩
  refine wpAny_call ?_
  k_dflt (refine' enter_relC (rel := [(wa, listOf vs.toArray wn), (pa, tupO [.int p tp, .int q tq])]) (rest := leftOf [(wa, listOf vs.toArray wn), (pa, tupO [.int p tp, .int q tq])] news) ?k1 ?k2 ?k3 ?k4 ?k5 ?kd ?kA ?kF ?kK ?k6 ?k7 ?k8 ?k9 ?kB ?kD ?_ ?c2 ?c3 ?c4; (case kA => exact rfl); (case kF => assumption); (case kK => assumption); (case k1 => k_asm); (case k2 => k_asm); (case k3 => k_asm); (case k4 => exact leftOf_news N (hrel)); (case k5 => k_asm); (case kd => exact leftOf_dis); (case k6 => k_is); (case k7 => k_is); (case k8 => ktr_room); (case k9 => exact BindsTo.of_eq rfl); (case kB => exact rfl); (case kD => decide +kernel); (case c2 => exact rfl); (case c3 => exact rfl); (case c4 => exact rfl); k_whole; intro g g2 L' h1 tk1 cells1 aG st2 F2 N2 Y2 B2 X2 T2 l1; (try k_lt l1); k_cells Y2; (try simp only [List.cons_append, List.nil_append] at N2); (try dsimp only); (refine wp_hide ?_); intro Q7 hQ7)
  rename_i oA oB dA dB
  repeat' ((fail_if_success (with_reducible (first | show wpAny _ _ (eval (Expr.ListComp _ _ _ _) _) _ _ _ | show wpAny _ _ (call (Value.type _) _) _ _ _ | show wpAny _ _ (exec (Stmt.Assign _ (Expr.ListComp _ _ _ _) _) _) _ _ _ | show wpAny _ _ (exec (Stmt.For _ _ _ _ _) _) _ _ _))); first | (with_reducible refine execs_hide ?_; intro Q9 hQ9 hR9) | (with_reducible refine hQ9 _ ?_; clear hQ9 hR9; (try clear Q9)) | ((with_reducible refine' hR9 _ _ ?hk9 ?_); (case hk9 => exact nofun); clear hQ9 hR9; (try clear Q9)) | (with_reducible refine hQ8 _ _ ?_; clear hQ8; (try clear Q8); (try dsimp only)) | (with_reducible refine hQ8 _ _ _ ?_; clear hQ8; (try clear Q8); (try dsimp only)) | (with_reducible refine hQ7 _ _ ?_; clear hQ7; (try clear Q7); (try dsimp only)) | (k_unfold; (try dsimp only)) | walk_at "my step" | fail "no step")
  with_reducible rename News g2 _ _ _ => N5
  with_reducible rename Fr g2 _ _ _ => F5
  refine' Assign_ListComp_any F5 ?k1 ?k2 ?k3 ?k4 ?k5 ?k6 ?k7 ?k8 ?_
  case k1 => rfl
  case k2 => with_unfolding_all rfl
  case k3 => with_unfolding_all rfl
  case k4 => decide
  case k5 => rfl
  case k6 => decide
  case k7 => rfl
  case k8 => rfl
  repeat' ((fail_if_success (with_reducible (first | show wpAny _ _ (pyIter _) _ _ _))); first | (with_reducible refine execs_hide ?_; intro Q9 hQ9 hR9) | (with_reducible refine hQ9 _ ?_; clear hQ9 hR9; (try clear Q9)) | ((with_reducible refine' hR9 _ _ ?hk9 ?_); (case hk9 => exact nofun); clear hQ9 hR9; (try clear Q9)) | (with_reducible refine hQ8 _ _ ?_; clear hQ8; (try clear Q8); (try dsimp only)) | (with_reducible refine hQ8 _ _ _ ?_; clear hQ8; (try clear Q8); (try dsimp only)) | (with_reducible refine hQ7 _ _ ?_; clear hQ7; (try clear Q7); (try dsimp only)) | (k_unfold; (try dsimp only)) | walk_at "my step" | fail "no step")
  refine' compAt_list _ ?k1 ?k2 ?k3 F5 N5 (its := vs.toArray) (k := wn) ?k5 ?k6 ?k7 (cstep0 (J := fun i ys => IntsAre ys ((ws.take i).map fun x => wtOf c0 p q x.cps.toList)) ?k8) (cfin0 ?k9)
  case k1 => rfl
  case k2 => rfl
  case k3 => rfl
  case k5 => k_mem
  case k6 => rw [List.size_toArray, strs_len hvs]; exact Nat.le_trans hwl (Nat.le_of_ble_eq_true rfl)
  case k7 => exact ⟨rfl, .nil⟩
  case k8 =>
    intro i ys own C oC D m₂ h₁ tk₁ E' hi hV hC hJ FF NN
    refine hideP ?_
    intro P9 kP9
    obtain ⟨v, hv, hx⟩ := hV
    obtain ⟨z, tz, rfl, hz⟩ := strs_at hvs (by simpa using hv)
    refine kP9 ?_
    clear kP9 P9
    refine tests_nil ?_
    dsimp only [if_true]
    dsimp only [List.cons_append] at NN ⊢
    repeat' ((fail_if_success (with_reducible (first | show wpAny _ _ (pyIter _) _ _ _ | show wpAny _ _ (call (Value.ref _) _) _ _ _))); first | (with_reducible refine execs_hide ?_; intro Q9 hQ9 hR9) | (with_reducible refine hQ9 _ ?_; clear hQ9 hR9; (try clear Q9)) | ((with_reducible refine' hR9 _ _ ?hk9 ?_); (case hk9 => exact nofun); clear hQ9 hR9; (try clear Q9)) | (with_reducible refine hQ8 _ _ ?_; clear hQ8; (try clear Q8); (try dsimp only)) | (with_reducible refine hQ8 _ _ _ ?_; clear hQ8; (try clear Q8); (try dsimp only)) | (with_reducible refine hQ7 _ _ ?_; clear hQ7; (try clear Q7); (try dsimp only)) | (k_unfold; (try dsimp only)) | walk_at "my step" | fail "no step")
    have hzb := hlet z (List.mem_of_getElem? hz)
    refine' c_weight (x := z) (pn := 0) ?k1 ?k2 ?k3 ?k4 ?k5 ?kf ?k6 ?k7 ?k8 ?x1 ?x2 ?x3 ?x4 ?x5 ?_
    case k1 => k_asm
    case k2 => k_asm
    case k3 => k_asm
    case k4 => exact NN
    case k5 => k_asm
    case kf => exact rfl
    case k6 => exact rfl
    case k7 => ktr_room
    case k8 => ktr_units
    case x1 => k_mem
    case x2 => exact hnm
    case x3 => exact hne
    case x4 => exact hzb.2.2
    case x5 => exact hzb.2.1
    intro t9 h9 tk9 F9 N9
    repeat' ((fail_if_success (with_reducible (first | show wpAny _ _ (pyIter _) _ _ _ | show wpAny _ _ (call (Value.ref _) _) _ _ _))); first | (with_reducible refine execs_hide ?_; intro Q9 hQ9 hR9) | (with_reducible refine hQ9 _ ?_; clear hQ9 hR9; (try clear Q9)) | ((with_reducible refine' hR9 _ _ ?hk9 ?_); (case hk9 => exact nofun); clear hQ9 hR9; (try clear Q9)) | (with_reducible refine hQ8 _ _ ?_; clear hQ8; (try clear Q8); (try dsimp only)) | (with_reducible refine hQ8 _ _ _ ?_; clear hQ8; (try clear Q8); (try dsimp only)) | (with_reducible refine hQ7 _ _ ?_; clear hQ7; (try clear Q7); (try dsimp only)) | (k_unfold; (try dsimp only)) | walk_at "my step" | fail "no step")
    refine PEnd.mk F9 N9 ?_
    rw [List.take_add_one, hz]
    simpa using IntsAre.append hJ (.cons _ t9 .nil)
  case k9 =>
    intro g ys hJ D6 h6 tk6 F6 N6 n6
    dsimp only
    rw [List.size_toArray, strs_len hvs, List.take_length] at hJ
    repeat' ((fail_if_success (with_reducible (first | show wpAny _ _ (eval (Expr.ListComp _ _ _ _) _) _ _ _ | show wpAny _ _ (call (Value.type _) _) _ _ _ | show wpAny _ _ (exec (Stmt.Assign _ (Expr.ListComp _ _ _ _) _) _) _ _ _ | show wpAny _ _ (exec (Stmt.For _ _ _ _ _) _) _ _ _ | show wpAny _ _ (call (Value.ref _) _) _ _ _))); first | (with_reducible refine execs_hide ?_; intro Q9 hQ9 hR9) | (with_reducible refine hQ9 _ ?_; clear hQ9 hR9; (try clear Q9)) | ((with_reducible refine' hR9 _ _ ?hk9 ?_); (case hk9 => exact nofun); clear hQ9 hR9; (try clear Q9)) | (with_reducible refine hQ8 _ _ ?_; clear hQ8; (try clear Q8); (try dsimp only)) | (with_reducible refine hQ8 _ _ _ ?_; clear hQ8; (try clear Q8); (try dsimp only)) | (with_reducible refine hQ7 _ _ ?_; clear hQ7; (try clear Q7); (try dsimp only)) | (k_unfold; (try dsimp only)) | walk_at "my step" | fail "no step")
    with_reducible rename Fr g2 _ _ _ => F7
    with_reducible rename News g2 _ _ _ => N7
    refine' Assign_ListComp_any F7 ?k1 ?k2 ?k3 ?k4 ?k5 ?k6 ?k7 ?k8 ?_
    case k1 => rfl
    case k2 => with_unfolding_all rfl
    case k3 => with_unfolding_all rfl
    case k4 => decide
    case k5 => rfl
    case k6 => decide
    case k7 => rfl
    case k8 => rfl
    repeat' ((fail_if_success (with_reducible (first | show wpAny _ _ (pyIter _) _ _ _ | show wpAny _ _ (call (Value.ref _) _) _ _ _))); first | (with_reducible refine execs_hide ?_; intro Q9 hQ9 hR9) | (with_reducible refine hQ9 _ ?_; clear hQ9 hR9; (try clear Q9)) | ((with_reducible refine' hR9 _ _ ?hk9 ?_); (case hk9 => exact nofun); clear hQ9 hR9; (try clear Q9)) | (with_reducible refine hQ8 _ _ ?_; clear hQ8; (try clear Q8); (try dsimp only)) | (with_reducible refine hQ8 _ _ _ ?_; clear hQ8; (try clear Q8); (try dsimp only)) | (with_reducible refine hQ7 _ _ ?_; clear hQ7; (try clear Q7); (try dsimp only)) | (k_unfold; (try dsimp only)) | walk_at "my step" | fail "no step")
    refine' c_laps (vs := vs) (ws := ws) (wn := wn) (c0 := c0) (c1 := c1) ?k1 ?k2 ?k3 ?k4 ?k5 ?kf ?k6 ?k7 ?k8 ?x1 ?x2 ?x3 ?x4 ?x5 ?x6 ?_
    case k1 => k_asm
    case k2 => k_asm
    case k3 => k_asm
    case k4 => exact N7
    case k5 => k_asm
    case kf => exact rfl
    case k6 => exact rfl
    case k7 => ktr_room
    case k8 => ktr_units
    case x1 => k_mem
    case x2 => exact hvs
    case x3 => exact hwl
    case x4 => exact hlet
    case x5 => exact hc0
    case x6 => exact hc1
    intro la ds nl tl h9 tk9 F9 N9 hla hin hds
    repeat' ((fail_if_success (with_reducible (first | show wpAny _ _ (pyIter _) _ _ _ | show wpAny _ _ (call (Value.ref _) _) _ _ _))); first | (with_reducible refine execs_hide ?_; intro Q9 hQ9 hR9) | (with_reducible refine hQ9 _ ?_; clear hQ9 hR9; (try clear Q9)) | ((with_reducible refine' hR9 _ _ ?hk9 ?_); (case hk9 => exact nofun); clear hQ9 hR9; (try clear Q9)) | (with_reducible refine hQ8 _ _ ?_; clear hQ8; (try clear Q8); (try dsimp only)) | (with_reducible refine hQ8 _ _ _ ?_; clear hQ8; (try clear Q8); (try dsimp only)) | (with_reducible refine hQ7 _ _ ?_; clear hQ7; (try clear Q7); (try dsimp only)) | (k_unfold; (try dsimp only)) | walk_at "my step" | fail "no step")
    have N10 := nperm N9 (news' := [(la, lapO ds nl), (D6, listOf ys.toArray ys.length), (L' + 1 + 1, oA), (L' + 1, oB), (wa, listOf vs.toArray wn), (pa, tupO [Value.int p tp, .int q tq])] ++ tl) (by ((repeat (refine allc (by ((repeat (first | exact List.Mem.head _ | refine List.Mem.tail _ ?_ | assumption | (refine List.mem_append_left _ ?_; assumption) | refine List.mem_append_right _ ?_)); done)) ?_)); first | exact List.forall_mem_nil _ | (intro z9 h9; (repeat (first | exact h9 | refine List.Mem.tail _ ?_ | exact List.mem_append_left _ h9 | refine List.mem_append_right _ ?_)); done)))
    have hds3 : ds.length ≤ 36 := laps_len hlet hwl hds
    refine' compAt_list3 (ds := ds) (k := nl) (LqJ [(la, lapO ds nl), (D6, listOf ys.toArray ys.length), (L' + 1 + 1, oA), (L' + 1, oB), (wa, listOf vs.toArray wn), (pa, tupO [Value.int p tp, .int q tq])] (fun d => (d.i, d.j, wtOf c0 p q d.x.cps.toList)) ds) ?m1 ?m2 ?m3 ?m4 ?m5 ?m6 ?m7 ?m8 F9 N10 ?m9 ?m10 ?m11 ?m12 ?m13 ?m14
    case m1 => rfl
    case m2 => rfl
    case m3 => rfl
    case m4 => rfl
    case m5 => rfl
    case m6 => decide
    case m7 => decide
    case m8 => decide
    case m9 => ((repeat (first | exact List.Mem.head _ | refine List.Mem.tail _ ?_ | assumption | (refine List.mem_append_left _ ?_; assumption) | refine List.mem_append_right _ ?_)); done)
    case m10 => exact fun d hd => by have h9 := hin d hd; ((repeat (first | exact List.Mem.head _ | refine List.Mem.tail _ ?_ | assumption | (refine List.mem_append_left _ ?_; assumption) | refine List.mem_append_right _ ?_)); done)
    case m11 => exact Nat.le_trans hds3 (Nat.le_of_ble_eq_true rfl)
    case m12 => exact ⟨[], tl, rfl, rfl, rfl, fun _ h => (nomatch h)⟩
    case m13 =>
      intro g3 i ys3 news₁ own C oC D m₂ h₁ tk₁ E' wr hi hV hC hJ3 off hw3 FF NN
      refine hideP ?_
      intro P9 kP9
      obtain ⟨es, tl', rfl, rfl, hes, hein⟩ := hJ3
      obtain ⟨d, hd, hxa, hxb, hxc⟩ := hV
      refine kP9 ?_
      clear kP9 P9
      refine tests_nil ?_
      dsimp only [if_true]
      have hlets : (∀ c ∈ d.x.cps.toList, c = c0 ∨ c = c1) ∧ d.x.cps.size ≤ 4 := laps_let hlet hds (List.mem_of_getElem? hd)
      have NN0 := NN
      dsimp only [List.cons_append, List.nil_append] at NN ⊢
      repeat' ((fail_if_success (with_reducible (first | show wpAny _ _ (pyIter _) _ _ _ | show wpAny _ _ (call (Value.ref _) _) _ _ _))); first | (with_reducible refine execs_hide ?_; intro Q9 hQ9 hR9) | (with_reducible refine hQ9 _ ?_; clear hQ9 hR9; (try clear Q9)) | ((with_reducible refine' hR9 _ _ ?hk9 ?_); (case hk9 => exact nofun); clear hQ9 hR9; (try clear Q9)) | (with_reducible refine hQ8 _ _ ?_; clear hQ8; (try clear Q8); (try dsimp only)) | (with_reducible refine hQ8 _ _ _ ?_; clear hQ8; (try clear Q8); (try dsimp only)) | (with_reducible refine hQ7 _ _ ?_; clear hQ7; (try clear Q7); (try dsimp only)) | (k_unfold; (try dsimp only)) | walk_at "my step" | fail "no step")
      refine' c_weight (x := d.x) (pn := 0) ?k1 ?k2 ?k3 ?k4 ?k5 ?kf ?k6 ?k7 ?k8 ?x1 ?x2 ?x3 ?x4 ?x5 ?_
      case k1 => k_asm
      case k2 => k_asm
      case k3 => k_asm
      case k4 => exact NN
      case k5 => k_asm
      case kf => exact rfl
      case k6 => exact rfl
      case k7 => ktr_room
      case k8 => ktr_units
      case x1 => k_mem
      case x2 => exact hnm
      case x3 => exact hne
      case x4 => exact hlets.1
      case x5 => exact hlets.2
      intro t13 h13 tk13 F13 N13
      repeat' ((fail_if_success (with_reducible (first | show wpAny _ _ (pyIter _) _ _ _ | show wpAny _ _ (call (Value.ref _) _) _ _ _))); first | (with_reducible refine execs_hide ?_; intro Q9 hQ9 hR9) | (with_reducible refine hQ9 _ ?_; clear hQ9 hR9; (try clear Q9)) | ((with_reducible refine' hR9 _ _ ?hk9 ?_); (case hk9 => exact nofun); clear hQ9 hR9; (try clear Q9)) | (with_reducible refine hQ8 _ _ ?_; clear hQ8; (try clear Q8); (try dsimp only)) | (with_reducible refine hQ8 _ _ _ ?_; clear hQ8; (try clear Q8); (try dsimp only)) | (with_reducible refine hQ7 _ _ ?_; clear hQ7; (try clear Q7); (try dsimp only)) | (k_unfold; (try dsimp only)) | walk_at "my step" | fail "no step")
      rename_i D14 _ F14 N14 l14
      refine cend_at F14 (a := [(la, lapO ds nl), (D6, listOf ys.toArray ys.length), (L' + 1 + 1, oA), (L' + 1, oB), (wa, listOf vs.toArray wn), (pa, tupO [Value.int p tp, .int q tq])]) (b := tl') N14 hw3 ?_ off ⟨es ++ [⟨D14, d.i, d.j, wtOf c0 p q d.x.cps.toList, d.ti, d.tj, t13⟩], _, rfl, by rw [List.map_append]; rfl, ?_, ?_⟩
      · intro p hp
        refine Nat.ne_of_lt (kst_ltOf (l := (C, oC) :: (D, listOf (es.map Lq.v).toArray (es.map Lq.v).length) :: ([(la, lapO ds nl), (D6, listOf ys.toArray ys.length), (L' + 1 + 1, oA), (L' + 1, oB), (wa, listOf vs.toArray wn), (pa, tupO [Value.int _ tp, .int q tq])] ++ tl' ++ own)) l14 p hp)
      · rw [List.map_append, hes, List.take_add_one, hd]
        simp
      · intro e he
        rcases List.mem_append.mp he with he | he
        · exact List.mem_cons_of_mem _ (hein e he)
        · rw [List.mem_singleton.mp he]; exact List.mem_cons_self
    case m14 =>
      rintro g3 ys3 nw3 ⟨es, tl', rfl, rfl, hes, hein⟩ D14 h14 tk14 F14 N14 n14
      dsimp only
      rw [List.take_length] at hes
      have N15 := nperm N14 (news' := [(D14, laqO es (es.map Lq.v).length), (D6, listOf ys.toArray ys.length), (L' + 1 + 1, oA), (L' + 1, oB), (wa, listOf vs.toArray wn), (pa, tupO [Value.int p tp, .int q tq])] ++ tl') (by ((repeat (refine allc (by ((repeat (first | exact List.Mem.head _ | refine List.Mem.tail _ ?_ | assumption | (refine List.mem_append_left _ ?_; assumption) | refine List.mem_append_right _ ?_)); done)) ?_)); first | exact List.forall_mem_nil _ | (intro z9 h9; (repeat (first | exact h9 | refine List.Mem.tail _ ?_ | exact List.mem_append_left _ h9 | refine List.mem_append_right _ ?_)); done)))
      clear N14
      repeat' ((fail_if_success (with_reducible (first | show wpAny _ _ (eval (Expr.ListComp _ _ _ _) _) _ _ _ | show wpAny _ _ (call (Value.type _) _) _ _ _ | show wpAny _ _ (exec (Stmt.Assign _ (Expr.ListComp _ _ _ _) _) _) _ _ _ | show wpAny _ _ (exec (Stmt.For _ _ _ _ _) _) _ _ _ | show wpAny _ _ (call (Value.ref _) _) _ _ _))); first | (with_reducible refine execs_hide ?_; intro Q9 hQ9 hR9) | (with_reducible refine hQ9 _ ?_; clear hQ9 hR9; (try clear Q9)) | ((with_reducible refine' hR9 _ _ ?hk9 ?_); (case hk9 => exact nofun); clear hQ9 hR9; (try clear Q9)) | (with_reducible refine hQ8 _ _ ?_; clear hQ8; (try clear Q8); (try dsimp only)) | (with_reducible refine hQ8 _ _ _ ?_; clear hQ8; (try clear Q8); (try dsimp only)) | (with_reducible refine hQ7 _ _ ?_; clear hQ7; (try clear Q7); (try dsimp only)) | (k_unfold; (try dsimp only)) | walk_at "my step" | fail "no step")
      refine' ListComp_any F14 ?j1 ?j2 ?j3 ?j4 ?_
      case j1 => with_unfolding_all rfl
      case j2 => decide
      case j3 => rfl
      case j4 => decide
      repeat' ((fail_if_success (with_reducible (first | show wpAny _ _ (pyIter _) _ _ _))); first | (with_reducible refine execs_hide ?_; intro Q9 hQ9 hR9) | (with_reducible refine hQ9 _ ?_; clear hQ9 hR9; (try clear Q9)) | ((with_reducible refine' hR9 _ _ ?hk9 ?_); (case hk9 => exact nofun); clear hQ9 hR9; (try clear Q9)) | (with_reducible refine hQ8 _ _ ?_; clear hQ8; (try clear Q8); (try dsimp only)) | (with_reducible refine hQ8 _ _ _ ?_; clear hQ8; (try clear Q8); (try dsimp only)) | (with_reducible refine hQ7 _ _ ?_; clear hQ7; (try clear Q7); (try dsimp only)) | (k_unfold; (try dsimp only)) | walk_at "my step" | fail "no step")
      refine' compAt_list (RwJ [(D14, laqO es (es.map Lq.v).length), (D6, listOf ys.toArray ys.length), (L' + 1 + 1, oA), (L' + 1, oB), (wa, listOf vs.toArray wn), (pa, tupO [Value.int p tp, .int q tq])] tl') ?j1 ?j2 ?j3 (by assumption) N15 (its := vs.toArray) (k := wn) ?j5 ?j6 ?j7 ?j8 ?j9
      case j1 => rfl
      case j2 => rfl
      case j3 => rfl
      case j5 => ((repeat (first | exact List.Mem.head _ | refine List.Mem.tail _ ?_ | assumption | (refine List.mem_append_left _ ?_; assumption) | refine List.mem_append_right _ ?_)); done)
      case j6 => rw [List.size_toArray, strs_len hvs]; exact Nat.le_trans hwl (Nat.le_of_ble_eq_true rfl)
      case j7 => exact ⟨[], rfl, rfl, rfl, .nil, fun _ h => (nomatch h)⟩
      case j8 =>
        intro g4 i ys4 news₁ own C oC D m₂ h₁ tk₁ E' wr hi hV hC hJ4 off hw4 FF NN
        refine hideP ?_
        intro P9 kP9
        obtain ⟨as, rfl, rfl, hal, has, hao⟩ := hJ4
        refine kP9 ?_
        clear kP9 P9
        refine tests_nil ?_
        dsimp only [if_true]
        dsimp only [List.cons_append, List.nil_append] at NN ⊢
        repeat' ((fail_if_success (with_reducible (first | show wpAny _ _ (pyIter _) _ _ _ | show wpAny _ _ (call (Value.ref _) _) _ _ _))); first | (with_reducible refine execs_hide ?_; intro Q9 hQ9 hR9) | (with_reducible refine hQ9 _ ?_; clear hQ9 hR9; (try clear Q9)) | ((with_reducible refine' hR9 _ _ ?hk9 ?_); (case hk9 => exact nofun); clear hQ9 hR9; (try clear Q9)) | (with_reducible refine hQ8 _ _ ?_; clear hQ8; (try clear Q8); (try dsimp only)) | (with_reducible refine hQ8 _ _ _ ?_; clear hQ8; (try clear Q8); (try dsimp only)) | (with_reducible refine hQ7 _ _ ?_; clear hQ7; (try clear Q7); (try dsimp only)) | (k_unfold; (try dsimp only)) | walk_at "my step" | fail "no step")
        rename_i x9 _ F16 N16 l16
        have hlt : ∀ z ∈ (C, oC) :: (D, listOf (as.map Value.ref).toArray (as.map Value.ref).length) :: ([(D14, laqO es (es.map Lq.v).length), (D6, listOf ys.toArray ys.length), (L' + 1 + 1, oA), (L' + 1, oB), (wa, listOf vs.toArray wn), (pa, tupO [Value.int p tp, .int q tq])] ++ (as.map row0 ++ tl' ++ own)), z.1 < x9 := kst_ltOf l16
        refine cend_at F16 (a := [(D14, laqO es (es.map Lq.v).length), (D6, listOf ys.toArray ys.length), (L' + 1 + 1, oA), (L' + 1, oB), (wa, listOf vs.toArray wn), (pa, tupO [Value.int p tp, .int q tq])] ++ as.map row0) (b := tl') (ox := listOf ([] : List Value).toArray 0) (nperm N16 fun z hz => ?_) hw4 (fun z hz => Nat.ne_of_lt (hlt z ?_)) (fun z hz => off z ?_) ⟨as ++ [x9], ?_, ?_, ?_, ?_, ?_⟩
        · simp only [List.append_assoc, List.cons_append, List.nil_append] at hz ⊢; exact hz
        · simp only [List.append_assoc, List.cons_append, List.nil_append] at hz ⊢; exact hz
        · simp only [List.append_assoc, List.cons_append, List.nil_append] at hz ⊢; exact hz
        · rw [List.map_append]; simp only [List.append_assoc, List.map_cons, List.map_nil, List.cons_append, List.nil_append]
        · rw [List.map_append]; rfl
        · rw [List.length_append, hal]; rfl
        · refine List.nodup_append.mpr ⟨has, by simp, fun a ha b hb => ?_⟩
          rw [List.mem_singleton.mp hb]
          exact Nat.ne_of_lt (hlt (row0 a) (.tail _ (.tail _ (List.mem_append_right _ (List.mem_append_left _ (List.mem_append_left _ (List.mem_map_of_mem ha)))))))
        · intro a ha z hz
          rcases List.mem_append.mp ha with ha | ha
          · exact hao a ha z hz
          · rw [List.mem_singleton.mp ha]
            rcases List.mem_append.mp hz with hz | hz
            · exact Nat.ne_of_lt (hlt z (.tail _ (.tail _ (List.mem_append_left _ hz))))
            · exact Nat.ne_of_lt (hlt z (.tail _ (.tail _ (List.mem_append_right _ (List.mem_append_left _ (List.mem_append_right _ hz))))))
      case j9 =>
        rintro g4 ys4 nw4 ⟨as, rfl, rfl, hal, has, hao⟩ D16 h16 tk16 F16 N16 n16
        dsimp only
        repeat' ((fail_if_success (with_reducible (first | show wpAny _ _ (eval (Expr.ListComp _ _ _ _) _) _ _ _ | show wpAny _ _ (call (Value.type _) _) _ _ _ | show wpAny _ _ (exec (Stmt.Assign _ (Expr.ListComp _ _ _ _) _) _) _ _ _ | show wpAny _ _ (exec (Stmt.For _ _ _ _ _) _) _ _ _ | show wpAny _ _ (call (Value.ref _) _) _ _ _))); first | (with_reducible refine execs_hide ?_; intro Q9 hQ9 hR9) | (with_reducible refine hQ9 _ ?_; clear hQ9 hR9; (try clear Q9)) | ((with_reducible refine' hR9 _ _ ?hk9 ?_); (case hk9 => exact nofun); clear hQ9 hR9; (try clear Q9)) | (with_reducible refine hQ8 _ _ ?_; clear hQ8; (try clear Q8); (try dsimp only)) | (with_reducible refine hQ8 _ _ _ ?_; clear hQ8; (try clear Q8); (try dsimp only)) | (with_reducible refine hQ7 _ _ ?_; clear hQ7; (try clear Q7); (try dsimp only)) | (k_unfold; (try dsimp only)) | walk_at "my step" | fail "no step")
        rename_i cb _ lcb D17 _ ld17 _ _ _ F17 N17
        have N18 := nperm N17 (news' := (cb, listOf ([] : List Value).toArray 0) :: ([(D16, listOf (as.map Value.ref).toArray (as.map Value.ref).length), (D14, laqO es (es.map Lq.v).length), (D6, listOf ys.toArray ys.length), (L' + 1 + 1, oA), (L' + 1, oB), (wa, listOf vs.toArray wn), (pa, tupO [Value.int p tp, .int q tq])] ++ ((as.map fun a => (Rw.mk a [] 0)).map Rw.p ++ tl'))) (fun z hz => by
          rw [List.map_map] at hz
          rcases List.mem_cons.mp hz with rfl | hz
          · exact .tail _ (.head _)
          · exact .tail _ (.tail _ hz))
        have hls : es.map Lq.d = lsOf c0 p q ws := by rw [hes, lsOf, ← hds, List.map_map]; rfl
        with_unfolding_all refine' For_turns (by assumption) ?_
        repeat' ((fail_if_success (with_reducible (first | show wpAny _ _ (eval (Expr.ListComp _ _ _ _) _) _ _ _ | show wpAny _ _ (exec (Stmt.Assign _ (Expr.ListComp _ _ _ _) _) _) _ _ _ | show wpAny _ _ (exec (Stmt.For _ _ _ _ _) _) _ _ _ | show wpAny _ _ (pyIter _) _ _ _))); first | (with_reducible refine execs_hide ?_; intro Q9 hQ9 hR9) | (with_reducible refine hQ9 _ ?_; clear hQ9 hR9; (try clear Q9)) | ((with_reducible refine' hR9 _ _ ?hk9 ?_); (case hk9 => exact nofun); clear hQ9 hR9; (try clear Q9)) | (with_reducible refine hQ8 _ _ ?_; clear hQ8; (try clear Q8); (try dsimp only)) | (with_reducible refine hQ8 _ _ _ ?_; clear hQ8; (try clear Q8); (try dsimp only)) | (with_reducible refine hQ7 _ _ ?_; clear hQ7; (try clear Q7); (try dsimp only)) | (k_unfold; (try dsimp only)) | walk_at "my step" | fail "no step")
        rename_i hR F19 N19 _
        with_unfolding_all refine turns_range (n := top + 1) (by rfl) F19 N19 hR ?rsm ?rn ?_
        case rsm => exact small_one (by decide) (by decide) (by (first | lia | omega)) (by (first | lia | omega))
        case rn => rw [rangeSize_nat]; (first | lia | omega)
        intro I1 lI1
        have hasI1 : ∀ a ∈ as, a < I1 := fun a ha => lI1 (row0 a) (.tail _ (List.mem_append_right [_, _, _, _, _, _, _] (List.mem_append_left _ (List.mem_map_of_mem (f := Rw.p) (List.mem_map_of_mem (f := fun a => Rw.mk a [] 0) ha)))))
        refine' itemsRest_h (ctJ F19 cb [(D16, listOf (as.map Value.ref).toArray (as.map Value.ref).length), (D14, laqO es (es.map Lq.v).length), (D6, listOf ys.toArray ys.length), (L' + 1 + 1, oA), (L' + 1, oB), (wa, listOf vs.toArray wn), (pa, tupO [Value.int p tp, .int q tq])] tl' as C K [(Str.ofString "clusters", Value.ref D16), (Str.ofString "counts", .ref cb), (Str.ofString "laps", .ref D14), (Str.ofString "weights", .ref D6), (Str.ofString "top", .int (top : Int) tT)] [Str.ofString "total", Str.ofString "place", Str.ofString "row", Str.ofString "value", Str.ofString "late", Str.ofString "early", Str.ofString "rest", Str.ofString "count", Str.ofString "price", Str.ofString "size"] I1) ?ok ?oturn ?ofin _ 0 _ _ rfl (Nat.zero_le _) ?o0
        case o0 =>
          refine ⟨as.map fun a => (Rw.mk a [] 0), [], 0, rfl, by rw [List.map_map]; exact List.map_id as, ?_, .nil, by ((try dsimp only); (repeat (refine allc (by first | with_unfolding_all rfl | (refine' lkT ?q3 ?q4 ?q5; (case q3 => assumption); (case q4 => with_unfolding_all rfl); (case q5 => with_unfolding_all rfl))) ?_)); exact List.forall_mem_nil _), fun _ _ _ => rfl⟩
          intro q r hr
          rw [if_neg (Nat.not_lt_zero _)]
          rw [List.getElem?_map] at hr
          obtain ⟨a, _, rfl⟩ := Option.map_eq_some_iff.mp hr
          exact .nil
        case ok =>
          rintro i m' news' _
          trivial
        case oturn =>
          intro tt0 a mA newsA vA hhA tkkA haA' hJ9 hvA Fz Q8 hQ8
          ktu_objs
          obtain ⟨rs, cv, nb, rfl, hrs, hrows, hcv, hzpsA, hzmA⟩ := hJ9
          have haA : (rangeItms 0 (top + 1))[tt0]? = some a := haA'
          have htl : tt0 < top + 1 := by
            have := (List.getElem?_eq_some_iff.mp haA).1
            rwa [rangeItms_len] at this
          rw [rangeItms_get htl] at haA
          obtain rfl := Option.some.inj haA
          obtain ⟨ttA, rfl⟩ := hvA
          repeat' ((fail_if_success (with_reducible (first | show wpAny _ _ (eval (Expr.ListComp _ _ _ _) _) _ _ _ | show wpAny _ _ (call (Value.type _) _) _ _ _ | show wpAny _ _ (exec (Stmt.Assign _ (Expr.ListComp _ _ _ _) _) _) _ _ _ | show wpAny _ _ (exec (Stmt.For _ _ _ _ _) _) _ _ _ | show wpAny _ _ (subscriptTail _ _ (Value.ref _) _) _ _ _ | show UnrEndW _ _ _ _ _ _))); first | (with_reducible refine execs_hide ?_; intro Q9 hQ9 hR9) | (with_reducible refine hQ9 _ ?_; clear hQ9 hR9; (try clear Q9)) | ((with_reducible refine' hR9 _ _ ?hk9 ?_); (case hk9 => exact nofun); clear hQ9 hR9; (try clear Q9)) | (with_reducible refine hQ8 _ _ ?_; clear hQ8; (try clear Q8); (try dsimp only)) | (with_reducible refine hQ8 _ _ _ ?_; clear hQ8; (try clear Q8); (try dsimp only)) | (with_reducible refine hQ7 _ _ ?_; clear hQ7; (try clear Q7); (try dsimp only)) | (k_unfold; (try dsimp only)) | walk_at "my step" | fail "no step")
          with_unfolding_all refine' For_turns (by assumption) ?_
          repeat' ((fail_if_success (with_reducible (first | show wpAny _ _ (eval (Expr.ListComp _ _ _ _) _) _ _ _ | show wpAny _ _ (call (Value.type _) _) _ _ _ | show wpAny _ _ (exec (Stmt.Assign _ (Expr.ListComp _ _ _ _) _) _) _ _ _ | show wpAny _ _ (exec (Stmt.For _ _ _ _ _) _) _ _ _ | show wpAny _ _ (pyIter _) _ _ _))); first | (with_reducible refine execs_hide ?_; intro Q9 hQ9 hR9) | (with_reducible refine hQ9 _ ?_; clear hQ9 hR9; (try clear Q9)) | ((with_reducible refine' hR9 _ _ ?hk9 ?_); (case hk9 => exact nofun); clear hQ9 hR9; (try clear Q9)) | (with_reducible refine hQ8 _ _ ?_; clear hQ8; (try clear Q8); (try dsimp only)) | (with_reducible refine hQ8 _ _ _ ?_; clear hQ8; (try clear Q8); (try dsimp only)) | (with_reducible refine hQ7 _ _ ?_; clear hQ7; (try clear Q7); (try dsimp only)) | (k_unfold; (try dsimp only)) | walk_at "my step" | fail "no step")
          rename_i oR hoR _ _ F20 N20
          have hE : rs.map Rw.a = (as.map fun a => (Rw.mk a [] 0)).map Rw.a := by rw [hrs, List.map_map]; exact (List.map_id as).symm
          have hlt1 := led_lt (o' := listOf cv.toArray nb) lI1 hE
          have N21 := nperm N20 (news' := (cb, listOf cv.toArray nb) :: (((I1, oR) :: [(D16, listOf (as.map Value.ref).toArray (as.map Value.ref).length), (D14, laqO es (es.map Lq.v).length), (D6, listOf ys.toArray ys.length), (L' + 1 + 1, oA), (L' + 1, oB), (wa, listOf vs.toArray wn), (pa, tupO [Value.int p tp, .int q tq])]) ++ (rs.map Rw.p ++ tl'))) (fun z hz => nperm_swap hz)
          have hm21 : (D16, listOf (as.map Value.ref).toArray (as.map Value.ref).length) ∈ nsOf N21 := .tail _ (.tail _ (.head _))
          with_unfolding_all refine ktu_enum (n := (as.map Value.ref).length) (by rfl) F20 N21 hm21 (by rfl) (by rfl) rfl ?_
          intro I2 lI2
          refine' itemsRest_h (crJ F20 (cb, listOf cv.toArray nb) ((I1, oR) :: [(D16, listOf (as.map Value.ref).toArray (as.map Value.ref).length), (D14, laqO es (es.map Lq.v).length), (D6, listOf ys.toArray ys.length), (L' + 1 + 1, oA), (L' + 1, oB), (wa, listOf vs.toArray wn), (pa, tupO [Value.int p tp, .int q tq])]) tl' as C tt0 ((Str.ofString "total", Value.int (0 + (tt0 : Int)) ttA) :: [(Str.ofString "clusters", Value.ref D16), (Str.ofString "counts", .ref cb), (Str.ofString "laps", .ref D14), (Str.ofString "weights", .ref D6), (Str.ofString "top", .int (top : Int) tT)]) [Str.ofString "place", Str.ofString "row", Str.ofString "value", Str.ofString "late", Str.ofString "early", Str.ofString "rest"] I2) ?mk ?mturn ?mfin _ 0 _ _ rfl (Nat.zero_le _) ?m0
          case m0 => exact ⟨rs, rfl, hrs, hrows, by ((try dsimp only); (repeat (refine allc (by first | with_unfolding_all rfl | (refine' lkT ?q3 ?q4 ?q5; (case q3 => assumption); (case q4 => with_unfolding_all rfl); (case q5 => with_unfolding_all rfl))) ?_)); exact List.forall_mem_nil _), fun _ _ _ => rfl⟩
          case mk =>
            rintro i m' news' ⟨rs9, rfl, _⟩
            exact ⟨.tail _ (.tail _ (.head _)), trivial⟩
          case mfin =>
            rintro m9 news9 hh9 tkk9 ⟨rs9, rfl, hrs9, hrows9, hzps9, hzm9⟩ Fz Nz
            rw [enumItems_length, List.length_map, ← hrs9, List.length_map] at hrows9
            have hrowsN := hrows9.all
            repeat' ((fail_if_success (with_reducible (first | show wpAny _ _ (eval (Expr.ListComp _ _ _ _) _) _ _ _ | show wpAny _ _ (call (Value.type _) _) _ _ _ | show wpAny _ _ (exec (Stmt.Assign _ (Expr.ListComp _ _ _ _) _) _) _ _ _ | show wpAny _ _ (exec (Stmt.For _ _ _ _ _) _) _ _ _ | show wpAny _ _ (subscriptTail _ _ (Value.ref _) _) _ _ _ | show UnrEndW _ _ _ _ _ _ | show wpAny _ _ (call (Value.builtin _) _) _ _ _ | show wpAny _ _ (eval (Expr.IfExp _ _ _ _) _) _ _ _))); first | (with_reducible refine execs_hide ?_; intro Q9 hQ9 hR9) | (with_reducible refine hQ9 _ ?_; clear hQ9 hR9; (try clear Q9)) | ((with_reducible refine' hR9 _ _ ?hk9 ?_); (case hk9 => exact nofun); clear hQ9 hR9; (try clear Q9)) | (with_reducible refine hQ8 _ _ ?_; clear hQ8; (try clear Q8); (try dsimp only)) | (with_reducible refine hQ8 _ _ _ ?_; clear hQ8; (try clear Q8); (try dsimp only)) | (with_reducible refine hQ7 _ _ ?_; clear hQ7; (try clear Q7); (try dsimp only)) | (k_unfold; (try dsimp only)) | walk_at "my step" | fail "no step")
            with_reducible rename Fr g2 _ _ _ => F21
            refine cut_int (v := if ((tt0 : Nat) : Int) = 0 then 1 else 0) F21 Nz ?vcut2 ?_
            case vcut2 =>
              repeat' ((fail_if_success (with_reducible (first | show wpAny _ _ (eval (Expr.ListComp _ _ _ _) _) _ _ _ | show wpAny _ _ (call (Value.type _) _) _ _ _ | show wpAny _ _ (exec (Stmt.Assign _ (Expr.ListComp _ _ _ _) _) _) _ _ _ | show wpAny _ _ (exec (Stmt.For _ _ _ _ _) _) _ _ _ | show wpAny _ _ (subscriptTail _ _ (Value.ref _) _) _ _ _ | show UnrEndW _ _ _ _ _ _))); first | (with_reducible refine execs_hide ?_; intro Q9 hQ9 hR9) | (with_reducible refine hQ9 _ ?_; clear hQ9 hR9; (try clear Q9)) | ((with_reducible refine' hR9 _ _ ?hk9 ?_); (case hk9 => exact nofun); clear hQ9 hR9; (try clear Q9)) | (with_reducible refine hQ8 _ _ ?_; clear hQ8; (try clear Q8); (try dsimp only)) | (with_reducible refine hQ8 _ _ _ ?_; clear hQ8; (try clear Q8); (try dsimp only)) | (with_reducible refine hQ7 _ _ ?_; clear hQ7; (try clear Q7); (try dsimp only)) | (k_unfold; (try dsimp only)) | walk_at "my step" | fail "no step")
              · exact CutI.mk (by rw [if_pos (by (first | lia | omega))]) (by assumption) Nz
              · exact CutI.mk (by rw [if_neg (by (first | lia | omega))]) (by assumption) Nz
            intro tv22 h22 tk22 F22 N23
            clear F21
            repeat' ((fail_if_success (with_reducible (first | show wpAny _ _ (eval (Expr.ListComp _ _ _ _) _) _ _ _ | show wpAny _ _ (call (Value.type _) _) _ _ _ | show wpAny _ _ (exec (Stmt.Assign _ (Expr.ListComp _ _ _ _) _) _) _ _ _ | show wpAny _ _ (exec (Stmt.For _ _ _ _ _) _) _ _ _ | show wpAny _ _ (subscriptTail _ _ (Value.ref _) _) _ _ _ | show UnrEndW _ _ _ _ _ _ | show wpAny _ _ (call (Value.builtin _) _) _ _ _ | show wpAny _ _ (eval (Expr.IfExp _ _ _ _) _) _ _ _))); first | (with_reducible refine execs_hide ?_; intro Q9 hQ9 hR9) | (with_reducible refine hQ9 _ ?_; clear hQ9 hR9; (try clear Q9)) | ((with_reducible refine' hR9 _ _ ?hk9 ?_); (case hk9 => exact nofun); clear hQ9 hR9; (try clear Q9)) | (with_reducible refine hQ8 _ _ ?_; clear hQ8; (try clear Q8); (try dsimp only)) | (with_reducible refine hQ8 _ _ _ ?_; clear hQ8; (try clear Q8); (try dsimp only)) | (with_reducible refine hQ7 _ _ ?_; clear hQ7; (try clear Q7); (try dsimp only)) | (k_unfold; (try dsimp only)) | walk_at "my step" | fail "no step")
            with_unfolding_all refine' For_turns (by assumption) ?_
            repeat' ((fail_if_success (with_reducible (first | show wpAny _ _ (eval (Expr.ListComp _ _ _ _) _) _ _ _ | show wpAny _ _ (exec (Stmt.Assign _ (Expr.ListComp _ _ _ _) _) _) _ _ _ | show wpAny _ _ (exec (Stmt.For _ _ _ _ _) _) _ _ _ | show wpAny _ _ (pyIter _) _ _ _))); first | (with_reducible refine execs_hide ?_; intro Q9 hQ9 hR9) | (with_reducible refine hQ9 _ ?_; clear hQ9 hR9; (try clear Q9)) | ((with_reducible refine' hR9 _ _ ?hk9 ?_); (case hk9 => exact nofun); clear hQ9 hR9; (try clear Q9)) | (with_reducible refine hQ8 _ _ ?_; clear hQ8; (try clear Q8); (try dsimp only)) | (with_reducible refine hQ8 _ _ _ ?_; clear hQ8; (try clear Q8); (try dsimp only)) | (with_reducible refine hQ7 _ _ ?_; clear hQ7; (try clear Q7); (try dsimp only)) | (k_unfold; (try dsimp only)) | walk_at "my step" | fail "no step")
            with_reducible rename Fr g2 _ _ _ => F31
            with_reducible rename News g2 _ _ _ => N33
            have hm33 : (pa, tupO [Value.int p tp, .int q tq]) ∈ nsOf N33 := by ((repeat (first | exact List.Mem.head _ | refine List.Mem.tail _ ?_ | assumption | (refine List.mem_append_left _ ?_; assumption) | refine List.mem_append_right _ ?_)); done)
            with_unfolding_all refine iter_tupTurns (lo := tupO [Value.int p tp, .int q tq]) (vs := [Value.int p tp, .int q tq]) (n := 0) (by rfl) F31 N33 hm33 (by rfl) (by rfl) ?_
            intro I3 lI3
            refine' itemsRest_h (forV F31 N33 ((Str.ofString "total", Value.int (0 + (tt0 : Int)) ttA) :: [(Str.ofString "clusters", Value.ref D16), (Str.ofString "counts", .ref cb), (Str.ofString "laps", .ref D14), (Str.ofString "weights", .ref D6), (Str.ofString "top", .int (top : Int) tT)]) [Str.ofString "price"] (Str.ofString "count") (cntP K [p, q] tt0)) ?pk ?pturn ?pfin _ 0 _ _ rfl (Nat.zero_le _) ?p0
            case p0 => exact ⟨tv22, rfl, by rw [cntP_zero]; ((try dsimp only); (repeat (refine allc (by first | with_unfolding_all rfl | (refine' lkT ?q3 ?q4 ?q5; (case q3 => assumption); (case q4 => with_unfolding_all rfl); (case q5 => with_unfolding_all rfl))) ?_)); exact List.forall_mem_nil _), fun _ _ _ => rfl⟩
            case pk =>
              rintro i m' news' ⟨_, rfl, _⟩
              exact ⟨hm33, trivial⟩
            case pturn =>
              intro i a mB newsB vB hhB tkkB haB hJ9 hvB Fz Q8 hQ8
              ktu_objs
              obtain ⟨tvB, rfl, hzpsB, hzmB⟩ := hJ9
              obtain ⟨pr, tpr, hpr, hev⟩ : ∃ pr tpr, [p, q][i]? = some pr ∧ a = .val (.int pr tpr) := by
                have hi : i = 0 ∨ i = 1 := by
                  have := (List.getElem?_eq_some_iff.mp haB).1
                  simp at this
                  (first | lia | omega)
                rcases hi with rfl | rfl
                · exact ⟨p, tp, rfl, (Option.some.inj haB).symm⟩
                · exact ⟨q, tq, rfl, (Option.some.inj haB).symm⟩
              subst hev
              obtain rfl : vB = .int pr tpr := hvB
              have hpr1 : 1 ≤ pr := S.price pr (List.mem_of_getElem? hpr)
              repeat' ((fail_if_success (with_reducible (first | show wpAny _ _ (eval (Expr.ListComp _ _ _ _) _) _ _ _ | show wpAny _ _ (call (Value.type _) _) _ _ _ | show wpAny _ _ (exec (Stmt.Assign _ (Expr.ListComp _ _ _ _) _) _) _ _ _ | show wpAny _ _ (exec (Stmt.For _ _ _ _ _) _) _ _ _ | show wpAny _ _ (subscriptTail _ _ (Value.ref _) _) _ _ _ | show UnrEndW _ _ _ _ _ _ | show wpAny _ _ (eval (Expr.IfExp _ _ _ _) _) _ _ _))); first | (with_reducible refine execs_hide ?_; intro Q9 hQ9 hR9) | (with_reducible refine hQ9 _ ?_; clear hQ9 hR9; (try clear Q9)) | ((with_reducible refine' hR9 _ _ ?hk9 ?_); (case hk9 => exact nofun); clear hQ9 hR9; (try clear Q9)) | (with_reducible refine hQ8 _ _ ?_; clear hQ8; (try clear Q8); (try dsimp only)) | (with_reducible refine hQ8 _ _ _ ?_; clear hQ8; (try clear Q8); (try dsimp only)) | (with_reducible refine hQ7 _ _ ?_; clear hQ7; (try clear Q7); (try dsimp only)) | (k_unfold; (try dsimp only)) | walk_at "my step" | fail "no step")
              · have hle : pr ≤ (tt0 : Int) := by (first | lia | omega)
                obtain ⟨t1, ht1⟩ := ints_range hcv (i := (((tt0 : Nat) : Int) - pr).toNat) (by (first | lia | omega))
                with_reducible rename News g2 _ _ _ => N34
                refine lget (vs := cv) (n := nb) (v := .int (K (((tt0 : Nat) : Int) - pr).toNat) t1) N34 (.tail _ (.head _)) (by (first | lia | omega)) (by (first | lia | omega)) (by rw [Int.zero_add]; exact ht1) ?_
                repeat' ((fail_if_success (with_reducible (first | show wpAny _ _ (eval (Expr.ListComp _ _ _ _) _) _ _ _ | show wpAny _ _ (call (Value.type _) _) _ _ _ | show wpAny _ _ (exec (Stmt.Assign _ (Expr.ListComp _ _ _ _) _) _) _ _ _ | show wpAny _ _ (exec (Stmt.For _ _ _ _ _) _) _ _ _ | show wpAny _ _ (subscriptTail _ _ (Value.ref _) _) _ _ _ | show UnrEndW _ _ _ _ _ _ | show wpAny _ _ (eval (Expr.IfExp _ _ _ _) _) _ _ _))); first | (with_reducible refine execs_hide ?_; intro Q9 hQ9 hR9) | (with_reducible refine hQ9 _ ?_; clear hQ9 hR9; (try clear Q9)) | ((with_reducible refine' hR9 _ _ ?hk9 ?_); (case hk9 => exact nofun); clear hQ9 hR9; (try clear Q9)) | (with_reducible refine hQ8 _ _ ?_; clear hQ8; (try clear Q8); (try dsimp only)) | (with_reducible refine hQ8 _ _ _ ?_; clear hQ8; (try clear Q8); (try dsimp only)) | (with_reducible refine hQ7 _ _ ?_; clear hQ7; (try clear Q7); (try dsimp only)) | (k_unfold; (try dsimp only)) | walk_at "my step" | fail "no step")
                with_reducible rename News g2 _ _ _ => N35
                refine' unr_end _ (by assumption) N35 (fun z hz => List.mem_append_left _ hz) (fun z hz => List.mem_append_right [_] hz) (off1s fun z hz => Nat.ne_of_lt (lI3 z hz)) ⟨?tq2, rfl, ?tw2, ?tz2⟩
                case tw2 =>
                  rw [cntP_yes hpr hle]
                  ((try dsimp only); (repeat (refine allc (by first | with_unfolding_all rfl | (refine' lkT ?q3 ?q4 ?q5; (case q3 => assumption); (case q4 => with_unfolding_all rfl); (case q5 => with_unfolding_all rfl))) ?_)); exact List.forall_mem_nil _)
                case tz2 => ((repeat (first | exact sm_rfl | refine sm_store (by kernel_rfl) ?_ | (refine' sm_trans ?q6 (by kernel_rfl) ?_; (case q6 => assumption)))); done)
              · with_reducible rename News g2 _ _ _ => N34
                refine unr_end _ (by assumption) N34 (fun z hz => List.mem_append_left _ hz) (fun z hz => List.mem_append_right [_] hz) (off1s fun z hz => Nat.ne_of_lt (lI3 z hz)) ⟨tvB, rfl, ?_, by ((repeat (first | exact sm_rfl | refine sm_store (by kernel_rfl) ?_ | (refine' sm_trans ?q6 (by kernel_rfl) ?_; (case q6 => assumption)))); done)⟩
                rw [cntP_no hpr (by (first | lia | omega))]
                ((try dsimp only); (repeat (refine allc (by first | with_unfolding_all rfl | (refine' lkT ?q3 ?q4 ?q5; (case q3 => assumption); (case q4 => with_unfolding_all rfl); (case q5 => with_unfolding_all rfl))) ?_)); exact List.forall_mem_nil _)
            case pfin =>
              rintro mB newsB hhB tkkB ⟨tvB, rfl, hzpsB, hzmB⟩ Fz Nz5
              repeat' ((fail_if_success (with_reducible (first | show wpAny _ _ (eval (Expr.ListComp _ _ _ _) _) _ _ _ | show wpAny _ _ (call (Value.type _) _) _ _ _ | show wpAny _ _ (exec (Stmt.Assign _ (Expr.ListComp _ _ _ _) _) _) _ _ _ | show wpAny _ _ (exec (Stmt.For _ _ _ _ _) _) _ _ _ | show wpAny _ _ (subscriptTail _ _ (Value.ref _) _) _ _ _ | show UnrEndW _ _ _ _ _ _ | show wpAny _ _ (call (Value.builtin _) _) _ _ _ | show wpAny _ _ (eval (Expr.IfExp _ _ _ _) _) _ _ _))); first | (with_reducible refine execs_hide ?_; intro Q9 hQ9 hR9) | (with_reducible refine hQ9 _ ?_; clear hQ9 hR9; (try clear Q9)) | ((with_reducible refine' hR9 _ _ ?hk9 ?_); (case hk9 => exact nofun); clear hQ9 hR9; (try clear Q9)) | (with_reducible refine hQ8 _ _ ?_; clear hQ8; (try clear Q8); (try dsimp only)) | (with_reducible refine hQ8 _ _ _ ?_; clear hQ8; (try clear Q8); (try dsimp only)) | (with_reducible refine hQ7 _ _ ?_; clear hQ7; (try clear Q7); (try dsimp only)) | (k_unfold; (try dsimp only)) | walk_at "my step" | fail "no step")
              with_unfolding_all refine' For_turns (by assumption) ?_
              repeat' ((fail_if_success (with_reducible (first | show wpAny _ _ (eval (Expr.ListComp _ _ _ _) _) _ _ _ | show wpAny _ _ (exec (Stmt.Assign _ (Expr.ListComp _ _ _ _) _) _) _ _ _ | show wpAny _ _ (exec (Stmt.For _ _ _ _ _) _) _ _ _ | show wpAny _ _ (pyIter _) _ _ _))); first | (with_reducible refine execs_hide ?_; intro Q9 hQ9 hR9) | (with_reducible refine hQ9 _ ?_; clear hQ9 hR9; (try clear Q9)) | ((with_reducible refine' hR9 _ _ ?hk9 ?_); (case hk9 => exact nofun); clear hQ9 hR9; (try clear Q9)) | (with_reducible refine hQ8 _ _ ?_; clear hQ8; (try clear Q8); (try dsimp only)) | (with_reducible refine hQ8 _ _ _ ?_; clear hQ8; (try clear Q8); (try dsimp only)) | (with_reducible refine hQ7 _ _ ?_; clear hQ7; (try clear Q7); (try dsimp only)) | (k_unfold; (try dsimp only)) | walk_at "my step" | fail "no step")
              with_reducible rename Fr g2 _ _ _ => F41
              with_reducible rename News g2 _ _ _ => N41
              have hm41 : (D16, listOf (as.map Value.ref).toArray (as.map Value.ref).length) ∈ nsOf N41 := .tail _ (.tail _ (.head _))
              with_unfolding_all refine iter_listTurns (lo := listOf (as.map Value.ref).toArray (as.map Value.ref).length) (vs := as.map Value.ref) (n := (as.map Value.ref).length) (by rfl) F41 N41 hm41 (by rfl) (by rfl) ?_
              intro I4 lI4
              refine' itemsRest_h (forV F41 N41 ((Str.ofString "total", Value.int (0 + (tt0 : Int)) ttA) :: [(Str.ofString "clusters", Value.ref D16), (Str.ofString "counts", .ref cb), (Str.ofString "laps", .ref D14), (Str.ofString "weights", .ref D6), (Str.ofString "top", .int (top : Int) tT)]) [Str.ofString "row", Str.ofString "size"] (Str.ofString "count") (cntC C K [p, q] tt0)) ?rk ?rturn ?rfin _ 0 _ _ rfl (Nat.zero_le _) ?r0
              case r0 => exact ⟨tvB, rfl, by rw [cntC_zero]; ((try dsimp only); (repeat (refine allc (by first | with_unfolding_all rfl | (refine' lkT ?q3 ?q4 ?q5; (case q3 => assumption); (case q4 => with_unfolding_all rfl); (case q5 => with_unfolding_all rfl))) ?_)); exact List.forall_mem_nil _), fun _ _ _ => rfl⟩
              case rk =>
                rintro i m' news' ⟨_, rfl, _⟩
                exact ⟨hm41, trivial⟩
              case rturn =>
                intro j a mC newsC vC hhC tkkC haC hJ9 hvC Fz Q8 hQ8
                ktu_objs
                obtain ⟨tvC, rfl, hzpsC, hzmC⟩ := hJ9
                have hjl : j < as.length := by
                  have := (List.getElem?_eq_some_iff.mp haC).1
                  simpa using this
                obtain ⟨r1, hr1⟩ : ∃ r, rs9[j]? = some r := ⟨rs9[j]'(by rw [← List.length_map (f := Rw.a), hrs9]; exact hjl), List.getElem?_eq_getElem _⟩
                have haD : ((as.map Value.ref).map Itm.val)[j]? = some (.val (.ref r1.a)) := by
                  rw [← hrs9, List.map_map, List.map_map, List.getElem?_map, hr1]; rfl
                obtain rfl : a = .val (.ref r1.a) := Option.some.inj (haC.symm.trans haD)
                obtain rfl : vC = .ref r1.a := hvC
                have hrl := hrowsN j r1 hr1
                rw [if_neg (Nat.not_lt_zero _)] at hrl
                repeat' ((fail_if_success (with_reducible (first | show wpAny _ _ (eval (Expr.ListComp _ _ _ _) _) _ _ _ | show wpAny _ _ (call (Value.type _) _) _ _ _ | show wpAny _ _ (exec (Stmt.Assign _ (Expr.ListComp _ _ _ _) _) _) _ _ _ | show wpAny _ _ (exec (Stmt.For _ _ _ _ _) _) _ _ _ | show wpAny _ _ (subscriptTail _ _ (Value.ref _) _) _ _ _ | show UnrEndW _ _ _ _ _ _ | show wpAny _ _ (call (Value.builtin _) _) _ _ _ | show wpAny _ _ (eval (Expr.IfExp _ _ _ _) _) _ _ _))); first | (with_reducible refine execs_hide ?_; intro Q9 hQ9 hR9) | (with_reducible refine hQ9 _ ?_; clear hQ9 hR9; (try clear Q9)) | ((with_reducible refine' hR9 _ _ ?hk9 ?_); (case hk9 => exact nofun); clear hQ9 hR9; (try clear Q9)) | (with_reducible refine hQ8 _ _ ?_; clear hQ8; (try clear Q8); (try dsimp only)) | (with_reducible refine hQ8 _ _ _ ?_; clear hQ8; (try clear Q8); (try dsimp only)) | (with_reducible refine hQ7 _ _ ?_; clear hQ7; (try clear Q7); (try dsimp only)) | (k_unfold; (try dsimp only)) | walk_at "my step" | fail "no step")
                with_unfolding_all refine' For_turns (by assumption) ?_
                repeat' ((fail_if_success (with_reducible (first | show wpAny _ _ (eval (Expr.ListComp _ _ _ _) _) _ _ _ | show wpAny _ _ (exec (Stmt.Assign _ (Expr.ListComp _ _ _ _) _) _) _ _ _ | show wpAny _ _ (exec (Stmt.For _ _ _ _ _) _) _ _ _ | show wpAny _ _ (pyIter _) _ _ _))); first | (with_reducible refine execs_hide ?_; intro Q9 hQ9 hR9) | (with_reducible refine hQ9 _ ?_; clear hQ9 hR9; (try clear Q9)) | ((with_reducible refine' hR9 _ _ ?hk9 ?_); (case hk9 => exact nofun); clear hQ9 hR9; (try clear Q9)) | (with_reducible refine hQ8 _ _ ?_; clear hQ8; (try clear Q8); (try dsimp only)) | (with_reducible refine hQ8 _ _ _ ?_; clear hQ8; (try clear Q8); (try dsimp only)) | (with_reducible refine hQ7 _ _ ?_; clear hQ7; (try clear Q7); (try dsimp only)) | (k_unfold; (try dsimp only)) | walk_at "my step" | fail "no step")
                rename_i hR5 F51 N51 _
                with_unfolding_all refine turns_range (n := tt0) (by rfl) F51 N51 hR5 ?rsm5 ?rn5 ?_
                case rsm5 => exact small_one (by decide) (by decide) (by (first | lia | omega)) (by (first | lia | omega))
                case rn5 => rw [Int.zero_add, show ((tt0 : Int) + 1) = ((tt0 + 1 : Nat) : Int) by (first | lia | omega), rangeSize_nat]; (first | lia | omega)
                intro I5 lI5
                refine' itemsRest_h (forV F51 N51 ((Str.ofString "total", Value.int (0 + (tt0 : Int)) ttA) :: (Str.ofString "row", .ref r1.a) :: [(Str.ofString "clusters", Value.ref D16), (Str.ofString "counts", .ref cb), (Str.ofString "laps", .ref D14), (Str.ofString "weights", .ref D6), (Str.ofString "top", .int (top : Int) tT)]) [Str.ofString "size"] (Str.ofString "count") (cntS C K [p, q] tt0 j)) ?sk ?sturn ?sfin _ 0 _ _ rfl (Nat.zero_le _) ?s0
                case s0 => exact ⟨tvC, rfl, by rw [cntS_zero]; ((try dsimp only); (repeat (refine allc (by first | with_unfolding_all rfl | (refine' lkT ?q3 ?q4 ?q5; (case q3 => assumption); (case q4 => with_unfolding_all rfl); (case q5 => with_unfolding_all rfl))) ?_)); exact List.forall_mem_nil _), fun _ _ _ => rfl⟩
                case sk =>
                  rintro i m' news' ⟨_, rfl, _⟩
                  trivial
                case sturn =>
                  intro s0 a mD newsD vD hhD tkkD haD' hJ9 hvD Fz Q8 hQ8
                  ktu_objs
                  obtain ⟨tvD, rfl, hzpsD, hzmD⟩ := hJ9
                  have haD : (rangeItms 1 tt0)[s0]? = some a := haD'
                  have hsl : s0 < tt0 := by
                    have := (List.getElem?_eq_some_iff.mp haD).1
                    rwa [rangeItms_len] at this
                  rw [rangeItms_get hsl] at haD
                  obtain rfl := Option.some.inj haD
                  obtain ⟨ttD, rfl⟩ := hvD
                  repeat' ((fail_if_success (with_reducible (first | show wpAny _ _ (eval (Expr.ListComp _ _ _ _) _) _ _ _ | show wpAny _ _ (call (Value.type _) _) _ _ _ | show wpAny _ _ (exec (Stmt.Assign _ (Expr.ListComp _ _ _ _) _) _) _ _ _ | show wpAny _ _ (exec (Stmt.For _ _ _ _ _) _) _ _ _ | show wpAny _ _ (subscriptTail _ _ (Value.ref _) _) _ _ _ | show UnrEndW _ _ _ _ _ _ | show wpAny _ _ (call (Value.builtin _) _) _ _ _ | show wpAny _ _ (eval (Expr.IfExp _ _ _ _) _) _ _ _ | show wpAny _ _ (binaryOp .Mult _ _) _ _ _))); first | (with_reducible refine execs_hide ?_; intro Q9 hQ9 hR9) | (with_reducible refine hQ9 _ ?_; clear hQ9 hR9; (try clear Q9)) | ((with_reducible refine' hR9 _ _ ?hk9 ?_); (case hk9 => exact nofun); clear hQ9 hR9; (try clear Q9)) | (with_reducible refine hQ8 _ _ ?_; clear hQ8; (try clear Q8); (try dsimp only)) | (with_reducible refine hQ8 _ _ _ ?_; clear hQ8; (try clear Q8); (try dsimp only)) | (with_reducible refine hQ7 _ _ ?_; clear hQ7; (try clear Q7); (try dsimp only)) | (k_unfold; (try dsimp only)) | walk_at "my step" | fail "no step")
                  obtain ⟨t1, ht1⟩ := ints_range hrl (i := s0 + 1) (by (first | lia | omega))
                  with_reducible rename News g2 _ _ _ => N52
                  refine lget (vs := r1.l) (n := r1.n) (v := .int (C j (s0 + 1)) t1) N52 ?mr1 (by (first | lia | omega)) (by (first | lia | omega)) (by rw [show (1 + (s0 : Int)).toNat = s0 + 1 by (first | lia | omega)]; exact ht1) ?_
                  case mr1 => exact List.mem_append_right [_, _, _, _, _, _, _, _, _, _, _] (List.mem_append_left _ (List.mem_map_of_mem (f := Rw.p) (List.mem_of_getElem? hr1)))
                  repeat' ((fail_if_success (with_reducible (first | show wpAny _ _ (eval (Expr.ListComp _ _ _ _) _) _ _ _ | show wpAny _ _ (call (Value.type _) _) _ _ _ | show wpAny _ _ (exec (Stmt.Assign _ (Expr.ListComp _ _ _ _) _) _) _ _ _ | show wpAny _ _ (exec (Stmt.For _ _ _ _ _) _) _ _ _ | show wpAny _ _ (subscriptTail _ _ (Value.ref _) _) _ _ _ | show UnrEndW _ _ _ _ _ _ | show wpAny _ _ (call (Value.builtin _) _) _ _ _ | show wpAny _ _ (eval (Expr.IfExp _ _ _ _) _) _ _ _ | show wpAny _ _ (binaryOp .Mult _ _) _ _ _))); first | (with_reducible refine execs_hide ?_; intro Q9 hQ9 hR9) | (with_reducible refine hQ9 _ ?_; clear hQ9 hR9; (try clear Q9)) | ((with_reducible refine' hR9 _ _ ?hk9 ?_); (case hk9 => exact nofun); clear hQ9 hR9; (try clear Q9)) | (with_reducible refine hQ8 _ _ ?_; clear hQ8; (try clear Q8); (try dsimp only)) | (with_reducible refine hQ8 _ _ _ ?_; clear hQ8; (try clear Q8); (try dsimp only)) | (with_reducible refine hQ7 _ _ ?_; clear hQ7; (try clear Q7); (try dsimp only)) | (k_unfold; (try dsimp only)) | walk_at "my step" | fail "no step")
                  obtain ⟨t2, ht2⟩ := ints_range hcv (i := tt0 - (s0 + 1)) (by (first | lia | omega))
                  refine lget (vs := cv) (n := nb) (v := .int (K (tt0 - (s0 + 1))) t2) N52 (.tail _ (.tail _ (.head _))) (by (first | lia | omega)) (by (first | lia | omega)) (by rw [show (0 + (tt0 : Int) - (1 + (s0 : Int))).toNat = tt0 - (s0 + 1) by (first | lia | omega)]; exact ht2) ?_
                  repeat' ((fail_if_success (with_reducible (first | show wpAny _ _ (eval (Expr.ListComp _ _ _ _) _) _ _ _ | show wpAny _ _ (call (Value.type _) _) _ _ _ | show wpAny _ _ (exec (Stmt.Assign _ (Expr.ListComp _ _ _ _) _) _) _ _ _ | show wpAny _ _ (exec (Stmt.For _ _ _ _ _) _) _ _ _ | show wpAny _ _ (subscriptTail _ _ (Value.ref _) _) _ _ _ | show UnrEndW _ _ _ _ _ _ | show wpAny _ _ (call (Value.builtin _) _) _ _ _ | show wpAny _ _ (eval (Expr.IfExp _ _ _ _) _) _ _ _ | show wpAny _ _ (binaryOp .Mult _ _) _ _ _))); first | (with_reducible refine execs_hide ?_; intro Q9 hQ9 hR9) | (with_reducible refine hQ9 _ ?_; clear hQ9 hR9; (try clear Q9)) | ((with_reducible refine' hR9 _ _ ?hk9 ?_); (case hk9 => exact nofun); clear hQ9 hR9; (try clear Q9)) | (with_reducible refine hQ8 _ _ ?_; clear hQ8; (try clear Q8); (try dsimp only)) | (with_reducible refine hQ8 _ _ _ ?_; clear hQ8; (try clear Q8); (try dsimp only)) | (with_reducible refine hQ7 _ _ ?_; clear hQ7; (try clear Q7); (try dsimp only)) | (k_unfold; (try dsimp only)) | walk_at "my step" | fail "no step")
                  refine PyProof.Rows.mul_int ?_ (mul_small (S.small _ (by (first | lia | omega))))
                  repeat' ((fail_if_success (with_reducible (first | show wpAny _ _ (eval (Expr.ListComp _ _ _ _) _) _ _ _ | show wpAny _ _ (call (Value.type _) _) _ _ _ | show wpAny _ _ (exec (Stmt.Assign _ (Expr.ListComp _ _ _ _) _) _) _ _ _ | show wpAny _ _ (exec (Stmt.For _ _ _ _ _) _) _ _ _ | show wpAny _ _ (subscriptTail _ _ (Value.ref _) _) _ _ _ | show UnrEndW _ _ _ _ _ _ | show wpAny _ _ (call (Value.builtin _) _) _ _ _ | show wpAny _ _ (eval (Expr.IfExp _ _ _ _) _) _ _ _ | show wpAny _ _ (binaryOp .Mult _ _) _ _ _))); first | (with_reducible refine execs_hide ?_; intro Q9 hQ9 hR9) | (with_reducible refine hQ9 _ ?_; clear hQ9 hR9; (try clear Q9)) | ((with_reducible refine' hR9 _ _ ?hk9 ?_); (case hk9 => exact nofun); clear hQ9 hR9; (try clear Q9)) | (with_reducible refine hQ8 _ _ ?_; clear hQ8; (try clear Q8); (try dsimp only)) | (with_reducible refine hQ8 _ _ _ ?_; clear hQ8; (try clear Q8); (try dsimp only)) | (with_reducible refine hQ7 _ _ ?_; clear hQ7; (try clear Q7); (try dsimp only)) | (k_unfold; (try dsimp only)) | walk_at "my step" | fail "no step")
                  with_reducible rename News g2 _ _ _ => N53
                  refine' unr_end _ (by assumption) N53 (fun z hz => List.mem_append_left _ hz) (fun z hz => List.mem_append_right [_] hz) (off1s fun z hz => Nat.ne_of_lt (lI5 z hz)) ⟨?tq3, rfl, ?tw3, ?tz3⟩
                  case tw3 =>
                    rw [cntS_next]
                    ((try dsimp only); (repeat (refine allc (by first | with_unfolding_all rfl | (refine' lkT ?q3 ?q4 ?q5; (case q3 => assumption); (case q4 => with_unfolding_all rfl); (case q5 => with_unfolding_all rfl))) ?_)); exact List.forall_mem_nil _)
                  case tz3 => ((repeat (first | exact sm_rfl | refine sm_store (by kernel_rfl) ?_ | (refine' sm_trans ?q6 (by kernel_rfl) ?_; (case q6 => assumption)))); done)
                case sfin =>
                  rintro mD newsD hhD tkkD ⟨tvD, rfl, hzpsD, hzmD⟩ Fz NzD
                  simp only [List.length_map, List.length_range] at hzpsD hzmD
                  repeat' ((fail_if_success (with_reducible (first | show wpAny _ _ (eval (Expr.ListComp _ _ _ _) _) _ _ _ | show wpAny _ _ (call (Value.type _) _) _ _ _ | show wpAny _ _ (exec (Stmt.Assign _ (Expr.ListComp _ _ _ _) _) _) _ _ _ | show wpAny _ _ (exec (Stmt.For _ _ _ _ _) _) _ _ _ | show wpAny _ _ (subscriptTail _ _ (Value.ref _) _) _ _ _ | show UnrEndW _ _ _ _ _ _ | show wpAny _ _ (call (Value.builtin _) _) _ _ _ | show wpAny _ _ (eval (Expr.IfExp _ _ _ _) _) _ _ _ | show wpAny _ _ (binaryOp .Mult _ _) _ _ _))); first | (with_reducible refine execs_hide ?_; intro Q9 hQ9 hR9) | (with_reducible refine hQ9 _ ?_; clear hQ9 hR9; (try clear Q9)) | ((with_reducible refine' hR9 _ _ ?hk9 ?_); (case hk9 => exact nofun); clear hQ9 hR9; (try clear Q9)) | (with_reducible refine hQ8 _ _ ?_; clear hQ8; (try clear Q8); (try dsimp only)) | (with_reducible refine hQ8 _ _ _ ?_; clear hQ8; (try clear Q8); (try dsimp only)) | (with_reducible refine hQ7 _ _ ?_; clear hQ7; (try clear Q7); (try dsimp only)) | (k_unfold; (try dsimp only)) | walk_at "my step" | fail "no step")
                  refine unr_end _ (by assumption) NzD (fun z hz => List.mem_append_left _ hz) (fun z hz => List.mem_append_right [_] hz) (off1s fun z hz => Nat.ne_of_lt (lI4 z hz)) ⟨tvD, rfl, ?_, by ((repeat (first | exact sm_rfl | refine sm_store (by kernel_rfl) ?_ | (refine' sm_trans ?q6 (by kernel_rfl) ?_; (case q6 => assumption)))); done)⟩
                  rw [cntS_all]
                  ((try dsimp only); (repeat (refine allc (by first | with_unfolding_all rfl | (refine' lkT ?q3 ?q4 ?q5; (case q3 => assumption); (case q4 => with_unfolding_all rfl); (case q5 => with_unfolding_all rfl))) ?_)); exact List.forall_mem_nil _)
              case rfin =>
                rintro mC newsC hhC tkkC ⟨tvC, rfl, hzpsC, hzmC⟩ Fz NzC
                have hK : cntC C K [p, q] tt0 ((as.map Value.ref).map Itm.val).length = K tt0 := by
                  rw [List.length_map, List.length_map, hal, List.size_toArray, strs_len hvs, cntC, cntP, S.k tt0 (by (first | lia | omega))]
                  congr 2
                  by_cases h0 : tt0 = 0
                  · rw [if_pos h0, if_pos (by (first | lia | omega))]
                  · rw [if_neg h0, if_neg (by (first | lia | omega))]
                rw [hK] at hzpsC hzmC
                repeat' ((fail_if_success (with_reducible (first | show wpAny _ _ (eval (Expr.ListComp _ _ _ _) _) _ _ _ | show wpAny _ _ (call (Value.type _) _) _ _ _ | show wpAny _ _ (exec (Stmt.Assign _ (Expr.ListComp _ _ _ _) _) _) _ _ _ | show wpAny _ _ (exec (Stmt.For _ _ _ _ _) _) _ _ _ | show wpAny _ _ (subscriptTail _ _ (Value.ref _) _) _ _ _ | show UnrEndW _ _ _ _ _ _ | show wpAny _ _ (call (Value.builtin _) _) _ _ _ | show wpAny _ _ (eval (Expr.IfExp _ _ _ _) _) _ _ _ | show wpAny _ _ (binaryOp .Mult _ _) _ _ _))); first | (with_reducible refine execs_hide ?_; intro Q9 hQ9 hR9) | (with_reducible refine hQ9 _ ?_; clear hQ9 hR9; (try clear Q9)) | ((with_reducible refine' hR9 _ _ ?hk9 ?_); (case hk9 => exact nofun); clear hQ9 hR9; (try clear Q9)) | (with_reducible refine hQ8 _ _ ?_; clear hQ8; (try clear Q8); (try dsimp only)) | (with_reducible refine hQ8 _ _ _ ?_; clear hQ8; (try clear Q8); (try dsimp only)) | (with_reducible refine hQ7 _ _ ?_; clear hQ7; (try clear Q7); (try dsimp only)) | (k_unfold; (try dsimp only)) | walk_at "my step" | fail "no step")
                with_reducible rename Fr g2 _ _ _ => F61
                have hcvl := hcv.length
                rw [List.length_map, List.length_range] at hcvl
                have hnecb : ∀ z ∈ (((I1, oR) :: [(D16, listOf (as.map Value.ref).toArray (as.map Value.ref).length), (D14, laqO es (es.map Lq.v).length), (D6, listOf ys.toArray ys.length), (L' + 1 + 1, oA), (L' + 1, oB), (wa, listOf vs.toArray wn), (pa, tupO [Value.int p tp, .int q tq])]) ++ (rs9.map Rw.p ++ tl')), z.1 ≠ cb := by
                  intro z hz
                  rcases List.mem_append.mp hz with hz | hz
                  · rcases List.mem_cons.mp hz with rfl | hz
                    · exact Nat.ne_of_gt (lI1 (cb, _) List.mem_cons_self)
                    · rcases List.mem_cons.mp hz with rfl | hz
                      · exact Nat.ne_of_lt lcb.1
                      · exact Nat.ne_of_lt (kst_ltOf lcb.2 z (List.mem_append_left _ hz))
                  · rcases List.mem_append.mp hz with hz | hz
                    · obtain ⟨r, hr, rfl⟩ := List.mem_map.mp hz
                      exact Nat.ne_of_lt (kst_ltOf lcb.2 (row0 r.a) (List.mem_append_right [_, _, _, _, _, _] (List.mem_append_left _ (List.mem_map_of_mem (hrs9 ▸ List.mem_map_of_mem hr)))))
                    · exact Nat.ne_of_lt (kst_ltOf lcb.2 z (List.mem_append_right [_, _, _, _, _, _] (List.mem_append_right _ hz)))
                refine lapp (s := ⟨_, _, _, _, _⟩) (vs := cv) (n := nb) F61 NzC hnecb (by (first | lia | omega)) fun h62 F62 N62 => ?_
                repeat' ((fail_if_success (with_reducible (first | show wpAny _ _ (eval (Expr.ListComp _ _ _ _) _) _ _ _ | show wpAny _ _ (call (Value.type _) _) _ _ _ | show wpAny _ _ (exec (Stmt.Assign _ (Expr.ListComp _ _ _ _) _) _) _ _ _ | show wpAny _ _ (exec (Stmt.For _ _ _ _ _) _) _ _ _ | show wpAny _ _ (subscriptTail _ _ (Value.ref _) _) _ _ _ | show UnrEndW _ _ _ _ _ _ | show wpAny _ _ (call (Value.builtin _) _) _ _ _ | show wpAny _ _ (eval (Expr.IfExp _ _ _ _) _) _ _ _ | show wpAny _ _ (binaryOp .Mult _ _) _ _ _))); first | (with_reducible refine execs_hide ?_; intro Q9 hQ9 hR9) | (with_reducible refine hQ9 _ ?_; clear hQ9 hR9; (try clear Q9)) | ((with_reducible refine' hR9 _ _ ?hk9 ?_); (case hk9 => exact nofun); clear hQ9 hR9; (try clear Q9)) | (with_reducible refine hQ8 _ _ ?_; clear hQ8; (try clear Q8); (try dsimp only)) | (with_reducible refine hQ8 _ _ _ ?_; clear hQ8; (try clear Q8); (try dsimp only)) | (with_reducible refine hQ7 _ _ ?_; clear hQ7; (try clear Q7); (try dsimp only)) | (k_unfold; (try dsimp only)) | walk_at "my step" | fail "no step")
                have hlt9 := led_lt (o' := listOf (cv ++ [Value.int (K tt0) tvC]).toArray (nb + 1)) (rs := rs9) lI1 (hrs9.trans (by rw [List.map_map]; exact (List.map_id as).symm))
                refine unr_end ((cb, listOf (cv ++ [Value.int (K tt0) tvC]).toArray (nb + 1)) :: ([(D16, listOf (as.map Value.ref).toArray (as.map Value.ref).length), (D14, laqO es (es.map Lq.v).length), (D6, listOf ys.toArray ys.length), (L' + 1 + 1, oA), (L' + 1, oB), (wa, listOf vs.toArray wn), (pa, tupO [Value.int p tp, .int q tq])] ++ (rs9.map Rw.p ++ tl'))) (by assumption) N62 (fun z hz => ?_) (fun z hz => ?_) (off1s fun z hz => Nat.ne_of_lt (hlt9 z hz)) ⟨rs9, _, _, rfl, hrs9, hrowsN, ints_range_snoc hcv rfl, by ((try dsimp only); (repeat (refine allc (by first | with_unfolding_all rfl | (refine' lkT ?q3 ?q4 ?q5; (case q3 => assumption); (case q4 => with_unfolding_all rfl); (case q5 => with_unfolding_all rfl))) ?_)); exact List.forall_mem_nil _), by ((repeat (first | exact sm_rfl | refine sm_store (by kernel_rfl) ?_ | (refine' sm_trans ?q6 (by kernel_rfl) ?_; (case q6 => assumption)))); done)⟩
                · rw [List.mem_singleton.mp hz]; exact .tail _ (.head _)
                · rcases List.mem_cons.mp hz with rfl | hz
                  · exact .head _
                  · exact .tail _ (.tail _ hz)
          case mturn =>
            intro p0 a m9 news9 v9 hh9 tkk9 ha9 hJ9 hv9 Fz Q8 hQ8
            ktu_objs
            obtain ⟨rs9, rfl, hrs9, hrows9, hzps9, hzm9⟩ := hJ9
            have hpl : p0 < as.length := by
              have := (List.getElem?_eq_some_iff.mp ha9).1
              rwa [enumItems_length, List.length_map] at this
            obtain ⟨r0, hr0⟩ : ∃ r, rs9[p0]? = some r := ⟨rs9[p0]'(by rw [← List.length_map (f := Rw.a), hrs9]; exact hpl), List.getElem?_eq_getElem _⟩
            have ha0 : (as.map Value.ref)[p0]? = some (.ref r0.a) := by
              rw [← hrs9, List.map_map, List.getElem?_map, hr0]; rfl
            have ha2 := enumItems_get (as.map Value.ref) 0 p0 ha0
            rw [ha9] at ha2
            obtain rfl := Option.some.inj ha2
            obtain ⟨T9, tt9, rfl, hTT9⟩ := hv9
            repeat' ((fail_if_success (with_reducible (first | show wpAny _ _ (eval (Expr.ListComp _ _ _ _) _) _ _ _ | show wpAny _ _ (call (Value.type _) _) _ _ _ | show wpAny _ _ (exec (Stmt.Assign _ (Expr.ListComp _ _ _ _) _) _) _ _ _ | show wpAny _ _ (exec (Stmt.For _ _ _ _ _) _) _ _ _ | show wpAny _ _ (subscriptTail _ _ (Value.ref _) _) _ _ _ | show UnrEndW _ _ _ _ _ _ | show wpAny _ _ (eval (Expr.IfExp _ _ _ _) _) _ _ _))); first | (with_reducible refine execs_hide ?_; intro Q9 hQ9 hR9) | (with_reducible refine hQ9 _ ?_; clear hQ9 hR9; (try clear Q9)) | ((with_reducible refine' hR9 _ _ ?hk9 ?_); (case hk9 => exact nofun); clear hQ9 hR9; (try clear Q9)) | (with_reducible refine hQ8 _ _ ?_; clear hQ8; (try clear Q8); (try dsimp only)) | (with_reducible refine hQ8 _ _ _ ?_; clear hQ8; (try clear Q8); (try dsimp only)) | (with_reducible refine hQ7 _ _ ?_; clear hQ7; (try clear Q7); (try dsimp only)) | (k_unfold; (try dsimp only)) | walk_at "my step" | fail "no step")
            with_reducible rename Fr g2 _ _ _ => F21
            with_reducible rename News g2 _ _ _ => N22
            have hpw : p0 < ws.length := by
              rw [hal, List.size_toArray, strs_len hvs] at hpl; exact hpl
            obtain ⟨w0, hw0⟩ : ∃ w0, (ws.map fun x => wtOf c0 p q x.cps.toList)[p0]? = some w0 := ⟨_, List.getElem?_eq_getElem (by rw [List.length_map]; exact hpw)⟩
            obtain ⟨tw, htw⟩ := hJ.get p0 w0 hw0
            refine cut_int (v := if ((tt0 : Nat) : Int) = w0 then -1 else 0) F21 N22 ?vcut ?_
            case vcut =>
              repeat' ((fail_if_success (with_reducible (first | show wpAny _ _ (eval (Expr.ListComp _ _ _ _) _) _ _ _ | show wpAny _ _ (call (Value.type _) _) _ _ _ | show wpAny _ _ (exec (Stmt.Assign _ (Expr.ListComp _ _ _ _) _) _) _ _ _ | show wpAny _ _ (exec (Stmt.For _ _ _ _ _) _) _ _ _ | show wpAny _ _ (subscriptTail _ _ (Value.ref _) _) _ _ _ | show UnrEndW _ _ _ _ _ _))); first | (with_reducible refine execs_hide ?_; intro Q9 hQ9 hR9) | (with_reducible refine hQ9 _ ?_; clear hQ9 hR9; (try clear Q9)) | ((with_reducible refine' hR9 _ _ ?hk9 ?_); (case hk9 => exact nofun); clear hQ9 hR9; (try clear Q9)) | (with_reducible refine hQ8 _ _ ?_; clear hQ8; (try clear Q8); (try dsimp only)) | (with_reducible refine hQ8 _ _ _ ?_; clear hQ8; (try clear Q8); (try dsimp only)) | (with_reducible refine hQ7 _ _ ?_; clear hQ7; (try clear Q7); (try dsimp only)) | (k_unfold; (try dsimp only)) | walk_at "my step" | fail "no step")
              refine lget (vs := ys) (v := .int w0 tw) N22 (by k_mem) (by (first | lia | omega)) (by (first | lia | omega)) (by rw [Int.toNat_natCast, Nat.zero_add]; exact htw) ?_
              repeat' ((fail_if_success (with_reducible (first | show wpAny _ _ (eval (Expr.ListComp _ _ _ _) _) _ _ _ | show wpAny _ _ (call (Value.type _) _) _ _ _ | show wpAny _ _ (exec (Stmt.Assign _ (Expr.ListComp _ _ _ _) _) _) _ _ _ | show wpAny _ _ (exec (Stmt.For _ _ _ _ _) _) _ _ _ | show wpAny _ _ (subscriptTail _ _ (Value.ref _) _) _ _ _ | show UnrEndW _ _ _ _ _ _))); first | (with_reducible refine execs_hide ?_; intro Q9 hQ9 hR9) | (with_reducible refine hQ9 _ ?_; clear hQ9 hR9; (try clear Q9)) | ((with_reducible refine' hR9 _ _ ?hk9 ?_); (case hk9 => exact nofun); clear hQ9 hR9; (try clear Q9)) | (with_reducible refine hQ8 _ _ ?_; clear hQ8; (try clear Q8); (try dsimp only)) | (with_reducible refine hQ8 _ _ _ ?_; clear hQ8; (try clear Q8); (try dsimp only)) | (with_reducible refine hQ7 _ _ ?_; clear hQ7; (try clear Q7); (try dsimp only)) | (k_unfold; (try dsimp only)) | walk_at "my step" | fail "no step")
              · exact CutI.mk (by rw [if_pos (by (first | lia | omega))]) (by assumption) N22
              · exact CutI.mk (by rw [if_neg (by (first | lia | omega))]) (by assumption) N22
            intro tv22 h22 tk22 F22 N23
            clear F21 N22
            repeat' ((fail_if_success (with_reducible (first | show wpAny _ _ (eval (Expr.ListComp _ _ _ _) _) _ _ _ | show wpAny _ _ (call (Value.type _) _) _ _ _ | show wpAny _ _ (exec (Stmt.Assign _ (Expr.ListComp _ _ _ _) _) _) _ _ _ | show wpAny _ _ (exec (Stmt.For _ _ _ _ _) _) _ _ _ | show wpAny _ _ (subscriptTail _ _ (Value.ref _) _) _ _ _ | show UnrEndW _ _ _ _ _ _ | show wpAny _ _ (eval (Expr.IfExp _ _ _ _) _) _ _ _))); first | (with_reducible refine execs_hide ?_; intro Q9 hQ9 hR9) | (with_reducible refine hQ9 _ ?_; clear hQ9 hR9; (try clear Q9)) | ((with_reducible refine' hR9 _ _ ?hk9 ?_); (case hk9 => exact nofun); clear hQ9 hR9; (try clear Q9)) | (with_reducible refine hQ8 _ _ ?_; clear hQ8; (try clear Q8); (try dsimp only)) | (with_reducible refine hQ8 _ _ _ ?_; clear hQ8; (try clear Q8); (try dsimp only)) | (with_reducible refine hQ7 _ _ ?_; clear hQ7; (try clear Q7); (try dsimp only)) | (k_unfold; (try dsimp only)) | walk_at "my step" | fail "no step")
            with_unfolding_all refine' For_turns (by assumption) ?_
            repeat' ((fail_if_success (with_reducible (first | show wpAny _ _ (eval (Expr.ListComp _ _ _ _) _) _ _ _ | show wpAny _ _ (exec (Stmt.Assign _ (Expr.ListComp _ _ _ _) _) _) _ _ _ | show wpAny _ _ (exec (Stmt.For _ _ _ _ _) _) _ _ _ | show wpAny _ _ (pyIter _) _ _ _))); first | (with_reducible refine execs_hide ?_; intro Q9 hQ9 hR9) | (with_reducible refine hQ9 _ ?_; clear hQ9 hR9; (try clear Q9)) | ((with_reducible refine' hR9 _ _ ?hk9 ?_); (case hk9 => exact nofun); clear hQ9 hR9; (try clear Q9)) | (with_reducible refine hQ8 _ _ ?_; clear hQ8; (try clear Q8); (try dsimp only)) | (with_reducible refine hQ8 _ _ _ ?_; clear hQ8; (try clear Q8); (try dsimp only)) | (with_reducible refine hQ7 _ _ ?_; clear hQ7; (try clear Q7); (try dsimp only)) | (k_unfold; (try dsimp only)) | walk_at "my step" | fail "no step")
            rename_i oE2 hE2 oL2 hL2 _ _ _ _ _ _ F23 N24
            have hm24 : (D14, laqO es (es.map Lq.v).length) ∈ nsOf N24 := by k_mem
            with_unfolding_all refine iter_listTurns (lo := laqO es (es.map Lq.v).length) (vs := es.map Lq.v) (n := (es.map Lq.v).length) (by rfl) F23 N24 hm24 (by rfl) (by rfl) ?_
            intro I3 lI3
            refine' itemsRest_h (forV F23 N24 ((Str.ofString "total", Value.int (0 + (tt0 : Int)) ttA) :: (Str.ofString "place", .int ((0 + p0 : Nat) : Int) tt9) :: (Str.ofString "row", .ref r0.a) :: [(Str.ofString "clusters", Value.ref D16), (Str.ofString "counts", .ref cb), (Str.ofString "laps", .ref D14), (Str.ofString "weights", .ref D6), (Str.ofString "top", .int (top : Int) tT)]) [Str.ofString "late", Str.ofString "early", Str.ofString "rest"] (Str.ofString "value") (valF w0 (lsOf c0 p q ws) C p0 tt0)) ?ik ?iturn ?ifin _ 0 _ _ rfl (Nat.zero_le _) ?i0
            case i0 => exact ⟨tv22, rfl, by rw [valF_zero]; ((try dsimp only); (repeat (refine allc (by first | with_unfolding_all rfl | (refine' lkT ?q3 ?q4 ?q5; (case q3 => assumption); (case q4 => with_unfolding_all rfl); (case q5 => with_unfolding_all rfl))) ?_)); exact List.forall_mem_nil _), fun _ _ _ => rfl⟩
            case ik =>
              rintro i m' news' ⟨_, rfl, _⟩
              exact ⟨hm24, trivial⟩
            case ifin =>
              rintro mB newsB hhB tkkB ⟨tvB, rfl, hzpsB, hzmB⟩ Fz Nz
              have Nr := nperm Nz (news' := [(r0.a, listOf r0.l.toArray r0.n)]) (fun z hz => by
                rw [List.mem_singleton.mp hz]
                exact List.mem_append_right [_, _, _, _, _, _, _, _, _, _, _] (List.mem_append_left _ (List.mem_map_of_mem (f := Rw.p) (List.mem_of_getElem? hr0))))
              repeat' ((fail_if_success (with_reducible (first | show wpAny _ _ (eval (Expr.ListComp _ _ _ _) _) _ _ _ | show wpAny _ _ (call (Value.type _) _) _ _ _ | show wpAny _ _ (exec (Stmt.Assign _ (Expr.ListComp _ _ _ _) _) _) _ _ _ | show wpAny _ _ (exec (Stmt.For _ _ _ _ _) _) _ _ _ | show wpAny _ _ (subscriptTail _ _ (Value.ref _) _) _ _ _ | show UnrEndW _ _ _ _ _ _ | show wpAny _ _ (call (Value.builtin _) _) _ _ _))); first | (with_reducible refine execs_hide ?_; intro Q9 hQ9 hR9) | (with_reducible refine hQ9 _ ?_; clear hQ9 hR9; (try clear Q9)) | ((with_reducible refine' hR9 _ _ ?hk9 ?_); (case hk9 => exact nofun); clear hQ9 hR9; (try clear Q9)) | (with_reducible refine hQ8 _ _ ?_; clear hQ8; (try clear Q8); (try dsimp only)) | (with_reducible refine hQ8 _ _ _ ?_; clear hQ8; (try clear Q8); (try dsimp only)) | (with_reducible refine hQ7 _ _ ?_; clear hQ7; (try clear Q7); (try dsimp only)) | (k_unfold; (try dsimp only)) | walk_at "my step" | fail "no step")
              have hval : valF w0 (lsOf c0 p q ws) C p0 tt0 ((es.map Lq.v).map Itm.val).length = C p0 tt0 := by
                rw [List.length_map, List.length_map, ← List.length_map (f := Lq.d), hls]
                exact (S.c p0 tt0 hpw (by (first | lia | omega)) w0 hw0).symm
              have hras : r0.a ∈ as := hrs9 ▸ List.mem_map_of_mem (List.mem_of_getElem? hr0)
              have hrI1 := hasI1 r0.a hras
              have hI12 : I1 < I2 := lI2 (I1, oR) (.tail _ (.head _))
              with_reducible rename Fr g2 _ _ _ => F29
              refine row_app (s := ⟨_, _, _, _, _⟩) (a := [(I2 + 1, oE2), (I2, oL2), (cb, listOf cv.toArray nb), (I1, oR)] ++ [(D16, listOf (as.map Value.ref).toArray (as.map Value.ref).length), (D14, laqO es (es.map Lq.v).length), (D6, listOf ys.toArray ys.length), (L' + 1 + 1, oA), (L' + 1, oB), (wa, listOf vs.toArray wn), (pa, tupO [Value.int p tp, .int q tq])]) (tl := tl') (rs := rs9) hr0 (by rw [hrs9]; exact has) F29 Nz ?ra ?rt ?rf fun h30 F30 N30 => ?_
              case ra =>
                simp only [List.cons_append, List.nil_append, List.forall_mem_cons]
                refine ⟨Nat.ne_of_gt (Nat.lt_trans hrI1 (Nat.lt_succ_of_lt hI12)), Nat.ne_of_gt (Nat.lt_trans hrI1 hI12), Nat.ne_of_gt (kst_ltOf lcb.2 (row0 r0.a) (List.mem_append_right [_, _, _, _, _, _] (List.mem_append_left _ (List.mem_map_of_mem hras)))), Nat.ne_of_gt hrI1, Ne.symm (n16 (row0 r0.a) (List.mem_append_right [_, _, _, _, _, _] (List.mem_append_left _ (List.mem_map_of_mem hras)))), ?_⟩
                have h9 := fun z hz => hao r0.a hras z (List.mem_append_left tl' hz)
                simpa only [List.forall_mem_cons] using h9
              case rt => exact fun z hz => hao r0.a hras z (List.mem_append_right _ hz)
              case rf =>
                have := (hrows9 p0 r0 hr0).length
                rw [if_neg (Nat.lt_irrefl _), List.length_map, List.length_range] at this
                (first | lia | omega)
              repeat' ((fail_if_success (with_reducible (first | show wpAny _ _ (eval (Expr.ListComp _ _ _ _) _) _ _ _ | show wpAny _ _ (call (Value.type _) _) _ _ _ | show wpAny _ _ (exec (Stmt.Assign _ (Expr.ListComp _ _ _ _) _) _) _ _ _ | show wpAny _ _ (exec (Stmt.For _ _ _ _ _) _) _ _ _ | show wpAny _ _ (subscriptTail _ _ (Value.ref _) _) _ _ _ | show UnrEndW _ _ _ _ _ _ | show wpAny _ _ (call (Value.builtin _) _) _ _ _))); first | (with_reducible refine execs_hide ?_; intro Q9 hQ9 hR9) | (with_reducible refine hQ9 _ ?_; clear hQ9 hR9; (try clear Q9)) | ((with_reducible refine' hR9 _ _ ?hk9 ?_); (case hk9 => exact nofun); clear hQ9 hR9; (try clear Q9)) | (with_reducible refine hQ8 _ _ ?_; clear hQ8; (try clear Q8); (try dsimp only)) | (with_reducible refine hQ8 _ _ _ ?_; clear hQ8; (try clear Q8); (try dsimp only)) | (with_reducible refine hQ7 _ _ ?_; clear hQ7; (try clear Q7); (try dsimp only)) | (k_unfold; (try dsimp only)) | walk_at "my step" | fail "no step")
              have hlt2 := led_lt (o' := listOf cv.toArray nb) (rs := rs9.set p0 (r0.app (Value.int (valF w0 (lsOf c0 p q ws) C p0 tt0 ((es.map Lq.v).map Itm.val).length) tvB))) lI2 (by rw [set_a hr0, hrs9, hrs])
              refine unr_end ((cb, listOf cv.toArray nb) :: (((I1, oR) :: [(D16, listOf (as.map Value.ref).toArray (as.map Value.ref).length), (D14, laqO es (es.map Lq.v).length), (D6, listOf ys.toArray ys.length), (L' + 1 + 1, oA), (L' + 1, oB), (wa, listOf vs.toArray wn), (pa, tupO [Value.int p tp, .int q tq])]) ++ ((rs9.set p0 (r0.app (Value.int (valF w0 (lsOf c0 p q ws) C p0 tt0 ((es.map Lq.v).map Itm.val).length) tvB))).map Rw.p ++ tl'))) (by assumption) N30 (by ((repeat (refine allc (by ((repeat (first | exact List.Mem.head _ | refine List.Mem.tail _ ?_ | assumption | (refine List.mem_append_left _ ?_; assumption) | refine List.mem_append_right _ ?_)); done)) ?_)); first | exact List.forall_mem_nil _ | (intro z9 h9; (repeat (first | exact h9 | refine List.Mem.tail _ ?_ | exact List.mem_append_left _ h9 | refine List.mem_append_right _ ?_)); done))) (fun z hz => List.mem_append_right [_, _] hz) (off2s fun z hz => .inl (hlt2 z hz)) ⟨_, rfl, (set_a hr0).trans hrs9, hrows9.next hr0 hval, by ((try dsimp only); (repeat (refine allc (by first | with_unfolding_all rfl | (refine' lkT ?q3 ?q4 ?q5; (case q3 => assumption); (case q4 => with_unfolding_all rfl); (case q5 => with_unfolding_all rfl))) ?_)); exact List.forall_mem_nil _), by ((repeat (first | exact sm_rfl | refine sm_store (by kernel_rfl) ?_ | (refine' sm_trans ?q6 (by kernel_rfl) ?_; (case q6 => assumption)))); done)⟩
            case iturn =>
              intro i a mB newsB vB hhB tkkB haB hJ9 hvB Fz Q8 hQ8
              ktu_objs
              obtain ⟨tvB, rfl, hzpsB, hzmB⟩ := hJ9
              obtain ⟨e, he, hev⟩ : ∃ e, es[i]? = some e ∧ a = .val (.ref e.a) := by
                rw [List.getElem?_map, List.getElem?_map] at haB
                cases hx : es[i]? with
                | none => rw [hx] at haB; cases haB
                | some e => rw [hx] at haB; exact ⟨e, rfl, (Option.some.inj haB).symm⟩
              subst hev
              obtain rfl : vB = .ref e.a := hvB
              with_reducible rename News g2 _ _ _ => N25
              have hTTe : IsTup hhB e.a #[.int (e.i : Int) e.ti, .int (e.j : Int) e.tj, .int e.r e.tr] := ⟨_, (N25 (e.a, e.o) (by have h9 := hein e (List.mem_of_getElem? he); ((repeat (first | exact List.Mem.head _ | refine List.Mem.tail _ ?_ | assumption | (refine List.mem_append_left _ ?_; assumption) | refine List.mem_append_right _ ?_)); done))).1, rfl, _, rfl⟩
              have hle : (lsOf c0 p q ws)[i]? = some e.d := by rw [← hls, List.getElem?_map, he]; rfl
              have hlap : e.j < ws.length ∧ 1 ≤ e.r := S.lap e.d (List.mem_of_getElem? hle)
              repeat' ((fail_if_success (with_reducible (first | show wpAny _ _ (eval (Expr.ListComp _ _ _ _) _) _ _ _ | show wpAny _ _ (call (Value.type _) _) _ _ _ | show wpAny _ _ (exec (Stmt.Assign _ (Expr.ListComp _ _ _ _) _) _) _ _ _ | show wpAny _ _ (exec (Stmt.For _ _ _ _ _) _) _ _ _ | show wpAny _ _ (subscriptTail _ _ (Value.ref _) _) _ _ _ | show UnrEndW _ _ _ _ _ _ | show wpAny _ _ (eval (Expr.IfExp _ _ _ _) _) _ _ _))); first | (with_reducible refine execs_hide ?_; intro Q9 hQ9 hR9) | (with_reducible refine hQ9 _ ?_; clear hQ9 hR9; (try clear Q9)) | ((with_reducible refine' hR9 _ _ ?hk9 ?_); (case hk9 => exact nofun); clear hQ9 hR9; (try clear Q9)) | (with_reducible refine hQ8 _ _ ?_; clear hQ8; (try clear Q8); (try dsimp only)) | (with_reducible refine hQ8 _ _ _ ?_; clear hQ8; (try clear Q8); (try dsimp only)) | (with_reducible refine hQ7 _ _ ?_; clear hQ7; (try clear Q7); (try dsimp only)) | (k_unfold; (try dsimp only)) | walk_at "my step" | fail "no step")
              · have hre : e.r ≤ (tt0 : Int) := by (first | lia | omega)
                obtain ⟨r1, hr1⟩ : ∃ r, rs9[e.j]? = some r := ⟨rs9[e.j]'(by rw [← List.length_map (f := Rw.a), hrs9, hal, List.size_toArray, strs_len hvs]; exact hlap.1), List.getElem?_eq_getElem _⟩
                have ha1 : (as.map Value.ref)[e.j]? = some (.ref r1.a) := by
                  rw [← hrs9, List.map_map, List.getElem?_map, hr1]; rfl
                with_reducible rename News g2 _ _ _ => N26
                have hwl2 : e.j < 4 := Nat.lt_of_lt_of_le hlap.1 (Nat.le_succ_of_le hwl)
                refine lget (vs := as.map Value.ref) (v := .ref r1.a) (n := (as.map Value.ref).length) N26 (by k_mem) (by (first | lia | omega)) (by (first | lia | omega)) (by rw [Int.toNat_natCast]; exact ha1) ?_
                repeat' ((fail_if_success (with_reducible (first | show wpAny _ _ (eval (Expr.ListComp _ _ _ _) _) _ _ _ | show wpAny _ _ (call (Value.type _) _) _ _ _ | show wpAny _ _ (exec (Stmt.Assign _ (Expr.ListComp _ _ _ _) _) _) _ _ _ | show wpAny _ _ (exec (Stmt.For _ _ _ _ _) _) _ _ _ | show wpAny _ _ (subscriptTail _ _ (Value.ref _) _) _ _ _ | show UnrEndW _ _ _ _ _ _ | show wpAny _ _ (eval (Expr.IfExp _ _ _ _) _) _ _ _))); first | (with_reducible refine execs_hide ?_; intro Q9 hQ9 hR9) | (with_reducible refine hQ9 _ ?_; clear hQ9 hR9; (try clear Q9)) | ((with_reducible refine' hR9 _ _ ?hk9 ?_); (case hk9 => exact nofun); clear hQ9 hR9; (try clear Q9)) | (with_reducible refine hQ8 _ _ ?_; clear hQ8; (try clear Q8); (try dsimp only)) | (with_reducible refine hQ8 _ _ _ ?_; clear hQ8; (try clear Q8); (try dsimp only)) | (with_reducible refine hQ7 _ _ ?_; clear hQ7; (try clear Q7); (try dsimp only)) | (k_unfold; (try dsimp only)) | walk_at "my step" | fail "no step")
                with_reducible rename News g2 _ _ _ => N27
                obtain ⟨t1, ht1⟩ := ints_range (hrows9 _ _ hr1) (i := (((tt0 : Nat) : Int) - e.r).toNat) (by split <;> (first | lia | omega))
                refine lget (vs := r1.l) (n := r1.n) (v := .int (C e.j (((tt0 : Nat) : Int) - e.r).toNat) t1) N27 ?_ (by (first | lia | omega)) (by (first | lia | omega)) (by rw [Int.zero_add]; exact ht1) ?_
                · have h9 := List.mem_map_of_mem (f := Rw.p) (List.mem_of_getElem? hr1)
                  ((repeat (first | exact List.Mem.head _ | refine List.Mem.tail _ ?_ | assumption | (refine List.mem_append_left _ ?_; assumption) | refine List.mem_append_right _ ?_)); done)
                repeat' ((fail_if_success (with_reducible (first | show wpAny _ _ (eval (Expr.ListComp _ _ _ _) _) _ _ _ | show wpAny _ _ (call (Value.type _) _) _ _ _ | show wpAny _ _ (exec (Stmt.Assign _ (Expr.ListComp _ _ _ _) _) _) _ _ _ | show wpAny _ _ (exec (Stmt.For _ _ _ _ _) _) _ _ _ | show wpAny _ _ (subscriptTail _ _ (Value.ref _) _) _ _ _ | show UnrEndW _ _ _ _ _ _ | show wpAny _ _ (eval (Expr.IfExp _ _ _ _) _) _ _ _))); first | (with_reducible refine execs_hide ?_; intro Q9 hQ9 hR9) | (with_reducible refine hQ9 _ ?_; clear hQ9 hR9; (try clear Q9)) | ((with_reducible refine' hR9 _ _ ?hk9 ?_); (case hk9 => exact nofun); clear hQ9 hR9; (try clear Q9)) | (with_reducible refine hQ8 _ _ ?_; clear hQ8; (try clear Q8); (try dsimp only)) | (with_reducible refine hQ8 _ _ _ ?_; clear hQ8; (try clear Q8); (try dsimp only)) | (with_reducible refine hQ7 _ _ ?_; clear hQ7; (try clear Q7); (try dsimp only)) | (k_unfold; (try dsimp only)) | walk_at "my step" | fail "no step")
                with_reducible rename News g2 _ _ _ => N28
                refine' unr_end _ (by assumption) N28 (fun z hz => List.mem_append_left _ hz) (fun z hz => List.mem_append_right [_] hz) (off1s fun z hz => Nat.ne_of_lt (lI3 z hz)) ⟨?tq, rfl, ?tw, ?tz⟩
                case tw =>
                  rw [valF_yes hle ⟨by (first | lia | omega), hre⟩]
                  ((try dsimp only); (repeat (refine allc (by first | with_unfolding_all rfl | (refine' lkT ?q3 ?q4 ?q5; (case q3 => assumption); (case q4 => with_unfolding_all rfl); (case q5 => with_unfolding_all rfl))) ?_)); exact List.forall_mem_nil _)
                case tz => ((repeat (first | exact sm_rfl | refine sm_store (by kernel_rfl) ?_ | (refine' sm_trans ?q6 (by kernel_rfl) ?_; (case q6 => assumption)))); done)
              · with_reducible rename News g2 _ _ _ => N28
                refine unr_end _ (by assumption) N28 (fun z hz => List.mem_append_left _ hz) (fun z hz => List.mem_append_right [_] hz) (off1s fun z hz => Nat.ne_of_lt (lI3 z hz)) ⟨tvB, rfl, ?_, by ((repeat (first | exact sm_rfl | refine sm_store (by kernel_rfl) ?_ | (refine' sm_trans ?q6 (by kernel_rfl) ?_; (case q6 => assumption)))); done)⟩
                rw [valF_no hle (by (first | lia | omega))]
                ((try dsimp only); (repeat (refine allc (by first | with_unfolding_all rfl | (refine' lkT ?q3 ?q4 ?q5; (case q3 => assumption); (case q4 => with_unfolding_all rfl); (case q5 => with_unfolding_all rfl))) ?_)); exact List.forall_mem_nil _)
              · with_reducible rename News g2 _ _ _ => N28
                refine unr_end _ (by assumption) N28 (fun z hz => List.mem_append_left _ hz) (fun z hz => List.mem_append_right [_] hz) (off1s fun z hz => Nat.ne_of_lt (lI3 z hz)) ⟨tvB, rfl, ?_, by ((repeat (first | exact sm_rfl | refine sm_store (by kernel_rfl) ?_ | (refine' sm_trans ?q6 (by kernel_rfl) ?_; (case q6 => assumption)))); done)⟩
                rw [valF_no hle (by (first | lia | omega))]
                ((try dsimp only); (repeat (refine allc (by first | with_unfolding_all rfl | (refine' lkT ?q3 ?q4 ?q5; (case q3 => assumption); (case q4 => with_unfolding_all rfl); (case q5 => with_unfolding_all rfl))) ?_)); exact List.forall_mem_nil _)
        case ofin =>
          rintro mE newsE hhE tkkE ⟨rs, cv, nb, rfl, hrs, hrows, hcv, hzpsE, hzmE⟩ Fz NzE
          simp only [List.length_map, List.length_range] at hcv
          repeat' ((fail_if_success (with_reducible (first | show wpAny _ _ (eval (Expr.ListComp _ _ _ _) _) _ _ _ | show wpAny _ _ (call (Value.type _) _) _ _ _ | show wpAny _ _ (exec (Stmt.Assign _ (Expr.ListComp _ _ _ _) _) _) _ _ _ | show wpAny _ _ (exec (Stmt.For _ _ _ _ _) _) _ _ _ | show wpAny _ _ (subscriptTail _ _ (Value.ref _) _) _ _ _ | show UnrEndW _ _ _ _ _ _ | show wpAny _ _ (call (Value.builtin _) _) _ _ _ | show wpAny _ _ (eval (Expr.IfExp _ _ _ _) _) _ _ _ | show wpAny _ _ (binaryOp .Mult _ _) _ _ _))); first | (with_reducible refine execs_hide ?_; intro Q9 hQ9 hR9) | (with_reducible refine hQ9 _ ?_; clear hQ9 hR9; (try clear Q9)) | ((with_reducible refine' hR9 _ _ ?hk9 ?_); (case hk9 => exact nofun); clear hQ9 hR9; (try clear Q9)) | (with_reducible refine hQ8 _ _ ?_; clear hQ8; (try clear Q8); (try dsimp only)) | (with_reducible refine hQ8 _ _ _ ?_; clear hQ8; (try clear Q8); (try dsimp only)) | (with_reducible refine hQ7 _ _ ?_; clear hQ7; (try clear Q7); (try dsimp only)) | (k_unfold; (try dsimp only)) | walk_at "my step" | fail "no step")
          rename News h₀ _ _ _ => NE
          rename Fr h₀ _ _ _ => FE
          refine hret cb cv nb _ _ FE (fun z hz => ?_) (fresh_new aG (NzE (cb, listOf cv.toArray nb) List.mem_cons_self).2.2 (fun z hz => ?_)) hcv
          · rcases List.mem_cons.mp hz with rfl | hz
            · exact NE _ (List.mem_append_left _ List.mem_cons_self)
            · refine backR N hrel NE (by ((repeat (refine allc (by ((repeat (first | exact List.Mem.head _ | refine List.Mem.tail _ ?_ | assumption | (refine List.mem_append_left _ ?_; assumption) | refine List.mem_append_right _ ?_)); done)) ?_)); first | exact List.forall_mem_nil _ | (intro z9 h9; (repeat (first | exact h9 | refine List.Mem.tail _ ?_ | exact List.mem_append_left _ h9 | refine List.mem_append_right _ ?_)); done))) z hz
          · simp only [List.mem_cons, List.not_mem_nil, or_false] at hz
            rcases hz with rfl | rfl
            · exact Nat.ne_of_lt (kst_ltOf lcb.2 (wa, listOf vs.toArray wn) (List.mem_append_left _ (by ((repeat (first | exact List.Mem.head _ | refine List.Mem.tail _ ?_ | assumption | (refine List.mem_append_left _ ?_; assumption) | refine List.mem_append_right _ ?_)); done))))
            · exact Nat.ne_of_lt (kst_ltOf lcb.2 (pa, tupO [Value.int _ tp, .int q tq]) (List.mem_append_left _ (by ((repeat (first | exact List.Mem.head _ | refine List.Mem.tail _ ?_ | assumption | (refine List.mem_append_left _ ?_; assumption) | refine List.mem_append_right _ ?_)); done))))
end
end Mine
end

noncomputable section
namespace Mine
section
variable {vq : Program} {vl : List Str} {w : World} {mean : ExcName → Option Value} {mg mb : Str → Option Value} {dp un : Nat} {gd : Option (List Code)} {env : Env} {outer : List Env} {A₀ : Around} {base h₀ : Heap} {L : Addr} {m : Str → Option Value} {s : Shared} {Q E : Value → Shared → Prop} {news : List (Addr × Obj)}
variable {rest : List (Addr × Obj)}
theorem c_siftdown {ha : Addr} {n : Nat} {xs : List It} {x : It} {a b : Nat} {t1 t2 : Tok} (B : Below A₀ base outer h₀) (F : Fr h₀ L s.heap m) (X : (law0.heap_1 w.params).In h₀) (N : News h₀ L s.heap ([(ha, lobj xs n)] ++ rest)) (T : TopH vq vl mean mg mb h₀) (hf : env.frame = some L) (hk : env.scope.kind = .function)
   (hdp : dp + 1 < recursionLimit) (hun : un + 8 < cLine) (dis : ∀ p ∈ rest, ∀ q ∈ [(ha, lobj xs n)], p.1 ≠ q.1) (hx : xs[b]? = some x) (hsz : xs.length ≤ 4000) (hin : ∀ y ∈ xs, h₀.get? y.a = some y.o ∨ (y.a, y.o) ∈ rest)
   (hret : ∀ h' tk', Fr h₀ L h' m → News h₀ L h' ([(ha, lobj (sd x a xs b) n)] ++ rest) → Q .none { s with heap := h', toks := tk' }) :
   wpAny (model PySem.Challenge.rw_il0067_01.row.prog w) (atop dp un gd env outer) (call (.ref 84) [.ref ha, .int (a : Int) t1, .int (b : Int) t2]) Q E s := by
  revert X; k_fill; intro X
  refine wpAny_call ?_
  k_dflt (refine' enter_rel (rel := [(ha, lobj xs n)]) (rest := rest) ?k1 ?k2 ?k3 ?k4 ?k5 ?kd ?kA ?kF ?kK ?k6 ?k7 ?k8 ?k9 ?kB ?_ ?c2 ?c3 ?c4 ?c5; (case kA => exact rfl); (case kF => assumption); (case kK => assumption); (case k1 => k_asm); (case k2 => k_asm); (case k3 => k_asm); (case k4 => exact N); (case k5 => k_asm); (case kd => exact dis); (case k6 => k_is); (case k7 => k_is); (case k8 => ktr_room); (case k9 => exact BindsTo.of_eq rfl); (case c5 => decide); (case kB => exact locs rfl); (case c2 => exact rfl); (case c3 => exact rfl); (case c4 => exact rfl); k_whole; intro g g2 L' h1 aG st2 F2 N2 B2 X2 T2; (try dsimp only); (refine wp_hide ?_); intro Q7 hQ7)
  have hb : b < xs.length := by
    rcases Nat.lt_or_ge b xs.length with h | h
    · exact h
    · rw [List.getElem?_eq_none h] at hx; cases hx
  have hin2 : ∀ y ∈ xs, g2.get? y.a = some y.o := fun y hy => (hin y hy).elim (fun e => st2 _ _ e) fun e => aG.held _ e
  repeat' ((fail_if_success (with_reducible (first | show wpAny _ _ (exec (Stmt.While _ _ _ _) _) _ _ _ | show wpAny _ _ (setItem (Value.ref _) _ _) _ _ _ | show wpAny _ _ (subscriptTail _ _ (Value.ref _) _) _ _ _ | show wpAny _ _ (compareOp _ (Value.ref _) (Value.ref _)) _ _ _ | show KswEnd _ _ _ _ _ _ _ _ _ _ _ _))); first | (with_reducible refine execs_hide ?_; intro Q9 hQ9 hR9) | (with_reducible refine hQ9 _ ?_; clear hQ9 hR9; (try clear Q9)) | ((with_reducible refine' hR9 _ _ ?hk9 ?_); (case hk9 => exact nofun); clear hQ9 hR9; (try clear Q9)) | (with_reducible refine hQ8 _ _ ?_; clear hQ8; (try clear Q8); (try dsimp only)) | (with_reducible refine hQ8 _ _ _ ?_; clear hQ8; (try clear Q8); (try dsimp only)) | (with_reducible refine hQ7 _ _ ?_; clear hQ7; (try clear Q7); (try dsimp only)) | (k_unfold; (try dsimp only)) | walk_at "my step" | fail "no step")
  refine lget (by assumption) (List.Mem.head _) (by (first | lia | omega)) (by (first | lia | omega)) (v := x.v) (by simp [hx]) ?_
  repeat' ((fail_if_success (with_reducible (first | show wpAny _ _ (exec (Stmt.While _ _ _ _) _) _ _ _ | show wpAny _ _ (setItem (Value.ref _) _ _) _ _ _ | show wpAny _ _ (subscriptTail _ _ (Value.ref _) _) _ _ _ | show wpAny _ _ (compareOp _ (Value.ref _) (Value.ref _)) _ _ _ | show KswEnd _ _ _ _ _ _ _ _ _ _ _ _))); first | (with_reducible refine execs_hide ?_; intro Q9 hQ9 hR9) | (with_reducible refine hQ9 _ ?_; clear hQ9 hR9; (try clear Q9)) | ((with_reducible refine' hR9 _ _ ?hk9 ?_); (case hk9 => exact nofun); clear hQ9 hR9; (try clear Q9)) | (with_reducible refine hQ8 _ _ ?_; clear hQ8; (try clear Q8); (try dsimp only)) | (with_reducible refine hQ8 _ _ _ ?_; clear hQ8; (try clear Q8); (try dsimp only)) | (with_reducible refine hQ7 _ _ ?_; clear hQ7; (try clear Q7); (try dsimp only)) | (k_unfold; (try dsimp only)) | walk_at "my step" | fail "no step")
  refine kw_while (σ := Nat × List It × Tok) (fun c => [(ha, lobj c.2.1 n)]) (fun c => [(Str.ofString "pos", .int (c.1 : Int) c.2.2)]) (fun c => c.1 < c.2.1.length ∧ c.2.1.length = xs.length ∧ (∀ y ∈ c.2.1, g2.get? y.a = some y.o)) [Str.ofString "parentpos", Str.ofString "parent"] (fun c => sd x a c.2.1 c.1 = sd x a xs b) (fun c => c.1) (b, xs, t2) (by assumption) (by assumption) ⟨hb, rfl, hin2⟩ ?_ rfl ?_
  · intro p hp
    rcases List.mem_cons.mp hp with rfl | hp
    · rfl
    · cases hp
  rintro ⟨p, ys, t⟩ u h tk ⟨hp, hlen, hys⟩ hsd hps1 hsm1 F1 N1 Q8 hQ8
  dsimp only at N1 hp hlen hys hsd hps1 hsm1
  repeat' ((fail_if_success (with_reducible (first | show wpAny _ _ (exec (Stmt.While _ _ _ _) _) _ _ _ | show wpAny _ _ (setItem (Value.ref _) _ _) _ _ _ | show wpAny _ _ (subscriptTail _ _ (Value.ref _) _) _ _ _ | show wpAny _ _ (compareOp _ (Value.ref _) (Value.ref _)) _ _ _ | show KswEnd _ _ _ _ _ _ _ _ _ _ _ _))); first | (with_reducible refine execs_hide ?_; intro Q9 hQ9 hR9) | (with_reducible refine hQ9 _ ?_; clear hQ9 hR9; (try clear Q9)) | ((with_reducible refine' hR9 _ _ ?hk9 ?_); (case hk9 => exact nofun); clear hQ9 hR9; (try clear Q9)) | (with_reducible refine hQ8 _ _ ?_; clear hQ8; (try clear Q8); (try dsimp only)) | (with_reducible refine hQ8 _ _ _ ?_; clear hQ8; (try clear Q8); (try dsimp only)) | (with_reducible refine hQ7 _ _ ?_; clear hQ7; (try clear Q7); (try dsimp only)) | (k_unfold; (try dsimp only)) | walk_at "my step" | fail "no step")
  · have hlt' : a < p := by (first | lia | omega)
    have hq : ((p : Int) - 1).fdiv (2 ^ (1 : Int).toNat) = (((p - 1) / 2 : Nat) : Int) := by
      have e : ((p : Int) - 1) = ((p - 1 : Nat) : Int) := by (first | lia | omega)
      rw [e]; exact (Int.ofNat_fdiv (p - 1) 2).symm
    simp only [hq] at *
    obtain ⟨y, hy⟩ : ∃ y, ys[(p - 1) / 2]? = some y := ⟨_, List.getElem?_eq_getElem (by (first | lia | omega))⟩
    have hym : g2.get? y.a = some y.o := hys y (List.mem_of_getElem? hy)
    have hxm : g2.get? x.a = some x.o := hin2 x (List.mem_of_getElem? hx)
    refine lget (by assumption) (List.Mem.head _) (by (first | lia | omega)) (by (first | lia | omega)) (v := y.v) (get_v hy) ?_
    repeat' ((fail_if_success (with_reducible (first | show wpAny _ _ (exec (Stmt.While _ _ _ _) _) _ _ _ | show wpAny _ _ (setItem (Value.ref _) _ _) _ _ _ | show wpAny _ _ (subscriptTail _ _ (Value.ref _) _) _ _ _ | show wpAny _ _ (compareOp _ (Value.ref _) (Value.ref _)) _ _ _ | show KswEnd _ _ _ _ _ _ _ _ _ _ _ _))); first | (with_reducible refine execs_hide ?_; intro Q9 hQ9 hR9) | (with_reducible refine hQ9 _ ?_; clear hQ9 hR9; (try clear Q9)) | ((with_reducible refine' hR9 _ _ ?hk9 ?_); (case hk9 => exact nofun); clear hQ9 hR9; (try clear Q9)) | (with_reducible refine hQ8 _ _ ?_; clear hQ8; (try clear Q8); (try dsimp only)) | (with_reducible refine hQ8 _ _ _ ?_; clear hQ8; (try clear Q8); (try dsimp only)) | (with_reducible refine hQ7 _ _ ?_; clear hQ7; (try clear Q7); (try dsimp only)) | (k_unfold; (try dsimp only)) | walk_at "my step" | fail "no step")
    refine lt_pair (It.tup (by assumption) hxm) (It.tup (by assumption) hym) (by ktr_units) ?_
    repeat' ((fail_if_success (with_reducible (first | show wpAny _ _ (exec (Stmt.While _ _ _ _) _) _ _ _ | show wpAny _ _ (setItem (Value.ref _) _ _) _ _ _ | show wpAny _ _ (subscriptTail _ _ (Value.ref _) _) _ _ _ | show wpAny _ _ (compareOp _ (Value.ref _) (Value.ref _)) _ _ _ | show KswEnd _ _ _ _ _ _ _ _ _ _ _ _))); first | (with_reducible refine execs_hide ?_; intro Q9 hQ9 hR9) | (with_reducible refine hQ9 _ ?_; clear hQ9 hR9; (try clear Q9)) | ((with_reducible refine' hR9 _ _ ?hk9 ?_); (case hk9 => exact nofun); clear hQ9 hR9; (try clear Q9)) | (with_reducible refine hQ8 _ _ ?_; clear hQ8; (try clear Q8); (try dsimp only)) | (with_reducible refine hQ8 _ _ _ ?_; clear hQ8; (try clear Q8); (try dsimp only)) | (with_reducible refine hQ7 _ _ ?_; clear hQ7; (try clear Q7); (try dsimp only)) | (k_unfold; (try dsimp only)) | walk_at "my step" | fail "no step")
    · have hl : x.lt y = true := by assumption
      refine lsetI (by assumption) (by assumption) hp (by (first | lia | omega)) fun h' F' N' => ?_
      repeat' ((fail_if_success (with_reducible (first | show wpAny _ _ (exec (Stmt.While _ _ _ _) _) _ _ _ | show wpAny _ _ (setItem (Value.ref _) _ _) _ _ _ | show wpAny _ _ (subscriptTail _ _ (Value.ref _) _) _ _ _ | show wpAny _ _ (compareOp _ (Value.ref _) (Value.ref _)) _ _ _ | show KswEnd _ _ _ _ _ _ _ _ _ _ _ _))); first | (with_reducible refine execs_hide ?_; intro Q9 hQ9 hR9) | (with_reducible refine hQ9 _ ?_; clear hQ9 hR9; (try clear Q9)) | ((with_reducible refine' hR9 _ _ ?hk9 ?_); (case hk9 => exact nofun); clear hQ9 hR9; (try clear Q9)) | (with_reducible refine hQ8 _ _ ?_; clear hQ8; (try clear Q8); (try dsimp only)) | (with_reducible refine hQ8 _ _ _ ?_; clear hQ8; (try clear Q8); (try dsimp only)) | (with_reducible refine hQ7 _ _ ?_; clear hQ7; (try clear Q7); (try dsimp only)) | (k_unfold; (try dsimp only)) | walk_at "my step" | fail "no step")
      refine' ksw_end (c := (p, ys, t)) (news' := [(ha, lobj (ys.set p y) n)]) ((p - 1) / 2, ys.set p y, ?tk) ?F ?N ?hn ?hf ?hk ?hr ?hp ?hm
      case F => assumption
      case N => assumption
      case hn => exact fun _ h => h
      case hk => ((try dsimp only); (repeat (refine allc (by first | with_unfolding_all rfl | (refine' lkT ?q3 ?q4 ?q5; (case q3 => assumption); (case q4 => with_unfolding_all rfl); (case q5 => with_unfolding_all rfl))) ?_)); exact List.forall_mem_nil _)
      case hf =>
        refine ⟨by rw [List.length_set]; show (p - 1) / 2 < ys.length; (first | lia | omega), by rw [List.length_set]; exact hlen, fun z hz => ?_⟩
        rcases List.mem_or_eq_of_mem_set hz with hz | rfl
        · exact hys z hz
        · exact hym
      case hr => ((repeat (first | exact sm_rfl | refine sm_store (by kernel_rfl) ?_ | (refine' sm_trans ?q6 (by kernel_rfl) ?_; (case q6 => assumption)))); done)
      case hp => exact (sd_up hlt' hy hl).symm.trans hsd
      case hm => show (p - 1) / 2 < p; (first | lia | omega)
    · have hl : x.lt y = false := by assumption
      refine lsetI (by assumption) (by assumption) hp (by (first | lia | omega)) fun h' F' N' => ?_
      repeat' ((fail_if_success (with_reducible (first | show wpAny _ _ (exec (Stmt.While _ _ _ _) _) _ _ _ | show wpAny _ _ (setItem (Value.ref _) _ _) _ _ _ | show wpAny _ _ (subscriptTail _ _ (Value.ref _) _) _ _ _ | show wpAny _ _ (compareOp _ (Value.ref _) (Value.ref _)) _ _ _ | show KswEnd _ _ _ _ _ _ _ _ _ _ _ _))); first | (with_reducible refine execs_hide ?_; intro Q9 hQ9 hR9) | (with_reducible refine hQ9 _ ?_; clear hQ9 hR9; (try clear Q9)) | ((with_reducible refine' hR9 _ _ ?hk9 ?_); (case hk9 => exact nofun); clear hQ9 hR9; (try clear Q9)) | (with_reducible refine hQ8 _ _ ?_; clear hQ8; (try clear Q8); (try dsimp only)) | (with_reducible refine hQ8 _ _ _ ?_; clear hQ8; (try clear Q8); (try dsimp only)) | (with_reducible refine hQ7 _ _ ?_; clear hQ7; (try clear Q7); (try dsimp only)) | (k_unfold; (try dsimp only)) | walk_at "my step" | fail "no step")
      have e : ys.set p x = sd x a xs b := (sd_stop hlt' hy hl).symm.trans hsd
      rw [e] at N'
      refine hret _ _ (by assumption) (by simp_all)
  · have hlt' : ¬ a < p := by (first | lia | omega)
    refine lsetI (by assumption) (by assumption) hp (by (first | lia | omega)) fun h' F' N' => ?_
    repeat' ((fail_if_success (with_reducible (first | show wpAny _ _ (exec (Stmt.While _ _ _ _) _) _ _ _ | show wpAny _ _ (setItem (Value.ref _) _ _) _ _ _ | show wpAny _ _ (subscriptTail _ _ (Value.ref _) _) _ _ _ | show wpAny _ _ (compareOp _ (Value.ref _) (Value.ref _)) _ _ _ | show KswEnd _ _ _ _ _ _ _ _ _ _ _ _))); first | (with_reducible refine execs_hide ?_; intro Q9 hQ9 hR9) | (with_reducible refine hQ9 _ ?_; clear hQ9 hR9; (try clear Q9)) | ((with_reducible refine' hR9 _ _ ?hk9 ?_); (case hk9 => exact nofun); clear hQ9 hR9; (try clear Q9)) | (with_reducible refine hQ8 _ _ ?_; clear hQ8; (try clear Q8); (try dsimp only)) | (with_reducible refine hQ8 _ _ _ ?_; clear hQ8; (try clear Q8); (try dsimp only)) | (with_reducible refine hQ7 _ _ ?_; clear hQ7; (try clear Q7); (try dsimp only)) | (k_unfold; (try dsimp only)) | walk_at "my step" | fail "no step")
    have e : ys.set p x = sd x a xs b := (sd_end hlt').symm.trans hsd
    refine hret _ _ (by assumption) (by rw [← e]; assumption)
end
end Mine
end

noncomputable section
namespace Mine
def suPick (ys : List It) (c : Nat) : Nat := match ys[c]?, ys[c + 1]? with
  | some l, some r => if l.lt r = true then c else c + 1
  | _, _ => c
def su (ys : List It) (p : Nat) : List It × Nat :=
  if h : 2 * p + 1 < ys.length then
    match hy : ys[suPick ys (2 * p + 1)]? with
    | some y => su (ys.set p y) (suPick ys (2 * p + 1))
    | none => (ys, p)
  else (ys, p)
termination_by ys.length - p
decreasing_by
  simp only [List.length_set]
  have : suPick ys (2 * p + 1) = 2 * p + 1 ∨ suPick ys (2 * p + 1) = 2 * p + 1 + 1 := by
    unfold suPick
    split
    · split <;> simp
    · simp
  (first | lia | omega)
theorem suPick_left {ys : List It} {c : Nat} {l r : It} (hl : ys[c]? = some l) (hr : ys[c + 1]? = some r) (h : l.lt r = true) : suPick ys c = c := by
  unfold suPick; rw [hl, hr]; simp [h]
theorem suPick_right {ys : List It} {c : Nat} {l r : It} (hl : ys[c]? = some l) (hr : ys[c + 1]? = some r) (h : l.lt r = false) : suPick ys c = c + 1 := by
  unfold suPick; rw [hl, hr]; simp [h]
theorem suPick_one {ys : List It} {c : Nat} (hr : ¬ c + 1 < ys.length) : suPick ys c = c := by
  unfold suPick
  have : ys[c + 1]? = none := List.getElem?_eq_none (by (first | lia | omega))
  rw [this]
  split <;> simp_all
theorem su_down {ys : List It} {p : Nat} {y : It} (h : 2 * p + 1 < ys.length) (hy : ys[suPick ys (2 * p + 1)]? = some y) : su ys p = su (ys.set p y) (suPick ys (2 * p + 1)) := by
  rw [su, dif_pos h]
  split
  · rename_i y' e
    rw [hy] at e; cases e; rfl
  · rename_i e
    rw [hy] at e; cases e
theorem su_end {ys : List It} {p : Nat} (h : ¬ 2 * p + 1 < ys.length) : su ys p = (ys, p) := by
  rw [su, dif_neg h]
def siftup (x : It) (ys : List It) : List It := sd x 0 ((su ys 0).1.set (su ys 0).2 x) (su ys 0).2
section
variable {vq : Program} {vl : List Str} {w : World} {mean : ExcName → Option Value} {mg mb : Str → Option Value} {dp un : Nat} {gd : Option (List Code)} {env : Env} {outer : List Env} {A₀ : Around} {base h₀ : Heap} {L : Addr} {m : Str → Option Value} {s : Shared} {Q E : Value → Shared → Prop} {news : List (Addr × Obj)}
variable {rest : List (Addr × Obj)}
theorem c_siftup {ha : Addr} {n : Nat} {xs : List It} {x : It} {t2 : Tok} (B : Below A₀ base outer h₀) (F : Fr h₀ L s.heap m) (X : (law0.heap_1 w.params).In h₀) (N : News h₀ L s.heap ([(ha, lobj xs n)] ++ rest)) (T : TopH vq vl mean mg mb h₀) (hf : env.frame = some L) (hk : env.scope.kind = .function)
   (hdp : dp + 5 < recursionLimit) (hun : un + 40 < cLine) (dis : ∀ p ∈ rest, ∀ q ∈ [(ha, lobj xs n)], p.1 ≠ q.1) (hx : xs[0]? = some x) (hsz : xs.length ≤ 4000) (hin : ∀ y ∈ xs, h₀.get? y.a = some y.o ∨ (y.a, y.o) ∈ rest)
   (hret : ∀ h' tk', Fr h₀ L h' m → News h₀ L h' ([(ha, lobj (siftup x xs) n)] ++ rest) → Q .none { s with heap := h', toks := tk' }) :
   wpAny (model PySem.Challenge.rw_il0067_01.row.prog w) (atop dp un gd env outer) (call (.ref 91) [.ref ha, .int 0 t2]) Q E s := by
  revert X; k_fill; intro X
  refine wpAny_call ?_
  k_dflt (refine' enter_rel (rel := [(ha, lobj xs n)]) (rest := rest) ?k1 ?k2 ?k3 ?k4 ?k5 ?kd ?kA ?kF ?kK ?k6 ?k7 ?k8 ?k9 ?kB ?_ ?c2 ?c3 ?c4 ?c5; (case kA => exact rfl); (case kF => assumption); (case kK => assumption); (case k1 => k_asm); (case k2 => k_asm); (case k3 => k_asm); (case k4 => exact N); (case k5 => k_asm); (case kd => exact dis); (case k6 => k_is); (case k7 => k_is); (case k8 => ktr_room); (case k9 => exact BindsTo.of_eq rfl); (case c5 => decide); (case kB => exact locs rfl); (case c2 => exact rfl); (case c3 => exact rfl); (case c4 => exact rfl); k_whole; intro g g2 L' h1 aG st2 F2 N2 B2 X2 T2; (try dsimp only); (refine wp_hide ?_); intro Q7 hQ7)
  have hb : 0 < xs.length := by
    rcases Nat.lt_or_ge 0 xs.length with h | h
    · exact h
    · rw [List.getElem?_eq_none h] at hx; cases hx
  have hin2 : ∀ y ∈ xs, g2.get? y.a = some y.o := fun y hy => (hin y hy).elim (fun e => st2 _ _ e) fun e => aG.held _ e
  repeat' ((fail_if_success (with_reducible (first | show wpAny _ _ (exec (Stmt.While _ _ _ _) _) _ _ _ | show wpAny _ _ (setItem (Value.ref _) _ _) _ _ _ | show wpAny _ _ (subscriptTail _ _ (Value.ref _) _) _ _ _ | show wpAny _ _ (compareOp _ (Value.ref _) (Value.ref _)) _ _ _ | show KswEnd _ _ _ _ _ _ _ _ _ _ _ _ | show wpAny _ _ (call (Value.builtin _) _) _ _ _))); first | (with_reducible refine execs_hide ?_; intro Q9 hQ9 hR9) | (with_reducible refine hQ9 _ ?_; clear hQ9 hR9; (try clear Q9)) | ((with_reducible refine' hR9 _ _ ?hk9 ?_); (case hk9 => exact nofun); clear hQ9 hR9; (try clear Q9)) | (with_reducible refine hQ8 _ _ ?_; clear hQ8; (try clear Q8); (try dsimp only)) | (with_reducible refine hQ8 _ _ _ ?_; clear hQ8; (try clear Q8); (try dsimp only)) | (with_reducible refine hQ7 _ _ ?_; clear hQ7; (try clear Q7); (try dsimp only)) | (k_unfold; (try dsimp only)) | walk_at "my step" | fail "no step")
  refine kst_len (us := xs.map It.v) (by assumption) (List.Mem.head _) (List.length_map _) (by (first | lia | omega)) ?_
  repeat' ((fail_if_success (with_reducible (first | show wpAny _ _ (exec (Stmt.While _ _ _ _) _) _ _ _ | show wpAny _ _ (setItem (Value.ref _) _ _) _ _ _ | show wpAny _ _ (subscriptTail _ _ (Value.ref _) _) _ _ _ | show wpAny _ _ (compareOp _ (Value.ref _) (Value.ref _)) _ _ _ | show KswEnd _ _ _ _ _ _ _ _ _ _ _ _ | show wpAny _ _ (call (Value.builtin _) _) _ _ _))); first | (with_reducible refine execs_hide ?_; intro Q9 hQ9 hR9) | (with_reducible refine hQ9 _ ?_; clear hQ9 hR9; (try clear Q9)) | ((with_reducible refine' hR9 _ _ ?hk9 ?_); (case hk9 => exact nofun); clear hQ9 hR9; (try clear Q9)) | (with_reducible refine hQ8 _ _ ?_; clear hQ8; (try clear Q8); (try dsimp only)) | (with_reducible refine hQ8 _ _ _ ?_; clear hQ8; (try clear Q8); (try dsimp only)) | (with_reducible refine hQ7 _ _ ?_; clear hQ7; (try clear Q7); (try dsimp only)) | (k_unfold; (try dsimp only)) | walk_at "my step" | fail "no step")
  refine lget (by assumption) (List.Mem.head _) (by (first | lia | omega)) (by (first | lia | omega)) (v := x.v) (get_v (p := 0) hx) ?_
  repeat' ((fail_if_success (with_reducible (first | show wpAny _ _ (exec (Stmt.While _ _ _ _) _) _ _ _ | show wpAny _ _ (setItem (Value.ref _) _ _) _ _ _ | show wpAny _ _ (subscriptTail _ _ (Value.ref _) _) _ _ _ | show wpAny _ _ (compareOp _ (Value.ref _) (Value.ref _)) _ _ _ | show KswEnd _ _ _ _ _ _ _ _ _ _ _ _))); first | (with_reducible refine execs_hide ?_; intro Q9 hQ9 hR9) | (with_reducible refine hQ9 _ ?_; clear hQ9 hR9; (try clear Q9)) | ((with_reducible refine' hR9 _ _ ?hk9 ?_); (case hk9 => exact nofun); clear hQ9 hR9; (try clear Q9)) | (with_reducible refine hQ8 _ _ ?_; clear hQ8; (try clear Q8); (try dsimp only)) | (with_reducible refine hQ8 _ _ _ ?_; clear hQ8; (try clear Q8); (try dsimp only)) | (with_reducible refine hQ7 _ _ ?_; clear hQ7; (try clear Q7); (try dsimp only)) | (k_unfold; (try dsimp only)) | walk_at "my step" | fail "no step")
  refine' kw_while (σ := Nat × List It × Tok × Tok) (fun c => [(ha, lobj c.2.1 n)]) (fun c => [(Str.ofString "pos", .int (c.1 : Int) c.2.2.1), (Str.ofString "childpos", .int (2 * (c.1 : Int) + 1) c.2.2.2)]) (fun c => c.1 < c.2.1.length ∧ c.2.1.length = xs.length ∧ (∀ y ∈ c.2.1, g2.get? y.a = some y.o)) [Str.ofString "rightpos"] (fun c => su c.2.1 c.1 = su xs 0) (fun c => c.2.1.length - c.1) (0, xs, t2, ?tc) ?F ?N ?hf ?hk ?hp ?turn
  case F => assumption
  case N => assumption
  case hk => ((try dsimp only); (repeat (refine allc (by first | with_unfolding_all rfl | (refine' lkT ?q3 ?q4 ?q5; (case q3 => assumption); (case q4 => with_unfolding_all rfl); (case q5 => with_unfolding_all rfl))) ?_)); exact List.forall_mem_nil _)
  case hf => exact ⟨hb, rfl, hin2⟩
  case hp => rfl
  rintro ⟨p, ys, t, tc⟩ u h tk ⟨hp, hlen, hys⟩ hsu hps1 hsm1 F1 N1 Q8 hQ8
  dsimp only at N1 hp hlen hys hsu hps1 hsm1
  repeat' ((fail_if_success (with_reducible (first | show wpAny _ _ (exec (Stmt.While _ _ _ _) _) _ _ _ | show wpAny _ _ (setItem (Value.ref _) _ _) _ _ _ | show wpAny _ _ (subscriptTail _ _ (Value.ref _) _) _ _ _ | show wpAny _ _ (compareOp _ (Value.ref _) (Value.ref _)) _ _ _ | show KswEnd _ _ _ _ _ _ _ _ _ _ _ _))); first | (with_reducible refine execs_hide ?_; intro Q9 hQ9 hR9) | (with_reducible refine hQ9 _ ?_; clear hQ9 hR9; (try clear Q9)) | ((with_reducible refine' hR9 _ _ ?hk9 ?_); (case hk9 => exact nofun); clear hQ9 hR9; (try clear Q9)) | (with_reducible refine hQ8 _ _ ?_; clear hQ8; (try clear Q8); (try dsimp only)) | (with_reducible refine hQ8 _ _ _ ?_; clear hQ8; (try clear Q8); (try dsimp only)) | (with_reducible refine hQ7 _ _ ?_; clear hQ7; (try clear Q7); (try dsimp only)) | (k_unfold; (try dsimp only)) | walk_at "my step" | fail "no step")
  · have hc : 2 * p + 1 < ys.length := by (first | lia | omega)
    have hxm : g2.get? x.a = some x.o := hin2 x (List.mem_of_getElem? hx)
    obtain ⟨l, hl⟩ : ∃ l, ys[2 * p + 1]? = some l := ⟨_, List.getElem?_eq_getElem hc⟩
    have hlm := hys l (List.mem_of_getElem? hl)
    · have hr0 : 2 * p + 1 + 1 < ys.length := by (first | lia | omega)
      obtain ⟨r, hr⟩ : ∃ r, ys[2 * p + 1 + 1]? = some r := ⟨_, List.getElem?_eq_getElem hr0⟩
      have hrm := hys r (List.mem_of_getElem? hr)
      refine lget (by assumption) (List.Mem.head _) (by (first | lia | omega)) (by (first | lia | omega)) (v := l.v) (get_vi hl (by (first | lia | omega))) ?_
      repeat' ((fail_if_success (with_reducible (first | show wpAny _ _ (exec (Stmt.While _ _ _ _) _) _ _ _ | show wpAny _ _ (setItem (Value.ref _) _ _) _ _ _ | show wpAny _ _ (subscriptTail _ _ (Value.ref _) _) _ _ _ | show wpAny _ _ (compareOp _ (Value.ref _) (Value.ref _)) _ _ _ | show KswEnd _ _ _ _ _ _ _ _ _ _ _ _))); first | (with_reducible refine execs_hide ?_; intro Q9 hQ9 hR9) | (with_reducible refine hQ9 _ ?_; clear hQ9 hR9; (try clear Q9)) | ((with_reducible refine' hR9 _ _ ?hk9 ?_); (case hk9 => exact nofun); clear hQ9 hR9; (try clear Q9)) | (with_reducible refine hQ8 _ _ ?_; clear hQ8; (try clear Q8); (try dsimp only)) | (with_reducible refine hQ8 _ _ _ ?_; clear hQ8; (try clear Q8); (try dsimp only)) | (with_reducible refine hQ7 _ _ ?_; clear hQ7; (try clear Q7); (try dsimp only)) | (k_unfold; (try dsimp only)) | walk_at "my step" | fail "no step")
      refine lget (by assumption) (List.Mem.head _) (by (first | lia | omega)) (by (first | lia | omega)) (v := r.v) (get_vi hr (by (first | lia | omega))) ?_
      repeat' ((fail_if_success (with_reducible (first | show wpAny _ _ (exec (Stmt.While _ _ _ _) _) _ _ _ | show wpAny _ _ (setItem (Value.ref _) _ _) _ _ _ | show wpAny _ _ (subscriptTail _ _ (Value.ref _) _) _ _ _ | show wpAny _ _ (compareOp _ (Value.ref _) (Value.ref _)) _ _ _ | show KswEnd _ _ _ _ _ _ _ _ _ _ _ _))); first | (with_reducible refine execs_hide ?_; intro Q9 hQ9 hR9) | (with_reducible refine hQ9 _ ?_; clear hQ9 hR9; (try clear Q9)) | ((with_reducible refine' hR9 _ _ ?hk9 ?_); (case hk9 => exact nofun); clear hQ9 hR9; (try clear Q9)) | (with_reducible refine hQ8 _ _ ?_; clear hQ8; (try clear Q8); (try dsimp only)) | (with_reducible refine hQ8 _ _ _ ?_; clear hQ8; (try clear Q8); (try dsimp only)) | (with_reducible refine hQ7 _ _ ?_; clear hQ7; (try clear Q7); (try dsimp only)) | (k_unfold; (try dsimp only)) | walk_at "my step" | fail "no step")
      refine lt_pair (It.tup (by assumption) hlm) (It.tup (by assumption) hrm) (by ktr_units) ?_
      repeat' ((fail_if_success (with_reducible (first | show wpAny _ _ (exec (Stmt.While _ _ _ _) _) _ _ _ | show wpAny _ _ (setItem (Value.ref _) _ _) _ _ _ | show wpAny _ _ (subscriptTail _ _ (Value.ref _) _) _ _ _ | show wpAny _ _ (compareOp _ (Value.ref _) (Value.ref _)) _ _ _ | show KswEnd _ _ _ _ _ _ _ _ _ _ _ _))); first | (with_reducible refine execs_hide ?_; intro Q9 hQ9 hR9) | (with_reducible refine hQ9 _ ?_; clear hQ9 hR9; (try clear Q9)) | ((with_reducible refine' hR9 _ _ ?hk9 ?_); (case hk9 => exact nofun); clear hQ9 hR9; (try clear Q9)) | (with_reducible refine hQ8 _ _ ?_; clear hQ8; (try clear Q8); (try dsimp only)) | (with_reducible refine hQ8 _ _ _ ?_; clear hQ8; (try clear Q8); (try dsimp only)) | (with_reducible refine hQ7 _ _ ?_; clear hQ7; (try clear Q7); (try dsimp only)) | (k_unfold; (try dsimp only)) | walk_at "my step" | fail "no step")
      · have hlt : l.lt r = true := by assumption
        refine lget (by assumption) (List.Mem.head _) (by (first | lia | omega)) (by (first | lia | omega)) (v := l.v) (get_vi hl (by (first | lia | omega))) ?_
        repeat' ((fail_if_success (with_reducible (first | show wpAny _ _ (exec (Stmt.While _ _ _ _) _) _ _ _ | show wpAny _ _ (setItem (Value.ref _) _ _) _ _ _ | show wpAny _ _ (subscriptTail _ _ (Value.ref _) _) _ _ _ | show wpAny _ _ (compareOp _ (Value.ref _) (Value.ref _)) _ _ _ | show KswEnd _ _ _ _ _ _ _ _ _ _ _ _))); first | (with_reducible refine execs_hide ?_; intro Q9 hQ9 hR9) | (with_reducible refine hQ9 _ ?_; clear hQ9 hR9; (try clear Q9)) | ((with_reducible refine' hR9 _ _ ?hk9 ?_); (case hk9 => exact nofun); clear hQ9 hR9; (try clear Q9)) | (with_reducible refine hQ8 _ _ ?_; clear hQ8; (try clear Q8); (try dsimp only)) | (with_reducible refine hQ8 _ _ _ ?_; clear hQ8; (try clear Q8); (try dsimp only)) | (with_reducible refine hQ7 _ _ ?_; clear hQ7; (try clear Q7); (try dsimp only)) | (k_unfold; (try dsimp only)) | walk_at "my step" | fail "no step")
        refine lsetI (by assumption) (by assumption) hp (by (first | lia | omega)) fun h' F' N' => ?_
        repeat' ((fail_if_success (with_reducible (first | show wpAny _ _ (exec (Stmt.While _ _ _ _) _) _ _ _ | show wpAny _ _ (setItem (Value.ref _) _ _) _ _ _ | show wpAny _ _ (subscriptTail _ _ (Value.ref _) _) _ _ _ | show wpAny _ _ (compareOp _ (Value.ref _) (Value.ref _)) _ _ _ | show KswEnd _ _ _ _ _ _ _ _ _ _ _ _))); first | (with_reducible refine execs_hide ?_; intro Q9 hQ9 hR9) | (with_reducible refine hQ9 _ ?_; clear hQ9 hR9; (try clear Q9)) | ((with_reducible refine' hR9 _ _ ?hk9 ?_); (case hk9 => exact nofun); clear hQ9 hR9; (try clear Q9)) | (with_reducible refine hQ8 _ _ ?_; clear hQ8; (try clear Q8); (try dsimp only)) | (with_reducible refine hQ8 _ _ _ ?_; clear hQ8; (try clear Q8); (try dsimp only)) | (with_reducible refine hQ7 _ _ ?_; clear hQ7; (try clear Q7); (try dsimp only)) | (k_unfold; (try dsimp only)) | walk_at "my step" | fail "no step")
        have hpk : suPick ys (2 * p + 1) = 2 * p + 1 := suPick_left hl hr hlt
        have hy9 : ys[suPick ys (2 * p + 1)]? = some l := by rw [hpk]; exact hl
        refine' ksw_end (c := (p, ys, t, tc)) (news' := [(ha, lobj (ys.set p l) n)]) (2 * p + 1, ys.set p l, ?ta0, ?tb0) ?F ?N ?hn ?hf ?hk ?hr ?hp ?hm
        case F => assumption
        case N => assumption
        case hn => exact fun _ h => h
        case hk => ((try dsimp only); (repeat (refine allc (by first | with_unfolding_all rfl | (refine' lkT ?q3 ?q4 ?q5; (case q3 => assumption); (case q4 => with_unfolding_all rfl); (case q5 => with_unfolding_all rfl))) ?_)); exact List.forall_mem_nil _)
        case hf =>
          refine ⟨by rw [List.length_set]; show 2 * p + 1 < ys.length; (first | lia | omega), by rw [List.length_set]; exact hlen, fun z hz => ?_⟩
          rcases List.mem_or_eq_of_mem_set hz with hz | rfl
          · exact hys z hz
          · exact hys _ (List.mem_of_getElem? hl)
        case hr => ((repeat (first | exact sm_rfl | refine sm_store (by kernel_rfl) ?_ | (refine' sm_trans ?q6 (by kernel_rfl) ?_; (case q6 => assumption)))); done)
        case hp => rw [← hsu, su_down hc hy9, hpk]
        case hm => show (ys.set p l).length - (2 * p + 1) < ys.length - p; rw [List.length_set]; (first | lia | omega)
      · have hlt : l.lt r = false := by assumption
        refine lget (by assumption) (List.Mem.head _) (by (first | lia | omega)) (by (first | lia | omega)) (v := r.v) (get_vi hr (by (first | lia | omega))) ?_
        repeat' ((fail_if_success (with_reducible (first | show wpAny _ _ (exec (Stmt.While _ _ _ _) _) _ _ _ | show wpAny _ _ (setItem (Value.ref _) _ _) _ _ _ | show wpAny _ _ (subscriptTail _ _ (Value.ref _) _) _ _ _ | show wpAny _ _ (compareOp _ (Value.ref _) (Value.ref _)) _ _ _ | show KswEnd _ _ _ _ _ _ _ _ _ _ _ _))); first | (with_reducible refine execs_hide ?_; intro Q9 hQ9 hR9) | (with_reducible refine hQ9 _ ?_; clear hQ9 hR9; (try clear Q9)) | ((with_reducible refine' hR9 _ _ ?hk9 ?_); (case hk9 => exact nofun); clear hQ9 hR9; (try clear Q9)) | (with_reducible refine hQ8 _ _ ?_; clear hQ8; (try clear Q8); (try dsimp only)) | (with_reducible refine hQ8 _ _ _ ?_; clear hQ8; (try clear Q8); (try dsimp only)) | (with_reducible refine hQ7 _ _ ?_; clear hQ7; (try clear Q7); (try dsimp only)) | (k_unfold; (try dsimp only)) | walk_at "my step" | fail "no step")
        refine lsetI (by assumption) (by assumption) hp (by (first | lia | omega)) fun h' F' N' => ?_
        repeat' ((fail_if_success (with_reducible (first | show wpAny _ _ (exec (Stmt.While _ _ _ _) _) _ _ _ | show wpAny _ _ (setItem (Value.ref _) _ _) _ _ _ | show wpAny _ _ (subscriptTail _ _ (Value.ref _) _) _ _ _ | show wpAny _ _ (compareOp _ (Value.ref _) (Value.ref _)) _ _ _ | show KswEnd _ _ _ _ _ _ _ _ _ _ _ _))); first | (with_reducible refine execs_hide ?_; intro Q9 hQ9 hR9) | (with_reducible refine hQ9 _ ?_; clear hQ9 hR9; (try clear Q9)) | ((with_reducible refine' hR9 _ _ ?hk9 ?_); (case hk9 => exact nofun); clear hQ9 hR9; (try clear Q9)) | (with_reducible refine hQ8 _ _ ?_; clear hQ8; (try clear Q8); (try dsimp only)) | (with_reducible refine hQ8 _ _ _ ?_; clear hQ8; (try clear Q8); (try dsimp only)) | (with_reducible refine hQ7 _ _ ?_; clear hQ7; (try clear Q7); (try dsimp only)) | (k_unfold; (try dsimp only)) | walk_at "my step" | fail "no step")
        have hpk : suPick ys (2 * p + 1) = 2 * p + 1 + 1 := suPick_right hl hr hlt
        have hy9 : ys[suPick ys (2 * p + 1)]? = some r := by rw [hpk]; exact hr
        refine' ksw_end (c := (p, ys, t, tc)) (news' := [(ha, lobj (ys.set p r) n)]) (2 * p + 1 + 1, ys.set p r, ?ta1, ?tb1) ?F ?N ?hn ?hf ?hk ?hr ?hp ?hm
        case F => assumption
        case N => assumption
        case hn => exact fun _ h => h
        case hk => ((try dsimp only); (repeat (refine allc (by first | with_unfolding_all rfl | (refine' lkT ?q3 ?q4 ?q5; (case q3 => assumption); (case q4 => with_unfolding_all rfl); (case q5 => with_unfolding_all rfl))) ?_)); exact List.forall_mem_nil _)
        case hf =>
          refine ⟨by rw [List.length_set]; show 2 * p + 1 + 1 < ys.length; (first | lia | omega), by rw [List.length_set]; exact hlen, fun z hz => ?_⟩
          rcases List.mem_or_eq_of_mem_set hz with hz | rfl
          · exact hys z hz
          · exact hys _ (List.mem_of_getElem? hr)
        case hr => ((repeat (first | exact sm_rfl | refine sm_store (by kernel_rfl) ?_ | (refine' sm_trans ?q6 (by kernel_rfl) ?_; (case q6 => assumption)))); done)
        case hp => rw [← hsu, su_down hc hy9, hpk]
        case hm => show (ys.set p r).length - (2 * p + 1 + 1) < ys.length - p; rw [List.length_set]; (first | lia | omega)
  · have hc : 2 * p + 1 < ys.length := by (first | lia | omega)
    have hxm : g2.get? x.a = some x.o := hin2 x (List.mem_of_getElem? hx)
    obtain ⟨l, hl⟩ : ∃ l, ys[2 * p + 1]? = some l := ⟨_, List.getElem?_eq_getElem hc⟩
    have hlm := hys l (List.mem_of_getElem? hl)
    have hr0 : ¬ 2 * p + 1 + 1 < ys.length := by (first | lia | omega)
    refine lget (by assumption) (List.Mem.head _) (by (first | lia | omega)) (by (first | lia | omega)) (v := l.v) (get_vi hl (by (first | lia | omega))) ?_
    repeat' ((fail_if_success (with_reducible (first | show wpAny _ _ (exec (Stmt.While _ _ _ _) _) _ _ _ | show wpAny _ _ (setItem (Value.ref _) _ _) _ _ _ | show wpAny _ _ (subscriptTail _ _ (Value.ref _) _) _ _ _ | show wpAny _ _ (compareOp _ (Value.ref _) (Value.ref _)) _ _ _ | show KswEnd _ _ _ _ _ _ _ _ _ _ _ _))); first | (with_reducible refine execs_hide ?_; intro Q9 hQ9 hR9) | (with_reducible refine hQ9 _ ?_; clear hQ9 hR9; (try clear Q9)) | ((with_reducible refine' hR9 _ _ ?hk9 ?_); (case hk9 => exact nofun); clear hQ9 hR9; (try clear Q9)) | (with_reducible refine hQ8 _ _ ?_; clear hQ8; (try clear Q8); (try dsimp only)) | (with_reducible refine hQ8 _ _ _ ?_; clear hQ8; (try clear Q8); (try dsimp only)) | (with_reducible refine hQ7 _ _ ?_; clear hQ7; (try clear Q7); (try dsimp only)) | (k_unfold; (try dsimp only)) | walk_at "my step" | fail "no step")
    refine lsetI (by assumption) (by assumption) hp (by (first | lia | omega)) fun h' F' N' => ?_
    repeat' ((fail_if_success (with_reducible (first | show wpAny _ _ (exec (Stmt.While _ _ _ _) _) _ _ _ | show wpAny _ _ (setItem (Value.ref _) _ _) _ _ _ | show wpAny _ _ (subscriptTail _ _ (Value.ref _) _) _ _ _ | show wpAny _ _ (compareOp _ (Value.ref _) (Value.ref _)) _ _ _ | show KswEnd _ _ _ _ _ _ _ _ _ _ _ _))); first | (with_reducible refine execs_hide ?_; intro Q9 hQ9 hR9) | (with_reducible refine hQ9 _ ?_; clear hQ9 hR9; (try clear Q9)) | ((with_reducible refine' hR9 _ _ ?hk9 ?_); (case hk9 => exact nofun); clear hQ9 hR9; (try clear Q9)) | (with_reducible refine hQ8 _ _ ?_; clear hQ8; (try clear Q8); (try dsimp only)) | (with_reducible refine hQ8 _ _ _ ?_; clear hQ8; (try clear Q8); (try dsimp only)) | (with_reducible refine hQ7 _ _ ?_; clear hQ7; (try clear Q7); (try dsimp only)) | (k_unfold; (try dsimp only)) | walk_at "my step" | fail "no step")
    have hpk : suPick ys (2 * p + 1) = 2 * p + 1 := suPick_one hr0
    have hy9 : ys[suPick ys (2 * p + 1)]? = some l := by rw [hpk]; exact hl
    refine' ksw_end (c := (p, ys, t, tc)) (news' := [(ha, lobj (ys.set p l) n)]) (2 * p + 1, ys.set p l, ?ta2, ?tb2) ?F ?N ?hn ?hf ?hk ?hr ?hp ?hm
    case F => assumption
    case N => assumption
    case hn => exact fun _ h => h
    case hk => ((try dsimp only); (repeat (refine allc (by first | with_unfolding_all rfl | (refine' lkT ?q3 ?q4 ?q5; (case q3 => assumption); (case q4 => with_unfolding_all rfl); (case q5 => with_unfolding_all rfl))) ?_)); exact List.forall_mem_nil _)
    case hf =>
      refine ⟨by rw [List.length_set]; show 2 * p + 1 < ys.length; (first | lia | omega), by rw [List.length_set]; exact hlen, fun z hz => ?_⟩
      rcases List.mem_or_eq_of_mem_set hz with hz | rfl
      · exact hys z hz
      · exact hys _ (List.mem_of_getElem? hl)
    case hr => ((repeat (first | exact sm_rfl | refine sm_store (by kernel_rfl) ?_ | (refine' sm_trans ?q6 (by kernel_rfl) ?_; (case q6 => assumption)))); done)
    case hp => rw [← hsu, su_down hc hy9, hpk]
    case hm => show (ys.set p l).length - (2 * p + 1) < ys.length - p; rw [List.length_set]; (first | lia | omega)
  · have hc : ¬ 2 * p + 1 < ys.length := by (first | lia | omega)
    have hxm : g2.get? x.a = some x.o := hin2 x (List.mem_of_getElem? hx)
    refine lsetI (by assumption) (by assumption) hp (by (first | lia | omega)) fun h' F' N' => ?_
    repeat' ((fail_if_success (with_reducible (first | show wpAny _ _ (exec (Stmt.While _ _ _ _) _) _ _ _ | show wpAny _ _ (setItem (Value.ref _) _ _) _ _ _ | show wpAny _ _ (subscriptTail _ _ (Value.ref _) _) _ _ _ | show wpAny _ _ (compareOp _ (Value.ref _) (Value.ref _)) _ _ _ | show KswEnd _ _ _ _ _ _ _ _ _ _ _ _ | show wpAny _ _ (call (Value.ref _) _) _ _ _))); first | (with_reducible refine execs_hide ?_; intro Q9 hQ9 hR9) | (with_reducible refine hQ9 _ ?_; clear hQ9 hR9; (try clear Q9)) | ((with_reducible refine' hR9 _ _ ?hk9 ?_); (case hk9 => exact nofun); clear hQ9 hR9; (try clear Q9)) | (with_reducible refine hQ8 _ _ ?_; clear hQ8; (try clear Q8); (try dsimp only)) | (with_reducible refine hQ8 _ _ _ ?_; clear hQ8; (try clear Q8); (try dsimp only)) | (with_reducible refine hQ7 _ _ ?_; clear hQ7; (try clear Q7); (try dsimp only)) | (k_unfold; (try dsimp only)) | walk_at "my step" | fail "no step")
    have e : su xs 0 = (ys, p) := hsu.symm.trans (su_end hc)
    have hx9 : (ys.set p x)[p]? = some x := by rw [List.getElem?_set_self hp]
    have hin9 : ∀ y ∈ ys.set p x, g2.get? y.a = some y.o := fun z hz => by
      rcases List.mem_or_eq_of_mem_set hz with hz | rfl
      · exact hys z hz
      · exact hxm
    refine' c_siftdown (a := 0) (x := x) (xs := ys.set p x) (rest := []) ?k1 ?k2 ?k3 ?k4 ?k5 ?kf ?k6 ?k7 ?k8 ?dis ?hx ?hsz ?hin ?_
    case k1 => k_asm
    case k2 => k_asm
    case k3 => k_asm
    case k4 => assumption
    case k5 => k_asm
    case kf => exact rfl
    case k6 => exact rfl
    case k7 => ktr_room
    case k8 => ktr_units
    case dis => exact fun _ h => nomatch h
    case hx => exact hx9
    case hsz => rw [List.length_set]; (first | lia | omega)
    case hin => exact fun y hy => .inl (hin9 y hy)
    intro h9 tk9 F9 N9
    repeat' ((fail_if_success (with_reducible (first | show wpAny _ _ (exec (Stmt.While _ _ _ _) _) _ _ _ | show wpAny _ _ (setItem (Value.ref _) _ _) _ _ _ | show wpAny _ _ (subscriptTail _ _ (Value.ref _) _) _ _ _ | show wpAny _ _ (compareOp _ (Value.ref _) (Value.ref _)) _ _ _ | show KswEnd _ _ _ _ _ _ _ _ _ _ _ _ | show wpAny _ _ (call (Value.ref _) _) _ _ _))); first | (with_reducible refine execs_hide ?_; intro Q9 hQ9 hR9) | (with_reducible refine hQ9 _ ?_; clear hQ9 hR9; (try clear Q9)) | ((with_reducible refine' hR9 _ _ ?hk9 ?_); (case hk9 => exact nofun); clear hQ9 hR9; (try clear Q9)) | (with_reducible refine hQ8 _ _ ?_; clear hQ8; (try clear Q8); (try dsimp only)) | (with_reducible refine hQ8 _ _ _ ?_; clear hQ8; (try clear Q8); (try dsimp only)) | (with_reducible refine hQ7 _ _ ?_; clear hQ7; (try clear Q7); (try dsimp only)) | (k_unfold; (try dsimp only)) | walk_at "my step" | fail "no step")
    refine hret _ _ (by assumption) ?_
    have e2 : sd x 0 (ys.set p x) p = siftup x xs := by unfold siftup; rw [e]
    rw [← e2]
    assumption
end
end Mine
end

noncomputable section
namespace Mine
section
variable {vq : Program} {vl : List Str} {w : World} {mean : ExcName → Option Value} {mg mb : Str → Option Value} {dp un : Nat} {gd : Option (List Code)} {env : Env} {outer : List Env} {A₀ : Around} {base h₀ : Heap} {L : Addr} {m : Str → Option Value} {s : Shared} {Q E : Value → Shared → Prop} {news : List (Addr × Obj)}
variable {rest : List (Addr × Obj)}
theorem lappend {prog : Program} {A : Around} {D : Addr} {n : Nat} {ys : List It} {y : It} {Q : Value → Shared → Prop} (F : Fr h₀ L s.heap m) (N : News h₀ L s.heap [(D, lobj ys n)]) (hf : ys.length ≤ 4000)
    (h : ∀ h', Fr h₀ L h' m → News h₀ L h' [(D, lobj (ys ++ [y]) (n + 1))] → Q .none { s with heap := h' }) : wpAny (model prog w) A (call (.builtin "list.append") [.ref D, y.v]) Q E s := by
  refine append_K (its := (ys.map It.v).toArray) (n := n) (news' := [(D, lobj (ys ++ [y]) (n + 1))]) F N ?_ h (by simp [sizeLine]; (first | lia | omega))
  have e : (List.map It.v ys).toArray.push y.v = (List.map It.v (ys ++ [y])).toArray := by simp
  rw [e]
  exact Upd.head fun _ hp => nomatch hp
theorem kl_last_app (y : Value) : ∀ p : List Value, kl_last (p ++ [y]) = some (p, y)
  | [] => rfl
  | [a] => rfl
  | a :: b :: r => by
    have ih := kl_last_app y (b :: r)
    simp only [List.cons_append] at ih ⊢
    rw [kl_last, ih]
theorem lpop {prog : Program} {A : Around} {D : Addr} {n : Nat} {ys : List It} {y : It} {Q : Value → Shared → Prop} (F : Fr h₀ L s.heap m) (N : News h₀ L s.heap [(D, lobj (ys ++ [y]) n)]) (hf : ys.length ≤ 4000)
    (h : ∀ h', Fr h₀ L h' m → News h₀ L h' [(D, lobj ys (n + 1))] → Q y.v { s with heap := h' }) : wpAny (model prog w) A (call (.builtin "list.pop") [.ref D]) Q E s := by
  refine kl_pop (its := ((ys ++ [y]).map It.v).toArray) (n := n) (p := ys.map It.v) (y := y.v) (news' := [(D, lobj ys (n + 1))]) F N ?_ ?_ ?_ h
  · simp only [List.map_append, List.map_cons, List.map_nil]; exact kl_last_app _ _
  rotate_left
  · simp [sizeLine]; (first | lia | omega)
  · exact Upd.head fun _ hp => nomatch hp
theorem ltruthy {prog : Program} {A : Around} {D : Addr} {n : Nat} {ys : List It} {Q : Bool → Shared → Prop} (N : News h₀ L s.heap news) (hm : (D, lobj ys n) ∈ news) (hf : ys.length ≤ 4000)
    (h : Q (!ys.isEmpty) { s with toks := s.toks + 1 + 1 }) : wpAny (model prog w) A (truthy (.ref D)) Q E s := by
  have hl : s.heap.IsList D (ys.map It.v).toArray := PySem.IsL.isList (n := n) (N _ hm).1
  refine wpAny_truthy_list hl (by simp; (first | lia | omega)) ?_
  have e : (!(ys.map It.v).toArray.isEmpty) = !ys.isEmpty := by cases ys <;> simp
  rw [e]; exact h
def popRest (xs : List It) (x : It) : List It := match xs with | [] => [] | _ :: r => siftup x (x :: r)
def popTop (xs : List It) (x : It) : It := match xs with | [] => x | y :: _ => y
theorem popTop_mem (xs : List It) (x : It) : popTop xs x ∈ xs ++ [x] := by cases xs <;> simp [popTop]
theorem sd_len (x : It) (a : Nat) : ∀ (p : Nat) (ys : List It), (sd x a ys p).length = ys.length := by
  intro p
  induction p using Nat.strongRecOn with
  | ind p ih =>
    intro ys
    rw [sd]
    split
    · rename_i h
      split
      · split
        · rw [ih _ (by (first | lia | omega)), List.length_set]
        · rw [List.length_set]
      · rfl
    · rw [List.length_set]
theorem su_len : ∀ (k : Nat) (ys : List It) (p : Nat), ys.length - p ≤ k → (su ys p).1.length = ys.length := by
  intro k
  induction k with
  | zero =>
    intro ys p h
    rw [su_end (by (first | lia | omega))]
  | succ k ih =>
    intro ys p h
    by_cases c : 2 * p + 1 < ys.length
    · have hp : suPick ys (2 * p + 1) = 2 * p + 1 ∨ suPick ys (2 * p + 1) = 2 * p + 1 + 1 := by
        unfold suPick
        split
        · split <;> simp
        · simp
      cases hy : ys[suPick ys (2 * p + 1)]? with
      | some y =>
        rw [su_down c hy, ih _ _ (by rw [List.length_set]; (first | lia | omega)), List.length_set]
      | none =>
        rw [su, dif_pos c]
        split
        · rename_i y' e; rw [hy] at e; cases e
        · rfl
    · rw [su_end c]
theorem siftup_len (x : It) (ys : List It) : (siftup x ys).length = ys.length := by
  unfold siftup
  rw [sd_len, List.length_set, su_len _ _ _ (Nat.le_refl _)]
theorem popRest_len (xs : List It) (x : It) : (popRest xs x).length = xs.length := by
  cases xs with
  | nil => rfl
  | cons y r => show (siftup x (x :: r)).length = _; rw [siftup_len]; rfl
theorem sd_mem (x : It) (a : Nat) : ∀ (p : Nat) (ys : List It) (z : It), z ∈ sd x a ys p → z ∈ ys ∨ z = x := by
  intro p
  induction p using Nat.strongRecOn with
  | ind p ih =>
    intro ys z hz
    have setm : ∀ (q : Nat) (w : It), z ∈ ys.set q w → z ∈ ys ∨ z = w := fun q w h => List.mem_or_eq_of_mem_set h
    rw [sd] at hz
    split at hz
    · rename_i h
      split at hz
      · rename_i y hy
        split at hz
        · rcases ih _ (by (first | lia | omega)) _ _ hz with h1 | h1
          · rcases setm _ _ h1 with h2 | h2
            · exact .inl h2
            · exact .inl (h2 ▸ List.mem_of_getElem? hy)
          · exact .inr h1
        · exact setm _ _ hz
      · exact .inl hz
    · exact setm _ _ hz
theorem su_mem : ∀ (k : Nat) (ys : List It) (p : Nat) (z : It), ys.length - p ≤ k → z ∈ (su ys p).1 → z ∈ ys := by
  intro k
  induction k with
  | zero =>
    intro ys p z h hz
    rw [su_end (by (first | lia | omega))] at hz
    exact hz
  | succ k ih =>
    intro ys p z h hz
    by_cases c : 2 * p + 1 < ys.length
    · have hp : suPick ys (2 * p + 1) = 2 * p + 1 ∨ suPick ys (2 * p + 1) = 2 * p + 1 + 1 := by
        unfold suPick
        split
        · split <;> simp
        · simp
      cases hy : ys[suPick ys (2 * p + 1)]? with
      | some y =>
        rw [su_down c hy] at hz
        rcases List.mem_or_eq_of_mem_set (ih _ _ _ (by rw [List.length_set]; (first | lia | omega)) hz) with h1 | h1
        · exact h1
        · exact h1 ▸ List.mem_of_getElem? hy
      | none =>
        rw [su, dif_pos c] at hz
        split at hz
        · rename_i y' e; rw [hy] at e; cases e
        · exact hz
    · rw [su_end c] at hz
      exact hz
theorem siftup_mem {x z : It} {ys : List It} (hz : z ∈ siftup x ys) : z ∈ ys ∨ z = x := by
  unfold siftup at hz
  rcases sd_mem _ _ _ _ _ hz with h | h
  · rcases List.mem_or_eq_of_mem_set h with h | h
    · exact .inl (su_mem _ _ _ _ (Nat.le_refl _) h)
    · exact .inr h
  · exact .inr h
theorem popRest_mem {xs : List It} {x z : It} (hz : z ∈ popRest xs x) : z ∈ xs ++ [x] := by
  cases xs with
  | nil => cases hz
  | cons y r =>
    rcases siftup_mem (show z ∈ siftup x (x :: r) from hz) with h | h
    · rcases List.mem_cons.mp h with h | h <;> simp [h]
    · simp [h]
theorem ints_snoc {x : Int} {u : Tok} : ∀ {vs : List Value} {ns : List Int}, IntsAre vs ns → IntsAre (vs ++ [.int x u]) (ns ++ [x])
  | _, _, .nil => .cons x u .nil
  | _, _, .cons i t h => .cons i t (ints_snoc h)
theorem c_heappush {ha : Addr} {n : Nat} {xs : List It} {x : It} (B : Below A₀ base outer h₀) (F : Fr h₀ L s.heap m) (X : (law0.heap_1 w.params).In h₀) (N : News h₀ L s.heap ([(ha, lobj xs n)] ++ rest)) (T : TopH vq vl mean mg mb h₀) (hf : env.frame = some L) (hk : env.scope.kind = .function)
   (hdp : dp + 5 < recursionLimit) (hun : un + 40 < cLine) (dis : ∀ p ∈ rest, ∀ q ∈ [(ha, lobj xs n)], p.1 ≠ q.1) (hsz : xs.length ≤ 3000) (hin : ∀ y ∈ x :: xs, h₀.get? y.a = some y.o ∨ (y.a, y.o) ∈ rest)
   (hret : ∀ h' tk', Fr h₀ L h' m → News h₀ L h' ([(ha, lobj (sd x 0 (xs ++ [x]) xs.length) (n + 1))] ++ rest) → Q .none { s with heap := h', toks := tk' }) :
   wpAny (model PySem.Challenge.rw_il0067_01.row.prog w) (atop dp un gd env outer) (call (.ref 70) [.ref ha, .ref x.a]) Q E s := by
  revert X; k_fill; intro X
  refine wpAny_call ?_
  k_dflt (refine' enter_rel (rel := [(ha, lobj xs n)]) (rest := rest) ?k1 ?k2 ?k3 ?k4 ?k5 ?kd ?kA ?kF ?kK ?k6 ?k7 ?k8 ?k9 ?kB ?_ ?c2 ?c3 ?c4 ?c5; (case kA => exact rfl); (case kF => assumption); (case kK => assumption); (case k1 => k_asm); (case k2 => k_asm); (case k3 => k_asm); (case k4 => exact N); (case k5 => k_asm); (case kd => exact dis); (case k6 => k_is); (case k7 => k_is); (case k8 => ktr_room); (case k9 => exact BindsTo.of_eq rfl); (case c5 => decide); (case kB => exact locs rfl); (case c2 => exact rfl); (case c3 => exact rfl); (case c4 => exact rfl); k_whole; intro g g2 L' h1 aG st2 F2 N2 B2 X2 T2; (try dsimp only); (refine wp_hide ?_); intro Q7 hQ7)
  have hin2 : ∀ y ∈ x :: xs, g2.get? y.a = some y.o := fun y hy => (hin y hy).elim (fun e => st2 _ _ e) fun e => aG.held _ e
  repeat' ((fail_if_success (with_reducible (first | show wpAny _ _ (exec (Stmt.While _ _ _ _) _) _ _ _ | show wpAny _ _ (setItem (Value.ref _) _ _) _ _ _ | show wpAny _ _ (subscriptTail _ _ (Value.ref _) _) _ _ _ | show wpAny _ _ (compareOp _ (Value.ref _) (Value.ref _)) _ _ _ | show KswEnd _ _ _ _ _ _ _ _ _ _ _ _ | show wpAny _ _ (call (Value.builtin _) _) _ _ _ | show wpAny _ _ (call (Value.ref _) _) _ _ _))); first | (with_reducible refine execs_hide ?_; intro Q9 hQ9 hR9) | (with_reducible refine hQ9 _ ?_; clear hQ9 hR9; (try clear Q9)) | ((with_reducible refine' hR9 _ _ ?hk9 ?_); (case hk9 => exact nofun); clear hQ9 hR9; (try clear Q9)) | (with_reducible refine hQ8 _ _ ?_; clear hQ8; (try clear Q8); (try dsimp only)) | (with_reducible refine hQ8 _ _ _ ?_; clear hQ8; (try clear Q8); (try dsimp only)) | (with_reducible refine hQ7 _ _ ?_; clear hQ7; (try clear Q7); (try dsimp only)) | (k_unfold; (try dsimp only)) | walk_at "my step" | fail "no step")
  refine lappend (y := x) (by assumption) (by assumption) (by (first | lia | omega)) fun h' F' N' => ?_
  repeat' ((fail_if_success (with_reducible (first | show wpAny _ _ (exec (Stmt.While _ _ _ _) _) _ _ _ | show wpAny _ _ (setItem (Value.ref _) _ _) _ _ _ | show wpAny _ _ (subscriptTail _ _ (Value.ref _) _) _ _ _ | show wpAny _ _ (compareOp _ (Value.ref _) (Value.ref _)) _ _ _ | show KswEnd _ _ _ _ _ _ _ _ _ _ _ _ | show wpAny _ _ (call (Value.builtin _) _) _ _ _ | show wpAny _ _ (call (Value.ref _) _) _ _ _))); first | (with_reducible refine execs_hide ?_; intro Q9 hQ9 hR9) | (with_reducible refine hQ9 _ ?_; clear hQ9 hR9; (try clear Q9)) | ((with_reducible refine' hR9 _ _ ?hk9 ?_); (case hk9 => exact nofun); clear hQ9 hR9; (try clear Q9)) | (with_reducible refine hQ8 _ _ ?_; clear hQ8; (try clear Q8); (try dsimp only)) | (with_reducible refine hQ8 _ _ _ ?_; clear hQ8; (try clear Q8); (try dsimp only)) | (with_reducible refine hQ7 _ _ ?_; clear hQ7; (try clear Q7); (try dsimp only)) | (k_unfold; (try dsimp only)) | walk_at "my step" | fail "no step")
  refine kst_len (us := (xs ++ [x]).map It.v) (by assumption) (List.Mem.head _) (k := xs.length + 1) (by simp) (by (first | lia | omega)) ?_
  repeat' ((fail_if_success (with_reducible (first | show wpAny _ _ (exec (Stmt.While _ _ _ _) _) _ _ _ | show wpAny _ _ (setItem (Value.ref _) _ _) _ _ _ | show wpAny _ _ (subscriptTail _ _ (Value.ref _) _) _ _ _ | show wpAny _ _ (compareOp _ (Value.ref _) (Value.ref _)) _ _ _ | show KswEnd _ _ _ _ _ _ _ _ _ _ _ _ | show wpAny _ _ (call (Value.builtin _) _) _ _ _ | show wpAny _ _ (call (Value.ref _) _) _ _ _))); first | (with_reducible refine execs_hide ?_; intro Q9 hQ9 hR9) | (with_reducible refine hQ9 _ ?_; clear hQ9 hR9; (try clear Q9)) | ((with_reducible refine' hR9 _ _ ?hk9 ?_); (case hk9 => exact nofun); clear hQ9 hR9; (try clear Q9)) | (with_reducible refine hQ8 _ _ ?_; clear hQ8; (try clear Q8); (try dsimp only)) | (with_reducible refine hQ8 _ _ _ ?_; clear hQ8; (try clear Q8); (try dsimp only)) | (with_reducible refine hQ7 _ _ ?_; clear hQ7; (try clear Q7); (try dsimp only)) | (k_unfold; (try dsimp only)) | walk_at "my step" | fail "no step")
  have e : ((xs.length + 1 : Nat) : Int) - 1 = (xs.length : Int) := by (first | lia | omega)
  simp only [e]
  refine' c_siftdown (a := 0) (x := x) (xs := xs ++ [x]) (rest := []) ?k1 ?k2 ?k3 ?k4 ?k5 ?kf ?k6 ?k7 ?k8 ?dis ?hx ?hsz ?hin ?_
  case k1 => k_asm
  case k2 => k_asm
  case k3 => k_asm
  case k4 => assumption
  case k5 => k_asm
  case kf => exact rfl
  case k6 => exact rfl
  case k7 => ktr_room
  case k8 => ktr_units
  case dis => exact fun _ h => nomatch h
  case hx => simp
  case hsz => simp; (first | lia | omega)
  case hin => exact fun y hy => .inl (hin2 y (by simp at hy ⊢; rcases hy with h | h; exact .inr h; exact .inl h))
  intro h9 tk9 F9 N9
  repeat' ((fail_if_success (with_reducible (first | show wpAny _ _ (exec (Stmt.While _ _ _ _) _) _ _ _ | show wpAny _ _ (setItem (Value.ref _) _ _) _ _ _ | show wpAny _ _ (subscriptTail _ _ (Value.ref _) _) _ _ _ | show wpAny _ _ (compareOp _ (Value.ref _) (Value.ref _)) _ _ _ | show KswEnd _ _ _ _ _ _ _ _ _ _ _ _ | show wpAny _ _ (call (Value.builtin _) _) _ _ _ | show wpAny _ _ (call (Value.ref _) _) _ _ _))); first | (with_reducible refine execs_hide ?_; intro Q9 hQ9 hR9) | (with_reducible refine hQ9 _ ?_; clear hQ9 hR9; (try clear Q9)) | ((with_reducible refine' hR9 _ _ ?hk9 ?_); (case hk9 => exact nofun); clear hQ9 hR9; (try clear Q9)) | (with_reducible refine hQ8 _ _ ?_; clear hQ8; (try clear Q8); (try dsimp only)) | (with_reducible refine hQ8 _ _ _ ?_; clear hQ8; (try clear Q8); (try dsimp only)) | (with_reducible refine hQ7 _ _ ?_; clear hQ7; (try clear Q7); (try dsimp only)) | (k_unfold; (try dsimp only)) | walk_at "my step" | fail "no step")
  exact hret _ _ (by assumption) (by assumption)
theorem c_heappop {ha : Addr} {n : Nat} {xs : List It} {x : It} (B : Below A₀ base outer h₀) (F : Fr h₀ L s.heap m) (X : (law0.heap_1 w.params).In h₀) (N : News h₀ L s.heap ([(ha, lobj (xs ++ [x]) n)] ++ rest)) (T : TopH vq vl mean mg mb h₀) (hf : env.frame = some L) (hk : env.scope.kind = .function)
   (hdp : dp + 10 < recursionLimit) (hun : un + 80 < cLine) (dis : ∀ p ∈ rest, ∀ q ∈ [(ha, lobj (xs ++ [x]) n)], p.1 ≠ q.1) (hsz : xs.length ≤ 3000) (hin : ∀ y ∈ xs ++ [x], h₀.get? y.a = some y.o ∨ (y.a, y.o) ∈ rest)
   (hret : ∀ h' tk', Fr h₀ L h' m → News h₀ L h' ([(ha, lobj (popRest xs x) (n + 1))] ++ rest) → Q (popTop xs x).v { s with heap := h', toks := tk' }) :
   wpAny (model PySem.Challenge.rw_il0067_01.row.prog w) (atop dp un gd env outer) (call (.ref 77) [.ref ha]) Q E s := by
  revert X; k_fill; intro X
  refine wpAny_call ?_
  k_dflt (refine' enter_rel (rel := [(ha, lobj (xs ++ [x]) n)]) (rest := rest) ?k1 ?k2 ?k3 ?k4 ?k5 ?kd ?kA ?kF ?kK ?k6 ?k7 ?k8 ?k9 ?kB ?_ ?c2 ?c3 ?c4 ?c5; (case kA => exact rfl); (case kF => assumption); (case kK => assumption); (case k1 => k_asm); (case k2 => k_asm); (case k3 => k_asm); (case k4 => exact N); (case k5 => k_asm); (case kd => exact dis); (case k6 => k_is); (case k7 => k_is); (case k8 => ktr_room); (case k9 => exact BindsTo.of_eq rfl); (case c5 => decide); (case kB => exact locs rfl); (case c2 => exact rfl); (case c3 => exact rfl); (case c4 => exact rfl); k_whole; intro g g2 L' h1 aG st2 F2 N2 B2 X2 T2; (try dsimp only); (refine wp_hide ?_); intro Q7 hQ7)
  have hin2 : ∀ y ∈ xs ++ [x], g2.get? y.a = some y.o := fun y hy => (hin y hy).elim (fun e => st2 _ _ e) fun e => aG.held _ e
  repeat' ((fail_if_success (with_reducible (first | show wpAny _ _ (exec (Stmt.While _ _ _ _) _) _ _ _ | show wpAny _ _ (setItem (Value.ref _) _ _) _ _ _ | show wpAny _ _ (subscriptTail _ _ (Value.ref _) _) _ _ _ | show wpAny _ _ (compareOp _ (Value.ref _) (Value.ref _)) _ _ _ | show KswEnd _ _ _ _ _ _ _ _ _ _ _ _ | show wpAny _ _ (call (Value.builtin _) _) _ _ _ | show wpAny _ _ (call (Value.ref _) _) _ _ _ | show wpAny _ _ (truthy (Value.ref _)) _ _ _))); first | (with_reducible refine execs_hide ?_; intro Q9 hQ9 hR9) | (with_reducible refine hQ9 _ ?_; clear hQ9 hR9; (try clear Q9)) | ((with_reducible refine' hR9 _ _ ?hk9 ?_); (case hk9 => exact nofun); clear hQ9 hR9; (try clear Q9)) | (with_reducible refine hQ8 _ _ ?_; clear hQ8; (try clear Q8); (try dsimp only)) | (with_reducible refine hQ8 _ _ _ ?_; clear hQ8; (try clear Q8); (try dsimp only)) | (with_reducible refine hQ7 _ _ ?_; clear hQ7; (try clear Q7); (try dsimp only)) | (k_unfold; (try dsimp only)) | walk_at "my step" | fail "no step")
  refine lpop (by assumption) (by assumption) (by (first | lia | omega)) fun h' F' N' => ?_
  repeat' ((fail_if_success (with_reducible (first | show wpAny _ _ (exec (Stmt.While _ _ _ _) _) _ _ _ | show wpAny _ _ (setItem (Value.ref _) _ _) _ _ _ | show wpAny _ _ (subscriptTail _ _ (Value.ref _) _) _ _ _ | show wpAny _ _ (compareOp _ (Value.ref _) (Value.ref _)) _ _ _ | show KswEnd _ _ _ _ _ _ _ _ _ _ _ _ | show wpAny _ _ (call (Value.builtin _) _) _ _ _ | show wpAny _ _ (call (Value.ref _) _) _ _ _ | show wpAny _ _ (truthy (Value.ref _)) _ _ _))); first | (with_reducible refine execs_hide ?_; intro Q9 hQ9 hR9) | (with_reducible refine hQ9 _ ?_; clear hQ9 hR9; (try clear Q9)) | ((with_reducible refine' hR9 _ _ ?hk9 ?_); (case hk9 => exact nofun); clear hQ9 hR9; (try clear Q9)) | (with_reducible refine hQ8 _ _ ?_; clear hQ8; (try clear Q8); (try dsimp only)) | (with_reducible refine hQ8 _ _ _ ?_; clear hQ8; (try clear Q8); (try dsimp only)) | (with_reducible refine hQ7 _ _ ?_; clear hQ7; (try clear Q7); (try dsimp only)) | (k_unfold; (try dsimp only)) | walk_at "my step" | fail "no step")
  refine ltruthy (by assumption) (List.Mem.head _) (by (first | lia | omega)) ?_
  repeat' ((fail_if_success (with_reducible (first | show wpAny _ _ (exec (Stmt.While _ _ _ _) _) _ _ _ | show wpAny _ _ (setItem (Value.ref _) _ _) _ _ _ | show wpAny _ _ (subscriptTail _ _ (Value.ref _) _) _ _ _ | show wpAny _ _ (compareOp _ (Value.ref _) (Value.ref _)) _ _ _ | show KswEnd _ _ _ _ _ _ _ _ _ _ _ _ | show wpAny _ _ (call (Value.builtin _) _) _ _ _ | show wpAny _ _ (call (Value.ref _) _) _ _ _ | show wpAny _ _ (truthy (Value.ref _)) _ _ _))); first | (with_reducible refine execs_hide ?_; intro Q9 hQ9 hR9) | (with_reducible refine hQ9 _ ?_; clear hQ9 hR9; (try clear Q9)) | ((with_reducible refine' hR9 _ _ ?hk9 ?_); (case hk9 => exact nofun); clear hQ9 hR9; (try clear Q9)) | (with_reducible refine hQ8 _ _ ?_; clear hQ8; (try clear Q8); (try dsimp only)) | (with_reducible refine hQ8 _ _ _ ?_; clear hQ8; (try clear Q8); (try dsimp only)) | (with_reducible refine hQ7 _ _ ?_; clear hQ7; (try clear Q7); (try dsimp only)) | (k_unfold; (try dsimp only)) | walk_at "my step" | fail "no step")
  · have e : xs = [] := by simpa using (by assumption : xs.isEmpty = true)
    subst e
    exact hret _ _ (by assumption) (by assumption)
  · obtain ⟨y, r, rfl⟩ : ∃ y r, xs = y :: r := by
      cases xs with
      | nil => simp_all
      | cons y r => exact ⟨y, r, rfl⟩
    refine lget (by assumption) (List.Mem.head _) (by (first | lia | omega)) (by (first | lia | omega)) (v := y.v) rfl ?_
    repeat' ((fail_if_success (with_reducible (first | show wpAny _ _ (exec (Stmt.While _ _ _ _) _) _ _ _ | show wpAny _ _ (setItem (Value.ref _) _ _) _ _ _ | show wpAny _ _ (subscriptTail _ _ (Value.ref _) _) _ _ _ | show wpAny _ _ (compareOp _ (Value.ref _) (Value.ref _)) _ _ _ | show KswEnd _ _ _ _ _ _ _ _ _ _ _ _ | show wpAny _ _ (call (Value.builtin _) _) _ _ _ | show wpAny _ _ (call (Value.ref _) _) _ _ _ | show wpAny _ _ (truthy (Value.ref _)) _ _ _))); first | (with_reducible refine execs_hide ?_; intro Q9 hQ9 hR9) | (with_reducible refine hQ9 _ ?_; clear hQ9 hR9; (try clear Q9)) | ((with_reducible refine' hR9 _ _ ?hk9 ?_); (case hk9 => exact nofun); clear hQ9 hR9; (try clear Q9)) | (with_reducible refine hQ8 _ _ ?_; clear hQ8; (try clear Q8); (try dsimp only)) | (with_reducible refine hQ8 _ _ _ ?_; clear hQ8; (try clear Q8); (try dsimp only)) | (with_reducible refine hQ7 _ _ ?_; clear hQ7; (try clear Q7); (try dsimp only)) | (k_unfold; (try dsimp only)) | walk_at "my step" | fail "no step")
    refine lsetI (p := 0) (y := x) (by assumption) (by assumption) (by simp) (by (first | lia | omega)) fun h' F' N' => ?_
    repeat' ((fail_if_success (with_reducible (first | show wpAny _ _ (exec (Stmt.While _ _ _ _) _) _ _ _ | show wpAny _ _ (setItem (Value.ref _) _ _) _ _ _ | show wpAny _ _ (subscriptTail _ _ (Value.ref _) _) _ _ _ | show wpAny _ _ (compareOp _ (Value.ref _) (Value.ref _)) _ _ _ | show KswEnd _ _ _ _ _ _ _ _ _ _ _ _ | show wpAny _ _ (call (Value.builtin _) _) _ _ _ | show wpAny _ _ (call (Value.ref _) _) _ _ _ | show wpAny _ _ (truthy (Value.ref _)) _ _ _))); first | (with_reducible refine execs_hide ?_; intro Q9 hQ9 hR9) | (with_reducible refine hQ9 _ ?_; clear hQ9 hR9; (try clear Q9)) | ((with_reducible refine' hR9 _ _ ?hk9 ?_); (case hk9 => exact nofun); clear hQ9 hR9; (try clear Q9)) | (with_reducible refine hQ8 _ _ ?_; clear hQ8; (try clear Q8); (try dsimp only)) | (with_reducible refine hQ8 _ _ _ ?_; clear hQ8; (try clear Q8); (try dsimp only)) | (with_reducible refine hQ7 _ _ ?_; clear hQ7; (try clear Q7); (try dsimp only)) | (k_unfold; (try dsimp only)) | walk_at "my step" | fail "no step")
    refine' c_siftup (x := x) (xs := x :: r) (rest := []) ?k1 ?k2 ?k3 ?k4 ?k5 ?kf ?k6 ?k7 ?k8 ?dis ?hx ?hsz ?hin ?_
    case k1 => k_asm
    case k2 => k_asm
    case k3 => k_asm
    case k4 => assumption
    case k5 => k_asm
    case kf => exact rfl
    case k6 => exact rfl
    case k7 => ktr_room
    case k8 => ktr_units
    case dis => exact fun _ h => nomatch h
    case hx => rfl
    case hsz => simp at hsz ⊢; (first | lia | omega)
    case hin => exact fun z hz => .inl (hin2 z (by simp at hz ⊢; rcases hz with h | h; exact .inr (.inr h); exact .inr (.inl h)))
    intro h9 tk9 F9 N9
    repeat' ((fail_if_success (with_reducible (first | show wpAny _ _ (exec (Stmt.While _ _ _ _) _) _ _ _ | show wpAny _ _ (setItem (Value.ref _) _ _) _ _ _ | show wpAny _ _ (subscriptTail _ _ (Value.ref _) _) _ _ _ | show wpAny _ _ (compareOp _ (Value.ref _) (Value.ref _)) _ _ _ | show KswEnd _ _ _ _ _ _ _ _ _ _ _ _ | show wpAny _ _ (call (Value.builtin _) _) _ _ _ | show wpAny _ _ (call (Value.ref _) _) _ _ _ | show wpAny _ _ (truthy (Value.ref _)) _ _ _))); first | (with_reducible refine execs_hide ?_; intro Q9 hQ9 hR9) | (with_reducible refine hQ9 _ ?_; clear hQ9 hR9; (try clear Q9)) | ((with_reducible refine' hR9 _ _ ?hk9 ?_); (case hk9 => exact nofun); clear hQ9 hR9; (try clear Q9)) | (with_reducible refine hQ8 _ _ ?_; clear hQ8; (try clear Q8); (try dsimp only)) | (with_reducible refine hQ8 _ _ _ ?_; clear hQ8; (try clear Q8); (try dsimp only)) | (with_reducible refine hQ7 _ _ ?_; clear hQ7; (try clear Q7); (try dsimp only)) | (k_unfold; (try dsimp only)) | walk_at "my step" | fail "no step")
    exact hret _ _ (by assumption) (by assumption)
end
end Mine
end

noncomputable section
namespace Mine
abbrev joinS (s : Str) (c : Nat) : Str := joinV s ⟨#[c]⟩
theorem tappend {prog : Program} {w : World} {A : Around} {E : Value → Shared → Prop} {s : Shared} {h₀ : Heap} {L ha ta : Addr} {m : Str → Option Value} {oh : Obj} {tv : List Value} {nt : Nat} {rest : List (Addr × Obj)} {v : Value} {Q : Value → Shared → Prop} (F : Fr h₀ L s.heap m) (N : News h₀ L s.heap ((ha, oh) :: (ta, listOf tv.toArray nt) :: rest)) (h1 : ha ≠ ta) (h2 : ∀ p ∈ rest, p.1 ≠ ta) (hf : tv.length ≤ 4000)
    (h : ∀ h', Fr h₀ L h' m → News h₀ L h' ((ha, oh) :: (ta, listOf (tv ++ [v]).toArray (nt + 1)) :: rest) → Q .none { s with heap := h' }) : wpAny (model prog w) A (call (.builtin "list.append") [.ref ta, v]) Q E s := by
  refine append_K (its := tv.toArray) (n := nt) (news' := (ha, oh) :: (ta, listOf (tv ++ [v]).toArray (nt + 1)) :: rest) F N ?_ h (by simp [sizeLine]; (first | lia | omega))
  have e : tv.toArray.push v = (tv ++ [v]).toArray := by simp
  rw [e]
  exact Upd.tail h1 (Upd.head h2)
def pushIf (T0 : Int) (ban : Str → Bool) (it : It) (zs : List It) : List It := if it.i ≤ T0 ∧ ban it.s = false then sd it 0 (zs ++ [it]) zs.length else zs
structure WalkSpec (c0 c1 : Nat) (p q T0 : Int) (ban : Str → Bool) (J : List It → List Int → Prop) (μ : List It → Nat) : Prop where
  start : ∀ a t u, J [⟨a, 0, t, "", u⟩] []
  room : ∀ xs tn, J xs tn → xs.length ≤ 2000 ∧ tn.length ≤ 2000
  good : ∀ xs tn, J xs tn → ∀ y ∈ xs, y.s.length ≤ 100 ∧ Txt.endswith y.s "/" = false ∧ 0 ≤ y.i ∧ y.i ≤ 1000
  turn : ∀ xs x tn, J (xs ++ [x]) tn → ∀ i1 i2 : It, i1.i = (popTop xs x).i + p → i1.s = joinS (popTop xs x).s c0 → i2.i = (popTop xs x).i + q → i2.s = joinS (popTop xs x).s c1 →
    J (pushIf T0 ban i2 (pushIf T0 ban i1 (popRest xs x))) (tn ++ [(popTop xs x).i]) ∧ μ (pushIf T0 ban i2 (pushIf T0 ban i1 (popRest xs x))) < μ (xs ++ [x])
abbrev recO (h1 h2 h3 h4 : Int) (k1 k2 k3 k4 : Tok) (v2 v3 v4 : Value) (ua : Addr) : Obj := dictOf [⟨h1, .str "useragents" k1, .ref ua⟩, ⟨h2, .str "rulelines" k2, v2⟩, ⟨h3, .str "delay" k3, v3⟩, ⟨h4, .str "req_rate" k4, v4⟩] 4
theorem nperm0 {g h : Heap} {L : Addr} {news news' : List (Addr × Obj)} (N : News g L h news) (e : ∀ p ∈ news', p ∈ news) : News g L h news' := fun p hp => N p (e p hp)
theorem sub_ps {α : Type} {P : α → Prop} {l l' : List α} (h : ∀ z ∈ l, P z) (s : ∀ z ∈ l', z ∈ l) : ∀ z ∈ l', P z := fun z hz => h z (s z hz)
inductive Packed (g h : Heap) (L ha ta x d ua t0 : Addr) (a0 a1 a2 : Str) (n : Nat) (oH oT oW oP : Obj) (wa pa : Addr) (o0 : Obj) : Prop
  | intro (h1 h2 h3 h4 : Int) (k1 k2 k3 k4 : Tok) (v2 v3 v4 : Value) (u0 u1 u2 : Tok) (N : News g L h [(ha, oH), (ta, oT), (x, instObj 59 d), (d, recO h1 h2 h3 h4 k1 k2 k3 k4 v2 v3 v4 ua), (ua, listOf [.str a0 u0, .str a1 u1, .str a2 u2].toArray n), (wa, oW), (pa, oP), (t0, o0)]) : Packed g h L ha ta x d ua t0 a0 a1 a2 n oH oT oW oP wa pa o0
theorem pack {g h : Heap} {L D9 ta ha t0 rl ua x d wa pa : Addr} {o9 oT oH o0 orl oW oP : Obj} {h1 h2 h3 h4 : Int} {k1 k2 k3 k4 : Tok} {v2 v3 v4 : Value} {a0 a1 a2 : Str} {u0 u1 u2 : Tok} {n : Nat}
    (N : News g L h [(D9, o9), (ta, oT), (ha, oH), (t0, o0), (rl, orl), (ua, listOf (((#[].push (.str a0 u0)).push (.str a1 u1)).push (.str a2 u2)) n), (x, instObj 59 d), (d, recO h1 h2 h3 h4 k1 k2 k3 k4 v2 v3 v4 ua), (wa, oW), (pa, oP)]) :
    Packed g h L ha ta x d ua t0 a0 a1 a2 n oH oT oW oP wa pa o0 :=
  ⟨h1, h2, h3, h4, k1, k2, k3, k4, v2, v3, v4, u0, u1, u2, nperm0 N (by ((repeat (refine allc (by ((repeat (first | exact List.Mem.head _ | refine List.Mem.tail _ ?_ | assumption | (refine List.mem_append_left _ ?_; assumption) | refine List.mem_append_right _ ?_)); done)) ?_)); first | exact List.forall_mem_nil _ | (intro z9 h9; (repeat (first | exact h9 | refine List.Mem.tail _ ?_ | exact List.mem_append_left _ h9 | refine List.mem_append_right _ ?_)); done)))⟩
def firstPart (v : Str) : Str := ((Txt.split v "/")[0]?).getD ""
def banW (w0 w1 w2 longer : Str) : Bool := appliesF (firstPart (joinV (Txt.replace longer "/" "" ++ (".": Str)) w0)) (Txt.upper w0) (Txt.upper w1) (Txt.upper w2)
structure TextOk (c0 c1 : Nat) (w0 w1 w2 : Str) : Prop where
  s0 : Txt.startswith ⟨#[c0]⟩ "/" = false
  s1 : Txt.startswith ⟨#[c1]⟩ "/" = false
  sw : Txt.startswith w0 "/" = false
  t0 : (Txt.upper w0 != ("*" : Str)) = true
  t1 : (Txt.upper w1 != ("*" : Str)) = true
  t2 : (Txt.upper w2 != ("*" : Str)) = true
  dot : ∀ v : Str, Txt.endswith (v ++ ".") "/" = false
  rep : ∀ v : Str, (Txt.replace v "/" "").length ≤ v.length
  part : ∀ v : Str, (Txt.split v "/")[0]? = some (firstPart v) ∧ (firstPart v).length ≤ v.length
inductive ForJ (ha ta : Addr) (oT : Obj) (fx : List (Addr × Obj) → List (Addr × Obj)) (ps : List (Str × Value)) (stored : List Str) (Zs : Nat → List It → Prop) (I : Nat) (m₀ : Str → Option Value) (i : Nat) (m' : Str → Option Value) (news' : List (Addr × Obj)) : Prop
  | intro (zs : List It) (nz : Nat) (tl' : List (Addr × Obj)) (f1 : news' = (ha, lobj zs nz) :: (ta, oT) :: fx tl') (f2 : Zs i zs) (f3 : zs.length ≤ 2000 + i) (f4 : (∀ z ∈ zs, (z.a, z.o) ∈ tl')) (f5 : (∀ z ∈ tl', z.1 ≠ ha ∧ z.1 ≠ ta)) (f6 : (∀ z ∈ tl', (z.1 : Nat) < I ∨ I + 4 < (z.1 : Nat))) (f7 : (∀ z ∈ ps, m' z.1 = some z.2)) (f8 : (∀ z, (∀ p ∈ ps, z ≠ p.1) → stored.contains z = false → m' z = m₀ z)) : ForJ ha ta oT fx ps stored Zs I m₀ i m' news'
abbrev forJ {g : Heap} {L : Addr} {h : Heap} {m₀ : Str → Option Value} (_ : Fr g L h m₀) (ha ta : Addr) (oT : Obj) (fx : List (Addr × Obj) → List (Addr × Obj)) (ps : List (Str × Value)) (stored : List Str) (Zs : Nat → List It → Prop) (I : Nat) := ForJ ha ta oT fx ps stored Zs I m₀
def ZsOf (T0 : Int) (ban : Str → Bool) (y : It) (zs0 : List It) (c0 c1 : Nat) (p q : Int) (i : Nat) (zs : List It) : Prop := match i with
  | 0 => zs = zs0
  | 1 => ∃ i1 : It, i1.i = y.i + p ∧ i1.s = joinS y.s c0 ∧ zs = pushIf T0 ban i1 zs0
  | _ => ∃ i1 i2 : It, i1.i = y.i + p ∧ i1.s = joinS y.s c0 ∧ i2.i = y.i + q ∧ i2.s = joinS y.s c1 ∧ zs = pushIf T0 ban i2 (pushIf T0 ban i1 zs0)
theorem ZsOf.next {T0 : Int} {ban : Str → Bool} {y : It} {zs0 zs : List It} {c0 c1 c : Nat} {p q pr : Int} {i : Nat} {it : It} (h : ZsOf T0 ban y zs0 c0 c1 p q i zs) (hc : (i = 0 ∧ c = c0 ∧ pr = p) ∨ (i = 1 ∧ c = c1 ∧ pr = q)) (hi : it.i = y.i + pr) (hs : it.s = joinS y.s c) :
    ZsOf T0 ban y zs0 c0 c1 p q (i + 1) (pushIf T0 ban it zs) := by
  rcases hc with ⟨rfl, rfl, rfl⟩ | ⟨rfl, rfl, rfl⟩
  · obtain rfl : zs = zs0 := h
    exact ⟨it, hi, hs, rfl⟩
  · obtain ⟨i1, a, b, rfl⟩ := h
    exact ⟨i1, it, a, b, hi, hs, rfl⟩
inductive CaseOf (c0 c1 : Nat) (p q : Int) (i : Nat) (a : Itm) : Prop
  | intro (c : Nat) (pr : Int) (tpr : Tok) (e : a = .pair (fun t => .str ⟨#[c]⟩ t) (.int pr tpr)) (h : (i = 0 ∧ c = c0 ∧ pr = p) ∨ (i = 1 ∧ c = c1 ∧ pr = q)) : CaseOf c0 c1 p q i a
theorem case_of {c0 c1 : Nat} {p q : Int} {tp tq : Tok} {i : Nat} {a : Itm} (h : (stItems [c0, c1] [.int p tp, .int q tq])[i]? = some a) : CaseOf c0 c1 p q i a := by
  have hi : i = 0 ∨ i = 1 := by
    have := (List.getElem?_eq_some_iff.mp h).1
    simp [stItems] at this
    (first | lia | omega)
  rcases hi with rfl | rfl
  · simp [stItems] at h
    exact ⟨c0, p, tp, h.symm, .inl ⟨rfl, rfl, rfl⟩⟩
  · simp [stItems] at h
    exact ⟨c1, q, tq, h.symm, .inr ⟨rfl, rfl, rfl⟩⟩
theorem turn_of {c0 c1 : Nat} {p q T0 : Int} {ban : Str → Bool} {J : List It → List Int → Prop} {μ : List It → Nat} {ys zs : List It} {x0 y : It} {tn : List Int} (S : WalkSpec c0 c1 p q T0 ban J μ) (hJ : J (ys ++ [x0]) tn) (hyd : popTop ys x0 = y)
    (hZ : ZsOf T0 ban y (popRest ys x0) c0 c1 p q 2 zs) : J zs (tn ++ [y.i]) ∧ μ zs < μ (ys ++ [x0]) := by
  obtain ⟨i1, i2, a1, a2, a3, a4, rfl⟩ := hZ
  subst hyd
  exact S.turn _ _ _ hJ i1 i2 a1 a2 a3 a4
theorem prod6 {A B C D E F : Type} {P : A × B × C × D × E × F → Prop} (h : ∀ a b c d e f, P (a, b, c, d, e, f)) : ∀ x, P x := fun (a, b, c, d, e, f) => h a b c d e f
theorem pushIf_no {T0 : Int} {ban : Str → Bool} {it : It} {zs : List It} (h : ¬ (it.i ≤ T0 ∧ ban it.s = false)) : pushIf T0 ban it zs = zs := by unfold pushIf; rw [if_neg h]
theorem pushIf_yes {T0 : Int} {ban : Str → Bool} {it : It} {zs : List It} (h : it.i ≤ T0 ∧ ban it.s = false) : pushIf T0 ban it zs = sd it 0 (zs ++ [it]) zs.length := by unfold pushIf; rw [if_pos h]
theorem pull6 {g h : Heap} {L : Addr} {a0 a1 a2 a3 a4 a5 b : Addr × Obj} {r : List (Addr × Obj)} (N : News g L h (a0 :: a1 :: a2 :: a3 :: a4 :: a5 :: b :: r)) : News g L h ([b] ++ (a0 :: a1 :: a2 :: a3 :: a4 :: a5 :: r)) := nperm0 N (by ((repeat (refine allc (by ((repeat (first | exact List.Mem.head _ | refine List.Mem.tail _ ?_ | assumption | (refine List.mem_append_left _ ?_; assumption) | refine List.mem_append_right _ ?_)); done)) ?_)); first | exact List.forall_mem_nil _ | (intro z9 h9; (repeat (first | exact h9 | refine List.Mem.tail _ ?_ | exact List.mem_append_left _ h9 | refine List.mem_append_right _ ?_)); done)))
theorem put6_its {a0 a1 a2 a3 a4 a5 b : Addr × Obj} {r : List (Addr × Obj)} : ∀ p ∈ [a1, a2, a3, a4, a5], p ∈ [b] ++ (a0 :: a1 :: a2 :: a3 :: a4 :: a5 :: r) := by ((repeat (refine allc (by ((repeat (first | exact List.Mem.head _ | refine List.Mem.tail _ ?_ | assumption | (refine List.mem_append_left _ ?_; assumption) | refine List.mem_append_right _ ?_)); done)) ?_)); first | exact List.forall_mem_nil _ | (intro z9 h9; (repeat (first | exact h9 | refine List.Mem.tail _ ?_ | exact List.mem_append_left _ h9 | refine List.mem_append_right _ ?_)); done))
theorem put6 {a0 a1 a2 a3 a4 a5 b c d e f g i : Addr × Obj} {r : List (Addr × Obj)} : ∀ p ∈ b :: c :: d :: e :: f :: g :: i :: a0 :: r, p ∈ [b] ++ (a0 :: a1 :: a2 :: a3 :: a4 :: a5 :: c :: d :: e :: f :: g :: i :: r) := by ((repeat (refine allc (by ((repeat (first | exact List.Mem.head _ | refine List.Mem.tail _ ?_ | assumption | (refine List.mem_append_left _ ?_; assumption) | refine List.mem_append_right _ ?_)); done)) ?_)); first | exact List.forall_mem_nil _ | (intro z9 h9; (repeat (first | exact h9 | refine List.Mem.tail _ ?_ | exact List.mem_append_left _ h9 | refine List.mem_append_right _ ?_)); done))
section
variable {vq : Program} {vl : List Str} {w : World} {mean : ExcName → Option Value} {mg mb : Str → Option Value} {dp un : Nat} {gd : Option (List Code)} {env : Env} {outer : List Env} {A₀ : Around} {base h₀ : Heap} {L : Addr} {m : Str → Option Value} {s : Shared} {Q E : Value → Shared → Prop} {news : List (Addr × Obj)}
theorem c_walked {wa pa : Addr} {w0 w1 w2 : Str} {s0 s1 s2 tn tT : Tok} {wn : Nat} {p q T0 : Int} {tp tq : Tok} {J : List It → List Int → Prop} {μ : List It → Nat} {c0 c1 : Nat} (B : Below A₀ base outer h₀) (F : Fr h₀ L s.heap m) (X : (law0.heap_1 w.params).In h₀) (N : News h₀ L s.heap news) (T : TopH vq vl mean mg mb h₀) (hf : env.frame = some L) (hk : env.scope.kind = .function) (hdp : dp + 30 < recursionLimit) (hun : un + 200 < cLine)
   (hw : (wa, listOf [.str w0 s0, .str w1 s1, .str w2 s2].toArray wn) ∈ news) (hp : (pa, tupO [.int p tp, .int q tq]) ∈ news) (hne : wa < pa) (hc0 : c0 < 128) (hc1 : c1 < 128)
   (hw0 : w0.length ≤ 4) (hw1 : w1.length ≤ 4) (hw2 : w2.length ≤ 4) (TO : TextOk c0 c1 w0 w1 w2) (S : WalkSpec c0 c1 p q T0 (banW w0 w1 w2) J μ)
   (hret : ∀ ta tv tn9 nt h' tk', J [] tn9 → IntsAre tv tn9 → (∀ p ∈ news, p.1 ≠ ta) → Fr h₀ L h' m → News h₀ L h' ((ta, listOf tv.toArray nt) :: news) → Q (.ref ta) { s with heap := h', toks := tk' }) :
   wpAny (model PySem.Challenge.rw_il0067_01.row.prog w) (atop dp un gd env outer) (call (.ref 202) [.ref wa, .str ⟨#[c0, c1]⟩ tn, .ref pa, .int T0 tT]) Q E s := by
  revert X; k_fill; intro X
  have hrel : ∀ x ∈ [(wa, listOf [.str w0 s0, .str w1 s1, .str w2 s2].toArray wn), (pa, tupO [.int p tp, .int q tq])], x ∈ news := List.forall_mem_cons.mpr ⟨hw, List.forall_mem_cons.mpr ⟨hp, List.forall_mem_nil _⟩⟩
  refine wpAny_call ?_
  k_dflt (refine' enter_rel (rel := [(wa, listOf [.str w0 s0, .str w1 s1, .str w2 s2].toArray wn), (pa, tupO [.int p tp, .int q tq])]) (rest := leftOf [(wa, listOf [.str w0 s0, .str w1 s1, .str w2 s2].toArray wn), (pa, tupO [.int p tp, .int q tq])] news) ?k1 ?k2 ?k3 ?k4 ?k5 ?kd ?kA ?kF ?kK ?k6 ?k7 ?k8 ?k9 ?kB ?_ ?c2 ?c3 ?c4 ?c5; (case kA => exact rfl); (case kF => assumption); (case kK => assumption); (case k1 => k_asm); (case k2 => k_asm); (case k3 => k_asm); (case k4 => exact leftOf_news N (hrel)); (case k5 => k_asm); (case kd => exact leftOf_dis); (case k6 => k_is); (case k7 => k_is); (case k8 => ktr_room); (case k9 => exact BindsTo.of_eq rfl); (case c5 => decide); (case kB => exact locs rfl); (case c2 => exact rfl); (case c3 => exact rfl); (case c4 => exact rfl); k_whole; intro g g2 L' h1 aG st2 F2 N2 B2 X2 T2; (try dsimp only); (refine wp_hide ?_); intro Q7 hQ7)
  repeat' ((fail_if_success (with_reducible (first | show wpAny _ _ (exec (Stmt.While _ _ _ _) _) _ _ _))); first | (with_reducible refine execs_hide ?_; intro Q9 hQ9 hR9) | (with_reducible refine hQ9 _ ?_; clear hQ9 hR9; (try clear Q9)) | ((with_reducible refine' hR9 _ _ ?hk9 ?_); (case hk9 => exact nofun); clear hQ9 hR9; (try clear Q9)) | (with_reducible refine hQ8 _ _ ?_; clear hQ8; (try clear Q8); (try dsimp only)) | (with_reducible refine hQ8 _ _ _ ?_; clear hQ8; (try clear Q8); (try dsimp only)) | (with_reducible refine hQ7 _ _ ?_; clear hQ7; (try clear Q7); (try dsimp only)) | (k_unfold; (try dsimp only)) | walk_at "my step" | fail "no step")
  rename_i x d _ lxd lx2 _ _ _ _ _ _ ua _ lua _ rl _ lrl _ _ _ _ _ _ _ _ _ _ _ _ _ _ _ hu0 _ _ _ _ _ _ hu1 _ _ _ _ _ _ hu2 _ _ tk0 t0 _ lt0 ha _ lha ta _ lta D9 _ l7 _ _ _ _ _ FW NW
  obtain ⟨e1, e2, e3, e4, k1, k2, k3, k4, v2, v3, v4, u0, u1, u2, N2⟩ := pack NW
  clear NW
  refine' kw_while (σ := List It × Nat × List Value × List Int × Nat × List (Addr × Obj)) (fun c => (ha, lobj c.1 c.2.1) :: (ta, listOf c.2.2.1.toArray c.2.2.2.2.1) :: (x, instObj 59 d) :: (d, recO e1 e2 e3 e4 k1 k2 k3 k4 v2 v3 v4 ua) :: (ua, listOf [.str (Txt.upper w0) u0, .str (Txt.upper w1) u1, .str (Txt.upper w2) u2].toArray (0 + 1 + 1 + 1)) :: (wa, listOf [.str w0 s0, .str w1 s1, .str w2 s2].toArray wn) :: (pa, tupO [.int p tp, .int q tq]) :: c.2.2.2.2.2)
    (fun c => [(Str.ofString "heap", .ref ha), (Str.ofString "told", .ref ta), (Str.ofString "record", .ref x), (Str.ofString "names", .str ⟨#[c0, c1]⟩ tn), (Str.ofString "prices", .ref pa), (Str.ofString "top", .int T0 tT), (Str.ofString "words", .ref wa)])
    (fun c => (∀ y ∈ c.1, (y.a, y.o) ∈ c.2.2.2.2.2) ∧ IntsAre c.2.2.1 c.2.2.2.1 ∧ (∀ z ∈ c.2.2.2.2.2, z.1 ≠ ha ∧ z.1 ≠ ta))
    [Str.ofString "spent", Str.ofString "way", Str.ofString "name", Str.ofString "price", Str.ofString "longer", Str.ofString "word"]
    (fun c => J c.1 c.2.2.2.1) (fun c => μ c.1) ([⟨t0, 0, tk0, "", tk0 + 1⟩], 0, [], [], 0, [(t0, _)]) FW N2 ?hf ?hk ?hp ?turn
  case hf => exact ⟨by simp, .nil, by intro z hz; simp at hz; subst hz; constructor <;> (refine neN ?_; (first | lia | omega))⟩
  case hk => ((try dsimp only); (repeat (refine allc (by first | with_unfolding_all rfl | (refine' lkT ?q3 ?q4 ?q5; (case q3 => assumption); (case q4 => with_unfolding_all rfl); (case q5 => with_unfolding_all rfl))) ?_)); exact List.forall_mem_nil _)
  case hp => exact S.start _ _ _
  refine prod6 ?_
  intro xs n tv tn9 nt tl u h tk hF9 hJ hps1 hsm1 F1 N1 Q8 hQ8
  dsimp only at N1 hF9 hJ hps1 hsm1
  obtain ⟨hin, hti, htl⟩ := hF9
  have hroom := S.room _ _ hJ
  repeat' ((fail_if_success (with_reducible (first | show wpAny _ _ (exec (Stmt.While _ _ _ _) _) _ _ _ | show wpAny _ _ (subscriptTail _ _ (Value.ref _) _) _ _ _ | show wpAny _ _ (compareOp _ (Value.ref _) (Value.ref _)) _ _ _ | show wpAny _ _ (call (Value.ref _) _) _ _ _ | show wpAny _ _ (truthy (Value.ref _)) _ _ _))); first | (with_reducible refine execs_hide ?_; intro Q9 hQ9 hR9) | (with_reducible refine hQ9 _ ?_; clear hQ9 hR9; (try clear Q9)) | ((with_reducible refine' hR9 _ _ ?hk9 ?_); (case hk9 => exact nofun); clear hQ9 hR9; (try clear Q9)) | (with_reducible refine hQ8 _ _ ?_; clear hQ8; (try clear Q8); (try dsimp only)) | (with_reducible refine hQ8 _ _ _ ?_; clear hQ8; (try clear Q8); (try dsimp only)) | (with_reducible refine hQ7 _ _ ?_; clear hQ7; (try clear Q7); (try dsimp only)) | (k_unfold; (try dsimp only)) | walk_at "my step" | fail "no step")
  refine ltruthy N1 (List.Mem.head _) (by (first | lia | omega)) ?_
  repeat' ((fail_if_success (with_reducible (first | show wpAny _ _ (exec (Stmt.While _ _ _ _) _) _ _ _ | show wpAny _ _ (subscriptTail _ _ (Value.ref _) _) _ _ _ | show wpAny _ _ (compareOp _ (Value.ref _) (Value.ref _)) _ _ _ | show wpAny _ _ (call (Value.ref _) _) _ _ _ | show wpAny _ _ (truthy (Value.ref _)) _ _ _ | show wpAny _ _ (exec (Stmt.For _ _ _ _ _) _) _ _ _))); first | (with_reducible refine execs_hide ?_; intro Q9 hQ9 hR9) | (with_reducible refine hQ9 _ ?_; clear hQ9 hR9; (try clear Q9)) | ((with_reducible refine' hR9 _ _ ?hk9 ?_); (case hk9 => exact nofun); clear hQ9 hR9; (try clear Q9)) | (with_reducible refine hQ8 _ _ ?_; clear hQ8; (try clear Q8); (try dsimp only)) | (with_reducible refine hQ8 _ _ _ ?_; clear hQ8; (try clear Q8); (try dsimp only)) | (with_reducible refine hQ7 _ _ ?_; clear hQ7; (try clear Q7); (try dsimp only)) | (k_unfold; (try dsimp only)) | walk_at "my step" | fail "no step")
  · have e : xs = [] := by simpa using (by assumption : xs.isEmpty = true)
    subst e
    rename News h₀ _ _ _ => NE
    refine hret ta tv tn9 nt _ _ hJ hti ?_ (by assumption) ?_
    · intro z hz e
      by_cases c9 : z ∈ leftOf [(wa, listOf [.str w0 s0, .str w1 s1, .str w2 s2].toArray wn), (pa, tupO [.int p tp, .int q tq])] news
      · have h1 := aG.held z c9
        rw [e, (N1 (ta, listOf tv.toArray nt) (by ((repeat (first | exact List.Mem.head _ | refine List.Mem.tail _ ?_ | assumption | (refine List.mem_append_left _ ?_; assumption) | refine List.mem_append_right _ ?_)); done))).2.2] at h1
        cases h1
      · have h2 : z.1 = wa ∨ z.1 = pa := by
          refine Classical.byContradiction fun h3 => c9 (List.mem_filter.mpr ⟨hz, ?_⟩)
          simp only [not_or] at h3
          simp [h3.1, h3.2]
        have hwa : (wa : Nat) < ta := lta.2.2.2.2.2.2.1
        have hpa : (pa : Nat) < ta := lta.2.2.2.2.2.2.2
        rcases h2 with h2 | h2
        · exact Nat.ne_of_lt hwa (h2.symm.trans e)
        · exact Nat.ne_of_lt hpa (h2.symm.trans e)
    · intro z hz
      rcases List.mem_cons.mp hz with rfl | hz
      · exact NE _ (List.mem_append_left _ (by ((repeat (first | exact List.Mem.head _ | refine List.Mem.tail _ ?_ | assumption | (refine List.mem_append_left _ ?_; assumption) | refine List.mem_append_right _ ?_)); done)))
      · exact backR N hrel NE (by ((repeat (refine allc (by ((repeat (first | exact List.Mem.head _ | refine List.Mem.tail _ ?_ | assumption | (refine List.mem_append_left _ ?_; assumption) | refine List.mem_append_right _ ?_)); done)) ?_)); first | exact List.forall_mem_nil _ | (intro z9 h9; (repeat (first | exact h9 | refine List.Mem.tail _ ?_ | exact List.mem_append_left _ h9 | refine List.mem_append_right _ ?_)); done))) z hz
  have hne9 : xs.isEmpty = false := by assumption
  obtain ⟨ys, x0, rfl⟩ : ∃ ys x0, xs = ys ++ [x0] := by
    rcases List.eq_nil_or_concat xs with rfl | h
    · cases hne9
    · obtain ⟨l, b, e⟩ := h; exact ⟨l, b, by rw [e, List.concat_eq_append]⟩
  refine' c_heappop (x := x0) (xs := ys) (n := n) (rest := (ta, listOf tv.toArray nt) :: (x, instObj 59 d) :: (d, recO e1 e2 e3 e4 k1 k2 k3 k4 v2 v3 v4 ua) :: (ua, listOf [.str (Txt.upper w0) u0, .str (Txt.upper w1) u1, .str (Txt.upper w2) u2].toArray (0 + 1 + 1 + 1)) :: (wa, listOf [.str w0 s0, .str w1 s1, .str w2 s2].toArray wn) :: (pa, tupO [.int p tp, .int q tq]) :: tl) ?k1 ?k2 ?k3 ?k4 ?k5 ?kf ?k6 ?k7 ?k8 ?dis ?hsz ?hin ?_
  case k1 => k_asm
  case k2 => k_asm
  case k3 => k_asm
  case k4 => exact N1
  case k5 => k_asm
  case kf => exact rfl
  case k6 => exact rfl
  case k7 => ktr_room
  case k8 => ktr_units
  case dis =>
    (repeat refine allc (allc (by refine neN ?_; (first | lia | omega)) fun _ h => nomatch h) ?_)
    exact fun z hz => allc (htl z hz).1 fun _ h => nomatch h
  case hsz => have := hroom.1; simp at this; (first | lia | omega)
  case hin => exact fun y hy => .inr (List.mem_cons_of_mem _ (List.mem_cons_of_mem _ (List.mem_cons_of_mem _ (List.mem_cons_of_mem _ (List.mem_cons_of_mem _ (List.mem_cons_of_mem _ (hin y hy)))))))
  intro h9 tk9 F9 N9
  have hym := hin _ (popTop_mem ys x0)
  generalize hyd : popTop ys x0 = y at hym ⊢
  have hT : IsTup h9 y.a #[.int y.i y.t, .str y.s y.u] := ⟨_, (N9 (y.a, y.o) (List.mem_append_right _ (List.mem_cons_of_mem _ (List.mem_cons_of_mem _ (List.mem_cons_of_mem _ (List.mem_cons_of_mem _ (List.mem_cons_of_mem _ (List.mem_cons_of_mem _ hym)))))))).1, rfl, _, rfl⟩
  repeat' ((fail_if_success (with_reducible (first | show wpAny _ _ (exec (Stmt.While _ _ _ _) _) _ _ _ | show wpAny _ _ (subscriptTail _ _ (Value.ref _) _) _ _ _ | show wpAny _ _ (compareOp _ (Value.ref _) (Value.ref _)) _ _ _ | show wpAny _ _ (call (Value.ref _) _) _ _ _ | show wpAny _ _ (truthy (Value.ref _)) _ _ _ | show wpAny _ _ (exec (Stmt.For _ _ _ _ _) _) _ _ _ | show wpAny _ _ (call (Value.builtin _) _) _ _ _))); first | (with_reducible refine execs_hide ?_; intro Q9 hQ9 hR9) | (with_reducible refine hQ9 _ ?_; clear hQ9 hR9; (try clear Q9)) | ((with_reducible refine' hR9 _ _ ?hk9 ?_); (case hk9 => exact nofun); clear hQ9 hR9; (try clear Q9)) | (with_reducible refine hQ8 _ _ ?_; clear hQ8; (try clear Q8); (try dsimp only)) | (with_reducible refine hQ8 _ _ _ ?_; clear hQ8; (try clear Q8); (try dsimp only)) | (with_reducible refine hQ7 _ _ ?_; clear hQ7; (try clear Q7); (try dsimp only)) | (k_unfold; (try dsimp only)) | walk_at "my step" | fail "no step")
  rename News g2 _ _ _ => N10
  simp only [List.cons_append, List.nil_append] at N10
  have hdis : ∀ z ∈ ((x, instObj 59 d) :: (d, recO e1 e2 e3 e4 k1 k2 k3 k4 v2 v3 v4 ua) :: (ua, listOf [.str (Txt.upper w0) u0, .str (Txt.upper w1) u1, .str (Txt.upper w2) u2].toArray (0 + 1 + 1 + 1)) :: (wa, listOf [.str w0 s0, .str w1 s1, .str w2 s2].toArray wn) :: (pa, tupO [.int p tp, .int q tq]) :: tl), z.1 ≠ ta ∧ z.1 ≠ ha := by
    (repeat refine allc ⟨by refine neN ?_; (first | lia | omega), by refine neN ?_; (first | lia | omega)⟩ ?_)
    exact fun z hz => ⟨(htl z hz).2, (htl z hz).1⟩
  refine tappend (by assumption) N10 (by refine neN ?_; (first | lia | omega)) (fun z hz => (hdis z hz).1) (by have := hti.length; (first | lia | omega)) fun h10 F10 N10 => ?_
  repeat' ((fail_if_success (with_reducible (first | show wpAny _ _ (exec (Stmt.While _ _ _ _) _) _ _ _ | show wpAny _ _ (subscriptTail _ _ (Value.ref _) _) _ _ _ | show wpAny _ _ (compareOp _ (Value.ref _) (Value.ref _)) _ _ _ | show wpAny _ _ (call (Value.ref _) _) _ _ _ | show wpAny _ _ (truthy (Value.ref _)) _ _ _ | show wpAny _ _ (exec (Stmt.For _ _ _ _ _) _) _ _ _ | show wpAny _ _ (call (Value.builtin _) _) _ _ _))); first | (with_reducible refine execs_hide ?_; intro Q9 hQ9 hR9) | (with_reducible refine hQ9 _ ?_; clear hQ9 hR9; (try clear Q9)) | ((with_reducible refine' hR9 _ _ ?hk9 ?_); (case hk9 => exact nofun); clear hQ9 hR9; (try clear Q9)) | (with_reducible refine hQ8 _ _ ?_; clear hQ8; (try clear Q8); (try dsimp only)) | (with_reducible refine hQ8 _ _ _ ?_; clear hQ8; (try clear Q8); (try dsimp only)) | (with_reducible refine hQ7 _ _ ?_; clear hQ7; (try clear Q7); (try dsimp only)) | (k_unfold; (try dsimp only)) | walk_at "my step" | fail "no step")
  with_unfolding_all refine' For_turns (by assumption) ?_
  repeat' ((fail_if_success (with_reducible (first | show wpAny _ _ (exec (Stmt.While _ _ _ _) _) _ _ _ | show wpAny _ _ (subscriptTail _ _ (Value.ref _) _) _ _ _ | show wpAny _ _ (compareOp _ (Value.ref _) (Value.ref _)) _ _ _ | show wpAny _ _ (call (Value.ref _) _) _ _ _ | show wpAny _ _ (truthy (Value.ref _)) _ _ _ | show wpAny _ _ (exec (Stmt.For _ _ _ _ _) _) _ _ _ | show wpAny _ _ (call (Value.builtin _) _) _ _ _ | show wpAny _ _ (call (Value.type _) _) _ _ _ | show wpAny _ _ (pyIter _) _ _ _))); first | (with_reducible refine execs_hide ?_; intro Q9 hQ9 hR9) | (with_reducible refine hQ9 _ ?_; clear hQ9 hR9; (try clear Q9)) | ((with_reducible refine' hR9 _ _ ?hk9 ?_); (case hk9 => exact nofun); clear hQ9 hR9; (try clear Q9)) | (with_reducible refine hQ8 _ _ ?_; clear hQ8; (try clear Q8); (try dsimp only)) | (with_reducible refine hQ8 _ _ _ ?_; clear hQ8; (try clear Q8); (try dsimp only)) | (with_reducible refine hQ7 _ _ ?_; clear hQ7; (try clear Q7); (try dsimp only)) | (k_unfold; (try dsimp only)) | walk_at "my step" | fail "no step")
  rename Fr g2 _ _ _ => F11
  have hasc : strIterType ⟨#[c0, c1]⟩ = "str_ascii_iterator" := by unfold strIterType; simp [hc0, hc1]
  have hpm : (pa, tupO [.int p tp, .int q tq]) ∈ (ha, lobj (popRest ys x0) (n + 1)) :: (ta, listOf (tv ++ [Value.int y.i y.t]).toArray (nt + 1)) :: (x, instObj 59 d) :: (d, recO e1 e2 e3 e4 k1 k2 k3 k4 v2 v3 v4 ua) :: (ua, listOf [.str (Txt.upper w0) u0, .str (Txt.upper w1) u1, .str (Txt.upper w2) u2].toArray (0 + 1 + 1 + 1)) :: (wa, listOf [.str w0 s0, .str w1 s1, .str w2 s2].toArray wn) :: (pa, tupO [.int p tp, .int q tq]) :: tl := by ((repeat (first | exact List.Mem.head _ | refine List.Mem.tail _ ?_ | assumption | (refine List.mem_append_left _ ?_; assumption) | refine List.mem_append_right _ ?_)); done)
  with_unfolding_all refine turns_zip (lo2 := tupO [.int p tp, .int q tq]) (ys := [.int p tp, .int q tq]) (by rfl) F11 N10 hpm (by rfl) (by rfl) hasc (by simp) rfl ?_
  intro I lI
  have hrl := popRest_len ys x0
  have hyroom := hroom.1
  simp only [List.length_append, List.length_cons, List.length_nil] at hyroom
  have hyg := S.good _ _ hJ _ (hyd ▸ popTop_mem ys x0)
  refine' itemsRest_h (forJ F11 ha ta (listOf (tv ++ [Value.int y.i y.t]).toArray (nt + 1)) (fun tl => (x, instObj 59 d) :: (d, recO e1 e2 e3 e4 k1 k2 k3 k4 v2 v3 v4 ua) :: (ua, listOf [.str (Txt.upper w0) u0, .str (Txt.upper w1) u1, .str (Txt.upper w2) u2].toArray (0 + 1 + 1 + 1)) :: (wa, listOf [.str w0 s0, .str w1 s1, .str w2 s2].toArray wn) :: (pa, tupO [.int p tp, .int q tq]) :: tl) [(Str.ofString "heap", Value.ref ha), (Str.ofString "told", .ref ta), (Str.ofString "record", .ref x), (Str.ofString "names", .str ⟨#[c0, c1]⟩ tn), (Str.ofString "prices", .ref pa), (Str.ofString "top", .int T0 tT), (Str.ofString "words", .ref wa), (Str.ofString "spent", .int y.i y.t), (Str.ofString "way", .str y.s y.u)] [Str.ofString "name", Str.ofString "price", Str.ofString "longer", Str.ofString "word"] (ZsOf T0 (banW w0 w1 w2) y (popRest ys x0) c0 c1 p q) I) ?jk ?jturn ?jfin 2 0 _ _ rfl (by simp [stItems]) ?j0
  case j0 =>
    refine ⟨popRest ys x0, n + 1, tl, rfl, rfl, by (first | lia | omega), fun z hz => hin z (popRest_mem hz), htl, fun z hz => .inl (lI z (by ((repeat (first | exact List.Mem.head _ | refine List.Mem.tail _ ?_ | assumption | (refine List.mem_append_left _ ?_; assumption) | refine List.mem_append_right _ ?_)); done))), by ((try dsimp only); (repeat (refine allc (by first | with_unfolding_all rfl | (refine' lkT ?q3 ?q4 ?q5; (case q3 => assumption); (case q4 => with_unfolding_all rfl); (case q5 => with_unfolding_all rfl))) ?_)); exact List.forall_mem_nil _), fun _ _ _ => rfl⟩
  case jk =>
    rintro i m' news' ⟨zs, nz, tl', rfl, _⟩
    exact ⟨by ((repeat (first | exact List.Mem.head _ | refine List.Mem.tail _ ?_ | assumption | (refine List.mem_append_left _ ?_; assumption) | refine List.mem_append_right _ ?_)); done), trivial⟩
  case jturn =>
    intro i a m' news' v hh tkk ha' hJ9 hv Fz Q8 hQ8
    ktu_objs
    obtain ⟨zs, nz, tl', rfl, hZ, hzl, hzin, hztl, hzI, hzps, hzm⟩ := hJ9
    obtain ⟨c, pr, tpr, rfl, hcp⟩ := case_of ha'
    obtain ⟨T, tt, rfl, hTT⟩ := hv
    have hoffI : ∀ z ∈ ((ha, lobj zs nz) :: (ta, listOf (tv ++ [Value.int y.i y.t]).toArray (nt + 1)) :: (x, instObj 59 d) :: (d, recO e1 e2 e3 e4 k1 k2 k3 k4 v2 v3 v4 ua) :: (ua, listOf [.str (Txt.upper w0) u0, .str (Txt.upper w1) u1, .str (Txt.upper w2) u2].toArray (0 + 1 + 1 + 1)) :: (wa, listOf [.str w0 s0, .str w1 s1, .str w2 s2].toArray wn) :: (pa, tupO [.int p tp, .int q tq]) :: tl'), (z.1 : Nat) < I ∨ I + 4 < (z.1 : Nat) := by
      exact allc (.inl (have h := lI _ (.head _); h)) (allc (.inl (have h := lI _ (.tail _ (.head _)); h)) (allc (.inl (have h := lI _ (.tail _ (.tail _ (.head _))); h)) (allc (.inl (have h := lI _ (.tail _ (.tail _ (.tail _ (.head _)))); h)) (allc (.inl (have h := lI _ (.tail _ (.tail _ (.tail _ (.tail _ (.head _))))); h)) (allc (.inl (have h := lI _ (.tail _ (.tail _ (.tail _ (.tail _ (.tail _ (.head _)))))); h)) (allc (.inl (have h := lI _ (.tail _ (.tail _ (.tail _ (.tail _ (.tail _ (.tail _ (.head _))))))); h)) (hzI)))))))
    repeat' ((fail_if_success (with_reducible (first | show wpAny _ _ (exec (Stmt.While _ _ _ _) _) _ _ _ | show wpAny _ _ (subscriptTail _ _ (Value.ref _) _) _ _ _ | show wpAny _ _ (compareOp _ (Value.ref _) (Value.ref _)) _ _ _ | show wpAny _ _ (call (Value.ref _) _) _ _ _ | show wpAny _ _ (truthy (Value.ref _)) _ _ _ | show wpAny _ _ (exec (Stmt.For _ _ _ _ _) _) _ _ _ | show wpAny _ _ (call (Value.builtin _) _) _ _ _ | show wpAny _ _ (call (Value.type _) _) _ _ _ | show wpAny _ _ (pyIter _) _ _ _ | show UnrEndW _ _ _ _ _ _))); first | (with_reducible refine execs_hide ?_; intro Q9 hQ9 hR9) | (with_reducible refine hQ9 _ ?_; clear hQ9 hR9; (try clear Q9)) | ((with_reducible refine' hR9 _ _ ?hk9 ?_); (case hk9 => exact nofun); clear hQ9 hR9; (try clear Q9)) | (with_reducible refine hQ8 _ _ ?_; clear hQ8; (try clear Q8); (try dsimp only)) | (with_reducible refine hQ8 _ _ _ ?_; clear hQ8; (try clear Q8); (try dsimp only)) | (with_reducible refine hQ7 _ _ ?_; clear hQ7; (try clear Q7); (try dsimp only)) | (k_unfold; (try dsimp only)) | walk_at "my step" | fail "no step")
    · have hsc : Txt.startswith ⟨#[c]⟩ "/" = false := hcp.elim (fun e => e.2.1 ▸ TO.s0) fun e => e.2.1 ▸ TO.s1
      have hcl : Str.length ⟨#[c]⟩ = 1 := rfl
      refine' c_join (x := y.s) (y := ⟨#[c]⟩) ?k1 ?k2 ?k3 ?k4 ?k5 ?kf ?k6 ?k7 ?k8 ?hx ?hy ?hys ?hxe ?_
      case k1 => k_asm
      case k2 => k_asm
      case k3 => k_asm
      case k4 => assumption
      case k5 => k_asm
      case kf => exact rfl
      case k6 => exact rfl
      case k7 => ktr_room
      case k8 => ktr_units
      case hx => have := hyg.1; (first | lia | omega)
      case hy => (first | lia | omega)
      case hys => exact hsc
      case hxe => exact hyg.2.1
      intro tj h11 tk11 F11b N11
      have hjl : (joinV y.s ⟨#[c]⟩).length ≤ 110 := by have := joinV_len y.s ⟨#[c]⟩; have := hyg.1; (first | lia | omega)
      repeat' ((fail_if_success (with_reducible (first | show wpAny _ _ (exec (Stmt.While _ _ _ _) _) _ _ _ | show wpAny _ _ (subscriptTail _ _ (Value.ref _) _) _ _ _ | show wpAny _ _ (compareOp _ (Value.ref _) (Value.ref _)) _ _ _ | show wpAny _ _ (call (Value.ref _) _) _ _ _ | show wpAny _ _ (truthy (Value.ref _)) _ _ _ | show wpAny _ _ (exec (Stmt.For _ _ _ _ _) _) _ _ _ | show wpAny _ _ (call (Value.builtin _) _) _ _ _ | show wpAny _ _ (call (Value.type _) _) _ _ _ | show wpAny _ _ (pyIter _) _ _ _ | show UnrEndW _ _ _ _ _ _ | show wpAny _ _ (execs (_ :: _) _) _ _ _))); first | (with_reducible refine execs_hide ?_; intro Q9 hQ9 hR9) | (with_reducible refine hQ9 _ ?_; clear hQ9 hR9; (try clear Q9)) | ((with_reducible refine' hR9 _ _ ?hk9 ?_); (case hk9 => exact nofun); clear hQ9 hR9; (try clear Q9)) | (with_reducible refine hQ8 _ _ ?_; clear hQ8; (try clear Q8); (try dsimp only)) | (with_reducible refine hQ8 _ _ _ ?_; clear hQ8; (try clear Q8); (try dsimp only)) | (with_reducible refine hQ7 _ _ ?_; clear hQ7; (try clear Q7); (try dsimp only)) | (k_unfold; (try dsimp only)) | walk_at "my step" | fail "no step")
      generalize hgt : tk11 + 1 = tkw
      repeat' ((fail_if_success (with_reducible (first | show wpAny _ _ (exec (Stmt.While _ _ _ _) _) _ _ _ | show wpAny _ _ (subscriptTail _ _ (Value.ref _) _) _ _ _ | show wpAny _ _ (compareOp _ (Value.ref _) (Value.ref _)) _ _ _ | show wpAny _ _ (call (Value.ref _) _) _ _ _ | show wpAny _ _ (truthy (Value.ref _)) _ _ _ | show wpAny _ _ (exec (Stmt.For _ _ _ _ _) _) _ _ _ | show wpAny _ _ (call (Value.builtin _) _) _ _ _ | show wpAny _ _ (call (Value.type _) _) _ _ _ | show wpAny _ _ (pyIter _) _ _ _ | show UnrEndW _ _ _ _ _ _))); first | (with_reducible refine execs_hide ?_; intro Q9 hQ9 hR9) | (with_reducible refine hQ9 _ ?_; clear hQ9 hR9; (try clear Q9)) | ((with_reducible refine' hR9 _ _ ?hk9 ?_); (case hk9 => exact nofun); clear hQ9 hR9; (try clear Q9)) | (with_reducible refine hQ8 _ _ ?_; clear hQ8; (try clear Q8); (try dsimp only)) | (with_reducible refine hQ8 _ _ _ ?_; clear hQ8; (try clear Q8); (try dsimp only)) | (with_reducible refine hQ7 _ _ ?_; clear hQ7; (try clear Q7); (try dsimp only)) | (k_unfold; (try dsimp only)) | walk_at "my step" | fail "no step")
      refine SC.replaceW (u := tkw) (v := tkw + 1) (hgt ▸ Nat.succ_ne_zero tk11) (Nat.succ_ne_zero _) (Nat.ne_of_lt (Nat.lt_succ_self _)) (by decide) (by (first | lia | omega)) (by decide) ?_
      intro t12 tk12
      have hrl9 := TO.rep (joinV y.s ⟨#[c]⟩)
      repeat' ((fail_if_success (with_reducible (first | show wpAny _ _ (exec (Stmt.While _ _ _ _) _) _ _ _ | show wpAny _ _ (subscriptTail _ _ (Value.ref _) _) _ _ _ | show wpAny _ _ (compareOp _ (Value.ref _) (Value.ref _)) _ _ _ | show wpAny _ _ (call (Value.ref _) _) _ _ _ | show wpAny _ _ (truthy (Value.ref _)) _ _ _ | show wpAny _ _ (exec (Stmt.For _ _ _ _ _) _) _ _ _ | show wpAny _ _ (call (Value.builtin _) _) _ _ _ | show wpAny _ _ (call (Value.type _) _) _ _ _ | show wpAny _ _ (pyIter _) _ _ _ | show UnrEndW _ _ _ _ _ _))); first | (with_reducible refine execs_hide ?_; intro Q9 hQ9 hR9) | (with_reducible refine hQ9 _ ?_; clear hQ9 hR9; (try clear Q9)) | ((with_reducible refine' hR9 _ _ ?hk9 ?_); (case hk9 => exact nofun); clear hQ9 hR9; (try clear Q9)) | (with_reducible refine hQ8 _ _ ?_; clear hQ8; (try clear Q8); (try dsimp only)) | (with_reducible refine hQ8 _ _ _ ?_; clear hQ8; (try clear Q8); (try dsimp only)) | (with_reducible refine hQ7 _ _ ?_; clear hQ7; (try clear Q7); (try dsimp only)) | (k_unfold; (try dsimp only)) | walk_at "my step" | fail "no step")
      rename News g2 _ _ _ => N13
      refine item_litK (PySem.IsL.isList (n := wn) (N13 (wa, listOf [.str w0 s0, .str w1 s1, .str w2 s2].toArray wn) (by ((repeat (first | exact List.Mem.head _ | refine List.Mem.tail _ ?_ | assumption | (refine List.mem_append_left _ ?_; assumption) | refine List.mem_append_right _ ?_)); done))).1) (by decide) (by decide) (v := .str w0 s0) rfl ?_
      repeat' ((fail_if_success (with_reducible (first | show wpAny _ _ (exec (Stmt.While _ _ _ _) _) _ _ _ | show wpAny _ _ (subscriptTail _ _ (Value.ref _) _) _ _ _ | show wpAny _ _ (compareOp _ (Value.ref _) (Value.ref _)) _ _ _ | show wpAny _ _ (call (Value.ref _) _) _ _ _ | show wpAny _ _ (truthy (Value.ref _)) _ _ _ | show wpAny _ _ (exec (Stmt.For _ _ _ _ _) _) _ _ _ | show wpAny _ _ (call (Value.builtin _) _) _ _ _ | show wpAny _ _ (call (Value.type _) _) _ _ _ | show wpAny _ _ (pyIter _) _ _ _ | show UnrEndW _ _ _ _ _ _))); first | (with_reducible refine execs_hide ?_; intro Q9 hQ9 hR9) | (with_reducible refine hQ9 _ ?_; clear hQ9 hR9; (try clear Q9)) | ((with_reducible refine' hR9 _ _ ?hk9 ?_); (case hk9 => exact nofun); clear hQ9 hR9; (try clear Q9)) | (with_reducible refine hQ8 _ _ ?_; clear hQ8; (try clear Q8); (try dsimp only)) | (with_reducible refine hQ8 _ _ _ ?_; clear hQ8; (try clear Q8); (try dsimp only)) | (with_reducible refine hQ7 _ _ ?_; clear hQ7; (try clear Q7); (try dsimp only)) | (k_unfold; (try dsimp only)) | walk_at "my step" | fail "no step")
      have hdl : (Txt.replace (joinV y.s ⟨#[c]⟩) "/" "" ++ (".": Str)).length ≤ 120 := by
        rw [len_app]
        have : (Str.ofString ".").length = 1 := by decide
        show _ + (Str.ofString ".").length ≤ 120
        (first | lia | omega)
      refine' c_join (x := Txt.replace (joinV y.s ⟨#[c]⟩) "/" "" ++ (".": Str)) (y := w0) ?q1 ?q2 ?q3 ?q4 ?q5 ?qf ?q6 ?q7 ?q8 ?qx ?qy ?qys ?qxe ?_
      case q1 => k_asm
      case q2 => k_asm
      case q3 => k_asm
      case q4 => exact N13
      case q5 => k_asm
      case qf => exact rfl
      case q6 => exact rfl
      case q7 => ktr_room
      case q8 => ktr_units
      case qx => (first | lia | omega)
      case qy => (first | lia | omega)
      case qys => exact TO.sw
      case qxe => exact TO.dot _
      intro tj2 h13 tk13 F13 N14
      repeat' ((fail_if_success (with_reducible (first | show wpAny _ _ (exec (Stmt.While _ _ _ _) _) _ _ _ | show wpAny _ _ (subscriptTail _ _ (Value.ref _) _) _ _ _ | show wpAny _ _ (compareOp _ (Value.ref _) (Value.ref _)) _ _ _ | show wpAny _ _ (call (Value.ref _) _) _ _ _ | show wpAny _ _ (truthy (Value.ref _)) _ _ _ | show wpAny _ _ (exec (Stmt.For _ _ _ _ _) _) _ _ _ | show wpAny _ _ (call (Value.builtin _) _) _ _ _ | show wpAny _ _ (call (Value.type _) _) _ _ _ | show wpAny _ _ (pyIter _) _ _ _ | show UnrEndW _ _ _ _ _ _))); first | (with_reducible refine execs_hide ?_; intro Q9 hQ9 hR9) | (with_reducible refine hQ9 _ ?_; clear hQ9 hR9; (try clear Q9)) | ((with_reducible refine' hR9 _ _ ?hk9 ?_); (case hk9 => exact nofun); clear hQ9 hR9; (try clear Q9)) | (with_reducible refine hQ8 _ _ ?_; clear hQ8; (try clear Q8); (try dsimp only)) | (with_reducible refine hQ8 _ _ _ ?_; clear hQ8; (try clear Q8); (try dsimp only)) | (with_reducible refine hQ7 _ _ ?_; clear hQ7; (try clear Q7); (try dsimp only)) | (k_unfold; (try dsimp only)) | walk_at "my step" | fail "no step")
      have hdl2 := joinV_len (Txt.replace (joinV y.s ⟨#[c]⟩) "/" "" ++ (".": Str)) w0
      obtain ⟨hpart, hpl⟩ := TO.part (joinV (Txt.replace (joinV y.s ⟨#[c]⟩) "/" "" ++ (".": Str)) w0)
      refine' c_applies (ua := ua) (n := 0 + 1 + 1 + 1) (a0 := Txt.upper w0) (a1 := Txt.upper w1) (a2 := Txt.upper w2) (u0 := u0) (u1 := u1) (u2 := u2) (h1 := e1) (h2 := e2) (h3 := e3) (h4 := e4) (k1 := k1) (k2 := k2) (k3 := k3) (k4 := k4) (v2 := v2) (v3 := v3) (v4 := v4) (x := x) (d := d) (y := firstPart (joinV (Txt.replace (joinV y.s ⟨#[c]⟩) "/" "" ++ (".": Str)) w0)) ?r1 ?r2 ?r3 ?r4 ?r5 ?rf ?r6 ?r7 ?r8 ?ra ?rb ?rc ?rd ?re ?rg ?rh ?ri ?rj ?rk ?rm ?rn ?_
      case r1 => k_asm
      case r2 => k_asm
      case r3 => k_asm
      case r4 => exact N14
      case r5 => k_asm
      case rf => exact rfl
      case r6 => exact rfl
      case r7 => ktr_room
      case r8 => ktr_units
      case ra => ((repeat (first | exact List.Mem.head _ | refine List.Mem.tail _ ?_ | assumption | (refine List.mem_append_left _ ?_; assumption) | refine List.mem_append_right _ ?_)); done)
      case rb => ((repeat (first | exact List.Mem.head _ | refine List.Mem.tail _ ?_ | assumption | (refine List.mem_append_left _ ?_; assumption) | refine List.mem_append_right _ ?_)); done)
      case rc => ((repeat (first | exact List.Mem.head _ | refine List.Mem.tail _ ?_ | assumption | (refine List.mem_append_left _ ?_; assumption) | refine List.mem_append_right _ ?_)); done)
      case rd => exact hpart
      case re => (first | lia | omega)
      case rg => exact TO.t0
      case rh => exact TO.t1
      case ri => exact TO.t2
      case rj => (first | lia | omega)
      case rk => (first | lia | omega)
      case rm => (first | lia | omega)
      case rn => (first | lia | omega)
      intro tb h14 tk14 F14 N15
      rw [show appliesF (firstPart (joinV (Txt.replace (joinV y.s ⟨#[c]⟩) "/" "" ++ (".": Str)) w0)) (Txt.upper w0) (Txt.upper w1) (Txt.upper w2) = banW w0 w1 w2 (joinV y.s ⟨#[c]⟩) from rfl]
      repeat' ((fail_if_success (with_reducible (first | show wpAny _ _ (exec (Stmt.While _ _ _ _) _) _ _ _ | show wpAny _ _ (subscriptTail _ _ (Value.ref _) _) _ _ _ | show wpAny _ _ (compareOp _ (Value.ref _) (Value.ref _)) _ _ _ | show wpAny _ _ (call (Value.ref _) _) _ _ _ | show wpAny _ _ (truthy (Value.ref _)) _ _ _ | show wpAny _ _ (exec (Stmt.For _ _ _ _ _) _) _ _ _ | show wpAny _ _ (call (Value.builtin _) _) _ _ _ | show wpAny _ _ (call (Value.type _) _) _ _ _ | show wpAny _ _ (pyIter _) _ _ _ | show UnrEndW _ _ _ _ _ _))); first | (with_reducible refine execs_hide ?_; intro Q9 hQ9 hR9) | (with_reducible refine hQ9 _ ?_; clear hQ9 hR9; (try clear Q9)) | ((with_reducible refine' hR9 _ _ ?hk9 ?_); (case hk9 => exact nofun); clear hQ9 hR9; (try clear Q9)) | (with_reducible refine hQ8 _ _ ?_; clear hQ8; (try clear Q8); (try dsimp only)) | (with_reducible refine hQ8 _ _ _ ?_; clear hQ8; (try clear Q8); (try dsimp only)) | (with_reducible refine hQ7 _ _ ?_; clear hQ7; (try clear Q7); (try dsimp only)) | (k_unfold; (try dsimp only)) | walk_at "my step" | fail "no step")
      · have hban : banW w0 w1 w2 (joinV y.s ⟨#[c]⟩) = true := by assumption
        refine unr_end ((ha, lobj zs nz) :: (ta, listOf (tv ++ [Value.int y.i y.t]).toArray (nt + 1)) :: (x, instObj 59 d) :: (d, recO e1 e2 e3 e4 k1 k2 k3 k4 v2 v3 v4 ua) :: (ua, listOf [.str (Txt.upper w0) u0, .str (Txt.upper w1) u1, .str (Txt.upper w2) u2].toArray (0 + 1 + 1 + 1)) :: (wa, listOf [.str w0 s0, .str w1 s1, .str w2 s2].toArray wn) :: (pa, tupO [.int p tp, .int q tq]) :: tl') (by assumption) N15 (fun p hp => List.mem_append_left _ hp) (fun p hp => List.mem_append_right [_, _, _, _, _] hp) (off_its ?_) ?_
        · exact hoffI
        · refine ⟨zs, nz, tl', rfl, ?_, by (first | lia | omega), hzin, hztl, hzI, by ((try dsimp only); (repeat (refine allc (by first | with_unfolding_all rfl | (refine' lkT ?q3 ?q4 ?q5; (case q3 => assumption); (case q4 => with_unfolding_all rfl); (case q5 => with_unfolding_all rfl))) ?_)); exact List.forall_mem_nil _), by ((repeat (first | exact sm_rfl | refine sm_store (by kernel_rfl) ?_ | (refine' sm_trans ?q6 (by kernel_rfl) ?_; (case q6 => assumption)))); done)⟩
          have h9 := ZsOf.next (it := ⟨0, y.i + pr, 0, joinS y.s c, 0⟩) hZ hcp rfl rfl
          rw [pushIf_no (by simp only [hban]; simp)] at h9
          exact h9
      · rename News g2 _ _ _ => N16
        rename _ < _ ∧ _ => l16
        rename Addr => D16
        have hban : banW w0 w1 w2 (joinV y.s ⟨#[c]⟩) = false := by assumption
        have hle : y.i + pr ≤ T0 := by assumption
        have hlt16 : ∀ z ∈ ((ha, lobj zs nz) :: (ta, listOf (tv ++ [Value.int y.i y.t]).toArray (nt + 1)) :: (x, instObj 59 d) :: (d, recO e1 e2 e3 e4 k1 k2 k3 k4 v2 v3 v4 ua) :: (ua, listOf [.str (Txt.upper w0) u0, .str (Txt.upper w1) u1, .str (Txt.upper w2) u2].toArray (0 + 1 + 1 + 1)) :: (wa, listOf [.str w0 s0, .str w1 s1, .str w2 s2].toArray wn) :: (pa, tupO [.int p tp, .int q tq]) :: tl'), (z.1 : Nat) < D16 := by
          exact allc l16.2.2.2.2.2.1 (allc l16.2.2.2.2.2.2.1 (allc l16.2.2.2.2.2.2.2.1 (allc l16.2.2.2.2.2.2.2.2.1 (allc l16.2.2.2.2.2.2.2.2.2.1 (allc l16.2.2.2.2.2.2.2.2.2.2.1 (allc l16.2.2.2.2.2.2.2.2.2.2.2.1 (kst_ltOf l16.2.2.2.2.2.2.2.2.2.2.2.2)))))))
        have hID : I + 4 < (D16 : Nat) := l16.1
        have hlha : (ha : Nat) < I := lI _ (.head _)
        have nD : ∀ a : Nat, a < D16 → (D16 : Nat) ≠ a := fun a h => Nat.ne_of_gt h
        refine' c_heappush (x := ⟨D16, y.i + pr, tk14, joinV y.s ⟨#[c]⟩, tj⟩) (xs := zs) (n := nz) ?z1 ?z2 ?z3 ?z4 ?z5 ?zf ?z6 ?z7 ?z8 ?zdis ?zsz ?zin ?_
        case z1 => k_asm
        case z2 => k_asm
        case z3 => k_asm
        case z4 => exact pull6 N16
        case z5 => k_asm
        case zf => exact rfl
        case z6 => exact rfl
        case z7 => ktr_room
        case z8 => ktr_units
        case zdis =>
          refine allc (allc (nD _ (Nat.lt_trans hlha (by (first | lia | omega)))) (List.forall_mem_nil _)) ?_
          refine allc (allc (Nat.ne_of_gt (Nat.lt_of_lt_of_le hlha (Nat.le_add_right _ _))) (List.forall_mem_nil _)) ?_
          refine allc (allc (Nat.ne_of_gt (Nat.lt_of_lt_of_le hlha (Nat.le_add_right _ _))) (List.forall_mem_nil _)) ?_
          refine allc (allc (Nat.ne_of_gt (Nat.lt_of_lt_of_le hlha (Nat.le_add_right _ _))) (List.forall_mem_nil _)) ?_
          refine allc (allc (Nat.ne_of_gt hlha) (List.forall_mem_nil _)) ?_
          refine allc (allc (Nat.ne_of_gt (Nat.lt_of_lt_of_le hlha (Nat.le_add_right _ _))) (List.forall_mem_nil _)) ?_
          refine allc (allc (by refine neN ?_; (first | lia | omega)) (List.forall_mem_nil _)) ?_
          (repeat refine allc (allc (hdis _ (by ((repeat (first | exact List.Mem.head _ | refine List.Mem.tail _ ?_ | assumption | (refine List.mem_append_left _ ?_; assumption) | refine List.mem_append_right _ ?_)); done))).2 (List.forall_mem_nil _)) ?_)
          exact fun z hz => allc (hztl z hz).1 (List.forall_mem_nil _)
        case zsz => (first | lia | omega)
        case zin =>
          intro z hz
          rcases List.mem_cons.mp hz with rfl | hz
          · exact .inr (.head _)
          · have h9 := hzin z hz
            exact .inr (by ((repeat (first | exact List.Mem.head _ | refine List.Mem.tail _ ?_ | assumption | (refine List.mem_append_left _ ?_; assumption) | refine List.mem_append_right _ ?_)); done))
        intro h17 tk17 F17 N17
        repeat' ((fail_if_success (with_reducible (first | show wpAny _ _ (exec (Stmt.While _ _ _ _) _) _ _ _ | show wpAny _ _ (subscriptTail _ _ (Value.ref _) _) _ _ _ | show wpAny _ _ (compareOp _ (Value.ref _) (Value.ref _)) _ _ _ | show wpAny _ _ (call (Value.ref _) _) _ _ _ | show wpAny _ _ (truthy (Value.ref _)) _ _ _ | show wpAny _ _ (exec (Stmt.For _ _ _ _ _) _) _ _ _ | show wpAny _ _ (call (Value.builtin _) _) _ _ _ | show wpAny _ _ (call (Value.type _) _) _ _ _ | show wpAny _ _ (pyIter _) _ _ _ | show UnrEndW _ _ _ _ _ _))); first | (with_reducible refine execs_hide ?_; intro Q9 hQ9 hR9) | (with_reducible refine hQ9 _ ?_; clear hQ9 hR9; (try clear Q9)) | ((with_reducible refine' hR9 _ _ ?hk9 ?_); (case hk9 => exact nofun); clear hQ9 hR9; (try clear Q9)) | (with_reducible refine hQ8 _ _ ?_; clear hQ8; (try clear Q8); (try dsimp only)) | (with_reducible refine hQ8 _ _ _ ?_; clear hQ8; (try clear Q8); (try dsimp only)) | (with_reducible refine hQ7 _ _ ?_; clear hQ7; (try clear Q7); (try dsimp only)) | (k_unfold; (try dsimp only)) | walk_at "my step" | fail "no step")
        refine unr_end ((ha, lobj (sd ⟨D16, y.i + pr, tk14, joinV y.s ⟨#[c]⟩, tj⟩ 0 (zs ++ [⟨D16, y.i + pr, tk14, joinV y.s ⟨#[c]⟩, tj⟩]) zs.length) (nz + 1)) :: (ta, listOf (tv ++ [Value.int y.i y.t]).toArray (nt + 1)) :: (x, instObj 59 d) :: (d, recO e1 e2 e3 e4 k1 k2 k3 k4 v2 v3 v4 ua) :: (ua, listOf [.str (Txt.upper w0) u0, .str (Txt.upper w1) u1, .str (Txt.upper w2) u2].toArray (0 + 1 + 1 + 1)) :: (wa, listOf [.str w0 s0, .str w1 s1, .str w2 s2].toArray wn) :: (pa, tupO [.int p tp, .int q tq]) :: ((D16, (It.mk D16 (y.i + pr) tk14 (joinV y.s ⟨#[c]⟩) tj).o) :: tl')) (by assumption) N17 put6_its put6 (off_its ?_) ?_
        · exact allc (have h := hoffI _ (.head _); h) (allc (have h := hoffI _ (.tail _ (.head _)); h) (allc (have h := hoffI _ (.tail _ (.tail _ (.head _))); h) (allc (have h := hoffI _ (.tail _ (.tail _ (.tail _ (.head _)))); h) (allc (have h := hoffI _ (.tail _ (.tail _ (.tail _ (.tail _ (.head _))))); h) (allc (have h := hoffI _ (.tail _ (.tail _ (.tail _ (.tail _ (.tail _ (.head _)))))); h) (allc (have h := hoffI _ (.tail _ (.tail _ (.tail _ (.tail _ (.tail _ (.tail _ (.head _))))))); h) (allc (.inr hID) hzI)))))))
        · refine ⟨_, nz + 1, _, rfl, ?_, ?_, ?_, ?_, ?_, by ((try dsimp only); (repeat (refine allc (by first | with_unfolding_all rfl | (refine' lkT ?q3 ?q4 ?q5; (case q3 => assumption); (case q4 => with_unfolding_all rfl); (case q5 => with_unfolding_all rfl))) ?_)); exact List.forall_mem_nil _), by ((repeat (first | exact sm_rfl | refine sm_store (by kernel_rfl) ?_ | (refine' sm_trans ?q6 (by kernel_rfl) ?_; (case q6 => assumption)))); done)⟩
          · have h9 := ZsOf.next (it := ⟨D16, y.i + pr, tk14, joinV y.s ⟨#[c]⟩, tj⟩) hZ hcp rfl rfl
            rw [pushIf_yes ⟨hle, hban⟩] at h9
            exact h9
          · rw [sd_len]; simp; (first | lia | omega)
          · intro z hz
            rcases sd_mem _ _ _ _ _ hz with hz | rfl
            · rcases List.mem_append.mp hz with hz | hz
              · exact List.mem_cons_of_mem _ (hzin z hz)
              · obtain rfl := List.mem_singleton.mp hz
                exact .head _
            · exact .head _
          · intro z hz
            rcases List.mem_cons.mp hz with rfl | hz
            · exact ⟨nD _ (hlt16 _ (.head _)), nD _ (hlt16 _ (.tail _ (.head _)))⟩
            · exact hztl z hz
          · intro z hz
            rcases List.mem_cons.mp hz with rfl | hz
            · exact .inr hID
            · exact hzI z hz
    · have hnle : ¬ y.i + pr ≤ T0 := by assumption
      rename News g2 _ _ _ => N17
      refine unr_end ((ha, lobj zs nz) :: (ta, listOf (tv ++ [Value.int y.i y.t]).toArray (nt + 1)) :: (x, instObj 59 d) :: (d, recO e1 e2 e3 e4 k1 k2 k3 k4 v2 v3 v4 ua) :: (ua, listOf [.str (Txt.upper w0) u0, .str (Txt.upper w1) u1, .str (Txt.upper w2) u2].toArray (0 + 1 + 1 + 1)) :: (wa, listOf [.str w0 s0, .str w1 s1, .str w2 s2].toArray wn) :: (pa, tupO [.int p tp, .int q tq]) :: tl') (by assumption) N17 (fun p hp => List.mem_append_left _ hp) (fun p hp => List.mem_append_right [_, _, _, _, _] hp) (off_its ?_) ?_
      · exact hoffI
      · refine ⟨zs, nz, tl', rfl, ?_, by (first | lia | omega), hzin, hztl, hzI, by ((try dsimp only); (repeat (refine allc (by first | with_unfolding_all rfl | (refine' lkT ?q3 ?q4 ?q5; (case q3 => assumption); (case q4 => with_unfolding_all rfl); (case q5 => with_unfolding_all rfl))) ?_)); exact List.forall_mem_nil _), by ((repeat (first | exact sm_rfl | refine sm_store (by kernel_rfl) ?_ | (refine' sm_trans ?q6 (by kernel_rfl) ?_; (case q6 => assumption)))); done)⟩
        have h9 := ZsOf.next (it := ⟨0, y.i + pr, 0, joinS y.s c, 0⟩) hZ hcp rfl rfl
        rw [pushIf_no (by intro h; exact hnle h.1)] at h9
        exact h9
  case jfin =>
    intro m' news' h18 tk18 hJ9 F18
    obtain ⟨zs, nz, tl', rfl, hZ, hzl, hzin, hztl, hzI, hzps, hzm⟩ := hJ9
    intro N18
    repeat' ((fail_if_success (with_reducible (first | show wpAny _ _ (exec (Stmt.While _ _ _ _) _) _ _ _ | show wpAny _ _ (subscriptTail _ _ (Value.ref _) _) _ _ _ | show wpAny _ _ (compareOp _ (Value.ref _) (Value.ref _)) _ _ _ | show wpAny _ _ (call (Value.ref _) _) _ _ _ | show wpAny _ _ (truthy (Value.ref _)) _ _ _ | show wpAny _ _ (exec (Stmt.For _ _ _ _ _) _) _ _ _ | show wpAny _ _ (call (Value.builtin _) _) _ _ _ | show wpAny _ _ (call (Value.type _) _) _ _ _ | show wpAny _ _ (pyIter _) _ _ _ | show UnrEndW _ _ _ _ _ _ | show KswEnd _ _ _ _ _ _ _ _ _ _ _ _))); first | (with_reducible refine execs_hide ?_; intro Q9 hQ9 hR9) | (with_reducible refine hQ9 _ ?_; clear hQ9 hR9; (try clear Q9)) | ((with_reducible refine' hR9 _ _ ?hk9 ?_); (case hk9 => exact nofun); clear hQ9 hR9; (try clear Q9)) | (with_reducible refine hQ8 _ _ ?_; clear hQ8; (try clear Q8); (try dsimp only)) | (with_reducible refine hQ8 _ _ _ ?_; clear hQ8; (try clear Q8); (try dsimp only)) | (with_reducible refine hQ7 _ _ ?_; clear hQ7; (try clear Q7); (try dsimp only)) | (k_unfold; (try dsimp only)) | walk_at "my step" | fail "no step")
    have hturn : J zs (tn9 ++ [y.i]) ∧ μ zs < μ (ys ++ [x0]) := turn_of S hJ hyd hZ
    refine' ksw_end (c := (ys ++ [x0], n, tv, tn9, nt, tl)) (zs, nz, tv ++ [Value.int y.i y.t], tn9 ++ [y.i], nt + 1, tl') F18 N18 (fun _ h => h) ⟨hzin, ints_snoc hti, hztl⟩ ?hk2 ?hr2 hturn.1 hturn.2
    case hk2 =>
      exact sub_ps hzps (by ((repeat (refine allc (by ((repeat (first | exact List.Mem.head _ | refine List.Mem.tail _ ?_ | assumption | (refine List.mem_append_left _ ?_; assumption) | refine List.mem_append_right _ ?_)); done)) ?_)); first | exact List.forall_mem_nil _ | (intro z9 h9; (repeat (first | exact h9 | refine List.Mem.tail _ ?_ | exact List.mem_append_left _ h9 | refine List.mem_append_right _ ?_)); done)))
    case hr2 => ((repeat (first | exact sm_rfl | refine sm_store (by kernel_rfl) ?_ | (refine' sm_trans ?q6 (by kernel_rfl) ?_; (case q6 => assumption)))); done)
end
end Mine
end

noncomputable section
namespace Mine
open PyProof.Rows.LCg PyProof.V
section
variable {prog : Program} {w : World} {A : Around} {E : Value → Shared → Prop} {s : Shared}
theorem compTurn_two0 (elt t0 i0 t1 i1 : PySem.Expr) (scope : Scope) (pos : Pos) (it acc : Value) (env : Env) :
    compTurn (.ListComp elt [⟨t0, i0, [], 0⟩, ⟨t1, i1, [], 0⟩] scope pos) 0 it acc env = (standAt i0.pos >>= fun _ => pyNext it >>= fun r => match r with
      | none => pure (.done .next)
      | some v => letOwnedTupleGo t0 it v >>= fun _ => assign t0 env v >>= fun _ =>
        eval i1 env >>= fun xv => standAt i1.pos >>= fun _ => foldedSetIterable i1 env xv >>= fun x' => holding [x'] (pyIter x') >>= fun it1 =>
        runOwn (.compStart (.ListComp elt [⟨t0, i0, [], 0⟩, ⟨t1, i1, [], 0⟩] scope pos) 1 it1 acc env) env >>= fun _ =>
          again (.compLoop (.ListComp elt [⟨t0, i0, [], 0⟩, ⟨t1, i1, [], 0⟩] scope pos) 0 it acc env)) := by rfl
theorem compTurn_two1 (elt t0 i0 t1 i1 : PySem.Expr) (scope : Scope) (pos : Pos) (it acc : Value) (env : Env) :
    compTurn (.ListComp elt [⟨t0, i0, [], 0⟩, ⟨t1, i1, [], 0⟩] scope pos) 1 it acc env = (standAt i1.pos >>= fun _ => pyNext it >>= fun r => match r with
      | none => pure (.done .next)
      | some v => letOwnedTupleGo t1 it v >>= fun _ => assign t1 env v >>= fun _ =>
        (eval elt env >>= fun x => call (.builtin "list.append") [acc, x] >>= fun _ => pure ()) >>= fun _ =>
          again (.compLoop (.ListComp elt [⟨t0, i0, [], 0⟩, ⟨t1, i1, [], 0⟩] scope pos) 1 it acc env)) := by rfl
theorem comp2_go0 {elt t0 i0 t1 i1 : PySem.Expr} {scope : Scope} {pos : Pos} {it acc : Value} {env : Env} {R : Result → Shared → Prop} (I : Nat → Shared → Prop) (hs : ∀ x, foldedSetIterable i1 env x = pure x)
    (turn : ∀ n s, I n s → wpAny (model prog w) A (pyNext it) (fun r s₁ => match r with
      | none => R (.ok .next) s₁
      | some v => wpAny (model prog w) A (letOwnedTupleGo t0 it v) (fun _ s₀ => wpAny (model prog w) A (assign t0 env v) (fun _ s₂ =>
          wpAny (model prog w) A (eval i1 env) (fun xv s₃ => wpAny (model prog w) A (pyIter xv) (fun it1 s₄ =>
            codeAny (model prog w) A (.compStart (.ListComp elt [⟨t0, i0, [], 0⟩, ⟨t1, i1, [], 0⟩] scope pos) 1 it1 acc env) (fun r s' => match r with | .ok _ => ∃ m, m < n ∧ I m s' | .error e => cameBackBy (model prog w) A env (notedBy (model prog w) A env fun e s' => R (.error e) s') e s') s₄)
            (notedBy (model prog w) A env fun e s' => R (.error e) s') s₃) (notedBy (model prog w) A env fun e s' => R (.error e) s') s₂)
          (notedBy (model prog w) A env fun e s' => R (.error e) s') s₀) (notedBy (model prog w) A env fun e s' => R (.error e) s') s₁) (notedBy (model prog w) A env fun e s' => R (.error e) s') s)
    (n : Nat) (h : I n s) : codeAny (model prog w) A (.compLoop (.ListComp elt [⟨t0, i0, [], 0⟩, ⟨t1, i1, [], 0⟩] scope pos) 0 it acc env) R s := by
  refine codeAny_loop rfl I (fun n s hI => ?_) n h
  show wpAny _ A ((compTurn (.ListComp elt [⟨t0, i0, [], 0⟩, ⟨t1, i1, [], 0⟩] scope pos) 0 it acc env).onRaise (fun x => do noteFrame x env; theTreesLotGoes x)) _ _ s
  refine wpAny_noted ?_
  rw [compTurn_two0]
  refine wpAny_bind (wpAny_standAt (wpAny_bind (wpAny_mono (turn n s hI) (fun r s₁ h₁ => ?_) fun _ _ h' => h')))
  cases r with
  | none => exact wpAny_pure h₁
  | some v =>
    refine wpAny_bind (wpAny_mono h₁ (fun _ s₀ h₀' => ?_) fun _ _ h' => h')
    refine wpAny_bind (wpAny_mono h₀' (fun _ s₂ h₂ => ?_) fun _ _ h' => h')
    refine wpAny_bind (wpAny_mono h₂ (fun xv s₃ h₃ => ?_) fun _ _ h' => h')
    refine wpAny_bind (wpAny_standAt ?_)
    refine wpAny_bind (wpAny_of_eq (hs xv) ?_)
    refine wpAny_bind (wpAny_holding (wpAny_mono h₃ (fun it1 s₄ h₄ => ?_) fun _ _ h' => h'))
    refine wpAny_bind (wpAny_runOwn (codeAny_mono h₄ fun r s' hr => ?_))
    cases r with
    | ok f => exact wpAny_pure ⟨rfl, hr⟩
    | error e => exact hr
theorem comp2_go1 {elt t0 i0 t1 i1 : PySem.Expr} {scope : Scope} {pos : Pos} {it acc : Value} {env : Env} {R : Result → Shared → Prop} (I : Nat → Shared → Prop)
    (turn : ∀ n s, I n s → wpAny (model prog w) A (pyNext it) (fun r s₁ => match r with
      | none => R (.ok .next) s₁
      | some v => wpAny (model prog w) A (letOwnedTupleGo t1 it v) (fun _ s₀ => wpAny (model prog w) A (assign t1 env v) (fun _ s₂ =>
          wpAny (model prog w) A (eval elt env) (fun x s₄ =>
            wpAny (model prog w) A (call (.builtin "list.append") [acc, x]) (fun _ s₅ => ∃ m, m < n ∧ I m s₅) (notedBy (model prog w) A env fun e s' => R (.error e) s') s₄) (notedBy (model prog w) A env fun e s' => R (.error e) s') s₂)
          (notedBy (model prog w) A env fun e s' => R (.error e) s') s₀) (notedBy (model prog w) A env fun e s' => R (.error e) s') s₁) (notedBy (model prog w) A env fun e s' => R (.error e) s') s)
    (n : Nat) (h : I n s) : codeAny (model prog w) A (.compLoop (.ListComp elt [⟨t0, i0, [], 0⟩, ⟨t1, i1, [], 0⟩] scope pos) 1 it acc env) R s := by
  refine codeAny_loop rfl I (fun n s hI => ?_) n h
  show wpAny _ A ((compTurn (.ListComp elt [⟨t0, i0, [], 0⟩, ⟨t1, i1, [], 0⟩] scope pos) 1 it acc env).onRaise (fun x => do noteFrame x env; theTreesLotGoes x)) _ _ s
  refine wpAny_noted ?_
  rw [compTurn_two1]
  refine wpAny_bind (wpAny_standAt (wpAny_bind (wpAny_mono (turn n s hI) (fun r s₁ h₁ => ?_) fun _ _ h' => h')))
  cases r with
  | none => exact wpAny_pure h₁
  | some v =>
    refine wpAny_bind (wpAny_mono h₁ (fun _ s₀ h₀' => ?_) fun _ _ h' => h')
    refine wpAny_bind (wpAny_mono h₀' (fun _ s₂ h₂ => ?_) fun _ _ h' => h')
    exact wpAny_bind (wpAny_bind (wpAny_mono h₂ (fun x s₄ h₄ => wpAny_bind (wpAny_mono h₄ (fun _ s₅ h₅ => wpAny_pure (wpAny_pure ⟨rfl, h₅⟩)) fun _ _ h' => h')) fun _ _ h' => h'))
theorem comp2_start1 {elt t0 i0 t1 i1 : PySem.Expr} {scope : Scope} {pos : Pos} {it acc : Value} {env : Env} {R : Result → Shared → Prop}
    (h0 : codeAny (model prog w) A (.compLoop (.ListComp elt [⟨t0, i0, [], 0⟩, ⟨t1, i1, [], 0⟩] scope pos) 1 it acc env) R s)
    (h : wpAny (model prog w) A (pyIter it) (fun it' s' => codeAny (model prog w) A (.compLoop (.ListComp elt [⟨t0, i0, [], 0⟩, ⟨t1, i1, [], 0⟩] scope pos) 1 it' acc env) R s')
      (notedBy (model prog w) A env fun x s' => R (.error x) s') s) :
    codeAny (model prog w) A (.compStart (.ListComp elt [⟨t0, i0, [], 0⟩, ⟨t1, i1, [], 0⟩] scope pos) 1 it acc env) R s := by
  refine codeAny_of_tree ?_
  show wpAny _ _ ((compStart (.ListComp elt [⟨t0, i0, [], 0⟩, ⟨t1, i1, [], 0⟩] scope pos) 1 it acc env).onRaise (fun x => do noteFrame x env; standAt theWindowsPlace)) _ _ s
  refine wpAny_notedAt ?_
  unfold compStart
  show wpAny _ _ (ask >>= _) _ _ s
  refine wpAny_bind (wpAny_askSetting (wpAny_ite ?_))
  split
  · first
      | exact wpAny_bind (wpAny_pure (wpAny_pure (And.intro rfl h0)))
      | exact wpAny_pure (And.intro rfl h0)
  · first
      | exact wpAny_bind (wpAny_rule (wpAny_bind (wpAny_standAt (wpAny_bind (wpAny_mono h (fun it' s' h' => wpAny_pure (And.intro rfl h')) fun _ _ x => x)))))
      | (refine wpAny_bind (wpAny_rule ?_); show wpAny _ _ (standAt i1.pos >>= _) _ _ s; exact wpAny_bind (wpAny_standAt (wpAny_bind (wpAny_mono h (fun it' s' h' => wpAny_pure (And.intro rfl h')) fun _ _ x => x))))
end
end Mine
end

noncomputable section
namespace Mine
open PyProof.Rows.LCg PyProof.V
inductive REnd (h₀ : Heap) (L : Addr) (m : Str → Option Value) (s₁ : Shared) (all : List (Addr × Obj)) (n : Nat) (x : Value) (s' : Shared) : Prop
  | intro (r : _) (t : _) (u : _) (v : _) (h' : _) (tk' : _) (f1 : x = .ref r) (f2 : s' = { s₁ with heap := h', toks := tk' }) (f3 : IsRange h' r 0 (n : Int) 1 t u v) (f4 : Fr h₀ L h' m) (f5 : News h₀ L h' all) : REnd h₀ L m s₁ all n x s'
section
variable {prog : Program} {w : World} {A : Around} {E : Value → Shared → Prop} {s : Shared} {h₀ : Heap} {L : Addr} {m : Str → Option Value} {env : Env}
theorem rangeSize0 (n : Nat) : Builtin.Range.rangeSize 0 (n : Int) 1 = ((n : Nat) : Int) := by rw [rangeSize_nat]; (first | lia | omega)
inductive COut (s₂ : Shared) (n0 : Nat) (I : Addr) (St : List Value → (Str → Option Value) → Heap → Prop) (J : Nat → List Value → Prop) (k : Nat) (s' : Shared) : Prop
  | intro (h' : Heap) (tk i : Nat) (ys : List Value) (m' : Str → Option Value) (e1 : s' = { s₂ with heap := h', toks := tk }) (e2 : i ≤ n0) (e3 : k = n0 + 1 - i) (e4 : IsRangeIter h' I (0 + (i : Nat) * 1) ((n0 : Int) - (i : Nat)) 1) (e5 : St ys m' h') (e6 : J i ys) : COut s₂ n0 I St J k s'
inductive CIn (s₂ : Shared) (n0 n1 : Nat) (I I1 : Addr) (i : Nat) (x : Str) (St : List Value → (Str → Option Value) → Heap → Prop) (J2 : Nat → List Value → Prop) (k' : Nat) (s' : Shared) : Prop
  | intro (h' : Heap) (tk j : Nat) (ys : List Value) (m' : Str → Option Value) (e1 : s' = { s₂ with heap := h', toks := tk }) (e2 : j ≤ n1) (e3 : k' = n1 + 1 - j) (e4 : IsRangeIter h' I1 (0 + (j : Nat) * 1) (((n1 : Nat) : Int) - (j : Nat)) 1) (e5 : IsRangeIter h' I (0 + ((i + 1 : Nat)) * 1) ((n0 : Int) - (i + 1 : Nat)) 1) (e6 : St ys m' h') (e7 : ∃ t, m' x = some (.int (i : Int) t)) (e8 : J2 j ys) : CIn s₂ n0 n1 I I1 i x St J2 k' s'
theorem comp2_block {elt i0 i1 : PySem.Expr} {x y : Str} {px py : Pos} {scope : Scope} {cl : List (Str × Addr)} {pos : Pos} {s₂ : Shared} {I : Addr} {n0 : Nat} {news : List (Addr × Obj)} {N1 : Nat → Nat}
    {J : Nat → List Value → Prop} {J2 : Nat → Nat → List Value → Prop} {RR : Value → Addr → Result → Shared → Prop}
    (hh : A.handled = none) (hs : ∀ (e : Env) (z : Value), foldedSetIterable i1 e z = pure z) (hcell : ∀ z ∈ scope.names, z.2 ≠ .cell) (hkind : scope.kind = .function) (hxl : scope.names.lookup x = some .local) (hyl : scope.names.lookup y = some .local) (hxy : x ≠ y)
    (hst : IsRangeIter s₂.heap I 0 (n0 : Int) 1) (F : Fr h₀ L s₂.heap m) (N : News h₀ L s₂.heap news) (hI₀ : h₀.get? I = none) (hIL : I ≠ L) (hIn : ∀ p ∈ news, p.1 ≠ I) (h0 : J 0 []) (hN1 : ∀ i, i < n0 → N1 i ≤ 4000)
    (hJ2 : ∀ i ys, i < n0 → J i ys → J2 i 0 ys) (hJ3 : ∀ i ys, i < n0 → J2 i (N1 i) ys → J (i + 1) ys) (hlen : ∀ i j ys, i < n0 → j < N1 i → J2 i j ys → ys.length ≤ sizeLine)
    (step1 : ∀ i ys own C oC D m₂ h₁ tk₁ (E' : Value → Shared → Prop), i < n0 → (∃ t, m₂ x = some (.int (i : Int) t)) → NsObj oC m₂ → J i ys → Fr h₀ L h₁ m → News h₀ L h₁ ((C, oC) :: (D, lst ys) :: (news ++ own)) →
      wpAny (model prog w) A (eval i1 (compEnvC scope cl C env)) (REnd h₀ L m { s₂ with heap := h₁, toks := tk₁ } ((C, oC) :: (D, lst ys) :: (news ++ own)) (N1 i)) E' { s₂ with heap := h₁, toks := tk₁ })
    (step2 : ∀ i j ys own C oC D m₂ h₁ tk₁ (E' : Value → Shared → Prop), i < n0 → j < N1 i → (∃ t, m₂ x = some (.int (i : Int) t)) → NsObj oC m₂ → J2 i j ys → Fr h₀ L h₁ m → News h₀ L h₁ ((C, oC) :: (D, lst ys) :: (news ++ own)) →
      wpAny (model prog w) A (eval elt (compEnvC scope cl C env)) (fun z s₄ => PEnd h₀ L m { s₂ with heap := h₁, toks := tk₁ } ((C, oC) :: (D, lst ys) :: (news ++ own)) (J2 i (j + 1) (ys ++ [z])) s₄) E' { s₂ with heap := h₁, toks := tk₁ })
    (hRR : ∀ D C h tk m' ys, Fr h₀ L h m → News h₀ L h ((D, lst ys) :: news) → (∀ p ∈ news, p.1 ≠ D) → h.Ns C m' → h₀.get? C = none → h₀.get? D = none → C ≠ L → D ≠ L → C ≠ D → (∀ p ∈ news, p.1 ≠ C) → J n0 ys → RR (.ref D) C (.ok .next) { s₂ with heap := h, toks := tk }) :
    wpAny (model prog w) A (newList []) (fun acc s₃ => wpAny (model prog w) A (newFunctionEnv scope env.globals cl [] env.qual none .none (some env)) (fun cenv s₄ =>
      codeAny (model prog w) A (.compStart (.ListComp elt [⟨.Name x px, i0, [], 0⟩, ⟨.Name y py, i1, [], 0⟩] scope pos) 0 (.ref I) acc { cenv with scope := relabel scope env }) (RR acc cenv.locals) s₄) E s₃) E s₂ := by
  refine wpAny_newObj_type (wpAny_newFunctionEnv hcell (by intro y hy; simp at hy) (fun h₁ hns₁ hsb₁ => ?_) hkind)
  dsimp only at hns₁ hsb₁ ⊢
  generalize hH2 : s₂.heap.push { cls := .type "list", dict := none, data := .seq ([] : List Value).toArray } = H2 at hns₁ hsb₁ ⊢
  have hC : H2.objs.size = s₂.heap.objs.size + 1 := by rw [← hH2, Heap.size_push]
  have hDC : s₂.heap.objs.size ≠ H2.objs.size := by rw [hC]; exact Nat.ne_of_lt (Nat.lt_succ_self _)
  have below : ∀ b, b < s₂.heap.objs.size → b ≠ H2.objs.size ∧ b ≠ s₂.heap.objs.size := fun b hb => ⟨by rw [hC]; exact Nat.ne_of_lt (Nat.lt_succ_of_lt hb), Nat.ne_of_lt hb⟩
  have hIlt : I < s₂.heap.objs.size := Heap.lt_size hst
  have hIC : I ≠ H2.objs.size := (below I hIlt).1
  have hID : I ≠ s₂.heap.objs.size := (below I hIlt).2
  have old : ∀ b o, s₂.heap.get? b = some o → h₁.get? b = some o := fun b o e => hsb₁.extBut b o (below b (Heap.lt_size e)).1 (Heap.get?_push_of_some _ (hH2 ▸ Heap.get?_push_of_some _ e))
  have hacc : h₁.get? s₂.heap.objs.size = some (lst []) := hsb₁.extBut _ _ hDC (Heap.get?_push_of_some _ (hH2 ▸ Heap.get?_push_size _ rfl))
  have fresh : ∀ a, s₂.heap.objs.size ≤ a → s₂.heap.get? a = none := fun a ha => by
    cases e : s₂.heap.get? a with
    | none => rfl
    | some o' => exact absurd (Heap.lt_size e) (Nat.not_lt.mpr ha)
  have fresh₀ : ∀ a, s₂.heap.objs.size ≤ a → h₀.get? a = none := fun a ha => by
    cases e : h₀.get? a with
    | none => rfl
    | some o' => have := F.keep a o' e; rw [fresh a ha] at this; cases this
  have hD₀ : h₀.get? s₂.heap.objs.size = none := fresh₀ _ (Nat.le_refl _)
  have hC₀ : h₀.get? H2.objs.size = none := fresh₀ _ (by rw [hC]; exact Nat.le_succ _)
  have hLlt : L < s₂.heap.objs.size := F.ns.lt
  have hDL : s₂.heap.objs.size ≠ L := Ne.symm (below L hLlt).2
  have hCL : H2.objs.size ≠ L := Ne.symm (below L hLlt).1
  have off : ∀ p ∈ news, p.1 ≠ I ∧ p.1 ≠ H2.objs.size ∧ p.1 ≠ s₂.heap.objs.size := fun p hp => ⟨hIn p hp, (below _ (Heap.lt_size (N p hp).1)).1, (below _ (Heap.lt_size (N p hp).1)).2⟩
  generalize s₂.heap.objs.size = D at *
  generalize H2.objs.size = C at *
  have dr : ∀ n : Nat, n ≤ 4000 → Builtin.Range.small 0 (n : Int) 1 = true := fun n hn => small_one (by decide) (by decide) (by (first | lia | omega)) (by (first | lia | omega))
  -- the state between two turns of a loop
  let St : (List Value) → (Str → Option Value) → Heap → Prop := fun ys m' h => Fr h₀ L h m ∧ h.Ns C m' ∧ News h₀ L h ((D, lst ys) :: news)
  have keepSt : ∀ {ys m' h h'}, St ys m' h → (∀ b o, b ≠ C → h.get? b = some o → h'.get? b = some o) → ∀ {m''}, h'.Ns C m'' → St ys m'' h' := fun {ys m' h h'} st hk {m''} hn => by
    refine ⟨⟨st.1.ns.at' fun o e => hk _ o (Ne.symm hCL) e, fun b o e => hk b o (fun q => by rw [q, hC₀] at e; cases e) (st.1.keep b o e), st.1.above⟩, hn, fun p hp => ⟨hk _ _ ?_ (st.2.2 p hp).1, (st.2.2 p hp).2⟩⟩
    rcases List.mem_cons.mp hp with rfl | hp
    · exact hDC
    · exact (off p hp).2.1
  have keepIt : ∀ {ys m' h h'} {b : Addr}, St ys m' h → h₀.get? b = none → b ≠ C → b ≠ D → b ≠ L → (∀ p ∈ news, p.1 ≠ b) → (∀ c o, c ≠ b → h.get? c = some o → h'.get? c = some o) → St ys m' h' := fun {ys m' h h'} {b} st hb₀ hbC hbD hbL hbn hk => by
    refine ⟨⟨st.1.ns.at' fun o e => hk _ o (Ne.symm hbL) e, fun c o e => hk c o (fun q => by rw [q, hb₀] at e; cases e) (st.1.keep c o e), st.1.above⟩, st.2.1.at' fun o e => hk _ o (Ne.symm hbC) e, fun p hp => ⟨hk _ _ ?_ (st.2.2 p hp).1, (st.2.2 p hp).2⟩⟩
    rcases List.mem_cons.mp hp with rfl | hp
    · exact Ne.symm hbD
    · exact hbn p hp
  have hIn' : ∀ p ∈ news, p.1 ≠ I := hIn
  let Out : Nat → Shared → Prop := COut s₂ n0 I St J
  have loop : ∀ s₃ : Shared, s₃ = { s₂ with heap := h₁, toks := s₂.toks + ([] : List (Str × Value)).length } →
      codeAny (model prog w) A (.compLoop (.ListComp elt [⟨.Name x px, i0, [], 0⟩, ⟨.Name y py, i1, [], 0⟩] scope pos) 0 (.ref I) (.ref D) (compEnvC scope cl C env)) (RR (.ref D) C) s₃ := by
    rintro s₃ rfl
    refine comp2_go0 Out (hs _) ?_ (n0 + 1)
      ⟨h₁, _, 0, [], _, rfl, Nat.zero_le _, rfl, by simpa using old _ _ hst, ⟨F.keeps old, hns₁, fun p hp => ?_⟩, h0⟩
    · rintro k s' ⟨h', tk, i, ys, m', rfl, hi, rfl, hit, hSt, hJ⟩
      by_cases hlt : i < n0
      · refine (range_walks (prog := prog) (w := w) (I := I) hh 0 n0).item i _ _ _ hlt hit fun v h₂ tk₂ hP hit₂ hk₂ => ?_
        obtain ⟨tv, rfl⟩ := hP
        have hk₂' : ∀ c o, c ≠ I → h'.get? c = some o → h₂.get? c = some o := fun c o hc => hk₂ c o (by simpa using hc)
        have St₂ := keepIt hSt hI₀ hIC hID hIL hIn' hk₂'
        refine wpAny_pure ?_
        refine wpAny_assign_Name (wpAny_storeName_local (env := compEnvC scope cl C env) (lookup_relabel_local hxl) St₂.2.1 (fun h₃ hn₃ hs₃ => ?_) (by simp [compEnvC, relabel, hkind]))
        have hk₃ : ∀ b o, b ≠ C → h₂.get? b = some o → h₃.get? b = some o := fun b o hb e => hs₃.extBut b o hb e
        have St₃ := keepSt St₂ hk₃ hn₃
        have hit₃ : IsRangeIter h₃ I (0 + ((i + 1 : Nat)) * 1) ((n0 : Int) - (i + 1 : Nat)) 1 := hk₃ I _ hIC hit₂
        obtain ⟨oC, heC, hoC⟩ := ns_obj hn₃
        have hxi : (fun z => if z = x then some (Value.int (0 + (i : Int)) tv) else m' z) x = some (.int (i : Int) tv) := by simp
        have Nown : News h₀ L h₃ (PyProof.Rows.ownOf h₀ [I] h₃) := news_ownOf (by simpa using Ne.symm hIL)
        have N₃ : News h₀ L h₃ ((C, oC) :: (D, lst ys) :: (news ++ PyProof.Rows.ownOf h₀ [I] h₃)) := fun p hp => by
          rcases List.mem_cons.mp hp with rfl | hp
          · exact ⟨heC, hCL, hC₀⟩
          · rcases List.mem_cons.mp hp with rfl | hp
            · exact St₃.2.2 _ List.mem_cons_self
            · rcases List.mem_append.mp hp with hp | hp
              · exact St₃.2.2 p (List.mem_cons_of_mem _ hp)
              · exact Nown p hp
        refine wpAny_mono (step1 i ys _ C oC D _ h₃ _ _ hlt ⟨tv, hxi⟩ hoC hJ St₃.1 N₃) (fun xv s₄ hR => ?_) fun _ _ e => e
        obtain ⟨r, t, u, v, h₄, tk₄, rfl, rfl, hr, F₄, N₄⟩ := hR
        have hit₄ : IsRangeIter h₄ I (0 + ((i + 1 : Nat)) * 1) ((n0 : Int) - (i + 1 : Nat)) 1 := (N₄ (I, _) (List.mem_cons_of_mem _ (List.mem_cons_of_mem _ (List.mem_append_right _ (mem_ownOf (by simp) hI₀ hit₃))))).1
        have St₄ : St ys (fun z => if z = x then some (Value.int (0 + (i : Int)) tv) else m' z) h₄ := ⟨F₄, hoC.ns (N₄ _ List.mem_cons_self).1, fun p hp => N₄ p (by
          rcases List.mem_cons.mp hp with rfl | hp
          · exact List.mem_cons_of_mem _ List.mem_cons_self
          · exact List.mem_cons_of_mem _ (List.mem_cons_of_mem _ (List.mem_append_left _ hp)))⟩
        refine wpAny_pyIter_range hr (dr _ (hN1 i hlt)) ?_
        rw [rangeSize0]
        show codeAny _ _ _ _ { s₂ with heap := h₄.push _, toks := tk₄ }
        have hb1 : ∀ b o, h₄.get? b = some o → (h₄.push { cls := .type "range_iterator", data := .fields #[rawInt 0, rawInt ((N1 i : Nat) : Int), rawInt 1] }).get? b = some o := fun b o e => Heap.get?_push_of_some _ e
        have hI1 : IsRangeIter (h₄.push { cls := .type "range_iterator", data := .fields #[rawInt 0, rawInt ((N1 i : Nat) : Int), rawInt 1] }) h₄.objs.size 0 ((N1 i : Nat) : Int) 1 := Heap.get?_push_size _ rfl
        have nlt : ∀ {b o}, h₄.get? b = some o → h₄.objs.size ≠ b := fun e => Nat.ne_of_gt (Heap.lt_size e)
        obtain ⟨oC4, heC4, _⟩ := ns_obj St₄.2.1
        obtain ⟨oL4, heL4, _⟩ := ns_obj St₄.1.ns
        have n1C : h₄.objs.size ≠ C := nlt heC4
        have n1L : h₄.objs.size ≠ L := nlt heL4
        have n1D : h₄.objs.size ≠ D := nlt (St₄.2.2 _ List.mem_cons_self).1
        have n1I : h₄.objs.size ≠ I := nlt hit₄
        have n1n : ∀ p ∈ news, p.1 ≠ h₄.objs.size := fun p hp => Ne.symm (nlt (St₄.2.2 p (List.mem_cons_of_mem _ hp)).1)
        have n10 : h₀.get? h₄.objs.size = none := get_fresh St₄.1
        have St₅ := keepSt (h' := h₄.push { cls := .type "range_iterator", data := .fields #[rawInt 0, rawInt ((N1 i : Nat) : Int), rawInt 1] }) St₄ (fun b o _ e => hb1 b o e) (St₄.2.1.at' fun o e => hb1 _ o e)
        have hit₅ := hb1 _ _ hit₄
        generalize h₄.push { cls := .type "range_iterator", data := .fields #[rawInt 0, rawInt ((N1 i : Nat) : Int), rawInt 1] } = h₅ at hI1 St₅ hit₅ ⊢
        generalize h₄.objs.size = I1 at *
        -- the inner loop
        have inner : ∀ s₆ : Shared, s₆ = { s₂ with heap := h₅, toks := tk₄ } → codeAny (model prog w) A (.compLoop (.ListComp elt [⟨.Name x px, i0, [], 0⟩, ⟨.Name y py, i1, [], 0⟩] scope pos) 1 (.ref I1) (.ref D) (compEnvC scope cl C env))
            (fun r s' => match r with | .ok _ => ∃ k', k' < n0 + 1 - i ∧ Out k' s' | .error e => cameBackBy (model prog w) A (compEnvC scope cl C env) (notedBy (model prog w) A (compEnvC scope cl C env) fun e s' => RR (.ref D) C (.error e) s') e s') s₆ := by
          rintro s₆ rfl
          refine comp2_go1 (CIn s₂ n0 (N1 i) I I1 i x St (J2 i)) ?_ (N1 i + 1)
            ⟨h₅, _, 0, ys, _, rfl, Nat.zero_le _, rfl, by simpa using hI1, hit₅, St₅, ⟨tv, hxi⟩, hJ2 i ys hlt hJ⟩
          rintro k' s' ⟨h₆, tk₆, j, ys', m₆, rfl, hj, rfl, hI1', hit₆, St₆, hx₆, hJ₆⟩
          by_cases hjl : j < N1 i
          · refine (range_walks (prog := prog) (w := w) (I := I1) hh 0 (N1 i)).item j _ _ _ hjl hI1' fun v h₇ tk₇ hP hI17 hk₇ => ?_
            obtain ⟨tj, rfl⟩ := hP
            have hk₇' : ∀ c o, c ≠ I1 → h₆.get? c = some o → h₇.get? c = some o := fun c o hc => hk₇ c o (by simpa using hc)
            have St₇ := keepIt St₆ n10 n1C n1D n1L n1n hk₇'
            have hit₇ := hk₇' _ _ (Ne.symm n1I) hit₆
            refine wpAny_pure ?_
            refine wpAny_assign_Name (wpAny_storeName_local (env := compEnvC scope cl C env) (lookup_relabel_local hyl) St₇.2.1 (fun h₈ hn₈ hs₈ => ?_) (by simp [compEnvC, relabel, hkind]))
            have hk₈ : ∀ b o, b ≠ C → h₇.get? b = some o → h₈.get? b = some o := fun b o hb e => hs₈.extBut b o hb e
            have St₈ := keepSt St₇ hk₈ hn₈
            have hI18 : IsRangeIter h₈ I1 (0 + ((j + 1 : Nat)) * 1) (((N1 i : Nat) : Int) - (j + 1 : Nat)) 1 := hk₈ I1 _ n1C hI17
            have hit₈ := hk₈ I _ hIC hit₇
            obtain ⟨t₆, ht₆⟩ := hx₆
            obtain ⟨oC8, heC8, hoC8⟩ := ns_obj hn₈
            have hxi8 : (fun z => if z = y then some (Value.int (0 + (j : Int)) tj) else m₆ z) x = some (.int (i : Int) t₆) := by simp [hxy, ht₆]
            have Nown8 : News h₀ L h₈ (PyProof.Rows.ownOf h₀ [I, I1] h₈) := news_ownOf (by simp [Ne.symm hIL, Ne.symm n1L])
            have N₈ : News h₀ L h₈ ((C, oC8) :: (D, lst ys') :: (news ++ PyProof.Rows.ownOf h₀ [I, I1] h₈)) := fun p hp => by
              rcases List.mem_cons.mp hp with rfl | hp
              · exact ⟨heC8, hCL, hC₀⟩
              · rcases List.mem_cons.mp hp with rfl | hp
                · exact St₈.2.2 _ List.mem_cons_self
                · rcases List.mem_append.mp hp with hp | hp
                  · exact St₈.2.2 p (List.mem_cons_of_mem _ hp)
                  · exact Nown8 p hp
            refine wpAny_mono (step2 i j ys' _ C oC8 D _ h₈ _ _ hlt hjl ⟨t₆, hxi8⟩ hoC8 hJ₆ St₈.1 N₈) (fun z s₉ hP => ?_) fun _ _ e => e
            obtain ⟨h₉, tk₉, rfl, F₉, N₉, hJ₉⟩ := hP
            have hI19 : IsRangeIter h₉ I1 (0 + ((j + 1 : Nat)) * 1) (((N1 i : Nat) : Int) - (j + 1 : Nat)) 1 := (N₉ (I1, _) (List.mem_cons_of_mem _ (List.mem_cons_of_mem _ (List.mem_append_right _ (mem_ownOf (by simp) n10 hI18))))).1
            have hit₉ : IsRangeIter h₉ I (0 + ((i + 1 : Nat)) * 1) ((n0 : Int) - (i + 1 : Nat)) 1 := (N₉ (I, _) (List.mem_cons_of_mem _ (List.mem_cons_of_mem _ (List.mem_append_right _ (mem_ownOf (by simp) hI₀ hit₈))))).1
            have zD := (N₉ _ (List.mem_cons_of_mem _ List.mem_cons_self)).1
            refine append_at (hsz := by show ys'.toArray.size ≤ sizeLine; rw [List.size_toArray]; exact hlen i j ys' hlt hjl hJ₆) zD fun hA hsA hDA => ?_
            refine ⟨N1 i + 1 - (j + 1), by (first | lia | omega), hA, tk₉, j + 1, ys' ++ [z], _, rfl, hjl, rfl, hsA.extBut _ _ n1D hI19, hsA.extBut _ _ hID hit₉, ⟨F₉.change hsA hDL hD₀, (hoC8.ns (N₉ _ List.mem_cons_self).1).sameBut hsA (Ne.symm hDC), fun p hp => ?_⟩, ⟨t₆, hxi8⟩, hJ₉⟩
            rcases List.mem_cons.mp hp with rfl | hp
            · exact ⟨hDA.trans (congrArg some (lst_snoc ys' z)), hDL, hD₀⟩
            · have zz := N₉ p (List.mem_cons_of_mem _ (List.mem_cons_of_mem _ (List.mem_append_left _ hp)))
              exact ⟨hsA.extBut _ _ (off p hp).2.2 zz.1, zz.2⟩
          · obtain rfl : j = N1 i := Nat.le_antisymm hj (Nat.not_lt.mp hjl)
            refine (range_walks (prog := prog) (w := w) (I := I1) hh 0 (N1 i)).done _ _ _ hI1' fun h₇ tk₇ hk₇ => ?_
            have hk₇' : ∀ c o, c ≠ I1 → h₆.get? c = some o → h₇.get? c = some o := fun c o hc => hk₇ c o (by simpa using hc)
            exact ⟨n0 + 1 - (i + 1), by (first | lia | omega), h₇, tk₇, i + 1, ys', m₆, rfl, hlt, rfl, hk₇' _ _ (Ne.symm n1I) hit₆, keepIt St₆ n10 n1C n1D n1L n1n hk₇', hJ3 i ys' hlt hJ₆⟩
        refine comp2_start1 (inner _ rfl) ?_
        exact (range_walks (prog := prog) (w := w) (I := I1) hh 0 (N1 i)).self 0 { s₂ with heap := h₅, toks := tk₄ } _ _ (by simpa using hI1) (inner _ rfl)
      · obtain rfl : i = n0 := Nat.le_antisymm hi (Nat.not_lt.mp hlt)
        refine (range_walks (prog := prog) (w := w) (I := I) hh 0 i).done _ _ _ hit fun h₂ tk₂ hk₂ => ?_
        have hk₂' : ∀ c o, c ≠ I → h'.get? c = some o → h₂.get? c = some o := fun c o hc => hk₂ c o (by simpa using hc)
        have St₂ := keepIt hSt hI₀ hIC hID hIL hIn' hk₂'
        exact hRR _ _ h₂ tk₂ _ ys St₂.1 St₂.2.2 (fun p hp => (off p hp).2.2) St₂.2.1 hC₀ hD₀ hCL hDL (Ne.symm hDC) (fun p hp => (off p hp).2.1) hJ
    · rcases List.mem_cons.mp hp with rfl | hp
      · exact ⟨hacc, hDL, hD₀⟩
      · exact ⟨old _ _ (N p hp).1, (N p hp).2⟩
  exact codeAny_compStart_list (loop _ rfl) ((range_walks (prog := prog) (w := w) (I := I) hh 0 n0).self 0 _ _ _ (by simpa using old _ _ hst) (loop _ rfl))
end
end Mine
end

noncomputable section
namespace Mine
open PyProof.Rows.LCg PyProof.V
section
variable {prog : Program} {w : World} {A : Around} {E : Value → Shared → Prop} {s : Shared} {h₀ : Heap} {L : Addr} {m : Str → Option Value} {env : Env}
inductive Comp2At (prog : Program) (w : World) (A : Around) (h₀ : Heap) (L : Addr) (m : Str → Option Value) (env : Env) (elt i1 : PySem.Expr) (x y : Str) (scope : Scope) (cl : List (Str × Addr)) (Fin : Shared → List Value → List (Addr × Obj) → Prop) (it : Value) (s₂ : Shared) : Prop
  | intro (I : Addr) (n0 : Nat) (news : List (Addr × Obj)) (N1 : Nat → Nat) (J : Nat → List Value → Prop) (J2 : Nat → Nat → List Value → Prop) (f1 : it = .ref I) (f2 : A.handled = none) (f3 : IsRangeIter s₂.heap I 0 (n0 : Int) 1) (f4 : Fr h₀ L s₂.heap m) (f5 : News h₀ L s₂.heap news) (f6 : h₀.get? I = none) (f7 : I ≠ L) (f8 : (∀ p ∈ news, p.1 ≠ I)) (f9 : J 0 []) (f10 : (∀ i, i < n0 → N1 i ≤ 4000)) (f11 : (∀ i ys, i < n0 → J i ys → J2 i 0 ys)) (f12 : (∀ i ys, i < n0 → J2 i (N1 i) ys → J (i + 1) ys)) (f13 : (∀ i j ys, i < n0 → j < N1 i → J2 i j ys → ys.length ≤ sizeLine)) (f14 : (∀ i ys own C oC D m₂ h₁ tk₁ (E' : Value → Shared → Prop), i < n0 → (∃ t, m₂ x = some (.int (i : Int) t)) → NsObj oC m₂ → J i ys → Fr h₀ L h₁ m → News h₀ L h₁ ((C, oC) :: (D, listOf ys.toArray ys.length) :: (news ++ own)) → wpAny (model prog w) A (eval i1 (compEnvC scope cl C env)) (REnd h₀ L m { s₂ with heap := h₁, toks := tk₁ } ((C, oC) :: (D, listOf ys.toArray ys.length) :: (news ++ own)) (N1 i)) E' { s₂ with heap := h₁, toks := tk₁ })) (f15 : (∀ i j ys own C oC D m₂ h₁ tk₁ (E' : Value → Shared → Prop), i < n0 → j < N1 i → (∃ t, m₂ x = some (.int (i : Int) t)) → NsObj oC m₂ → J2 i j ys → Fr h₀ L h₁ m → News h₀ L h₁ ((C, oC) :: (D, listOf ys.toArray ys.length) :: (news ++ own)) → wpAny (model prog w) A (eval elt (compEnvC scope cl C env)) (fun z s₄ => PEnd h₀ L m { s₂ with heap := h₁, toks := tk₁ } ((C, oC) :: (D, listOf ys.toArray ys.length) :: (news ++ own)) (J2 i (j + 1) (ys ++ [z])) s₄) E' { s₂ with heap := h₁, toks := tk₁ })) (f16 : ∀ ys, J n0 ys → Fin s₂ ys news) : Comp2At prog w A h₀ L m env elt i1 x y scope cl Fin it s₂
theorem ListComp_two {elt i0 i1 : PySem.Expr} {x y : Str} {px py : Pos} {scope : Scope} {cl : List (Str × Addr)} {pos : Pos} {Q : Value → Shared → Prop} (_F₀ : Fr h₀ L s.heap m)
    (hclos : closureFor scope env = pure cl) (hcell : ∀ z ∈ scope.names, z.2 ≠ .cell) (hkind : scope.kind = .function)
    (hnames : ∀ z ∈ scope.names, z.2 = .local → scope.names.lookup z.1 = some .local) (hxl : scope.names.lookup x = some .local) (hyl : scope.names.lookup y = some .local) (hxy : x ≠ y)
    (h : wpAny (model prog w) A (eval i0 env) (fun xv s₁ => wpAny (model prog w) A (pyIter xv) (fun it s₂ => Comp2At prog w A h₀ L m env elt i1 x y scope cl (FinE1 h₀ L m Q) it s₂) E s₁) E s)
    (hs : ∀ x, foldedSetIterable i0 env x = pure x := by intro _; rfl) (hs1 : ∀ (e : Env) (x : Value), foldedSetIterable i1 e x = pure x := by intro _ _; rfl) :
    wpAny (model prog w) A (eval (.ListComp elt [⟨.Name x px, i0, [], 0⟩, ⟨.Name y py, i1, [], 0⟩] scope pos) env) Q E s := by
  rw [eval_ListComp]
  refine wpAny_comprehension_free (use := none) rfl hs hclos hkind hnames (wpAny_mono h (fun xv s₁ h₁ => wpAny_mono h₁ (fun it s₂ h₂ => ?_) fun _ _ e => e) fun _ _ e => e)
  obtain ⟨I, n0, news, N1, J, J2, rfl, hh, hst, F, N, hI₀, hIL, hIn, h0, hN1, hJ2, hJ3, hlen, step1, step2, fin⟩ := h₂
  refine comp2_block (N1 := N1) (J := J) (J2 := J2) hh hs1 hcell hkind hxl hyl hxy hst F N hI₀ hIL hIn h0 hN1 hJ2 hJ3 hlen step1 step2 ?_
  intro D C h tk m' ys F' N' o1 hn hC₀ hD₀ hCL hDL hCD offC hJ
  refine ⟨m', hn, fun h'' hs'' => fin ys hJ D h'' tk (F'.change hs'' hCL hC₀) (fun p hp => ?_) o1⟩
  refine ⟨hs''.extBut _ _ ?_ (N' p hp).1, (N' p hp).2⟩
  rcases List.mem_cons.mp hp with rfl | hp
  · exact Ne.symm hCD
  · exact offC p hp
theorem comp2At_range {elt i1 : PySem.Expr} {x y : Str} {scope : Scope} {cl : List (Str × Addr)} {Fin : Shared → List Value → List (Addr × Obj) → Prop} {r : Addr} {b : Int} {t u v : Tok} {n0 : Nat} {news : List (Addr × Obj)} (N1 : Nat → Nat) (J : Nat → List Value → Prop) (J2 : Nat → Nat → List Value → Prop)
    (hh : A.handled = none) (F : Fr h₀ L s.heap m) (N : News h₀ L s.heap news) (hr : IsRange s.heap r 0 b 1 t u v) (hsm : Builtin.Range.small 0 b 1 = true) (hn : Builtin.Range.rangeSize 0 b 1 = ((n0 : Nat) : Int)) (h0 : J 0 []) (hN1 : ∀ i, i < n0 → N1 i ≤ 4000)
    (hJ2 : ∀ i ys, i < n0 → J i ys → J2 i 0 ys) (hJ3 : ∀ i ys, i < n0 → J2 i (N1 i) ys → J (i + 1) ys) (hlen : ∀ i j ys, i < n0 → j < N1 i → J2 i j ys → ys.length ≤ sizeLine)
    (step1 : ∀ (g : Heap) i ys own C oC D m₂ h₁ tk₁ (E' : Value → Shared → Prop), i < n0 → (∃ t, m₂ x = some (.int (i : Int) t)) → NsObj oC m₂ → J i ys → Fr h₀ L h₁ m → News h₀ L h₁ ((C, oC) :: (D, listOf ys.toArray ys.length) :: (news ++ own)) →
      wpAny (model prog w) A (eval i1 (compEnvC scope cl C env)) (REnd h₀ L m { s with heap := h₁, toks := tk₁ } ((C, oC) :: (D, listOf ys.toArray ys.length) :: (news ++ own)) (N1 i)) E' { s with heap := h₁, toks := tk₁ })
    (step2 : ∀ (g : Heap) i j ys own C oC D m₂ h₁ tk₁ (E' : Value → Shared → Prop), i < n0 → j < N1 i → (∃ t, m₂ x = some (.int (i : Int) t)) → NsObj oC m₂ → J2 i j ys → Fr h₀ L h₁ m → News h₀ L h₁ ((C, oC) :: (D, listOf ys.toArray ys.length) :: (news ++ own)) →
      wpAny (model prog w) A (eval elt (compEnvC scope cl C env)) (fun z s₄ => PEnd h₀ L m { s with heap := h₁, toks := tk₁ } ((C, oC) :: (D, listOf ys.toArray ys.length) :: (news ++ own)) (J2 i (j + 1) (ys ++ [z])) s₄) E' { s with heap := h₁, toks := tk₁ })
    (fin : ∀ (g : Heap) ys, J n0 ys → Fin { s with heap := g } ys news) :
    wpAny (model prog w) A (pyIter (.ref r)) (fun it s₂ => Comp2At prog w A h₀ L m env elt i1 x y scope cl Fin it s₂) E s := by
  refine wpAny_pyIter_range hr hsm ?_
  rw [hn]
  exact ⟨_, n0, news, N1, J, J2, rfl, hh, Heap.get?_push_size _ rfl, F.push _, fun p hp => ⟨Heap.get?_push_of_some _ (N p hp).1, (N p hp).2⟩, get_fresh F, Nat.ne_of_gt F.ns.lt, fun p hp => Nat.ne_of_lt (Heap.lt_size (N p hp).1), h0, hN1, hJ2, hJ3, hlen, step1 s.heap, step2 s.heap, fin _⟩
end
end Mine
end

noncomputable section
namespace Mine
def TwoLetters (c0 c1 : Nat) : Prop := (c0 = 97 ∧ c1 = 98) ∨ (c0 = 66 ∧ c1 = 97) ∨ (c0 = 107 ∧ c1 = 83) ∨ (c0 = 121 ∧ c1 = 90)
def PriceOk (P Q : Int) (top : Nat) : Prop := (P = 1 ∧ Q = 2 ∧ top = 6) ∨ (P = 2 ∧ Q = 1 ∧ top = 6) ∨ (P = 1 ∧ Q = 3 ∧ top = 7) ∨ (P = 3 ∧ Q = 2 ∧ top = 10)
def toldUpto (K : Nat → Int) : Nat → List Int
  | 0 => []
  | t + 1 => toldUpto K t ++ List.replicate (K t).toNat (t : Int)
abbrev WordOk (c0 c1 : Nat) (x : Str) : Prop := 1 ≤ x.cps.size ∧ x.cps.size ≤ 4 ∧ ∀ c ∈ x.cps.toList, c = c0 ∨ c = c1
end Mine
end

noncomputable section
namespace Mine
def ke (ys : List It) (j : Nat) : Int := match ys[j]? with | some y => y.i | none => 0
theorem ke_some {ys : List It} {j : Nat} {y : It} (h : ys[j]? = some y) : ke ys j = y.i := by unfold ke; rw [h]
theorem ke_set {ys : List It} {p : Nat} (h : p < ys.length) (y : It) (j : Nat) : ke (ys.set p y) j = if j = p then y.i else ke ys j := by
  unfold ke
  rw [List.getElem?_set]
  by_cases c : p = j
  · subst c; rw [if_pos rfl, if_pos h, if_pos rfl]
  · rw [if_neg c, if_neg (fun e => c e.symm)]
abbrev su9 (f : It → Int) (ys : List It) : Int := (ys.map f).sum
theorem su9_set (f : It → Int) : ∀ {ys : List It} {p : Nat} {v : It} (x : It), ys[p]? = some v → su9 f (ys.set p x) = su9 f ys - f v + f x
  | [], _, _, _, h => by simp at h
  | y :: ys, 0, v, x, h => by
    obtain rfl := Option.some.inj h
    show f x + (ys.map f).sum = f y + (ys.map f).sum - f y + f x
    (first | lia | omega)
  | y :: ys, p + 1, v, x, h => by
    have ih := su9_set f (ys := ys) (p := p) x (by simpa using h)
    show f y + su9 f (ys.set p x) = f y + (ys.map f).sum - f v + f x
    rw [ih]
    show f y + ((ys.map f).sum - f v + f x) = _
    (first | lia | omega)
theorem sd_sum (f : It → Int) (x : It) (a : Nat) : ∀ (p : Nat) (ys : List It), p < ys.length → su9 f (sd x a ys p) = su9 f (ys.set p x) := by
  intro p
  induction p using Nat.strongRecOn with
  | ind p ih =>
    intro ys hp
    by_cases h : a < p
    · have hpar : (p - 1) / 2 < ys.length := by (first | lia | omega)
      have hy := List.getElem?_eq_getElem hpar
      generalize ys[(p - 1) / 2] = y at hy
      by_cases hl : x.lt y = true
      · rw [sd_up h hy hl, ih _ (by (first | lia | omega)) _ (by rw [List.length_set]; exact hpar)]
        have hv := List.getElem?_eq_getElem hp
        have hy2 : (ys.set p y)[(p - 1) / 2]? = some y := by rw [List.getElem?_set, if_neg (by (first | lia | omega))]; exact hy
        rw [su9_set f x hy2, su9_set f y hv, su9_set f x hv]
        (first | lia | omega)
      · rw [sd_stop h hy (by simpa using hl)]
    · rw [sd_end h]
theorem pick_or (ys : List It) (c : Nat) : suPick ys c = c ∨ suPick ys c = c + 1 ∧ c + 1 < ys.length := by
  by_cases h : c + 1 < ys.length
  · unfold suPick
    split
    · split
      · exact .inl rfl
      · exact .inr ⟨rfl, h⟩
    · exact .inl rfl
  · exact .inl (suPick_one h)
theorem su_all (f : It → Int) : ∀ (k : Nat) (ys : List It) (p : Nat), ys.length - p ≤ k → p < ys.length → (su ys p).2 < ys.length ∧ ∀ x, su9 f ((su ys p).1.set (su ys p).2 x) = su9 f (ys.set p x) := by
  intro k
  induction k with
  | zero => intro ys p h hp; (first | lia | omega)
  | succ k ih =>
    intro ys p h hp
    by_cases c : 2 * p + 1 < ys.length
    · have hc : suPick ys (2 * p + 1) < ys.length := by rcases pick_or ys (2 * p + 1) with e | e <;> (first | lia | omega)
      have hgt : p < suPick ys (2 * p + 1) := by rcases pick_or ys (2 * p + 1) with e | e <;> (first | lia | omega)
      have hy := List.getElem?_eq_getElem hc
      rw [su_down c hy]
      generalize ys[suPick ys (2 * p + 1)] = y at hy
      have hi := ih (ys.set p y) (suPick ys (2 * p + 1)) (by rw [List.length_set]; (first | lia | omega)) (by rw [List.length_set]; exact hc)
      rw [List.length_set] at hi
      refine ⟨hi.1, fun x => ?_⟩
      rw [hi.2 x]
      have hy2 : (ys.set p y)[suPick ys (2 * p + 1)]? = some y := by rw [List.getElem?_set, if_neg (by (first | lia | omega))]; exact hy
      have hv := List.getElem?_eq_getElem hp
      rw [su9_set f x hy2, su9_set f y hv, su9_set f x hv]
      (first | lia | omega)
    · rw [su_end c]; exact ⟨hp, fun _ => rfl⟩
theorem siftup_sum (f : It → Int) (x : It) (ys : List It) (h : 0 < ys.length) : su9 f (siftup x ys) = su9 f (ys.set 0 x) := by
  have hs := su_all f _ ys 0 (Nat.le_refl _) h
  unfold siftup
  rw [sd_sum f x 0 _ _ (by rw [List.length_set, su_len _ _ _ (Nat.le_refl _)]; exact hs.1), List.set_set]
  exact hs.2 x
theorem pop_sum (f : It → Int) (xs : List It) (x : It) : su9 f (popRest xs x) + f (popTop xs x) = su9 f (xs ++ [x]) := by
  cases xs with
  | nil => show (0 : Int) + f x = f x + 0; (first | lia | omega)
  | cons y r =>
    show su9 f (siftup x (x :: r)) + f y = f y + su9 f (r ++ [x])
    rw [siftup_sum f x (x :: r) (by simp)]
    show f x + (r.map f).sum + f y = f y + ((r ++ [x]).map f).sum
    rw [List.map_append, List.sum_append]
    show f x + (r.map f).sum + f y = f y + ((r.map f).sum + (f x + 0))
    (first | lia | omega)
def HO (ys : List It) : Prop := ∀ j, 0 < j → j < ys.length → ke ys ((j - 1) / 2) ≤ ke ys j
def HOx (ys : List It) (p : Nat) : Prop := ∀ j, 0 < j → j < ys.length → j ≠ p → (j - 1) / 2 ≠ p → ke ys ((j - 1) / 2) ≤ ke ys j
def Hup (ys : List It) (p : Nat) : Prop := 0 < p → ∀ j, 0 < j → j < ys.length → (j - 1) / 2 = p → ke ys ((p - 1) / 2) ≤ ke ys j
theorem lt_true {x y : It} (h : x.lt y = true) : x.i ≤ y.i := by
  unfold It.lt ltIS at h
  by_cases c : (x.i == y.i) = true
  · have : x.i = y.i := by simpa using c
    (first | lia | omega)
  · rw [if_neg c] at h
    have := of_decide_eq_true h
    (first | lia | omega)
theorem lt_false {x y : It} (h : x.lt y = false) : y.i ≤ x.i := by
  unfold It.lt ltIS at h
  by_cases c : (x.i == y.i) = true
  · have : x.i = y.i := by simpa using c
    (first | lia | omega)
  · rw [if_neg c] at h
    have := of_decide_eq_false h
    (first | lia | omega)
theorem sd_HO (x : It) : ∀ (p : Nat) (ys : List It), p < ys.length → HOx ys p → Hup ys p → (∀ j, 0 < j → j < ys.length → (j - 1) / 2 = p → x.i ≤ ke ys j) → HO (sd x 0 ys p) := by
  intro p
  induction p using Nat.strongRecOn with
  | ind p ih =>
    intro ys hp h1 h3 h2
    have stop : (0 < p → ke ys ((p - 1) / 2) ≤ x.i) → HO (ys.set p x) := fun h4 j hj hl => by
      rw [List.length_set] at hl
      rw [ke_set hp, ke_set hp]
      by_cases c : j = p
      · subst c
        rw [if_pos rfl, if_neg (by (first | lia | omega))]
        exact h4 hj
      · rw [if_neg c]
        by_cases c2 : (j - 1) / 2 = p
        · rw [if_pos c2]; exact h2 j hj hl c2
        · rw [if_neg c2]; exact h1 j hj hl c c2
    by_cases h : 0 < p
    · have hpar : (p - 1) / 2 < ys.length := by (first | lia | omega)
      have hy := List.getElem?_eq_getElem hpar
      generalize ys[(p - 1) / 2] = y at hy
      have hk := ke_some hy
      by_cases hl : x.lt y = true
      · rw [sd_up h hy hl]
        have hxy := lt_true hl
        refine ih _ (by (first | lia | omega)) _ (by rw [List.length_set]; exact hpar) ?_ ?_ ?_
        · intro j hj hjl a b
          rw [List.length_set] at hjl
          rw [ke_set hp, ke_set hp, if_neg (show ¬ j = p from by rintro rfl; exact b rfl)]
          by_cases c2 : (j - 1) / 2 = p
          · rw [if_pos c2, ← hk]; exact h3 h j hj hjl c2
          · rw [if_neg c2]; exact h1 j hj hjl (by rintro rfl; exact b rfl) c2
        · intro hq j hj hjl a
          rw [List.length_set] at hjl
          have hg := h1 ((p - 1) / 2) hq hpar (by (first | lia | omega)) (by (first | lia | omega))
          rw [ke_set hp, ke_set hp, if_neg (show ¬ ((p - 1) / 2 - 1) / 2 = p by (first | lia | omega))]
          by_cases c : j = p
          · rw [if_pos c, ← hk]; exact hg
          · rw [if_neg c]
            have := h1 j hj hjl c (by (first | lia | omega))
            rw [a] at this
            (first | lia | omega)
        · intro j hj hjl a
          rw [List.length_set] at hjl
          rw [ke_set hp]
          by_cases c : j = p
          · rw [if_pos c]; exact hxy
          · rw [if_neg c]
            have := h1 j hj hjl c (by (first | lia | omega))
            rw [a] at this
            (first | lia | omega)
      · rw [sd_stop h hy (by simpa using hl)]
        have := lt_false (x := x) (y := y) (by simpa using hl)
        exact stop fun _ => by (first | lia | omega)
    · rw [sd_end h]
      exact stop fun a => absurd a h
theorem pick_le {ys : List It} {c : Nat} (h : c < ys.length) : ∀ j, j = c ∨ j = c + 1 → j < ys.length → ke ys (suPick ys c) ≤ ke ys j := by
  intro j hj hl
  have h1 := List.getElem?_eq_getElem h
  by_cases c2 : c + 1 < ys.length
  · have h2 := List.getElem?_eq_getElem c2
    have k1 := ke_some h1
    have k2 := ke_some h2
    cases e : (ys[c]).lt (ys[c + 1]) with
    | true =>
      rw [suPick_left h1 h2 e]
      have := lt_true e
      rcases hj with rfl | rfl <;> (first | lia | omega)
    | false =>
      rw [suPick_right h1 h2 e]
      have := lt_false e
      rcases hj with rfl | rfl <;> (first | lia | omega)
  · rw [suPick_one c2]
    rcases hj with rfl | rfl
    · exact Int.le_refl _
    · (first | lia | omega)
theorem su_HO : ∀ (k : Nat) (ys : List It) (p : Nat), ys.length - p ≤ k → p < ys.length → HOx ys p → Hup ys p → HOx (su ys p).1 (su ys p).2 ∧ ys.length ≤ 2 * (su ys p).2 + 1 := by
  intro k
  induction k with
  | zero => intro ys p h hp; (first | lia | omega)
  | succ k ih =>
    intro ys p h hp h1 h3
    by_cases c : 2 * p + 1 < ys.length
    · have hc : suPick ys (2 * p + 1) < ys.length := by rcases pick_or ys (2 * p + 1) with e | e <;> (first | lia | omega)
      have hpar : (suPick ys (2 * p + 1) - 1) / 2 = p := by rcases pick_or ys (2 * p + 1) with e | e <;> (first | lia | omega)
      have hgt : p < suPick ys (2 * p + 1) := by rcases pick_or ys (2 * p + 1) with e | e <;> (first | lia | omega)
      have hpk := pick_le c
      have hy := List.getElem?_eq_getElem hc
      rw [su_down c hy]
      generalize ys[suPick ys (2 * p + 1)] = y at hy
      have hk := ke_some hy
      have hi := ih (ys.set p y) (suPick ys (2 * p + 1)) (by rw [List.length_set]; (first | lia | omega)) (by rw [List.length_set]; exact hc) ?_ ?_
      · rw [List.length_set] at hi
        exact hi
      · intro j hj hjl a b
        rw [List.length_set] at hjl
        rw [ke_set hp, ke_set hp]
        by_cases e : j = p
        · rw [if_pos e, if_neg (by (first | lia | omega)), ← hk, e]
          exact h3 (by (first | lia | omega)) _ (by (first | lia | omega)) hc hpar
        · rw [if_neg e]
          by_cases e2 : (j - 1) / 2 = p
          · rw [if_pos e2, ← hk]
            exact hpk j (by (first | lia | omega)) hjl
          · rw [if_neg e2]; exact h1 j hj hjl e e2
      · intro hq j hj hjl a
        rw [List.length_set] at hjl
        rw [ke_set hp, ke_set hp, hpar, if_pos rfl, if_neg (by (first | lia | omega)), ← hk]
        have := h1 j hj hjl (by (first | lia | omega)) (by (first | lia | omega))
        rw [a] at this
        exact this
    · rw [su_end c]; exact ⟨h1, by (first | lia | omega)⟩
theorem siftup_HO (x : It) (ys : List It) (h : 0 < ys.length) (h1 : HOx ys 0) : HO (siftup x ys) := by
  have hs := su_all (fun _ => 0) _ ys 0 (Nat.le_refl _) h
  have hh := su_HO _ ys 0 (Nat.le_refl _) h h1 (fun a => absurd a (Nat.lt_irrefl _))
  have hl := su_len _ ys 0 (Nat.le_refl _)
  unfold siftup
  generalize (su ys 0).1 = zs at hs hh hl
  generalize (su ys 0).2 = r at hs hh
  have hr : r < zs.length := by rw [hl]; exact hs.1
  refine sd_HO x r _ (by rw [List.length_set]; exact hr) ?_ ?_ ?_
  · intro j hj hjl a b
    rw [List.length_set] at hjl
    rw [ke_set hr, ke_set hr, if_neg a, if_neg b]
    exact hh.1 j hj hjl a b
  · intro _ j hj hjl a
    rw [List.length_set] at hjl
    (first | lia | omega)
  · intro j hj hjl a
    rw [List.length_set] at hjl
    (first | lia | omega)
theorem ke_app {ys zs : List It} {j : Nat} (h : j < ys.length) : ke (ys ++ zs) j = ke ys j := by
  unfold ke; rw [List.getElem?_append_left h]
theorem push_HO {zs : List It} (it : It) (h : HO zs) : HO (sd it 0 (zs ++ [it]) zs.length) := by
  have hl : (zs ++ [it]).length = zs.length + 1 := by simp
  refine sd_HO it _ _ (by (first | lia | omega)) ?_ ?_ ?_
  · intro j hj hjl a b
    rw [ke_app (by (first | lia | omega)), ke_app (by (first | lia | omega))]
    exact h j hj (by (first | lia | omega))
  · intro _ j hj hjl a; (first | lia | omega)
  · intro j hj hjl a; (first | lia | omega)
theorem pop_HO {xs : List It} {x : It} (h : HO (xs ++ [x])) : HO (popRest xs x) := by
  cases xs with
  | nil => intro j _ hjl; exact absurd hjl (Nat.not_lt_zero _)
  | cons y r =>
    refine siftup_HO x (x :: r) (by simp) ?_
    intro j hj hjl a b
    have hjl2 : j < r.length + 1 := hjl
    have key : ∀ i, 0 < i → i < r.length + 1 → ke (x :: r) i = ke (y :: r ++ [x]) i := fun i hi hil => by
      rw [ke_app (by simpa using hil)]
      obtain ⟨i, rfl⟩ : ∃ k, i = k + 1 := ⟨i - 1, by (first | lia | omega)⟩
      unfold ke
      rw [List.getElem?_cons_succ, List.getElem?_cons_succ]
    rw [key _ (by (first | lia | omega)) (by (first | lia | omega)), key _ hj hjl2]
    exact h j hj (by simp; (first | lia | omega))
theorem HO_top {ys : List It} (h : HO ys) : ∀ j, j < ys.length → ke ys 0 ≤ ke ys j := by
  intro j
  induction j using Nat.strongRecOn with
  | ind j ih =>
    intro hj
    by_cases c : 0 < j
    · exact Int.le_trans (ih _ (by (first | lia | omega)) (by (first | lia | omega))) (h j c hj)
    · rw [show j = 0 by (first | lia | omega)]; exact Int.le_refl _
theorem top_le {xs : List It} {x : It} (h : HO (xs ++ [x])) : ∀ z ∈ xs ++ [x], (popTop xs x).i ≤ z.i := by
  intro z hz
  obtain ⟨j, hj⟩ := List.getElem?_of_mem hz
  have h1 := HO_top h j (List.getElem?_eq_some_iff.mp hj).1
  rw [ke_some hj] at h1
  have h2 : ke (xs ++ [x]) 0 = (popTop xs x).i := by cases xs <;> rfl
  rw [← h2]; exact h1
end Mine
end

noncomputable section
namespace Mine
def wl (c0 p q : Nat) (x : List Nat) : Nat := (x.map fun c => if c = c0 then p else q).sum
def Nw (c0 c1 p q : Nat) (f : List Nat → Int) (t : Nat) : Int :=
  (if t = 0 then f [] else 0) + (if _h : 0 < p ∧ p ≤ t then Nw c0 c1 p q (fun y => f (c0 :: y)) (t - p) else 0) + (if _h : 0 < q ∧ q ≤ t then Nw c0 c1 p q (fun y => f (c1 :: y)) (t - q) else 0)
termination_by t
decreasing_by all_goals (first | lia | omega)
section
variable {c0 c1 p q : Nat}
theorem Nw_def (hp : 0 < p) (hq : 0 < q) (f : List Nat → Int) (t : Nat) : Nw c0 c1 p q f t = (if t = 0 then f [] else 0) + (if p ≤ t then Nw c0 c1 p q (fun y => f (c0 :: y)) (t - p) else 0) + (if q ≤ t then Nw c0 c1 p q (fun y => f (c1 :: y)) (t - q) else 0) := by
  rw [Nw]
  congr 1
  · congr 1
    by_cases h : p ≤ t
    · rw [dif_pos ⟨hp, h⟩, if_pos h]
    · rw [dif_neg (fun a => h a.2), if_neg h]
  · by_cases h : q ≤ t
    · rw [dif_pos ⟨hq, h⟩, if_pos h]
    · rw [dif_neg (fun a => h a.2), if_neg h]
theorem Nw_congr (hp : 0 < p) (hq : 0 < q) : ∀ (t : Nat) (f g : List Nat → Int), (∀ y, (∀ c ∈ y, c = c0 ∨ c = c1) → f y = g y) → Nw c0 c1 p q f t = Nw c0 c1 p q g t := by
  intro t
  induction t using Nat.strongRecOn with
  | ind t ih =>
    intro f g h
    rw [Nw_def hp hq f, Nw_def hp hq g, h [] (fun _ h => nomatch h)]
    congr 1
    · congr 1
      by_cases c : p ≤ t
      · rw [if_pos c, if_pos c]
        exact ih (t - p) (by (first | lia | omega)) _ _ fun y hy => h _ fun c hc => (List.mem_cons.mp hc).elim (fun e => .inl e) (hy c)
      · rw [if_neg c, if_neg c]
    · by_cases c : q ≤ t
      · rw [if_pos c, if_pos c]
        exact ih (t - q) (by (first | lia | omega)) _ _ fun y hy => h _ fun c hc => (List.mem_cons.mp hc).elim (fun e => .inr e) (hy c)
      · rw [if_neg c, if_neg c]
theorem Nw_add (hp : 0 < p) (hq : 0 < q) : ∀ (t : Nat) (f g : List Nat → Int), Nw c0 c1 p q (fun y => f y + g y) t = Nw c0 c1 p q f t + Nw c0 c1 p q g t := by
  intro t
  induction t using Nat.strongRecOn with
  | ind t ih =>
    intro f g
    rw [Nw_def hp hq f, Nw_def hp hq g, Nw_def hp hq]
    have h1 : (if p ≤ t then Nw c0 c1 p q (fun y => f (c0 :: y) + g (c0 :: y)) (t - p) else 0) = (if p ≤ t then Nw c0 c1 p q (fun y => f (c0 :: y)) (t - p) else 0) + (if p ≤ t then Nw c0 c1 p q (fun y => g (c0 :: y)) (t - p) else 0) := by
      by_cases c : p ≤ t
      · rw [if_pos c, if_pos c, if_pos c]; exact ih (t - p) (by (first | lia | omega)) (fun y => f (c0 :: y)) (fun y => g (c0 :: y))
      · rw [if_neg c, if_neg c, if_neg c]; rfl
    have h2 : (if q ≤ t then Nw c0 c1 p q (fun y => f (c1 :: y) + g (c1 :: y)) (t - q) else 0) = (if q ≤ t then Nw c0 c1 p q (fun y => f (c1 :: y)) (t - q) else 0) + (if q ≤ t then Nw c0 c1 p q (fun y => g (c1 :: y)) (t - q) else 0) := by
      by_cases c : q ≤ t
      · rw [if_pos c, if_pos c, if_pos c]; exact ih (t - q) (by (first | lia | omega)) (fun y => f (c1 :: y)) (fun y => g (c1 :: y))
      · rw [if_neg c, if_neg c, if_neg c]; rfl
    rw [h1, h2]
    by_cases c : t = 0
    · rw [if_pos c, if_pos c, if_pos c]; (first | lia | omega)
    · rw [if_neg c, if_neg c, if_neg c]; (first | lia | omega)
theorem Nw_zero (hp : 0 < p) (hq : 0 < q) : ∀ (t : Nat), Nw c0 c1 p q (fun _ => 0) t = 0 := by
  intro t
  induction t using Nat.strongRecOn with
  | ind t ih =>
    rw [Nw_def hp hq]
    have h1 : (if p ≤ t then Nw c0 c1 p q (fun _ => 0) (t - p) else 0) = 0 := by
      by_cases c : p ≤ t
      · rw [if_pos c]; exact ih _ (by (first | lia | omega))
      · rw [if_neg c]
    have h2 : (if q ≤ t then Nw c0 c1 p q (fun _ => 0) (t - q) else 0) = 0 := by
      by_cases c : q ≤ t
      · rw [if_pos c]; exact ih _ (by (first | lia | omega))
      · rw [if_neg c]
    rw [h1, h2]
    split <;> rfl
theorem Nw_le (hp : 0 < p) (hq : 0 < q) : ∀ (t : Nat) (f g : List Nat → Int), (∀ y, f y ≤ g y) → Nw c0 c1 p q f t ≤ Nw c0 c1 p q g t := by
  intro t
  induction t using Nat.strongRecOn with
  | ind t ih =>
    intro f g h
    rw [Nw_def hp hq f, Nw_def hp hq g]
    have h1 : (if p ≤ t then Nw c0 c1 p q (fun y => f (c0 :: y)) (t - p) else 0) ≤ (if p ≤ t then Nw c0 c1 p q (fun y => g (c0 :: y)) (t - p) else 0) := by
      by_cases c : p ≤ t
      · rw [if_pos c, if_pos c]; exact ih _ (by (first | lia | omega)) _ _ fun y => h _
      · rw [if_neg c, if_neg c]; exact Int.le_refl _
    have h2 : (if q ≤ t then Nw c0 c1 p q (fun y => f (c1 :: y)) (t - q) else 0) ≤ (if q ≤ t then Nw c0 c1 p q (fun y => g (c1 :: y)) (t - q) else 0) := by
      by_cases c : q ≤ t
      · rw [if_pos c, if_pos c]; exact ih _ (by (first | lia | omega)) _ _ fun y => h _
      · rw [if_neg c, if_neg c]; exact Int.le_refl _
    have h3 : (if t = 0 then f [] else 0) ≤ (if t = 0 then g [] else 0) := by
      by_cases c : t = 0
      · rw [if_pos c, if_pos c]; exact h []
      · rw [if_neg c, if_neg c]; exact Int.le_refl _
    (first | lia | omega)
theorem Nw_nonneg (hp : 0 < p) (hq : 0 < q) (t : Nat) (f : List Nat → Int) (h : ∀ y, 0 ≤ f y) : 0 ≤ Nw c0 c1 p q f t := by
  have := Nw_le (c0 := c0) (c1 := c1) hp hq t (fun _ => 0) f h
  rwa [Nw_zero hp hq] at this
theorem Nw_sum {α : Type} (hp : 0 < p) (hq : 0 < q) (t : Nat) (g : α → List Nat → Int) : ∀ vs : List α, Nw c0 c1 p q (fun y => (vs.map fun v => g v y).sum) t = (vs.map fun v => Nw c0 c1 p q (g v) t).sum
  | [] => Nw_zero hp hq t
  | v :: vs => by
    show Nw c0 c1 p q (fun y => g v y + (vs.map fun v => g v y).sum) t = Nw c0 c1 p q (g v) t + (vs.map fun v => Nw c0 c1 p q (g v) t).sum
    rw [Nw_add hp hq, Nw_sum hp hq t g vs]
theorem Nw_letter0 (hp : 0 < p) (hq : 0 < q) (hne : c0 ≠ c1) {g : List Nat → Int} (h : ∀ y, g y ≠ 0 → ∃ z, y = c0 :: z) (t : Nat) : Nw c0 c1 p q g t = if p ≤ t then Nw c0 c1 p q (fun y => g (c0 :: y)) (t - p) else 0 := by
  rw [Nw_def hp hq]
  have e0 : g [] = 0 := Classical.byContradiction fun c => by obtain ⟨z, hz⟩ := h [] c; cases hz
  have e1 : (fun y => g (c1 :: y)) = fun _ => 0 := funext fun y => Classical.byContradiction fun c => by
    obtain ⟨z, hz⟩ := h _ c
    exact hne (List.cons.inj hz).1.symm
  rw [e0, e1, Nw_zero hp hq]
  simp
theorem Nw_letter1 (hp : 0 < p) (hq : 0 < q) (hne : c0 ≠ c1) {g : List Nat → Int} (h : ∀ y, g y ≠ 0 → ∃ z, y = c1 :: z) (t : Nat) : Nw c0 c1 p q g t = if q ≤ t then Nw c0 c1 p q (fun y => g (c1 :: y)) (t - q) else 0 := by
  rw [Nw_def hp hq]
  have e0 : g [] = 0 := Classical.byContradiction fun c => by obtain ⟨z, hz⟩ := h [] c; cases hz
  have e1 : (fun y => g (c0 :: y)) = fun _ => 0 := funext fun y => Classical.byContradiction fun c => by
    obtain ⟨z, hz⟩ := h _ c
    exact hne (List.cons.inj hz).1
  rw [e0, e1, Nw_zero hp hq]
  simp
theorem wl_cons (c : Nat) (u : List Nat) : wl c0 p q (c :: u) = (if c = c0 then p else q) + wl c0 p q u := by simp [wl]
theorem wl_append (u v : List Nat) : wl c0 p q (u ++ v) = wl c0 p q u + wl c0 p q v := by simp [wl]
theorem Nw_word (hp : 0 < p) (hq : 0 < q) (hne : c0 ≠ c1) : ∀ (u : List Nat) (g : List Nat → Int), (∀ c ∈ u, c = c0 ∨ c = c1) → (∀ y, g y ≠ 0 → u <+: y) → ∀ t, Nw c0 c1 p q g t = if wl c0 p q u ≤ t then Nw c0 c1 p q (fun y => g (u ++ y)) (t - wl c0 p q u) else 0
  | [], g, _, _, t => by
    have e : wl c0 p q [] = 0 := rfl
    rw [e, if_pos (Nat.zero_le _), Nat.sub_zero]; rfl
  | c :: u, g, hu, h, t => by
    have hg : ∀ y, g y ≠ 0 → ∃ z, y = c :: z := fun y hy => by
      obtain ⟨z, hz⟩ := h y hy
      exact ⟨u ++ z, hz.symm⟩
    have hg2 : ∀ y, g (c :: y) ≠ 0 → u <+: y := fun y hy => by
      obtain ⟨z, hz⟩ := h _ hy
      exact ⟨z, (List.cons.inj hz).2⟩
    have ih := Nw_word hp hq hne u (fun y => g (c :: y)) (fun d hd => hu d (List.mem_cons_of_mem _ hd)) hg2
    rw [wl_cons]
    rcases hu c List.mem_cons_self with rfl | rfl
    · rw [Nw_letter0 hp hq hne hg, if_pos rfl]
      by_cases h1 : p ≤ t
      · rw [if_pos h1, ih (t - p)]
        by_cases h2 : wl c p q u ≤ t - p
        · rw [if_pos h2, if_pos (by (first | lia | omega)), Nat.sub_sub]; rfl
        · rw [if_neg h2, if_neg (by (first | lia | omega))]
      · rw [if_neg h1, if_neg (by (first | lia | omega))]
    · rw [Nw_letter1 hp hq hne hg, if_neg (Ne.symm hne)]
      by_cases h1 : q ≤ t
      · rw [if_pos h1, ih (t - q)]
        by_cases h2 : wl c0 p q u ≤ t - q
        · rw [if_pos h2, if_pos (by (first | lia | omega)), Nat.sub_sub]; rfl
        · rw [if_neg h2, if_neg (by (first | lia | omega))]
      · rw [if_neg h1, if_neg (by (first | lia | omega))]
def cntW (p q : Nat) : Nat → Nat → Nat
  | 0, _ => 0
  | n + 1, t => (if t = 0 then 1 else 0) + (if p ≤ t then cntW p q n (t - p) else 0) + (if q ≤ t then cntW p q n (t - q) else 0)
theorem Nw_one (hp : 0 < p) (hq : 0 < q) : ∀ (n t : Nat), t < n → Nw c0 c1 p q (fun _ => 1) t = ((cntW p q n t : Nat) : Int)
  | 0, _, h => absurd h (Nat.not_lt_zero _)
  | n + 1, t, h => by
    rw [Nw_def hp hq, cntW]
    have h1 : (if p ≤ t then Nw c0 c1 p q (fun _ => 1) (t - p) else 0) = (((if p ≤ t then cntW p q n (t - p) else 0 : Nat)) : Int) := by
      by_cases c : p ≤ t
      · rw [if_pos c, if_pos c, Nw_one hp hq n (t - p) (by (first | lia | omega))]
      · rw [if_neg c, if_neg c]; rfl
    have h2 : (if q ≤ t then Nw c0 c1 p q (fun _ => 1) (t - q) else 0) = (((if q ≤ t then cntW p q n (t - q) else 0 : Nat)) : Int) := by
      by_cases c : q ≤ t
      · rw [if_pos c, if_pos c, Nw_one hp hq n (t - q) (by (first | lia | omega))]
      · rw [if_neg c, if_neg c]; rfl
    rw [h1, h2]
    by_cases c : t = 0
    · rw [if_pos c, if_pos c]; (first | lia | omega)
    · rw [if_neg c, if_neg c]; (first | lia | omega)
end
end Mine
end

noncomputable section
namespace Mine
def free (vs : List (List Nat)) : List Nat → Bool
  | [] => true
  | c :: y => free vs y && vs.all fun v => !(v.isPrefixOf (c :: y))
def aF (vs : List (List Nat)) (x : List Nat) : Int := if free vs x = true then 1 else 0
def bF (vs : List (List Nat)) (v : List Nat) : List Nat → Int
  | [] => 0
  | c :: y => if free vs y = true ∧ v.isPrefixOf (c :: y) = true then 1 else 0
structure Least (vs : List (List Nat)) : Prop where
  ne : ∀ v ∈ vs, v ≠ []
  nodup : vs.Nodup
  alone : ∀ u ∈ vs, ∀ v ∈ vs, u <:+: v → u = v
theorem isPre_iff {a b : List Nat} : a.isPrefixOf b = true ↔ a <+: b := List.isPrefixOf_iff_prefix
theorem Least.one {vs : List (List Nat)} (H : Least vs) {u v z : List Nat} (hu : u ∈ vs) (hv : v ∈ vs) (h1 : u <+: z) (h2 : v <+: z) : u = v := by
  rcases List.prefix_or_prefix_of_prefix h1 h2 with h | h
  · exact H.alone u hu v hv h.isInfix
  · exact (H.alone v hv u hu h.isInfix).symm
theorem sum_ind_none {vs : List (List Nat)} {P : List Nat → Prop} [DecidablePred P] (h : ∀ v ∈ vs, ¬ P v) : (vs.map fun v => if P v then (1 : Int) else 0).sum = 0 := by
  induction vs with
  | nil => rfl
  | cons v vs ih =>
    rw [List.map_cons, List.sum_cons, if_neg (h v List.mem_cons_self), ih fun u hu => h u (List.mem_cons_of_mem _ hu)]; rfl
theorem sum_ind_one {vs : List (List Nat)} {P : List Nat → Prop} [DecidablePred P] (nd : vs.Nodup) {v : List Nat} (hv : v ∈ vs) (hp : P v) (h : ∀ u ∈ vs, P u → u = v) : (vs.map fun v => if P v then (1 : Int) else 0).sum = 1 := by
  induction vs with
  | nil => cases hv
  | cons w vs ih =>
    rw [List.nodup_cons] at nd
    rw [List.map_cons, List.sum_cons]
    by_cases e : w = v
    · subst e
      rw [if_pos hp, sum_ind_none fun u hu c => nd.1 (h u (List.mem_cons_of_mem _ hu) c ▸ hu)]; rfl
    · rw [if_neg (fun c => e (h w List.mem_cons_self c)), ih nd.2 ((List.mem_cons.mp hv).resolve_left fun c => e c.symm) fun u hu => h u (List.mem_cons_of_mem _ hu)]; rfl
theorem key1 {vs : List (List Nat)} (H : Least vs) (c : Nat) (y : List Nat) : aF vs (c :: y) + (vs.map fun v => bF vs v (c :: y)).sum = aF vs y := by
  unfold aF bF
  rw [free]
  by_cases hf : free vs y = true
  · by_cases hb : ∃ v ∈ vs, v.isPrefixOf (c :: y) = true
    · obtain ⟨v, hv, hpv⟩ := hb
      have h1 : ¬ ((free vs y && vs.all fun v => !(v.isPrefixOf (c :: y))) = true) := fun h => by
        rw [Bool.and_eq_true, List.all_eq_true] at h
        have := h.2 v hv
        rw [hpv] at this
        cases this
      rw [if_neg h1, if_pos hf, sum_ind_one (P := fun v => free vs y = true ∧ v.isPrefixOf (c :: y) = true) H.nodup hv ⟨hf, hpv⟩ fun u hu h => H.one hu hv (isPre_iff.mp h.2) (isPre_iff.mp hpv)]
      rfl
    · have h1 : (free vs y && vs.all fun v => !(v.isPrefixOf (c :: y))) = true := by
        rw [Bool.and_eq_true, List.all_eq_true]
        refine ⟨hf, fun v hv => ?_⟩
        cases e : v.isPrefixOf (c :: y)
        · rfl
        · exact absurd ⟨v, hv, e⟩ hb
      rw [if_pos h1, if_pos hf, sum_ind_none (P := fun v => free vs y = true ∧ v.isPrefixOf (c :: y) = true) fun u hu h => hb ⟨u, hu, h.2⟩]
      rfl
  · have h1 : ¬ ((free vs y && vs.all fun v => !(v.isPrefixOf (c :: y))) = true) := fun h => by
      rw [Bool.and_eq_true] at h
      exact hf h.1
    rw [if_neg h1, if_neg hf, sum_ind_none (P := fun v => free vs y = true ∧ v.isPrefixOf (c :: y) = true) fun u hu h => hf h.1]
    rfl
def endSum (g : List Nat → Int) : List Nat → Int
  | [] => 0
  | c :: u => g (c :: u) + endSum g u
theorem key2 {vs : List (List Nat)} (H : Least vs) (y : List Nat) : ∀ u : List Nat, aF vs y = aF vs (u ++ y) + endSum (fun e => (vs.map fun w => bF vs w (e ++ y)).sum) u
  | [] => by rw [List.nil_append, endSum, Int.add_zero]
  | c :: u => by
    have h := key1 H c (u ++ y)
    have ih := key2 H y u
    rw [endSum]
    show aF vs y = aF vs (c :: (u ++ y)) + ((vs.map fun w => bF vs w (c :: (u ++ y))).sum + _)
    (first | lia | omega)
theorem aF_bad {vs : List (List Nat)} (H : Least vs) {v : List Nat} (hv : v ∈ vs) (y : List Nat) : aF vs (v ++ y) = 0 := by
  obtain ⟨c, r, rfl⟩ := List.exists_cons_of_ne_nil (H.ne v hv)
  unfold aF
  show (if free vs (c :: (r ++ y)) = true then (1 : Int) else 0) = 0
  rw [free, if_neg]
  intro h
  rw [Bool.and_eq_true, List.all_eq_true] at h
  have h1 := h.2 _ hv
  have h2 : (c :: r).isPrefixOf (c :: (r ++ y)) = true := isPre_iff.mpr (List.prefix_append (c :: r) y)
  rw [h2] at h1
  cases h1
theorem bF_pre {vs : List (List Nat)} {v x : List Nat} (h : bF vs v x ≠ 0) : v <+: x := by
  cases x with
  | nil => exact absurd rfl h
  | cons c y =>
    unfold bF at h
    by_cases e : free vs y = true ∧ v.isPrefixOf (c :: y) = true
    · exact isPre_iff.mp e.2
    · exact absurd (if_neg e) h
section
variable {c0 c1 p q : Nat}
theorem Nw_endSum {α : Type} (hp : 0 < p) (hq : 0 < q) (t : Nat) (g : α → List Nat → List Nat → Int) (vs : List α) : ∀ u : List Nat, Nw c0 c1 p q (fun y => endSum (fun e => (vs.map fun w => g w e y).sum) u) t = endSum (fun e => (vs.map fun w => Nw c0 c1 p q (fun y => g w e y) t).sum) u
  | [] => Nw_zero hp hq t
  | c :: u => by
    show Nw c0 c1 p q (fun y => (vs.map fun w => g w (c :: u) y).sum + endSum (fun e => (vs.map fun w => g w e y).sum) u) t = _
    rw [Nw_add hp hq, Nw_endSum hp hq t g vs u, Nw_sum hp hq]
    rfl
def cntA (c0 c1 p q : Nat) (vs : List (List Nat)) (t : Nat) : Int := Nw c0 c1 p q (aF vs) t
def cntB (c0 c1 p q : Nat) (vs : List (List Nat)) (v : List Nat) (t : Nat) : Int := Nw c0 c1 p q (bF vs v) t
theorem sum_zero {α : Type} {g : α → Int} : ∀ {vs : List α}, (∀ v ∈ vs, g v = 0) → (vs.map g).sum = 0
  | [], _ => rfl
  | v :: vs, h => by
    rw [List.map_cons, List.sum_cons, h v List.mem_cons_self, sum_zero fun u hu => h u (List.mem_cons_of_mem _ hu)]; rfl
theorem gj1 (hp : 0 < p) (hq : 0 < q) {vs : List (List Nat)} (H : Least vs) (t : Nat) : cntA c0 c1 p q vs t + (vs.map fun v => cntB c0 c1 p q vs v t).sum = (if t = 0 then 1 else 0) + (if p ≤ t then cntA c0 c1 p q vs (t - p) else 0) + (if q ≤ t then cntA c0 c1 p q vs (t - q) else 0) := by
  unfold cntA cntB
  rw [← Nw_sum hp hq, ← Nw_add hp hq, Nw_def hp hq]
  have e0 : aF vs [] + (vs.map fun v => bF vs v []).sum = 1 := by
    rw [sum_zero (g := fun v => bF vs v []) fun v _ => rfl]; rfl
  have e1 : ∀ c : Nat, (fun y => aF vs (c :: y) + (vs.map fun v => bF vs v (c :: y)).sum) = aF vs := fun c => funext fun y => key1 H c y
  rw [e0, e1, e1]
theorem sum_congr {α : Type} {f g : α → Int} : ∀ {vs : List α}, (∀ v ∈ vs, f v = g v) → (vs.map f).sum = (vs.map g).sum
  | [], _ => rfl
  | v :: vs, h => by
    rw [List.map_cons, List.sum_cons, List.map_cons, List.sum_cons, h v List.mem_cons_self, sum_congr fun u hu => h u (List.mem_cons_of_mem _ hu)]
theorem sum_only {α : Type} {g : α → Int} {v : α} : ∀ {vs : List α}, vs.Nodup → v ∈ vs → (∀ u ∈ vs, u ≠ v → g u = 0) → (vs.map g).sum = g v
  | w :: vs, nd, hv, h => by
    rw [List.nodup_cons] at nd
    rw [List.map_cons, List.sum_cons]
    by_cases e : w = v
    · subst e
      rw [sum_zero fun u hu => h u (List.mem_cons_of_mem _ hu) fun c => nd.1 (c ▸ hu), Int.add_zero]
    · rw [h w List.mem_cons_self e, sum_only nd.2 ((List.mem_cons.mp hv).resolve_left fun c => e c.symm) fun u hu => h u (List.mem_cons_of_mem _ hu), Int.zero_add]
theorem endSum_congr {f g : List Nat → Int} : ∀ {u : List Nat}, (∀ e, e ≠ [] → e <:+ u → f e = g e) → endSum f u = endSum g u
  | [], _ => rfl
  | c :: u, h => by
    rw [endSum, endSum, h (c :: u) (List.cons_ne_nil _ _) (List.suffix_refl _), endSum_congr fun e he hs => h e he (hs.trans (List.suffix_cons c u))]
theorem wl_suffix {u v : List Nat} (h : u <:+ v) : wl c0 p q u ≤ wl c0 p q v := by
  obtain ⟨r, rfl⟩ := h
  rw [wl_append]; (first | lia | omega)
theorem wl_prefix {u v : List Nat} (h : u <+: v) : wl c0 p q u ≤ wl c0 p q v := by
  obtain ⟨r, rfl⟩ := h
  rw [wl_append]; (first | lia | omega)
abbrev lapB (e w : List Nat) : Bool := e.isPrefixOf w && decide (e.length < w.length)
theorem gj2 (hp : 0 < p) (hq : 0 < q) (hne : c0 ≠ c1) {vs : List (List Nat)} (H : Least vs) (hl : ∀ v ∈ vs, ∀ c ∈ v, c = c0 ∨ c = c1) {v : List Nat} (hv : v ∈ vs) (T : Nat) :
    cntA c0 c1 p q vs T = cntB c0 c1 p q vs v (T + wl c0 p q v) + endSum (fun e => (vs.map fun w => if lapB e w = true then cntB c0 c1 p q vs w (T + wl c0 p q e) else 0).sum) v.tail := by
  have h1 : cntA c0 c1 p q vs T = endSum (fun e => (vs.map fun w => Nw c0 c1 p q (fun y => bF vs w (e ++ y)) T).sum) v := by
    rw [← Nw_endSum hp hq]
    unfold cntA
    refine Nw_congr hp hq T _ _ fun y _ => ?_
    rw [key2 H y v, aF_bad H hv, Int.zero_add]
  obtain ⟨c, u, rfl⟩ := List.exists_cons_of_ne_nil (H.ne v hv)
  rw [h1, endSum]
  have back : ∀ (w e : List Nat), w ∈ vs → (∀ d ∈ e, d = c0 ∨ d = c1) → e <+: w → Nw c0 c1 p q (fun y => bF vs w (e ++ y)) T = cntB c0 c1 p q vs w (T + wl c0 p q e) := fun w e hw he hpre => by
    unfold cntB
    rw [Nw_word hp hq hne e (bF vs w) he (fun y hy => hpre.trans (bF_pre hy)) (T + wl c0 p q e), if_pos (Nat.le_add_left _ _), Nat.add_sub_cancel]
  congr 1
  · rw [sum_only (v := c :: u) H.nodup hv fun w hw hwv => ?_]
    · exact back _ _ hv (hl _ hv) (List.prefix_refl _)
    · have : (fun y => bF vs w (c :: u ++ y)) = fun _ => 0 := funext fun y => Classical.byContradiction fun hz => hwv (H.one hw hv (bF_pre hz) (List.prefix_append _ _))
      rw [this, Nw_zero hp hq]
  · refine endSum_congr fun e he hs => sum_congr fun w hw => ?_
    have hsv : e <:+ c :: u := hs.trans (List.suffix_cons c u)
    have hlt : e.length < (c :: u).length := by have := hs.length_le; simp only [List.length_cons]; (first | lia | omega)
    by_cases hb : lapB e w = true
    · rw [if_pos hb]
      rw [Bool.and_eq_true] at hb
      exact back w e hw (fun d hd => hl _ hv d (hsv.subset hd)) (isPre_iff.mp hb.1)
    · rw [if_neg hb]
      have : (fun y => bF vs w (e ++ y)) = fun _ => 0 := funext fun y => Classical.byContradiction fun hz => by
        have hw1 := bF_pre hz
        rcases List.prefix_or_prefix_of_prefix hw1 (List.prefix_append e y) with h | h
        · have : w = c :: u := H.alone w hw _ hv (h.isInfix.trans hsv.isInfix)
          have h3 := h.length_le
          rw [this] at h3
          (first | lia | omega)
        · have hlt2 : e.length < w.length := by
            rcases Nat.lt_or_ge e.length w.length with h4 | h4
            · exact h4
            · have h5 : e = w := h.eq_of_length (Nat.le_antisymm h.length_le h4)
              have h6 : w = c :: u := H.alone w hw _ hv (h5 ▸ hsv.isInfix)
              rw [h5, h6] at hlt
              exact absurd hlt (Nat.lt_irrefl _)
          exact hb (by rw [Bool.and_eq_true]; exact ⟨isPre_iff.mpr h, decide_eq_true hlt2⟩)
      rw [this, Nw_zero hp hq]
end
end Mine
end

noncomputable section
namespace Mine
section
variable {c0 c1 p q : Nat}
theorem gj3 (hp : 0 < p) (hq : 0 < q) (hne : c0 ≠ c1) {vs : List (List Nat)} (H : Least vs) (hl : ∀ v ∈ vs, ∀ c ∈ v, c = c0 ∨ c = c1) {v : List Nat} (hv : v ∈ vs) (t : Nat) :
    cntB c0 c1 p q vs v t + endSum (fun e => (vs.map fun w => if lapB e w = true ∧ wl c0 p q v - wl c0 p q e ≤ t then cntB c0 c1 p q vs w (t - (wl c0 p q v - wl c0 p q e)) else 0).sum) v.tail = if wl c0 p q v ≤ t then cntA c0 c1 p q vs (t - wl c0 p q v) else 0 := by
  have hB0 : ∀ w ∈ vs, ∀ s, s < wl c0 p q w → cntB c0 c1 p q vs w s = 0 := fun w hw s hs => by
    unfold cntB
    rw [Nw_word hp hq hne w (bF vs w) (hl w hw) (fun y hy => bF_pre hy) s, if_neg (by (first | lia | omega))]
  have hsuf : ∀ e, e <:+ v.tail → wl c0 p q e ≤ wl c0 p q v := fun e he => wl_suffix (he.trans (List.tail_suffix v))
  by_cases h : wl c0 p q v ≤ t
  · rw [if_pos h, gj2 hp hq hne H hl hv, Nat.sub_add_cancel h]
    congr 1
    refine endSum_congr fun e he hs => sum_congr fun w hw => ?_
    have h1 := hsuf e hs
    by_cases hb : lapB e w = true
    · rw [if_pos hb, if_pos ⟨hb, by (first | lia | omega)⟩]
      congr 1
      (first | lia | omega)
    · rw [if_neg hb, if_neg fun a => hb a.1]
  · rw [if_neg h, hB0 v hv t (by (first | lia | omega)), Int.zero_add]
    have : ∀ e, e ≠ [] → e <:+ v.tail → (vs.map fun w => if lapB e w = true ∧ wl c0 p q v - wl c0 p q e ≤ t then cntB c0 c1 p q vs w (t - (wl c0 p q v - wl c0 p q e)) else 0).sum = 0 := fun e he hs => sum_zero fun w hw => by
      by_cases hb : lapB e w = true ∧ wl c0 p q v - wl c0 p q e ≤ t
      · rw [if_pos hb]
        have h1 := hsuf e hs
        have h2 := hb.1
        rw [Bool.and_eq_true] at h2
        have h3 : wl c0 p q e ≤ wl c0 p q w := wl_prefix (isPre_iff.mp h2.1)
        exact hB0 w hw _ (by (first | lia | omega))
      · rw [if_neg hb]
    rw [endSum_congr (g := fun _ => 0) this]
    clear this
    generalize v.tail = u
    induction u with
    | nil => rfl
    | cons c u ih => rw [endSum, ih]; rfl
def rowF (c0 p q : Nat) (vs : List (List Nat)) : Nat → List Nat → Nat → Int
  | 0, _, _ => 0
  | n + 1, v, t => (if t = wl c0 p q v then -1 else 0) - endSum (fun e => (vs.map fun w => if lapB e w = true ∧ wl c0 p q v - wl c0 p q e ≤ t then rowF c0 p q vs n w (t - (wl c0 p q v - wl c0 p q e)) else 0).sum) v.tail
theorem wl_pos (hp : 0 < p) (hq : 0 < q) : ∀ {x : List Nat}, x ≠ [] → 0 < wl c0 p q x
  | [], h => absurd rfl h
  | c :: u, _ => by rw [wl_cons]; split <;> (first | lia | omega)
theorem rest_pos (hp : 0 < p) (hq : 0 < q) {v e : List Nat} (hv : v ≠ []) (hs : e <:+ v.tail) : 0 < wl c0 p q v - wl c0 p q e := by
  obtain ⟨c, u, rfl⟩ := List.exists_cons_of_ne_nil hv
  have : wl c0 p q e ≤ wl c0 p q u := wl_suffix hs
  rw [wl_cons]
  split <;> (first | lia | omega)
theorem rowF_stable (hp : 0 < p) (hq : 0 < q) {vs : List (List Nat)} (hne : ∀ v ∈ vs, v ≠ []) : ∀ (t n m : Nat) (v : List Nat), v ∈ vs → t < n → t < m → rowF c0 p q vs n v t = rowF c0 p q vs m v t := by
  intro t
  induction t using Nat.strongRecOn with
  | ind t ih =>
    intro n m v hv hn hm
    obtain ⟨n, rfl⟩ : ∃ k, n = k + 1 := ⟨n - 1, by (first | lia | omega)⟩
    obtain ⟨m, rfl⟩ : ∃ k, m = k + 1 := ⟨m - 1, by (first | lia | omega)⟩
    rw [rowF, rowF]
    congr 1
    refine endSum_congr fun e he hs => sum_congr fun w hw => ?_
    by_cases hb : lapB e w = true ∧ wl c0 p q v - wl c0 p q e ≤ t
    · rw [if_pos hb, if_pos hb]
      have h1 := rest_pos (c0 := c0) (p := p) (q := q) hp hq (hne v hv) hs
      exact ih _ (by (first | lia | omega)) n m w hw (by (first | lia | omega)) (by (first | lia | omega))
    · rw [if_neg hb, if_neg hb]
def rowC (c0 p q : Nat) (vs : List (List Nat)) (v : List Nat) (t : Nat) : Int := rowF c0 p q vs (t + 1) v t
theorem rowC_def (hp : 0 < p) (hq : 0 < q) {vs : List (List Nat)} (hne : ∀ v ∈ vs, v ≠ []) {v : List Nat} (hv : v ∈ vs) (t : Nat) :
    rowC c0 p q vs v t = (if t = wl c0 p q v then -1 else 0) - endSum (fun e => (vs.map fun w => if lapB e w = true ∧ wl c0 p q v - wl c0 p q e ≤ t then rowC c0 p q vs w (t - (wl c0 p q v - wl c0 p q e)) else 0).sum) v.tail := by
  unfold rowC
  rw [rowF]
  congr 1
  refine endSum_congr fun e he hs => sum_congr fun w hw => ?_
  by_cases hb : lapB e w = true ∧ wl c0 p q v - wl c0 p q e ≤ t
  · rw [if_pos hb, if_pos hb]
    have h1 := rest_pos (c0 := c0) (p := p) (q := q) hp hq (hne v hv) hs
    exact rowF_stable hp hq hne _ _ _ w hw (by (first | lia | omega)) (by (first | lia | omega))
  · rw [if_neg hb, if_neg hb]
end
def sumTo : Nat → (Nat → Int) → Int
  | 0, _ => 0
  | n + 1, f => sumTo n f + f n
theorem sumTo_congr {f g : Nat → Int} : ∀ {n : Nat}, (∀ i, i < n → f i = g i) → sumTo n f = sumTo n g
  | 0, _ => rfl
  | n + 1, h => by rw [sumTo, sumTo, sumTo_congr fun i hi => h i (Nat.lt_succ_of_lt hi), h n (Nat.lt_succ_self n)]
theorem sumTo_add (f g : Nat → Int) : ∀ n : Nat, sumTo n (fun i => f i + g i) = sumTo n f + sumTo n g
  | 0 => rfl
  | n + 1 => by rw [sumTo, sumTo, sumTo, sumTo_add f g n]; (first | lia | omega)
theorem sumTo_zero : ∀ n : Nat, sumTo n (fun _ => 0) = 0
  | 0 => rfl
  | n + 1 => by rw [sumTo, sumTo_zero n]; rfl
theorem sumTo_split (f : Nat → Int) (r : Nat) : ∀ n : Nat, sumTo (r + n) f = sumTo r f + sumTo n (fun i => f (r + i))
  | 0 => by
    show sumTo r f = sumTo r f + 0
    (first | lia | omega)
  | n + 1 => by
    show sumTo (r + n) f + f (r + n) = sumTo r f + (sumTo n (fun i => f (r + i)) + f (r + n))
    rw [sumTo_split f r n]; (first | lia | omega)
def conv (A c : Nat → Int) (t : Nat) : Int := sumTo (t + 1) (fun s => c s * A (t - s))
theorem conv_add (A c d : Nat → Int) (t : Nat) : conv A (fun s => c s + d s) t = conv A c t + conv A d t := by
  unfold conv
  rw [← sumTo_add]
  exact sumTo_congr fun i _ => Int.add_mul _ _ _
theorem conv_zero (A : Nat → Int) (t : Nat) : conv A (fun _ => 0) t = 0 := by
  exact (sumTo_congr fun i _ => Int.zero_mul _).trans (sumTo_zero (t + 1))
theorem conv_congr {A c d : Nat → Int} {t : Nat} (h : ∀ s, s ≤ t → c s = d s) : conv A c t = conv A d t :=
  sumTo_congr fun i hi => by rw [h i (by (first | lia | omega))]
theorem conv_neg (A c : Nat → Int) (t : Nat) : conv A (fun s => - c s) t = - conv A c t := by
  have h := conv_add A c (fun s => - c s) t
  have e : conv A (fun s => c s + - c s) t = 0 := (conv_congr fun s _ => Int.add_right_neg _).trans (conv_zero A t)
  (first | lia | omega)
theorem conv_sum {α : Type} (A : Nat → Int) (g : α → Nat → Int) (t : Nat) : ∀ vs : List α, conv A (fun s => (vs.map fun v => g v s).sum) t = (vs.map fun v => conv A (g v) t).sum
  | [] => conv_zero A t
  | v :: vs => by
    show conv A (fun s => g v s + (vs.map fun v => g v s).sum) t = conv A (g v) t + (vs.map fun v => conv A (g v) t).sum
    rw [conv_add, conv_sum A g t vs]
theorem conv_endSum (A : Nat → Int) (g : List Nat → Nat → Int) (t : Nat) : ∀ u : List Nat, conv A (fun s => endSum (fun e => g e s) u) t = endSum (fun e => conv A (g e) t) u
  | [] => conv_zero A t
  | c :: u => by
    show conv A (fun s => g (c :: u) s + endSum (fun e => g e s) u) t = conv A (g (c :: u)) t + endSum (fun e => conv A (g e) t) u
    rw [conv_add, conv_endSum A g t u]
theorem conv_shift (A c : Nat → Int) (r t : Nat) : conv A (fun s => if r ≤ s then c (s - r) else 0) t = if r ≤ t then conv A c (t - r) else 0 := by
  unfold conv
  by_cases h : r ≤ t
  · rw [if_pos h]
    obtain ⟨m, rfl⟩ : ∃ m, t = r + m := ⟨t - r, by (first | lia | omega)⟩
    rw [show r + m + 1 = r + (m + 1) by (first | lia | omega), sumTo_split, show r + m - r = m by (first | lia | omega)]
    have h1 : sumTo r (fun s => (if r ≤ s then c (s - r) else 0) * A (r + m - s)) = 0 :=
      (sumTo_congr fun i hi => by rw [if_neg (by (first | lia | omega)), Int.zero_mul]).trans (sumTo_zero r)
    rw [h1, Int.zero_add]
    exact sumTo_congr fun i hi => by
      dsimp only
      rw [if_pos (by (first | lia | omega)), show r + i - r = i by (first | lia | omega), show r + m - (r + i) = m - i by (first | lia | omega)]
  · rw [if_neg h]
    exact (sumTo_congr fun i hi => by
      dsimp only
      rw [if_neg (by (first | lia | omega)), Int.zero_mul]).trans (sumTo_zero (t + 1))
theorem conv_delta (A : Nat → Int) (w t : Nat) : conv A (fun s => if s = w then 1 else 0) t = if w ≤ t then A (t - w) else 0 := by
  have h := conv_shift A (fun s => if s = 0 then 1 else 0) w t
  have e : conv A (fun s => if s = w then 1 else 0) t = conv A (fun s => if w ≤ s then (if s - w = 0 then 1 else 0) else 0) t := conv_congr fun s _ => by
    by_cases c : s = w
    · subst c; rw [if_pos rfl, if_pos (Nat.le_refl _), if_pos (Nat.sub_self _)]
    · rw [if_neg c]
      by_cases c2 : w ≤ s
      · rw [if_pos c2, if_neg (by (first | lia | omega))]
      · rw [if_neg c2]
  rw [e, h]
  by_cases c : w ≤ t
  · rw [if_pos c, if_pos c]
    generalize t - w = k
    unfold conv
    have : ∀ n, sumTo (n + 1) (fun s => (if s = 0 then (1 : Int) else 0) * A (k - s)) = A k := by
      intro n
      induction n with
      | zero => rw [sumTo, sumTo, if_pos rfl]; simp
      | succ n ih => rw [sumTo, ih, if_neg (by (first | lia | omega)), Int.zero_mul, Int.add_zero]
    exact this k
  · rw [if_neg c, if_neg c]
theorem sum_neg {α : Type} (g : α → Int) : ∀ vs : List α, (vs.map fun v => - g v).sum = - (vs.map g).sum
  | [] => rfl
  | v :: vs => by
    rw [List.map_cons, List.map_cons, List.sum_cons, List.sum_cons, sum_neg g vs]; (first | lia | omega)
section
variable {c0 c1 p q : Nat}
theorem gj4 (hp : 0 < p) (hq : 0 < q) (hne : c0 ≠ c1) {vs : List (List Nat)} (H : Least vs) (hl : ∀ v ∈ vs, ∀ c ∈ v, c = c0 ∨ c = c1) : ∀ (t : Nat) (v : List Nat), v ∈ vs → conv (cntA c0 c1 p q vs) (rowC c0 p q vs v) t = - cntB c0 c1 p q vs v t := by
  intro t
  induction t using Nat.strongRecOn with
  | ind t ih =>
    intro v hv
    have hg := gj3 hp hq hne H hl hv t
    have e : conv (cntA c0 c1 p q vs) (rowC c0 p q vs v) t = conv (cntA c0 c1 p q vs) (fun s => - (if s = wl c0 p q v then 1 else 0) + - endSum (fun e => (vs.map fun w => if wl c0 p q v - wl c0 p q e ≤ s then (if lapB e w = true then rowC c0 p q vs w (s - (wl c0 p q v - wl c0 p q e)) else 0) else 0).sum) v.tail) t := conv_congr fun s _ => by
      rw [rowC_def hp hq H.ne hv s]
      have e1 : endSum (fun e => (vs.map fun w => if lapB e w = true ∧ wl c0 p q v - wl c0 p q e ≤ s then rowC c0 p q vs w (s - (wl c0 p q v - wl c0 p q e)) else 0).sum) v.tail = endSum (fun e => (vs.map fun w => if wl c0 p q v - wl c0 p q e ≤ s then (if lapB e w = true then rowC c0 p q vs w (s - (wl c0 p q v - wl c0 p q e)) else 0) else 0).sum) v.tail :=
        endSum_congr fun e _ _ => sum_congr fun w _ => by
          by_cases a : lapB e w = true <;> by_cases b : wl c0 p q v - wl c0 p q e ≤ s <;> simp only [a, b, and_self, and_false, if_true, if_false, Bool.false_eq_true, and_true]
      rw [e1]
      by_cases c : s = wl c0 p q v
      · rw [if_pos c, if_pos c]; (first | lia | omega)
      · rw [if_neg c, if_neg c]; (first | lia | omega)
    rw [e, conv_add, conv_neg, conv_delta, conv_neg, conv_endSum]
    have e2 : endSum (fun e => conv (cntA c0 c1 p q vs) (fun s => (vs.map fun w => if wl c0 p q v - wl c0 p q e ≤ s then (if lapB e w = true then rowC c0 p q vs w (s - (wl c0 p q v - wl c0 p q e)) else 0) else 0).sum) t) v.tail =
        endSum (fun e => - (vs.map fun w => if lapB e w = true ∧ wl c0 p q v - wl c0 p q e ≤ t then cntB c0 c1 p q vs w (t - (wl c0 p q v - wl c0 p q e)) else 0).sum) v.tail := endSum_congr fun e _ hs => by
      have h1 := rest_pos (c0 := c0) (p := p) (q := q) hp hq (H.ne v hv) hs
      rw [conv_sum]
      have e3 : ∀ w ∈ vs, conv (cntA c0 c1 p q vs) (fun s => if wl c0 p q v - wl c0 p q e ≤ s then (if lapB e w = true then rowC c0 p q vs w (s - (wl c0 p q v - wl c0 p q e)) else 0) else 0) t = - (if lapB e w = true ∧ wl c0 p q v - wl c0 p q e ≤ t then cntB c0 c1 p q vs w (t - (wl c0 p q v - wl c0 p q e)) else 0) := fun w hw => by
        rw [conv_shift _ (fun s => if lapB e w = true then rowC c0 p q vs w s else 0)]
        by_cases b : wl c0 p q v - wl c0 p q e ≤ t
        · rw [if_pos b]
          by_cases a : lapB e w = true
          · rw [if_pos ⟨a, b⟩, ← ih _ (by (first | lia | omega)) w hw]
            exact conv_congr fun s _ => by rw [if_pos a]
          · rw [if_neg (fun x => a x.1), conv_congr (d := fun _ => 0) fun s _ => by rw [if_neg a]]
            exact conv_zero _ _
        · rw [if_neg b, if_neg (fun x => b x.2)]; rfl
      rw [sum_congr e3]
      exact sum_neg _ _
    rw [e2]
    have e4 : ∀ (g : List Nat → Int) (u : List Nat), endSum (fun e => - g e) u = - endSum g u := fun g u => by
      induction u with
      | nil => rfl
      | cons c u ih3 => rw [endSum, endSum, ih3]; (first | lia | omega)
    rw [e4]
    (first | lia | omega)
end
end Mine
end

noncomputable section
namespace Mine
theorem sumTo_more (f : Nat → Int) {n : Nat} : ∀ {m : Nat}, n ≤ m → (∀ i, n ≤ i → i < m → f i = 0) → sumTo m f = sumTo n f
  | 0, h, _ => by rw [Nat.le_zero.mp h]
  | m + 1, h, z => by
    rcases Nat.lt_or_ge m n with h1 | h1
    · rw [show n = m + 1 by (first | lia | omega)]
    · rw [sumTo, sumTo_more f h1 fun i a b => z i a (by (first | lia | omega)), z m h1 (Nat.lt_succ_self m), Int.add_zero]
theorem endSum_to (f : List Nat → Int) : ∀ u : List Nat, endSum f u = sumTo u.length (fun s => f (u.drop (u.length - (s + 1))))
  | [] => rfl
  | c :: u => by
    rw [endSum, List.length_cons, sumTo, endSum_to f u, Nat.sub_self, List.drop_zero, Int.add_comm]
    congr 1
    refine sumTo_congr fun i hi => ?_
    rw [show u.length + 1 - (i + 1) = (u.length - (i + 1)) + 1 by (first | lia | omega), List.drop_succ_cons]
theorem endSum_zero (u : List Nat) : endSum (fun _ => 0) u = 0 := by
  induction u with
  | nil => rfl
  | cons c u ih => rw [endSum, ih]; rfl
theorem endSum_add (f g : List Nat → Int) (u : List Nat) : endSum (fun e => f e + g e) u = endSum f u + endSum g u := by
  induction u with
  | nil => rfl
  | cons c u ih => rw [endSum, endSum, endSum, ih]; (first | lia | omega)
theorem endSum_swap {α : Type} (g : α → List Nat → Int) (u : List Nat) : ∀ vs : List α, endSum (fun e => (vs.map fun w => g w e).sum) u = (vs.map fun w => endSum (g w) u).sum
  | [] => endSum_zero u
  | v :: vs => by
    show endSum (fun e => g v e + (vs.map fun w => g w e).sum) u = endSum (g v) u + (vs.map fun w => endSum (g w) u).sum
    rw [endSum_add, endSum_swap g u vs]
theorem lapSum_to (ls : List (Nat × Nat × Int)) (C : Nat → Nat → Int) (p t : Nat) : ∀ i, lapSum ls C p t i = ((ls.take i).map fun e => if e.1 = p ∧ e.2.2 ≤ (t : Int) then C e.2.1 ((t : Int) - e.2.2).toNat else 0).sum
  | 0 => rfl
  | i + 1 => by
    rw [lapSum, lapSum_to ls C p t i, List.take_add_one, List.map_append, List.sum_append]
    congr 1
    cases ls[i]? with
    | none => rfl
    | some e => simp
theorem lapRow_sum (F : Nat × Nat × List Nat → Int) (i j : Nat) (x y : List Nat) : ∀ k, ((lapRow i j x y k).map F).sum = sumTo k (fun s => if tailIs x y (s + 1) = true then F (i, j, x.drop (s + 1)) else 0)
  | 0 => rfl
  | k + 1 => by
    rw [lapRow, List.map_append, List.sum_append, lapRow_sum F i j x y k, sumTo]
    congr 1
    split <;> simp
theorem lapMid_sum (F : Nat × Nat × List Nat → Int) (G : List Nat → List Nat → Int) {W : List (List Nat)} {i : Nat} {x : List Nat} (h : ∀ j y r, W[j]? = some y → F (i, j, r) = G y r) : ∀ j, ((lapMid W i x j).map F).sum = ((W.take j).map fun y => sumTo (min x.length y.length - 1) (fun s => if tailIs x y (s + 1) = true then G y (x.drop (s + 1)) else 0)).sum
  | 0 => rfl
  | j + 1 => by
    rw [lapMid, List.map_append, List.sum_append, lapMid_sum F G h j, List.take_add_one, List.map_append, List.sum_append]
    congr 1
    cases hj : W[j]? with
    | none => rfl
    | some y =>
      dsimp only
      rw [lapRow_sum]
      show _ = sumTo _ _ + 0
      rw [Int.add_zero]
      refine sumTo_congr fun s _ => ?_
      rw [h j y _ hj]
theorem lapAll_sum (F : Nat × Nat × List Nat → Int) {W : List (List Nat)} {p : Nat} {x : List Nat} (hx : W[p]? = some x) (h : ∀ e, e.1 ≠ p → F e = 0) : ∀ k, ((lapAll W k).map F).sum = if p < k then ((lapMid W p x W.length).map F).sum else 0
  | 0 => rfl
  | k + 1 => by
    rw [lapAll, List.map_append, List.sum_append, lapAll_sum F hx h k]
    by_cases c : k = p
    · subst c
      rw [if_neg (Nat.lt_irrefl _), if_pos (Nat.lt_succ_self _), hx, Int.zero_add]
    · have z : ∀ (y : List Nat) (n : Nat), ((lapMid W k y n).map F).sum = 0 := fun y n => sum_zero fun e he => h e fun c2 => by
        obtain ⟨j, y2, s, _, _, _, _, _, _, he2⟩ := lapMid_mem he
        rw [he2] at c2
        exact c c2
      have key : ∀ S : Int, S = 0 → (if p < k then ((lapMid W p x W.length).map F).sum else 0) + S = if p < k + 1 then ((lapMid W p x W.length).map F).sum else 0 := fun S hS => by
        rw [hS, Int.add_zero]
        by_cases c3 : p < k
        · rw [if_pos c3, if_pos (by (first | lia | omega))]
        · rw [if_neg c3, if_neg (by (first | lia | omega))]
      refine key _ ?_
      cases W[k]? with
      | none => rfl
      | some y => exact z y _
theorem tail_lap {x y : List Nat} {m : Nat} (h1 : m < x.length) (h2 : m < y.length) : tailIs x y m = lapB (x.take m).reverse y.reverse := by
  rw [Bool.eq_iff_iff]
  unfold tailIs lapB
  rw [Bool.and_eq_true, isPre_iff, isPre_iff, List.reverse_prefix]
  have hl : (x.take m).length = m := by rw [List.length_take]; (first | lia | omega)
  constructor
  · intro h
    refine ⟨?_, decide_eq_true ?_⟩
    · obtain ⟨r, hr⟩ := h
      have e : x.take m = y.drop (y.length - m) := by
        rw [← hr, List.take_append_of_le_length (by rw [List.length_drop]; (first | lia | omega)), List.take_of_length_le (by rw [List.length_drop]; (first | lia | omega))]
      rw [e]
      exact List.drop_suffix _ _
    · rw [List.length_reverse, List.length_reverse, hl]; exact h2
  · rintro ⟨⟨r, hr⟩, _⟩
    have e : y.drop (y.length - m) = x.take m := by
      have : y.length = r.length + m := by rw [← hr, List.length_append, hl]
      rw [show y.length - m = r.length by (first | lia | omega), ← hr, List.drop_left]
    rw [e]
    exact List.take_prefix _ _
section
variable {c0 c1 p q : Nat}
theorem wl_reverse (x : List Nat) : wl c0 p q x.reverse = wl c0 p q x := by
  unfold wl
  rw [List.map_reverse]
  induction x.map (fun c => if c = c0 then p else q) with
  | nil => rfl
  | cons a l ih => rw [List.reverse_cons, List.sum_append, ih, List.sum_cons]; simp; (first | lia | omega)
theorem wl_cut (x : List Nat) (m : Nat) : wl c0 p q x - wl c0 p q (x.take m) = wl c0 p q (x.drop m) := by
  have h := wl_append (c0 := c0) (p := p) (q := q) (x.take m) (x.drop m)
  rw [List.take_append_drop] at h
  (first | lia | omega)
theorem pair_sum (H : Nat → Int) (t : Nat) (x y : List Nat) :
    endSum (fun e => if lapB e y.reverse = true ∧ wl c0 p q x.reverse - wl c0 p q e ≤ t then H (t - (wl c0 p q x.reverse - wl c0 p q e)) else 0) x.reverse.tail =
    sumTo (min x.length y.length - 1) (fun s => if tailIs x y (s + 1) = true then (if wl c0 p q (x.drop (s + 1)) ≤ t then H (t - wl c0 p q (x.drop (s + 1))) else 0) else 0) := by
  rw [endSum_to]
  have hl : x.reverse.tail.length = x.length - 1 := by rw [List.length_tail, List.length_reverse]
  rw [hl]
  have hd : ∀ s, s < x.length - 1 → x.reverse.tail.drop (x.length - 1 - (s + 1)) = (x.take (s + 1)).reverse := fun s hs => by
    rw [List.drop_tail, List.drop_reverse]
    congr 2
    (first | lia | omega)
  rw [sumTo_more (n := min x.length y.length - 1) _ (by (first | lia | omega)) fun s h1 h2 => ?_]
  · refine sumTo_congr fun s hs => ?_
    rw [hd s (by (first | lia | omega)), ← tail_lap (by (first | lia | omega)) (by (first | lia | omega)), wl_reverse, wl_reverse, wl_cut]
    by_cases a : tailIs x y (s + 1) = true <;> by_cases b : wl c0 p q (x.drop (s + 1)) ≤ t <;> simp only [a, b, and_self, and_false, if_true, if_false, Bool.false_eq_true, and_true]
  · rw [hd s h2, if_neg]
    rintro ⟨h3, _⟩
    rw [Bool.and_eq_true] at h3
    have h4 := of_decide_eq_true h3.2
    simp only [List.length_reverse, List.length_take] at h4
    (first | lia | omega)
theorem wtOf_wl (c0 p q : Nat) (x : List Nat) : wtOf c0 (p : Int) (q : Int) x = ((wl c0 p q x : Nat) : Int) := by
  unfold wtOf wl
  induction x with
  | nil => rfl
  | cons c x ih => rw [List.map_cons, List.map_cons, List.sum_cons, List.sum_cons, ih]; split <;> (first | lia | omega)
def rowAt (c0 p q : Nat) (vs : List (List Nat)) (i t : Nat) : Int := match vs[i]? with | some v => rowC c0 p q vs v t | none => 0
theorem rowAt_some {vs : List (List Nat)} {i : Nat} {v : List Nat} (h : vs[i]? = some v) : rowAt c0 p q vs i = rowC c0 p q vs v := by
  funext t; unfold rowAt; rw [h]
theorem rowC_zero (hp : 0 < p) (hq : 0 < q) {vs : List (List Nat)} (hne : ∀ v ∈ vs, v ≠ []) {v : List Nat} (hv : v ∈ vs) : rowC c0 p q vs v 0 = 0 := by
  have h1 := wl_pos (c0 := c0) hp hq (hne v hv)
  rw [rowC_def hp hq hne hv, if_neg (by (first | lia | omega)), endSum_congr (g := fun _ => 0) fun e _ hs => sum_zero fun w _ => ?_, endSum_zero]
  · rfl
  · have h2 := rest_pos (c0 := c0) (p := p) (q := q) hp hq (hne v hv) hs
    rw [if_neg fun a => by (first | lia | omega)]
theorem convSum_to (c K : Nat → Int) (t : Nat) : ∀ s, c 0 * K (t - 0) + convSum c K t s = sumTo (s + 1) (fun i => c i * K (t - i))
  | 0 => by rw [convSum, sumTo, sumTo]; (first | lia | omega)
  | s + 1 => by
    rw [convSum, sumTo, ← convSum_to c K t s]; (first | lia | omega)
theorem clustSum_to (C : Nat → Nat → Int) (K : Nat → Int) (vs : List (List Nat)) (g : List Nat → Int) (t : Nat) (h : ∀ i v, vs[i]? = some v → convSum (C i) K t t = g v) : ∀ k, k ≤ vs.length → clustSum C K t k = ((vs.take k).map g).sum
  | 0, _ => rfl
  | k + 1, hk => by
    have e := List.getElem?_eq_getElem (l := vs) (i := k) hk
    rw [clustSum, clustSum_to C K vs g t h k (by (first | lia | omega)), List.take_add_one, List.map_append, List.sum_append, e, h k _ e]
    simp
theorem count_spec (hp : 0 < p) (hq : 0 < q) (hne : c0 ≠ c1) {W : List (List Nat)} (H : Least (W.map List.reverse)) (hl : ∀ v ∈ W, ∀ c ∈ v, c = c0 ∨ c = c1) {top : Nat} (hK : ∀ t, t ≤ top → (cntA c0 c1 p q (W.map List.reverse) t).natAbs < 2 ^ 60) :
    CountSpec (rowAt c0 p q (W.map List.reverse)) (cntA c0 c1 p q (W.map List.reverse)) (W.map fun x => wtOf c0 (p : Int) (q : Int) x) ((lapAll W W.length).map fun e => (e.1, e.2.1, wtOf c0 (p : Int) (q : Int) e.2.2)) [(p : Int), (q : Int)] W.length top where
  small := hK
  price := by
    intro z hz
    simp only [List.mem_cons, List.not_mem_nil, or_false] at hz
    rcases hz with rfl | rfl <;> (first | lia | omega)
  lap := by
    intro e he
    obtain ⟨e2, he2, rfl⟩ := List.mem_map.mp he
    obtain ⟨i, x, j, y, s, _, _, hj, _, _, hs, _, _, rfl⟩ := lapAll_mem he2
    refine ⟨hj, ?_⟩
    show 1 ≤ wtOf c0 (p : Int) (q : Int) (x.drop s)
    rw [wtOf_wl]
    have := wl_pos (c0 := c0) hp hq (x := x.drop s) (fun c => by have := congrArg List.length c; rw [List.length_drop] at this; simp at this; (first | lia | omega))
    (first | lia | omega)
  k := by
    intro t ht
    have hl2 : ∀ v ∈ W.map List.reverse, ∀ c ∈ v, c = c0 ∨ c = c1 := fun v hv c hc => by
      obtain ⟨x, hx, rfl⟩ := List.mem_map.mp hv
      exact hl x hx c (List.mem_reverse.mp hc)
    have h1 := gj1 (c0 := c0) (c1 := c1) hp hq H t
    have h2 : clustSum (rowAt c0 p q (W.map List.reverse)) (cntA c0 c1 p q (W.map List.reverse)) t W.length = ((W.map List.reverse).map fun v => - cntB c0 c1 p q (W.map List.reverse) v t).sum := by
      rw [clustSum_to _ _ (W.map List.reverse) (fun v => - cntB c0 c1 p q (W.map List.reverse) v t) t (fun i v hv => ?_) W.length (by simp), List.take_of_length_le (by simp)]
      have hv2 := List.mem_of_getElem? hv
      rw [rowAt_some hv, ← gj4 hp hq hne H hl2 t v hv2]
      unfold conv
      rw [← convSum_to, rowC_zero hp hq H.ne hv2, Int.zero_mul, Int.zero_add]
    rw [h2, sum_neg]
    have h3 : priceSum (cntA c0 c1 p q (W.map List.reverse)) [(p : Int), (q : Int)] t [(p : Int), (q : Int)].length = (if p ≤ t then cntA c0 c1 p q (W.map List.reverse) (t - p) else 0) + (if q ≤ t then cntA c0 c1 p q (W.map List.reverse) (t - q) else 0) := by
      show 0 + (if (p : Int) ≤ (t : Int) then cntA c0 c1 p q (W.map List.reverse) ((t : Int) - (p : Int)).toNat else 0) + (if (q : Int) ≤ (t : Int) then cntA c0 c1 p q (W.map List.reverse) ((t : Int) - (q : Int)).toNat else 0) = _
      rw [Int.zero_add]
      congr 1
      · by_cases c : p ≤ t
        · rw [if_pos c, if_pos (by (first | lia | omega)), show ((t : Int) - (p : Int)).toNat = t - p by (first | lia | omega)]
        · rw [if_neg c, if_neg (by (first | lia | omega))]
      · by_cases c : q ≤ t
        · rw [if_pos c, if_pos (by (first | lia | omega)), show ((t : Int) - (q : Int)).toNat = t - q by (first | lia | omega)]
        · rw [if_neg c, if_neg (by (first | lia | omega))]
    rw [h3]
    (first | lia | omega)
  c := by
    intro i t hi ht w hw
    rw [List.getElem?_map] at hw
    obtain ⟨x, hx, rfl⟩ := Option.map_eq_some_iff.mp hw
    have hv : (W.map List.reverse)[i]? = some x.reverse := by rw [List.getElem?_map, hx]; rfl
    have hvm := List.mem_of_getElem? hv
    rw [rowAt_some hv, rowC_def hp hq H.ne hvm, lapSum_to, List.take_of_length_le (Nat.le_refl _), List.map_map]
    congr 1
    · rw [wl_reverse, wtOf_wl]
      by_cases c : t = wl c0 p q x
      · rw [if_pos c, if_pos (by (first | lia | omega))]
      · rw [if_neg c, if_neg (by (first | lia | omega))]
    · rw [endSum_swap]
      refine Eq.symm ((lapAll_sum _ hx (fun e he => ?_) W.length).trans ?_)
      · show (if e.1 = i ∧ _ then _ else _) = (0 : Int)
        rw [if_neg fun a => he a.1]
      · rw [if_pos hi]
        refine (lapMid_sum _ (fun y r => if wl c0 p q r ≤ t then rowC c0 p q (W.map List.reverse) y.reverse (t - wl c0 p q r) else 0) (fun j y r hj => ?_) W.length).trans ?_
        · have hj2 : (W.map List.reverse)[j]? = some y.reverse := by rw [List.getElem?_map, hj]; rfl
          show (if i = i ∧ wtOf c0 (p : Int) (q : Int) r ≤ (t : Int) then rowAt c0 p q (W.map List.reverse) j ((t : Int) - wtOf c0 (p : Int) (q : Int) r).toNat else 0) = _
          rw [wtOf_wl, rowAt_some hj2]
          by_cases c : wl c0 p q r ≤ t
          · rw [if_pos ⟨rfl, by (first | lia | omega)⟩, if_pos c, show ((t : Int) - ((wl c0 p q r : Nat) : Int)).toNat = t - wl c0 p q r by (first | lia | omega)]
          · rw [if_neg (fun a => by (first | lia | omega)), if_neg c]
        · rw [List.take_of_length_le (Nat.le_refl _), List.map_map]
          refine sum_congr fun y hy => ?_
          exact (pair_sum (fun k => rowC c0 p q (W.map List.reverse) y.reverse k) t x y).symm
theorem cntA_le (hp : 0 < p) (hq : 0 < q) (vs : List (List Nat)) (t : Nat) : 0 ≤ cntA c0 c1 p q vs t ∧ cntA c0 c1 p q vs t ≤ ((cntW p q (t + 1) t : Nat) : Int) := by
  have h : ∀ x, 0 ≤ aF vs x ∧ aF vs x ≤ 1 := fun x => by unfold aF; split <;> (first | lia | omega)
  refine ⟨Nw_nonneg hp hq t _ fun y => (h y).1, ?_⟩
  rw [← Nw_one (c0 := c0) (c1 := c1) hp hq (t + 1) t (Nat.lt_succ_self t)]
  exact Nw_le hp hq t _ _ fun y => (h y).2
end
end Mine
end

noncomputable section
namespace Mine
section
variable {c0 c1 p q : Nat}
abbrev Nsh (c0 c1 p q : Nat) (g : List Nat → Int) (t x : Nat) : Int := if x ≤ t then Nw c0 c1 p q g (t - x) else 0
theorem Nsh_first (hp : 0 < p) (hq : 0 < q) (g : List Nat → Int) (t x : Nat) : Nsh c0 c1 p q g t x = (if t = x then g [] else 0) + Nsh c0 c1 p q (fun e => g (c0 :: e)) t (x + p) + Nsh c0 c1 p q (fun e => g (c1 :: e)) t (x + q) := by
  unfold Nsh
  by_cases h : x ≤ t
  · rw [if_pos h, Nw_def hp hq]
    congr 1
    · congr 1
      · by_cases c : t = x
        · rw [if_pos c, if_pos (by (first | lia | omega))]
        · rw [if_neg c, if_neg (by (first | lia | omega))]
      · by_cases c : x + p ≤ t
        · rw [if_pos c, if_pos (by (first | lia | omega)), Nat.sub_sub]
        · rw [if_neg c, if_neg (by (first | lia | omega))]
    · by_cases c : x + q ≤ t
      · rw [if_pos c, if_pos (by (first | lia | omega)), Nat.sub_sub]
      · rw [if_neg c, if_neg (by (first | lia | omega))]
  · rw [if_neg h, if_neg (show ¬ t = x by (first | lia | omega)), if_neg (by (first | lia | omega)), if_neg (by (first | lia | omega))]; rfl
theorem Nw_last (hp : 0 < p) (hq : 0 < q) : ∀ (t : Nat) (f : List Nat → Int), Nw c0 c1 p q f t = (if t = 0 then f [] else 0) + Nsh c0 c1 p q (fun e => f (e ++ [c0])) t p + Nsh c0 c1 p q (fun e => f (e ++ [c1])) t q := by
  intro t
  induction t using Nat.strongRecOn with
  | ind t ih =>
    intro f
    have hI : ∀ (x : Nat), 0 < x → ∀ g : List Nat → Int, Nsh c0 c1 p q g t x = (if t = x then g [] else 0) + Nsh c0 c1 p q (fun e => g (e ++ [c0])) t (x + p) + Nsh c0 c1 p q (fun e => g (e ++ [c1])) t (x + q) := fun x hx g => by
      unfold Nsh
      by_cases h : x ≤ t
      · rw [if_pos h, ih (t - x) (by (first | lia | omega)) g]
        unfold Nsh
        congr 1
        · congr 1
          · by_cases c : t = x
            · rw [if_pos c, if_pos (by (first | lia | omega))]
            · rw [if_neg c, if_neg (by (first | lia | omega))]
          · by_cases c : x + p ≤ t
            · rw [if_pos c, if_pos (by (first | lia | omega)), Nat.sub_sub]
            · rw [if_neg c, if_neg (by (first | lia | omega))]
        · by_cases c : x + q ≤ t
          · rw [if_pos c, if_pos (by (first | lia | omega)), Nat.sub_sub]
          · rw [if_neg c, if_neg (by (first | lia | omega))]
      · rw [if_neg h, if_neg (show ¬ t = x by (first | lia | omega)), if_neg (by (first | lia | omega)), if_neg (by (first | lia | omega))]; rfl
    have h0 := Nw_def (c0 := c0) (c1 := c1) hp hq f t
    have h1 := hI p hp (fun e => f (c0 :: e))
    have h2 := hI q hq (fun e => f (c1 :: e))
    have h3 := Nsh_first (c0 := c0) (c1 := c1) hp hq (fun e => f (e ++ [c0])) t p
    have h4 := Nsh_first (c0 := c0) (c1 := c1) hp hq (fun e => f (e ++ [c1])) t q
    dsimp only [List.nil_append, List.cons_append] at h0 h1 h2 h3 h4
    rw [Nat.add_comm q p] at h2 h4
    unfold Nsh at h1 h2 h3 h4 ⊢
    (first | lia | omega)
def Fr9 (c0 c1 p q : Nat) (vs : List (List Nat)) (y : List Nat) (t : Nat) : Int := Nsh c0 c1 p q (fun e => aF vs (e ++ y)) t (wl c0 p q y)
theorem Fr9_rec (hp : 0 < p) (hq : 0 < q) (hne : c0 ≠ c1) (vs : List (List Nat)) (y : List Nat) (t : Nat) : Fr9 c0 c1 p q vs y t = (if t = wl c0 p q y then aF vs y else 0) + Fr9 c0 c1 p q vs (c0 :: y) t + Fr9 c0 c1 p q vs (c1 :: y) t := by
  unfold Fr9
  rw [wl_cons, wl_cons, if_pos rfl, if_neg (Ne.symm hne)]
  unfold Nsh
  by_cases h : wl c0 p q y ≤ t
  · rw [if_pos h, Nw_last hp hq]
    unfold Nsh
    simp only [List.append_assoc, List.cons_append, List.nil_append]
    congr 1
    · congr 1
      · by_cases c : t = wl c0 p q y
        · rw [if_pos c, if_pos (by (first | lia | omega))]
        · rw [if_neg c, if_neg (by (first | lia | omega))]
      · by_cases c : p + wl c0 p q y ≤ t
        · rw [if_pos c, if_pos (by (first | lia | omega)), show t - wl c0 p q y - p = t - (p + wl c0 p q y) by (first | lia | omega)]
        · rw [if_neg c, if_neg (by (first | lia | omega))]
    · by_cases c : q + wl c0 p q y ≤ t
      · rw [if_pos c, if_pos (by (first | lia | omega)), show t - wl c0 p q y - q = t - (q + wl c0 p q y) by (first | lia | omega)]
      · rw [if_neg c, if_neg (by (first | lia | omega))]
  · rw [if_neg h, if_neg (show ¬ t = wl c0 p q y by (first | lia | omega)), if_neg (by (first | lia | omega)), if_neg (by (first | lia | omega))]; rfl
theorem free_back {vs : List (List Nat)} {z : List Nat} : ∀ (e : List Nat), free vs (e ++ z) = true → free vs z = true
  | [], h => h
  | c :: e, h => by
    rw [List.cons_append, free, Bool.and_eq_true] at h
    exact free_back e h.1
theorem Fr9_bad (hp : 0 < p) (hq : 0 < q) {vs : List (List Nat)} {y : List Nat} (h : free vs y = false) (t : Nat) : Fr9 c0 c1 p q vs y t = 0 := by
  have e : (fun e => aF vs (e ++ y)) = fun _ => 0 := funext fun e => by
    unfold aF
    rw [if_neg fun c => by rw [free_back e c] at h; cases h]
  unfold Fr9 Nsh
  rw [e, Nw_zero hp hq]
  split <;> rfl
theorem Fr9_late {vs : List (List Nat)} {y : List Nat} {t : Nat} (h : t < wl c0 p q y) : Fr9 c0 c1 p q vs y t = 0 := by
  unfold Fr9 Nsh; rw [if_neg (by (first | lia | omega))]
theorem aF_01 (vs : List (List Nat)) (x : List Nat) : 0 ≤ aF vs x ∧ aF vs x ≤ 1 := by unfold aF; split <;> (first | lia | omega)
theorem Fr9_nonneg (hp : 0 < p) (hq : 0 < q) (vs : List (List Nat)) (y : List Nat) (t : Nat) : 0 ≤ Fr9 c0 c1 p q vs y t := by
  unfold Fr9 Nsh
  split
  · exact Nw_nonneg hp hq _ _ fun e => (aF_01 _ _).1
  · exact Int.le_refl _
theorem Fr9_nil (vs : List (List Nat)) (t : Nat) : Fr9 c0 c1 p q vs [] t = cntA c0 c1 p q vs t := by
  unfold Fr9 Nsh cntA
  rw [show wl c0 p q [] = 0 from rfl, if_pos (Nat.zero_le _)]
  simp only [List.append_nil]
  rfl
end
def txt9 : List Nat → Str
  | [] => ""
  | c :: y => joinS (txt9 y) c
def back9 (s : Str) : List Nat := (s.cps.toList.filter (fun c => c != 47)).reverse
theorem slash_cps : (Str.ofString "/").cps.toList = [47] := by decide
theorem joinS_cps (s : Str) (c : Nat) : (joinS s c).cps.toList = if s.length = 0 then [c] else s.cps.toList ++ 47 :: [c] := by
  unfold joinS joinV
  split
  · rfl
  · show (s.cps ++ ((Str.ofString "/").cps ++ #[c])).toList = _
    rw [Array.toList_append, Array.toList_append, slash_cps]
    rfl
theorem back_join {s : Str} {c : Nat} (h : c ≠ 47) : back9 (joinS s c) = c :: back9 s := by
  unfold back9
  rw [joinS_cps]
  by_cases e : s.length = 0
  · rw [if_pos e]
    have : s.cps.toList = [] := by
      have e2 : s.cps.size = 0 := e
      simpa using e2
    rw [this]
    simp [h]
  · rw [if_neg e, List.filter_append, List.reverse_append]
    simp [h]
theorem back_txt : ∀ {y : List Nat}, (∀ c ∈ y, c ≠ 47) → back9 (txt9 y) = y
  | [], _ => rfl
  | c :: y, h => by
    rw [txt9, back_join (h c List.mem_cons_self), back_txt fun d hd => h d (List.mem_cons_of_mem _ hd)]
theorem txt_len : ∀ y : List Nat, (txt9 y).length ≤ 2 * y.length
  | [] => Nat.le_refl _
  | c :: y => by
    have ih := txt_len y
    have h := joinV_len (txt9 y) ⟨#[c]⟩
    have e : Str.length ⟨#[c]⟩ = 1 := rfl
    rw [e] at h
    show (joinV (txt9 y) ⟨#[c]⟩).length ≤ 2 * (y.length + 1)
    (first | lia | omega)
end Mine
end

noncomputable section
namespace Mine
abbrev cntL (t : Nat) (tn : List Int) : Int := (tn.map fun z => if z = (t : Int) then (1 : Int) else 0).sum
theorem cntL_snoc (t : Nat) (tn : List Int) (k : Int) : cntL t (tn ++ [k]) = cntL t tn + (if k = (t : Int) then 1 else 0) := by
  unfold cntL
  rw [List.map_append, List.sum_append]
  simp
theorem sumTo_list {α : Type} (g : α → Nat → Int) (n : Nat) : ∀ xs : List α, sumTo n (fun t => (xs.map fun x => g x t).sum) = (xs.map fun x => sumTo n (g x)).sum
  | [] => sumTo_zero n
  | x :: xs => by
    show sumTo n (fun t => g x t + (xs.map fun x => g x t).sum) = sumTo n (g x) + (xs.map fun x => sumTo n (g x)).sum
    rw [sumTo_add, sumTo_list g n xs]
theorem sumTo_one (w n : Nat) (h : w < n) : sumTo n (fun t => if w = t then (1 : Int) else 0) = 1 := by
  induction n with
  | zero => (first | lia | omega)
  | succ n ih =>
    rw [sumTo]
    by_cases c : w = n
    · rw [if_pos c, (sumTo_congr (g := fun _ => 0) fun i hi => by rw [if_neg (by (first | lia | omega))]).trans (sumTo_zero n)]; rfl
    · rw [if_neg c, ih (by (first | lia | omega))]; rfl
theorem sumTo_le {f g : Nat → Int} : ∀ {n : Nat}, (∀ i, i < n → f i ≤ g i) → sumTo n f ≤ sumTo n g
  | 0, _ => Int.le_refl _
  | n + 1, h => by
    have := sumTo_le fun i hi => h i (Nat.lt_succ_of_lt hi)
    have := h n (Nat.lt_succ_self n)
    rw [sumTo, sumTo]; (first | lia | omega)
theorem sumTo_ge {f : Nat → Int} {n w : Nat} (h0 : ∀ i, 0 ≤ f i) (hw : w < n) : f w ≤ sumTo n f := by
  induction n with
  | zero => (first | lia | omega)
  | succ n ih =>
    rw [sumTo]
    have h1 := h0 n
    by_cases c : w = n
    · subst c
      have : 0 ≤ sumTo w f := by
        rw [← sumTo_zero w]; exact sumTo_le fun i _ => h0 i
      (first | lia | omega)
    · have := ih (by (first | lia | omega))
      (first | lia | omega)
theorem len_le_sum {α : Type} {g : α → Int} : ∀ {xs : List α}, (∀ x ∈ xs, 1 ≤ g x) → (xs.length : Int) ≤ (xs.map g).sum
  | [], _ => Int.le_refl _
  | x :: xs, h => by
    have h1 := h x List.mem_cons_self
    have h2 := len_le_sum fun y hy => h y (List.mem_cons_of_mem x hy)
    rw [List.map_cons, List.sum_cons, List.length_cons]
    (first | lia | omega)
theorem sum_nonneg {α : Type} {g : α → Int} : ∀ {xs : List α}, (∀ x ∈ xs, 0 ≤ g x) → 0 ≤ (xs.map g).sum
  | [], _ => Int.le_refl _
  | x :: xs, h => by
    have h1 := h x List.mem_cons_self
    have h2 := sum_nonneg fun y hy => h y (List.mem_cons_of_mem x hy)
    rw [List.map_cons, List.sum_cons]
    (first | lia | omega)
theorem told_of {K : Nat → Int} : ∀ (n : Nat) (tn : List Int), tn.Pairwise (· ≤ ·) → (∀ z ∈ tn, 0 ≤ z ∧ z < (n : Int)) → (∀ t, t < n → cntL t tn = K t) → tn = toldUpto K n
  | 0, tn, _, h, _ => by
    cases tn with
    | nil => rfl
    | cons z r =>
      have := h z List.mem_cons_self
      (first | lia | omega)
  | n + 1, tn, hs, h, hc => by
    have cut : ∀ l : List Int, l.Pairwise (· ≤ ·) → (∀ z ∈ l, 0 ≤ z ∧ z < ((n + 1 : Nat) : Int)) → ∃ (a : List Int) (k : Nat), l = a ++ List.replicate k (n : Int) ∧ ∀ z ∈ a, z < (n : Int) := by
      intro l
      induction l with
      | nil => exact fun _ _ => ⟨[], 0, rfl, fun _ h => nomatch h⟩
      | cons z r ih =>
        intro hs hb
        rw [List.pairwise_cons] at hs
        obtain ⟨a, k, e, ha⟩ := ih hs.2 fun y hy => hb y (List.mem_cons_of_mem _ hy)
        have hz := hb z List.mem_cons_self
        by_cases c : z = (n : Int)
        · have ea : a = [] := by
            cases a with
            | nil => rfl
            | cons y s =>
              have h1 := hs.1 y (by rw [e]; simp)
              have h2 := ha y List.mem_cons_self
              (first | lia | omega)
          exact ⟨[], k + 1, by rw [e, ea, c, List.replicate_succ]; rfl, fun _ h => nomatch h⟩
        · exact ⟨z :: a, k, by rw [e]; rfl, fun y hy => (List.mem_cons.mp hy).elim (fun e => by rw [e]; (first | lia | omega)) (ha y)⟩
    obtain ⟨a, k, rfl, ha⟩ := cut tn hs h
    have hrep : ∀ t : Nat, cntL t (List.replicate k (n : Int)) = if (n : Int) = (t : Int) then (k : Int) else 0 := fun t => by
      unfold cntL
      rw [List.map_replicate]
      induction k with
      | zero => simp
      | succ k ih => rw [List.replicate_succ, List.sum_cons]; split <;> simp_all <;> (first | lia | omega)
    have happ : ∀ t, cntL t (a ++ List.replicate k (n : Int)) = cntL t a + cntL t (List.replicate k (n : Int)) := fun t => by
      unfold cntL; rw [List.map_append, List.sum_append]
    rw [toldUpto, ← told_of n a (List.pairwise_append.mp hs).1 (fun z hz => ⟨(h z (List.mem_append_left _ hz)).1, ha z hz⟩) (fun t ht => ?_)]
    · congr 2
      have h1 := hc n (Nat.lt_succ_self n)
      rw [happ, hrep, if_pos rfl] at h1
      have h2 : cntL n a = 0 := sum_zero fun z hz => by
        have := ha z hz
        rw [if_neg (by (first | lia | omega))]
      (first | lia | omega)
    · have h1 := hc t (by (first | lia | omega))
      rw [happ, hrep, if_neg (by (first | lia | omega)), Int.add_zero] at h1
      exact h1
end Mine
end

noncomputable section
namespace Mine
open PySem.StrLaws
theorem ends_of_last {x : Str} {c : Nat} {r : List Nat} (h : x.cps.toList = r ++ [c]) (hc : c ≠ 47) : Txt.endswith x "/" = false := by
  show Txt.endswith x (Str.ofString "/") = false
  have hs : (Str.ofString "/").cps.toList = [47] := slash_cps
  have hn : (Str.ofString "/").length = 1 := by decide
  unfold Txt.endswith
  rw [subAt_eq, h, hs, hn]
  have hl : x.length = r.length + 1 := by
    have := congrArg List.length h
    simpa [Str.length] using this
  rw [hl, Nat.add_sub_cancel, List.drop_left]
  simp [hc]
theorem txt_ends : ∀ {y : List Nat}, (∀ c ∈ y, c ≠ 47) → Txt.endswith (txt9 y) "/" = false
  | [], _ => by decide
  | c :: y, h => by
    have hc := h c List.mem_cons_self
    have e := joinS_cps (txt9 y) c
    show Txt.endswith (joinS (txt9 y) c) "/" = false
    by_cases e2 : (txt9 y).length = 0
    · rw [if_pos e2] at e
      exact ends_of_last (r := []) e hc
    · rw [if_neg e2] at e
      exact ends_of_last (r := (txt9 y).cps.toList ++ [47]) (by rw [e, List.append_assoc]; rfl) hc
section
variable {c0 c1 p q : Nat} {vs : List (List Nat)} {top : Nat} {ban : Str → Bool}
structure ItOk (c0 c1 p q : Nat) (vs : List (List Nat)) (top : Nat) (x : It) (y : List Nat) : Prop where
  s : x.s = txt9 y
  i : x.i = ((wl c0 p q y : Nat) : Int)
  f : free vs y = true
  l : ∀ c ∈ y, c = c0 ∨ c = c1
  t : wl c0 p q y ≤ top
abbrev FI (c0 c1 p q : Nat) (vs : List (List Nat)) (t : Nat) (x : It) : Int := Fr9 c0 c1 p q vs (back9 x.s) t
structure WJ (c0 c1 p q : Nat) (vs : List (List Nat)) (top : Nat) (xs : List It) (tn : List Int) : Prop where
  ho : HO xs
  ok : ∀ x ∈ xs, ∃ y, ItOk c0 c1 p q vs top x y
  srt : tn.Pairwise (· ≤ ·)
  rng : ∀ z ∈ tn, 0 ≤ z ∧ z < ((top + 1 : Nat) : Int)
  le : ∀ z ∈ tn, ∀ x ∈ xs, z ≤ x.i
  cnt : ∀ t, t ≤ top → cntL t tn + su9 (FI c0 c1 p q vs t) xs = cntA c0 c1 p q vs t
def Wmu (c0 c1 p q : Nat) (vs : List (List Nat)) (top : Nat) (xs : List It) : Nat := (sumTo (top + 1) (fun t => su9 (FI c0 c1 p q vs t) xs)).toNat
theorem ItOk.back (h0 : c0 ≠ 47) (h1 : c1 ≠ 47) {x : It} {y : List Nat} (h : ItOk c0 c1 p q vs top x y) : back9 x.s = y := by
  rw [h.s]
  exact back_txt fun c hc => by rcases h.l c hc with rfl | rfl <;> assumption
theorem push_ok (hp : 0 < p) (hq : 0 < q) (h0 : c0 ≠ 47) (h1 : c1 ≠ 47) (hban : ∀ y, y ≠ [] → (∀ c ∈ y, c = c0 ∨ c = c1) → ban (txt9 y) = !free vs y)
    {zs : List It} {it : It} {c : Nat} {y : List Nat} {k : Int} (hc : c = c0 ∨ c = c1) (hy : ∀ c ∈ y, c = c0 ∨ c = c1) (hs : it.s = joinS (txt9 y) c) (hi : it.i = ((wl c0 p q (c :: y) : Nat) : Int)) (hk : k ≤ it.i)
    (ho : HO zs) (ok : ∀ x ∈ zs, ∃ y, ItOk c0 c1 p q vs top x y) (hle : ∀ x ∈ zs, k ≤ x.i) :
    HO (pushIf (top : Int) ban it zs) ∧ (∀ x ∈ pushIf (top : Int) ban it zs, ∃ y, ItOk c0 c1 p q vs top x y) ∧ (∀ x ∈ pushIf (top : Int) ban it zs, k ≤ x.i) ∧
      ∀ t, t ≤ top → su9 (FI c0 c1 p q vs t) (pushIf (top : Int) ban it zs) = su9 (FI c0 c1 p q vs t) zs + Fr9 c0 c1 p q vs (c :: y) t := by
  have hl : ∀ d ∈ c :: y, d = c0 ∨ d = c1 := fun d hd => (List.mem_cons.mp hd).elim (fun e => e ▸ hc) (hy d)
  have hb := hban (c :: y) (List.cons_ne_nil _ _) hl
  have hs2 : it.s = txt9 (c :: y) := hs
  by_cases g : it.i ≤ (top : Int) ∧ ban it.s = false
  · rw [pushIf_yes g]
    have hf : free vs (c :: y) = true := by
      have := g.2
      rw [hs2, hb] at this
      simpa using this
    have hit : ItOk c0 c1 p q vs top it (c :: y) := ⟨hs2, hi, hf, hl, by have := g.1; (first | lia | omega)⟩
    have hm : ∀ x ∈ sd it 0 (zs ++ [it]) zs.length, x ∈ zs ∨ x = it := fun x hx => by
      rcases sd_mem _ _ _ _ _ hx with h | h
      · rcases List.mem_append.mp h with h | h
        · exact .inl h
        · exact .inr (List.mem_singleton.mp h)
      · exact .inr h
    refine ⟨push_HO it ho, fun x hx => ?_, fun x hx => ?_, fun t ht => ?_⟩
    · rcases hm x hx with h | rfl
      · exact ok x h
      · exact ⟨_, hit⟩
    · rcases hm x hx with h | rfl
      · exact hle x h
      · exact hk
    · rw [sd_sum _ _ _ _ _ (by simp)]
      have e : (zs ++ [it]).set zs.length it = zs ++ [it] := by simp
      rw [e]
      show ((zs ++ [it]).map _).sum = _
      rw [List.map_append, List.sum_append]
      show (zs.map _).sum + (Fr9 c0 c1 p q vs (back9 it.s) t + 0) = _
      rw [hit.back h0 h1, Int.add_zero]
  · rw [pushIf_no g]
    refine ⟨ho, ok, hle, fun t ht => ?_⟩
    have : Fr9 c0 c1 p q vs (c :: y) t = 0 := by
      by_cases g1 : it.i ≤ (top : Int)
      · have g2 : ban it.s = true := by
          cases e : ban it.s with
          | true => rfl
          | false => exact absurd ⟨g1, e⟩ g
        rw [hs2, hb] at g2
        exact Fr9_bad hp hq (by simpa using g2) t
      · exact Fr9_late (by (first | lia | omega))
    rw [this, Int.add_zero]
theorem walk_spec (hp : 0 < p) (hq : 0 < q) (hne : c0 ≠ c1) (h0 : c0 ≠ 47) (h1 : c1 ≠ 47) (hban : ∀ y, y ≠ [] → (∀ c ∈ y, c = c0 ∨ c = c1) → ban (txt9 y) = !free vs y) (hA : sumTo (top + 1) (cntA c0 c1 p q vs) ≤ 2000) (htop : top ≤ 50) :
    WalkSpec c0 c1 (p : Int) (q : Int) (top : Int) ban (WJ c0 c1 p q vs top) (Wmu c0 c1 p q vs top) where
  start := fun a t u => {
    ho := fun j hj hl => by
      have : j < 1 := hl
      (first | lia | omega)
    ok := fun x hx => ⟨[], by rw [List.mem_singleton.mp hx]; exact ⟨rfl, rfl, rfl, (fun _ h => nomatch h), Nat.zero_le _⟩⟩
    srt := .nil
    rng := fun _ h => nomatch h
    le := fun _ h => nomatch h
    cnt := fun t _ => by
      show 0 + (Fr9 c0 c1 p q vs (back9 "") t + 0) = _
      rw [show back9 "" = [] from by decide, Fr9_nil]; (first | lia | omega) }
  room := fun xs tn W => by
    have hs : sumTo (top + 1) (fun t => cntL t tn) + sumTo (top + 1) (fun t => su9 (FI c0 c1 p q vs t) xs) = sumTo (top + 1) (cntA c0 c1 p q vs) := by
      rw [← sumTo_add]
      exact sumTo_congr fun t ht => W.cnt t (by (first | lia | omega))
    rw [sumTo_list (fun z t => if z = (t : Int) then (1 : Int) else 0), sumTo_list (fun x t => FI c0 c1 p q vs t x)] at hs
    have k1 := len_le_sum (xs := tn) (g := fun z => sumTo (top + 1) (fun t => if z = (t : Int) then (1 : Int) else 0)) fun z hz => by
      have hr := W.rng z hz
      have e : sumTo (top + 1) (fun t => if z = (t : Int) then (1 : Int) else 0) = sumTo (top + 1) (fun t => if z.toNat = t then (1 : Int) else 0) := sumTo_congr fun t _ => by
        by_cases c : z.toNat = t
        · rw [if_pos c, if_pos (by (first | lia | omega))]
        · rw [if_neg c, if_neg (by (first | lia | omega))]
      show 1 ≤ sumTo (top + 1) (fun t => if z = (t : Int) then (1 : Int) else 0)
      rw [e, sumTo_one _ _ (by (first | lia | omega))]
      exact Int.le_refl _
    have k2 := len_le_sum (xs := xs) (g := fun x => sumTo (top + 1) (fun t => FI c0 c1 p q vs t x)) fun x hx => by
      obtain ⟨y, hy⟩ := W.ok x hx
      have e := hy.back h0 h1
      show 1 ≤ sumTo (top + 1) (fun t => Fr9 c0 c1 p q vs (back9 x.s) t)
      rw [e]
      refine Int.le_trans ?_ (sumTo_ge (w := wl c0 p q y) (fun t => Fr9_nonneg hp hq vs y t) (by have := hy.t; (first | lia | omega)))
      rw [Fr9_rec hp hq hne, if_pos rfl]
      have a1 := Fr9_nonneg (c0 := c0) (c1 := c1) hp hq vs (c0 :: y) (wl c0 p q y)
      have a2 := Fr9_nonneg (c0 := c0) (c1 := c1) hp hq vs (c1 :: y) (wl c0 p q y)
      have a3 : aF vs y = 1 := by unfold aF; rw [if_pos hy.f]
      (first | lia | omega)
    (first | lia | omega)
  good := fun xs tn W x hx => by
    obtain ⟨y, hy⟩ := W.ok x hx
    have hy47 : ∀ c ∈ y, c ≠ 47 := fun c hc => by rcases hy.l c hc with rfl | rfl <;> assumption
    have hw : ∀ z : List Nat, z.length ≤ wl c0 p q z := fun z => by
      induction z with
      | nil => exact Nat.zero_le _
      | cons c z ih => rw [wl_cons, List.length_cons]; split <;> (first | lia | omega)
    have h3 := txt_len y
    have h4 := hw y
    have h5 := hy.t
    have h6 := hy.i
    rw [hy.s]
    exact ⟨by (first | lia | omega), txt_ends hy47, by (first | lia | omega), by (first | lia | omega)⟩
  turn := fun xs x tn W i1 i2 e1 s1 e2 s2 => by
    obtain ⟨y, hy⟩ := W.ok _ (popTop_mem xs x)
    have hb := hy.back h0 h1
    have hpop := fun t => pop_sum (FI c0 c1 p q vs t) xs x
    have hho := pop_HO W.ho
    have hok : ∀ z ∈ popRest xs x, ∃ y, ItOk c0 c1 p q vs top z y := fun z hz => W.ok z (popRest_mem hz)
    have htle : ∀ z ∈ popRest xs x, (popTop xs x).i ≤ z.i := fun z hz => top_le W.ho z (popRest_mem hz)
    have hle0 : ∀ z ∈ tn, z ≤ (popTop xs x).i := fun z hz => W.le z hz _ (popTop_mem xs x)
    generalize popTop xs x = w at *
    generalize popRest xs x = r at *
    have hi := hy.i
    have hl := hy.l
    rw [hy.s] at s1 s2
    have w0 : wl c0 p q (c0 :: y) = p + wl c0 p q y := by rw [wl_cons, if_pos rfl]
    have w1 : wl c0 p q (c1 :: y) = q + wl c0 p q y := by rw [wl_cons, if_neg (Ne.symm hne)]
    obtain ⟨A1, A2, A3, A4⟩ := push_ok (k := w.i) hp hq h0 h1 hban (.inl rfl) hl s1 (by rw [w0]; (first | lia | omega)) (by (first | lia | omega)) hho hok htle
    obtain ⟨B1, B2, B3, B4⟩ := push_ok (k := w.i) hp hq h0 h1 hban (.inr rfl) hl s2 (by rw [w1]; (first | lia | omega)) (by (first | lia | omega)) A1 A2 A3
    have hsum : ∀ t, t ≤ top → su9 (FI c0 c1 p q vs t) (pushIf (top : Int) ban i2 (pushIf (top : Int) ban i1 r)) + (if w.i = (t : Int) then 1 else 0) = su9 (FI c0 c1 p q vs t) (xs ++ [x]) := fun t ht => by
      have h5 := hpop t
      have h6 : FI c0 c1 p q vs t w = Fr9 c0 c1 p q vs y t := by show Fr9 c0 c1 p q vs (back9 w.s) t = _; rw [hb]
      have h7 := Fr9_rec hp hq hne vs y t
      have h8 : aF vs y = 1 := by unfold aF; rw [if_pos hy.f]
      have h9 : (if t = wl c0 p q y then aF vs y else 0) = (if w.i = (t : Int) then (1 : Int) else 0) := by
        by_cases c : t = wl c0 p q y
        · rw [if_pos c, if_pos (by (first | lia | omega)), h8]
        · rw [if_neg c, if_neg (by (first | lia | omega))]
      rw [B4 t ht, A4 t ht]
      (first | lia | omega)
    have hy2 := hy.t
    refine ⟨⟨B1, B2, ?_, ?_, ?_, ?_⟩, ?_⟩
    · refine List.pairwise_append.mpr ⟨W.srt, List.pairwise_singleton _ _, fun a ha b hb2 => ?_⟩
      rw [List.mem_singleton.mp hb2]
      exact hle0 a ha
    · intro z hz
      rcases List.mem_append.mp hz with hz | hz
      · exact W.rng z hz
      · rw [List.mem_singleton.mp hz]; (first | lia | omega)
    · intro z hz u hu
      rcases List.mem_append.mp hz with hz | hz
      · exact Int.le_trans (hle0 z hz) (B3 u hu)
      · rw [List.mem_singleton.mp hz]; exact B3 u hu
    · intro t ht
      have h5 := W.cnt t ht
      have h6 := hsum t ht
      rw [cntL_snoc]
      (first | lia | omega)
    · unfold Wmu
      have h5 : sumTo (top + 1) (fun t => su9 (FI c0 c1 p q vs t) (pushIf (top : Int) ban i2 (pushIf (top : Int) ban i1 r))) + sumTo (top + 1) (fun t => if w.i = (t : Int) then 1 else 0) = sumTo (top + 1) (fun t => su9 (FI c0 c1 p q vs t) (xs ++ [x])) := by
        rw [← sumTo_add]
        exact sumTo_congr fun t ht => hsum t (by (first | lia | omega))
      have h6 : sumTo (top + 1) (fun t => if w.i = (t : Int) then (1 : Int) else 0) = 1 := by
        refine (sumTo_congr fun t _ => ?_).trans (sumTo_one (wl c0 p q y) (top + 1) (by (first | lia | omega)))
        by_cases c : wl c0 p q y = t
        · rw [if_pos c, if_pos (by (first | lia | omega))]
        · rw [if_neg c, if_neg (by (first | lia | omega))]
      have h7 : 0 ≤ sumTo (top + 1) (fun t => su9 (FI c0 c1 p q vs t) (pushIf (top : Int) ban i2 (pushIf (top : Int) ban i1 r))) := by
        refine Int.le_trans (Int.le_of_eq (sumTo_zero (top + 1)).symm) (sumTo_le fun t _ => ?_)
        exact sum_nonneg fun z _ => Fr9_nonneg hp hq vs _ t
      (first | lia | omega)
theorem walk_end {tn : List Int} (W : WJ c0 c1 p q vs top [] tn) : tn = toldUpto (cntA c0 c1 p q vs) (top + 1) :=
  told_of (top + 1) tn W.srt W.rng fun t ht => by
    have := W.cnt t (by (first | lia | omega))
    show cntL t tn = _
    have e : su9 (FI c0 c1 p q vs t) [] = 0 := rfl
    (first | lia | omega)
end
end Mine
end

noncomputable section
namespace Mine
open PySem.StrLaws PyProof.Rows
theorem inS_iff (x y : Str) : inS x y = true ↔ x.cps.toList <:+: y.cps.toList := by
  have hlx : x.length = x.cps.toList.length := by simp [Str.length]
  have hly : y.length = y.cps.toList.length := by simp [Str.length]
  unfold inS
  rw [found_iff]
  constructor
  · rintro ⟨i, _, h⟩
    rw [subAt_eq, beq_iff_eq] at h
    refine ⟨y.cps.toList.take i, (y.cps.toList.drop i).drop x.length, ?_⟩
    rw [← h, List.append_assoc, List.take_append_drop, List.take_append_drop]
  · rintro ⟨a, b, h⟩
    refine ⟨a.length, ?_, ?_⟩
    · rw [hlx, hly, ← h]; simp only [List.length_append]; (first | lia | omega)
    · rw [subAt_eq, beq_iff_eq, ← h, List.append_assoc, List.drop_left, hlx, List.take_left]
theorem least_at {ws : List Str} {x : Str} : ∀ {n : Nat}, x ∈ leastUpto ws n → ∃ i, i < n ∧ ws[i]? = some x ∧ leastAt ws i x = true
  | 0, h => by rw [leastUpto] at h; cases h
  | n + 1, h => by
    rw [leastUpto] at h
    rcases List.mem_append.mp h with h | h
    · obtain ⟨i, a, b⟩ := least_at h
      exact ⟨i, Nat.lt_succ_of_lt a, b⟩
    · cases hw : ws[n]? with
      | none => rw [hw] at h; cases h
      | some w =>
        rw [hw] at h
        dsimp only at h
        by_cases c : leastAt ws n w = true
        · rw [if_pos c] at h
          obtain rfl := List.mem_singleton.mp h
          exact ⟨n, Nat.lt_succ_self n, hw, c⟩
        · rw [if_neg c] at h; cases h
theorem least_in {ws : List Str} {x : Str} {i : Nat} (hx : ws[i]? = some x) (hl : leastAt ws i x = true) : ∀ {n : Nat}, i < n → x ∈ leastUpto ws n
  | 0, h => absurd h (Nat.not_lt_zero _)
  | n + 1, h => by
    rw [leastUpto]
    by_cases c : i < n
    · exact List.mem_append_left _ (least_in hx hl c)
    · obtain rfl : i = n := by (first | lia | omega)
      refine List.mem_append_right _ ?_
      rw [hx]
      dsimp only
      rw [if_pos hl]
      exact List.mem_singleton.mpr rfl
theorem leastAt_iff {ws : List Str} {i : Nat} {x : Str} : leastAt ws i x = true ↔ (x ∉ ws.take i) ∧ ∀ o ∈ ws, inS o x = true → o = x := by
  unfold leastAt
  rw [Bool.and_eq_true]
  constructor
  · rintro ⟨a, b⟩
    constructor
    · intro hm
      have : ((ws.take i).any (· == x)) = true := List.any_eq_true.mpr ⟨x, hm, beq_self_eq_true x⟩
      rw [this] at a; cases a
    · intro o ho hin
      refine Classical.byContradiction fun c => ?_
      have hm : o ∈ ws.filter (fun o => o != x && inS o x) := List.mem_filter.mpr ⟨ho, by rw [Bool.and_eq_true]; exact ⟨bne_iff_ne.mpr c, hin⟩⟩
      rw [List.isEmpty_iff] at b
      rw [b] at hm; cases hm
  · rintro ⟨a, b⟩
    constructor
    · have : ((ws.take i).any (· == x)) = false := by
        rw [List.any_eq_false]
        intro o ho c
        exact a (eq_of_beq c ▸ ho)
      rw [this]; rfl
    · rw [List.isEmpty_iff, List.filter_eq_nil_iff]
      intro o ho c
      rw [Bool.and_eq_true] at c
      exact bne_iff_ne.mp c.1 (b o ho c.2)
theorem least_nodup (ws : List Str) : ∀ n, (leastUpto ws n).Nodup
  | 0 => List.nodup_nil
  | n + 1 => by
    rw [leastUpto, List.nodup_append]
    refine ⟨least_nodup ws n, ?_, ?_⟩
    · cases ws[n]? with
      | none => exact List.nodup_nil
      | some w =>
        dsimp only
        split
        · exact List.nodup_cons.mpr ⟨(fun h => nomatch h), List.nodup_nil⟩
        · exact List.nodup_nil
    · intro a ha b hb e
      subst e
      obtain ⟨i, hi, hai, _⟩ := least_at ha
      cases hw : ws[n]? with
      | none => rw [hw] at hb; cases hb
      | some w =>
        rw [hw] at hb
        dsimp only at hb
        by_cases c : leastAt ws n w = true
        · rw [if_pos c] at hb
          obtain rfl := List.mem_singleton.mp hb
          refine (leastAt_iff.mp c).1 (List.mem_of_getElem? (l := ws.take n) (i := i) ?_)
          rw [List.getElem?_take, if_pos hi]; exact hai
        · rw [if_neg c] at hb; cases hb
theorem least_has {ws : List Str} : ∀ (k : Nat) (x : Str), x.cps.toList.length ≤ k → x ∈ ws → ∃ v ∈ leastUpto ws ws.length, v.cps.toList <:+: x.cps.toList := by
  intro k
  induction k with
  | zero =>
    intro x hk hx
    obtain ⟨i, hi⟩ := List.getElem?_of_mem hx
    have hnil : x.cps.toList = [] := List.length_eq_zero_iff.mp (by (first | lia | omega))
    refine Classical.byContradiction fun hc => ?_
    have : ∀ i : Nat, ws[i]? ≠ some x := by
      intro i
      induction i using Nat.strongRecOn with
      | ind i ih =>
        intro hi
        refine hc ⟨x, least_in hi (leastAt_iff.mpr ⟨fun hm => ?_, fun o ho hin => ?_⟩) (List.getElem?_eq_some_iff.mp hi).1, List.infix_refl _⟩
        · obtain ⟨j, hj⟩ := List.getElem?_of_mem hm
          rw [List.getElem?_take] at hj
          by_cases c : j < i
          · rw [if_pos c] at hj; exact ih j c hj
          · rw [if_neg c] at hj; cases hj
        · have h1 := (inS_iff o x).mp hin
          rw [hnil] at h1
          exact str_ext ((List.eq_nil_of_infix_nil h1).trans hnil.symm)
    exact this i hi
  | succ k ih =>
    intro x hk hx
    by_cases hs : ∃ o ∈ ws, o ≠ x ∧ inS o x = true
    · obtain ⟨o, ho, hne, hin⟩ := hs
      have h1 := (inS_iff o x).mp hin
      have h2 : o.cps.toList.length < x.cps.toList.length := by
        rcases Nat.lt_or_ge o.cps.toList.length x.cps.toList.length with h | h
        · exact h
        · exact absurd (str_ext (h1.eq_of_length (Nat.le_antisymm h1.length_le h))) hne
      obtain ⟨v, hv, hvo⟩ := ih o (by (first | lia | omega)) ho
      exact ⟨v, hv, hvo.trans h1⟩
    · obtain ⟨i, hi⟩ := List.getElem?_of_mem hx
      refine Classical.byContradiction fun hc => ?_
      have : ∀ i : Nat, ws[i]? ≠ some x := by
        intro i
        induction i using Nat.strongRecOn with
        | ind i ih =>
          intro hi
          refine hc ⟨x, least_in hi (leastAt_iff.mpr ⟨fun hm => ?_, fun o ho hin => ?_⟩) (List.getElem?_eq_some_iff.mp hi).1, List.infix_refl _⟩
          · obtain ⟨j, hj⟩ := List.getElem?_of_mem hm
            rw [List.getElem?_take] at hj
            by_cases c : j < i
            · rw [if_pos c] at hj; exact ih j c hj
            · rw [if_neg c] at hj; cases hj
          · exact Classical.byContradiction fun hne => hs ⟨o, ho, hne, hin⟩
      exact this i hi
abbrev codesOf (ws : List Str) : List (List Nat) := ws.map (·.cps.toList)
theorem least_ok {c0 c1 : Nat} {ws : List Str} (hw : ∀ x ∈ ws, WordOk c0 c1 x) (n : Nat) : Least ((codesOf (leastUpto ws n)).map List.reverse) where
  ne := fun v hv => by
    obtain ⟨x, hx, rfl⟩ := List.mem_map.mp hv
    obtain ⟨s, hs, rfl⟩ := List.mem_map.mp hx
    obtain ⟨i, _, hi, _⟩ := least_at hs
    have h1 := (hw s (List.mem_of_getElem? hi)).1
    intro e
    have e2 : s.cps.toList = [] := by simpa using e
    have e3 : s.cps.size = s.cps.toList.length := by simp
    rw [e2] at e3
    have e4 : s.cps.size = 0 := e3
    (first | lia | omega)
  nodup := by
    have inj : ∀ {α β : Type} (f : α → β), (∀ a b, f a = f b → a = b) → ∀ l : List α, l.Nodup → (l.map f).Nodup := fun f hf l => by
      induction l with
      | nil => exact fun _ => List.nodup_nil
      | cons a l ih =>
        intro h
        rw [List.nodup_cons] at h
        rw [List.map_cons, List.nodup_cons]
        refine ⟨fun hm => ?_, ih h.2⟩
        obtain ⟨b, hb, e⟩ := List.mem_map.mp hm
        exact h.1 (hf b a e ▸ hb)
    exact inj _ (fun a b e => List.reverse_inj.mp e) _ (inj _ (fun a b e => str_ext e) _ (least_nodup ws n))
  alone := fun u hu v hv h => by
    obtain ⟨x, hx, rfl⟩ := List.mem_map.mp hu
    obtain ⟨s, hs, rfl⟩ := List.mem_map.mp hx
    obtain ⟨y, hy, rfl⟩ := List.mem_map.mp hv
    obtain ⟨r, hr, rfl⟩ := List.mem_map.mp hy
    obtain ⟨i, _, hi, _⟩ := least_at hs
    obtain ⟨j, _, hj, hl⟩ := least_at hr
    have h1 := (leastAt_iff.mp hl).2 s (List.mem_of_getElem? hi) ((inS_iff s r).mpr (List.reverse_infix.mp h))
    rw [h1]
theorem free_iff {vs : List (List Nat)} (hne : ∀ v ∈ vs, v ≠ []) : ∀ z : List Nat, free vs z = true ↔ ∀ v ∈ vs, ¬ v <:+: z
  | [] => ⟨fun _ v hv h => hne v hv (List.eq_nil_of_infix_nil h), fun _ => rfl⟩
  | c :: y => by
    rw [free, Bool.and_eq_true, List.all_eq_true, free_iff hne y]
    constructor
    · rintro ⟨a, b⟩ v hv h
      rcases List.infix_cons_iff.mp h with h | h
      · have := b v hv
        rw [isPre_iff.mpr h] at this
        cases this
      · exact a v hv h
    · intro h
      refine ⟨fun v hv c => h v hv (List.infix_cons_iff.mpr (.inr c)), fun v hv => ?_⟩
      cases e : v.isPrefixOf (c :: y) with
      | false => rfl
      | true => exact absurd (List.infix_cons_iff.mpr (.inl (isPre_iff.mp e))) (h v hv)
end Mine
end

noncomputable section
namespace Mine
open PySem.StrLaws PyProof.Rows
theorem join_snoc (c : Nat) (q : Str) : ∀ ps : List Str, ps ≠ [] → (Str.join ⟨#[c]⟩ (ps ++ [q])).cps.toList = (Str.join ⟨#[c]⟩ ps).cps.toList ++ c :: q.cps.toList
  | [], h => absurd rfl h
  | [p], _ => join_cons2 c p q []
  | p :: p2 :: r, _ => by
    have ih := join_snoc c q (p2 :: r) (List.cons_ne_nil _ _)
    show (Str.join ⟨#[c]⟩ (p :: p2 :: (r ++ [q]))).cps.toList = _
    rw [join_cons2, join_cons2]
    show p.cps.toList ++ c :: (Str.join ⟨#[c]⟩ (p2 :: r ++ [q])).cps.toList = _
    rw [ih]
    simp
theorem txt_join : ∀ {y : List Nat}, y ≠ [] → txt9 y = Str.join ⟨#[47]⟩ (ones y.reverse)
  | [], h => absurd rfl h
  | [c], _ => by
    refine str_ext ?_
    show (joinS (txt9 []) c).cps.toList = [c]
    rw [joinS_cps, if_pos (show (txt9 []).length = 0 by decide)]
  | c :: d :: y, _ => by
    have ih := txt_join (y := d :: y) (List.cons_ne_nil _ _)
    refine str_ext ?_
    have e : ones (c :: d :: y).reverse = ones (d :: y).reverse ++ [⟨#[c]⟩] := by rw [List.reverse_cons]; simp
    rw [e, join_snoc _ _ _ (by simp), ← ih]
    show (joinS (txt9 (d :: y)) c).cps.toList = _
    rw [joinS_cps, if_neg]
    intro h0
    have h1 : (txt9 (d :: y)).cps.toList = [] := by
      have : (txt9 (d :: y)).cps.size = 0 := h0
      simpa using this
    have h2 := joinS_cps (txt9 y) d
    have h3 : (joinS (txt9 y) d).cps.toList = [] := h1
    rw [h3] at h2
    split at h2
    · cases h2
    · have := congrArg List.length h2
      simp at this
theorem empty_cps : (Str.ofString "").cps.toList = [] := by decide
theorem dot_cps : (Str.ofString ".").cps.toList = [46] := by decide
theorem cps_app (a b : Str) : (a ++ b).cps.toList = a.cps.toList ++ b.cps.toList := by simp [Str.cps_append]
theorem join_flat : ∀ ps : List Str, (Str.join (Str.ofString "") ps).cps.toList = (ps.map (·.cps.toList)).flatten
  | [] => rfl
  | [p] => by
    show p.cps.toList = _
    simp
  | p :: p2 :: r => by
    have ih := join_flat (p2 :: r)
    show (p ++ Str.ofString "" ++ Str.join (Str.ofString "") (p2 :: r)).cps.toList = _
    rw [cps_app, cps_app, ih, empty_cps, List.append_nil]
    rfl
theorem ones_flat : ∀ cs : List Nat, ((ones cs).map (·.cps.toList)).flatten = cs
  | [] => rfl
  | c :: cs => by
    have ih := ones_flat cs
    show ([c] ++ ((ones cs).map (·.cps.toList)).flatten) = _
    rw [ih]; rfl
theorem rep_eq (v : Str) : Txt.replace v "/" "" = Str.join (Str.ofString "") (Txt.split v (Str.ofString "/")) := by
  show Txt.replace v (Str.ofString "/") (Str.ofString "") = _
  rw [slash]
  exact replace_one v _ 47
theorem rep_txt {y : List Nat} (hy : y ≠ []) (h : 47 ∉ y) : (Txt.replace (txt9 y) "/" "").cps.toList = y.reverse := by
  rw [rep_eq, txt_join hy, slash, split_join (by simpa using hy) (ones_free (by simpa using h)), join_flat, ones_flat]
theorem split_le {c : Nat} : ∀ ps : List Str, (ps.map (·.cps.toList)).flatten.length ≤ (Str.join ⟨#[c]⟩ ps).cps.toList.length
  | [] => Nat.le_refl _
  | [p] => by
    show (p.cps.toList ++ []).length ≤ p.cps.toList.length
    simp
  | p :: p2 :: r => by
    have ih := split_le (c := c) (p2 :: r)
    rw [join_cons2, List.map_cons, List.flatten_cons, List.length_append, List.length_append, List.length_cons]
    (first | lia | omega)
theorem rep_len (v : Str) : (Txt.replace v "/" "").length ≤ v.length := by
  have h1 := split_le (c := 47) (Txt.split v (Str.ofString "/"))
  have h2 := join_split v (Str.ofString "/")
  rw [← slash, h2, ← join_flat, ← rep_eq] at h1
  simpa [Str.length] using h1
theorem part_ok (v : Str) : (Txt.split v "/")[0]? = some (firstPart v) ∧ (firstPart v).length ≤ v.length := by
  have h1 := split_le (c := 47) (Txt.split v (Str.ofString "/"))
  have h2 := join_split v (Str.ofString "/")
  rw [← slash, h2] at h1
  have h3 := split_ne v (Str.ofString "/")
  unfold firstPart
  show (Txt.split v (Str.ofString "/"))[0]? = some (((Txt.split v (Str.ofString "/"))[0]?).getD (Str.ofString "")) ∧ (((Txt.split v (Str.ofString "/"))[0]?).getD (Str.ofString "")).length ≤ v.length
  generalize Txt.split v (Str.ofString "/") = ps at h1 h3
  cases ps with
  | nil => exact absurd rfl h3
  | cons p r =>
    refine ⟨rfl, ?_⟩
    show p.length ≤ v.length
    rw [List.map_cons, List.flatten_cons, List.length_append] at h1
    have e1 : p.length = p.cps.toList.length := by simp [Str.length]
    have e2 : v.length = v.cps.toList.length := by simp [Str.length]
    (first | lia | omega)
theorem first_two {a b : Str} (ha : 47 ∉ a.cps.toList) (hb : 47 ∉ b.cps.toList) (hn : a.length ≠ 0) : firstPart (joinV a b) = a := by
  have e : joinV a b = Str.join ⟨#[47]⟩ [a, b] := by
    unfold joinV
    rw [if_neg hn]
    refine str_ext ?_
    rw [join_cons2]
    show (a ++ (Str.ofString "/" ++ b)).cps.toList = _
    rw [cps_app, cps_app, slash]
    rfl
  unfold firstPart
  show ((Txt.split (joinV a b) (Str.ofString "/"))[0]?).getD (Str.ofString "") = a
  rw [slash, e, split_join (List.cons_ne_nil _ _) (fun p hp => ?_)]
  · rfl
  · simp only [List.mem_cons, List.not_mem_nil, or_false] at hp
    rcases hp with rfl | rfl <;> assumption
theorem map_inj {f : Nat → Nat} {P : Nat → Prop} (hf : ∀ c d, P c → P d → f c = f d → c = d) : ∀ {a b : List Nat}, (∀ c ∈ a, P c) → (∀ c ∈ b, P c) → a.map f = b.map f → a = b
  | [], [], _, _, _ => rfl
  | [], _ :: _, _, _, h => by cases h
  | _ :: _, [], _, _, h => by cases h
  | c :: a, d :: b, ha, hb, h => by
    obtain ⟨h1, h2⟩ := List.cons.inj h
    rw [hf c d (ha c List.mem_cons_self) (hb d List.mem_cons_self) h1, map_inj hf (fun x hx => ha x (List.mem_cons_of_mem _ hx)) (fun x hx => hb x (List.mem_cons_of_mem _ hx)) h2]
theorem infix_map {f : Nat → Nat} {P : Nat → Prop} (hf : ∀ c d, P c → P d → f c = f d → c = d) {a b : List Nat} (ha : ∀ c ∈ a, P c) (hb : ∀ c ∈ b, P c) : a.map f <:+: b.map f ↔ a <:+: b := by
  constructor
  · rintro ⟨s, t, h⟩
    obtain ⟨b1, b2, rfl, h1, h2⟩ := List.map_eq_append_iff.mp h.symm
    obtain ⟨b3, b4, rfl, h3, h4⟩ := List.map_eq_append_iff.mp h1
    have : a = b4 := map_inj hf ha (fun c hc => hb c (by simp [hc])) h4.symm
    rw [this]
    exact ⟨b3, b2, rfl⟩
  · rintro ⟨s, t, rfl⟩
    exact ⟨s.map f, t.map f, by simp⟩
theorem infix_snoc {a b : List Nat} {x : Nat} (hne : a ≠ []) (hx : x ∉ a) : a <:+: b ++ [x] ↔ a <:+: b := by
  rw [← List.reverse_infix, List.reverse_append, List.reverse_singleton, List.singleton_append, List.infix_cons_iff, ← List.reverse_infix (l₁ := a) (l₂ := b)]
  constructor
  · rintro (h | h)
    · exfalso
      cases e : a.reverse with
      | nil => exact hne (by simpa using e)
      | cons c r =>
        rw [e] at h
        obtain ⟨t, ht⟩ := h
        have h2 := (List.cons.inj ht).1
        refine hx (List.mem_reverse.mp ?_)
        rw [e, h2]
        exact List.mem_cons_self
    · exact h
  · exact .inr
section
variable {c0 c1 : Nat}
theorem two_facts (h : TwoLetters c0 c1) : ∀ c, c = c0 ∨ c = c1 → c < 128 ∧ c ≠ 47 ∧ c ≠ 46 ∧ lo1 (up1 c) = lo1 c ∧ lo1 c ≠ 46 ∧ up1 c < 128 ∧ up1 c ≠ 42 := by
  rcases h with h | h | h | h <;> (obtain ⟨rfl, rfl⟩ := h; rintro c (rfl | rfl) <;> decide)
theorem two_inj (h : TwoLetters c0 c1) : ∀ c d, (c = c0 ∨ c = c1) → (d = c0 ∨ d = c1) → lo1 c = lo1 d → c = d := by
  rcases h with h | h | h | h <;> (obtain ⟨rfl, rfl⟩ := h; rintro c d (rfl | rfl) (rfl | rfl) <;> decide)
theorem in_word (h : TwoLetters c0 c1) {w X : Str} {cs : List Nat} (hw : WordOk c0 c1 w) (hX : X.cps.toList = cs ++ [46]) (hcs : ∀ c ∈ cs, c = c0 ∨ c = c1) : inS (Txt.lower (Txt.upper w)) (Txt.lower X) = true ↔ w.cps.toList <:+: cs := by
  have hwA : ∀ c ∈ w.cps.toList, c < 128 := fun c hc => (two_facts h c (hw.2.2 c hc)).1
  have hXA : ∀ c ∈ X.cps.toList, c < 128 := fun c hc => by
    rw [hX] at hc
    rcases List.mem_append.mp hc with hc | hc
    · exact (two_facts h c (hcs c hc)).1
    · rw [List.mem_singleton.mp hc]; decide
  have hwne : w.cps.toList ≠ [] := fun e => by
    have h1 := hw.1
    have h2 : w.cps.size = w.cps.toList.length := by simp
    rw [e] at h2
    have h3 : w.cps.size = 0 := h2
    (first | lia | omega)
  rw [upper_ascii hwA, lower_ascii hXA, lower_ascii (fun c hc => ?_), inS_iff]
  · show ((w.cps.map up1).map lo1).toList <:+: (X.cps.map lo1).toList ↔ _
    rw [Array.toList_map, Array.toList_map, Array.toList_map, hX, List.map_map, List.map_append]
    have e1 : w.cps.toList.map (lo1 ∘ up1) = w.cps.toList.map lo1 := List.map_congr_left fun c hc => (two_facts h c (hw.2.2 c hc)).2.2.2.1
    rw [e1]
    show w.cps.toList.map lo1 <:+: cs.map lo1 ++ [46] ↔ _
    rw [infix_snoc (by simpa using hwne) (fun hm => ?_)]
    · exact infix_map (P := fun c => c = c0 ∨ c = c1) (two_inj h) hw.2.2 hcs
    · obtain ⟨c, hc, e⟩ := List.mem_map.mp hm
      exact (two_facts h c (hw.2.2 c hc)).2.2.2.2.1 e
  · have hc2 : c ∈ (w.cps.map up1).toList := hc
    rw [Array.toList_map] at hc2
    obtain ⟨d, hd, rfl⟩ := List.mem_map.mp hc2
    exact (two_facts h d (hw.2.2 d hd)).2.2.2.2.2.1
theorem ban_ok (h : TwoLetters c0 c1) {w0 w1 w2 : Str} (hw0 : WordOk c0 c1 w0) (hw1 : WordOk c0 c1 w1) (hw2 : WordOk c0 c1 w2) {y : List Nat} (hy : y ≠ []) (hl : ∀ c ∈ y, c = c0 ∨ c = c1) :
    banW w0 w1 w2 (txt9 y) = !free ((codesOf (leastUpto [w0, w1, w2] 3)).map List.reverse) y := by
  have h47 : 47 ∉ y := fun hm => (two_facts h 47 (hl 47 hm)).2.1 rfl
  have hX : (Txt.replace (txt9 y) "/" "" ++ (Str.ofString ".")).cps.toList = y.reverse ++ [46] := by rw [cps_app, rep_txt hy h47, dot_cps]
  have hall : ∀ w ∈ [w0, w1, w2], WordOk c0 c1 w := by
    intro w hw
    simp only [List.mem_cons, List.not_mem_nil, or_false] at hw
    rcases hw with rfl | rfl | rfl <;> assumption
  have hF := first_two (a := Txt.replace (txt9 y) "/" "" ++ (Str.ofString ".")) (b := w0) (by
    rw [hX]
    intro hm
    rcases List.mem_append.mp hm with hm | hm
    · exact h47 (List.mem_reverse.mp hm)
    · cases List.mem_singleton.mp hm) (fun hm => (two_facts h 47 (hw0.2.2 47 hm)).2.1 rfl) (by
    have e : (Txt.replace (txt9 y) "/" "" ++ (Str.ofString ".")).length = (y.reverse ++ [46]).length := by rw [← hX]; simp [Str.length]
    rw [e]
    simp)
  have hb : banW w0 w1 w2 (txt9 y) = appliesF (Txt.replace (txt9 y) "/" "" ++ (Str.ofString ".")) (Txt.upper w0) (Txt.upper w1) (Txt.upper w2) := by
    show appliesF (firstPart (joinV (Txt.replace (txt9 y) "/" "" ++ (Str.ofString ".")) w0)) (Txt.upper w0) (Txt.upper w1) (Txt.upper w2) = _
    rw [hF]
  rw [hb]
  generalize Txt.replace (txt9 y) "/" "" ++ (Str.ofString ".") = X at hX
  have hcs : ∀ c ∈ y.reverse, c = c0 ∨ c = c1 := fun c hc => hl c (List.mem_reverse.mp hc)
  rw [Bool.eq_iff_iff]
  have k1 : appliesF X (Txt.upper w0) (Txt.upper w1) (Txt.upper w2) = true ↔ ∃ w ∈ [w0, w1, w2], w.cps.toList <:+: y.reverse := by
    unfold appliesF
    rw [Bool.or_eq_true, Bool.or_eq_true, in_word h hw0 hX hcs, in_word h hw1 hX hcs, in_word h hw2 hX hcs]
    simp
  have k2 : (!free ((codesOf (leastUpto [w0, w1, w2] 3)).map List.reverse) y) = true ↔ ∃ v ∈ leastUpto [w0, w1, w2] 3, v.cps.toList <:+: y.reverse := by
    have hf := free_iff (least_ok hall 3).ne y
    have e : (!free ((codesOf (leastUpto [w0, w1, w2] 3)).map List.reverse) y) = true ↔ ¬ (free ((codesOf (leastUpto [w0, w1, w2] 3)).map List.reverse) y = true) := by simp
    rw [e, hf]
    constructor
    · intro hn
      refine Classical.byContradiction fun hc => hn fun v hv hi => ?_
      obtain ⟨x, hx, rfl⟩ := List.mem_map.mp hv
      obtain ⟨s, hs, rfl⟩ := List.mem_map.mp hx
      refine hc ⟨s, hs, List.reverse_infix.mp ?_⟩
      rw [List.reverse_reverse]; exact hi
    · rintro ⟨v, hv, hi⟩ hn
      refine hn v.cps.toList.reverse (List.mem_map_of_mem (List.mem_map_of_mem hv)) (List.reverse_infix.mp ?_)
      rw [List.reverse_reverse]; exact hi
  rw [k1, k2]
  constructor
  · rintro ⟨w, hw, hi⟩
    obtain ⟨v, hv, hvw⟩ := least_has (ws := [w0, w1, w2]) _ w (Nat.le_refl _) hw
    exact ⟨v, hv, hvw.trans hi⟩
  · rintro ⟨v, hv, hi⟩
    obtain ⟨i, _, hvi, _⟩ := least_at hv
    exact ⟨v, List.mem_of_getElem? hvi, hi⟩
theorem word_head {w : Str} (h : WordOk c0 c1 w) : ∃ c r, w.cps.toList = c :: r ∧ (c = c0 ∨ c = c1) := by
  cases e : w.cps.toList with
  | nil =>
    have h1 := h.1
    have h2 : w.cps.size = w.cps.toList.length := by simp
    rw [e] at h2
    have h3 : w.cps.size = 0 := h2
    (first | lia | omega)
  | cons c r => exact ⟨c, r, rfl, h.2.2 c (by rw [e]; exact List.mem_cons_self)⟩
theorem star_ok (h : TwoLetters c0 c1) {w : Str} (hw : WordOk c0 c1 w) : (Txt.upper w != ("*" : Str)) = true := by
  rw [upper_ascii fun c hc => (two_facts h c (hw.2.2 c hc)).1]
  refine bne_iff_ne.mpr fun e => ?_
  obtain ⟨c, r, e1, hc⟩ := word_head hw
  have e2 := congrArg (fun s : Str => s.cps.toList) e
  have e3 : (w.cps.map up1).toList = (Str.ofString "*").cps.toList := e2
  rw [Array.toList_map, e1, show (Str.ofString "*").cps.toList = [42] by decide] at e3
  exact (two_facts h c hc).2.2.2.2.2.2 (List.cons.inj e3).1
theorem text_ok {w0 w1 w2 : Str} (h : TwoLetters c0 c1) (hw0 : WordOk c0 c1 w0) (hw1 : WordOk c0 c1 w1) (hw2 : WordOk c0 c1 w2) : TextOk c0 c1 w0 w1 w2 where
  s0 := starts_of_head (x := ⟨#[c0]⟩) (c := c0) (r := []) rfl (two_facts h c0 (.inl rfl)).2.1
  s1 := starts_of_head (x := ⟨#[c1]⟩) (c := c1) (r := []) rfl (two_facts h c1 (.inr rfl)).2.1
  sw := by
    obtain ⟨c, r, e, hc⟩ := word_head hw0
    exact starts_of_head e (two_facts h c hc).2.1
  t0 := star_ok h hw0
  t1 := star_ok h hw1
  t2 := star_ok h hw2
  dot := fun v => ends_of_last (c := 46) (r := v.cps.toList) (by
    show (v ++ Str.ofString ".").cps.toList = _
    rw [cps_app, dot_cps]) (by decide)
  rep := rep_len
  part := part_ok
theorem cnt_small {p q top : Nat} (h : (p = 1 ∧ q = 2 ∧ top = 6) ∨ (p = 2 ∧ q = 1 ∧ top = 6) ∨ (p = 1 ∧ q = 3 ∧ top = 7) ∨ (p = 3 ∧ q = 2 ∧ top = 10)) (vs : List (List Nat)) : (∀ t, t ≤ top → 0 ≤ cntA c0 c1 p q vs t ∧ cntA c0 c1 p q vs t ≤ 100) ∧ sumTo (top + 1) (cntA c0 c1 p q vs) ≤ 2000 := by
  have hpq : 0 < p ∧ 0 < q := by (first | lia | omega)
  have key : ∀ t, t ≤ top → cntW p q (t + 1) t ≤ 100 := by
    rcases h with h | h | h | h <;> (obtain ⟨rfl, rfl, rfl⟩ := h; decide)
  have htop : top ≤ 10 := by (first | lia | omega)
  have h1 : ∀ t, t ≤ top → 0 ≤ cntA c0 c1 p q vs t ∧ cntA c0 c1 p q vs t ≤ 100 := fun t ht => by
    have h2 := cntA_le (c0 := c0) (c1 := c1) hpq.1 hpq.2 vs t
    have h3 := key t ht
    (first | lia | omega)
  refine ⟨h1, ?_⟩
  have h4 : ∀ n : Nat, sumTo n (fun _ => (100 : Int)) = 100 * (n : Int) := fun n => by
    induction n with
    | zero => rfl
    | succ n ih => rw [sumTo, ih]; (first | lia | omega)
  have h5 : sumTo (top + 1) (cntA c0 c1 p q vs) ≤ sumTo (top + 1) (fun _ => (100 : Int)) := sumTo_le fun t ht => (h1 t (by (first | lia | omega))).2
  rw [h4] at h5
  (first | lia | omega)
theorem plain_law {top : Nat} {P Q : Int} {w0 w1 w2 : Str} (hcc : TwoLetters c0 c1) (hpk : PriceOk P Q top) (hw0 : WordOk c0 c1 w0) (hw1 : WordOk c0 c1 w1) (hw2 : WordOk c0 c1 w2) :
    ∃ (J : List It → List Int → Prop) (μ : List It → Nat) (C : Nat → Nat → Int) (K : Nat → Int), WalkSpec c0 c1 P Q (top : Int) (banW w0 w1 w2) J μ ∧
      CountSpec C K ((leastUpto [w0, w1, w2] 3).map fun x => wtOf c0 P Q x.cps.toList) (lsOf c0 P Q (leastUpto [w0, w1, w2] 3)) [P, Q] (leastUpto [w0, w1, w2] 3).length top ∧
      (∀ tn, J [] tn → tn = toldUpto K (top + 1)) ∧ ∀ t, t ≤ top → 0 ≤ K t ∧ K t ≤ 4000 := by
  have hne : c0 ≠ c1 := by rcases hcc with h | h | h | h <;> (first | lia | omega)
  have h0 := (two_facts hcc c0 (.inl rfl)).2.1
  have h1 := (two_facts hcc c1 (.inr rfl)).2.1
  obtain ⟨p, q, rfl, rfl, hpq⟩ : ∃ p q : Nat, P = (p : Int) ∧ Q = (q : Int) ∧ ((p = 1 ∧ q = 2 ∧ top = 6) ∨ (p = 2 ∧ q = 1 ∧ top = 6) ∨ (p = 1 ∧ q = 3 ∧ top = 7) ∨ (p = 3 ∧ q = 2 ∧ top = 10)) := by
    refine ⟨P.toNat, Q.toNat, ?_⟩
    rcases hpk with h | h | h | h <;> (obtain ⟨rfl, rfl, rfl⟩ := h; decide)
  have hall : ∀ w ∈ [w0, w1, w2], WordOk c0 c1 w := by
    intro w hw
    simp only [List.mem_cons, List.not_mem_nil, or_false] at hw
    rcases hw with rfl | rfl | rfl <;> assumption
  have hp : 0 < p := by (first | lia | omega)
  have hq : 0 < q := by (first | lia | omega)
  have L := least_ok hall 3
  have hlet : ∀ v ∈ codesOf (leastUpto [w0, w1, w2] 3), ∀ c ∈ v, c = c0 ∨ c = c1 := fun v hv => by
    obtain ⟨s, hs, rfl⟩ := List.mem_map.mp hv
    obtain ⟨i, _, hi, _⟩ := least_at hs
    exact (hall s (List.mem_of_getElem? hi)).2.2
  have hs := cnt_small (c0 := c0) (c1 := c1) hpq ((codesOf (leastUpto [w0, w1, w2] 3)).map List.reverse)
  have hC := count_spec (p := p) (q := q) hp hq hne L hlet (top := top) fun t ht => by have := hs.1 t ht; (first | lia | omega)
  refine ⟨_, _, rowAt c0 p q ((codesOf (leastUpto [w0, w1, w2] 3)).map List.reverse), cntA c0 c1 p q ((codesOf (leastUpto [w0, w1, w2] 3)).map List.reverse), walk_spec hp hq hne h0 h1 (fun y hy hl => ban_ok hcc hw0 hw1 hw2 hy hl) hs.2 (by (first | lia | omega)), ?_, fun tn W => walk_end W, fun t ht => ?_⟩
  · have e1 : (codesOf (leastUpto [w0, w1, w2] 3)).map (fun x => wtOf c0 (p : Int) (q : Int) x) = (leastUpto [w0, w1, w2] 3).map fun x => wtOf c0 (p : Int) (q : Int) x.cps.toList := List.map_map ..
    have e2 : (codesOf (leastUpto [w0, w1, w2] 3)).length = (leastUpto [w0, w1, w2] 3).length := List.length_map ..
    rw [e1, e2] at hC
    exact hC
  · have := hs.1 t ht
    (first | lia | omega)
end
end Mine
end

section
namespace Mine
open PyProof.Rows.LCg PyProof.V
local macro_rules | `(tactic| walk_at "call type:int") => `(tactic| with_reducible refine call_int_int ?_)
theorem ints_take : ∀ {vs : List Value} {ns : List Int} (i : Nat), IntsAre vs ns → IntsAre (vs.take i) (ns.take i)
  | _, _, 0, _ => .nil
  | _, _, _ + 1, .nil => .nil
  | _, _, i + 1, .cons z u r => .cons z u (ints_take i r)
theorem ten6 : (10 : Int) ^ Int.toNat 6 = 1000000 := by decide
theorem ints_take_snoc {ys : List Value} {ns : List Int} {i : Nat} {n : Int} {t : Tok} (h : IntsAre ys (ns.take i)) (hn : ns[i]? = some n) : IntsAre (ys ++ [.int n t]) (ns.take (i + 1)) := by
  rw [List.take_add_one, hn]
  exact h.append (.cons n t .nil)
theorem drawn_of {ys : List Value} {ns : List Int} {k : Nat} (h : IntsAre ys (((ns.take 4).map (fun n => n.fmod 1000000)).take k)) : ∃ dl : List Int, IntsAre ys dl ∧ dl.length ≤ 4 ∧ ∀ z ∈ dl, 0 ≤ z ∧ z < 1000000 := by
  refine ⟨_, h, ?_, fun z hz => ?_⟩
  · rw [List.length_take, List.length_map, List.length_take]; (first | lia | omega)
  · obtain ⟨n, _, rfl⟩ := List.mem_map.mp (List.mem_of_mem_take hz)
    rw [Int.fmod_eq_emod_of_nonneg _ (by decide)]
    exact ⟨Int.emod_nonneg _ (by decide), Int.emod_lt_of_pos _ (by decide)⟩
theorem slice_downfrom (vs : List Value) {y : Int} (h : 0 ≤ y) (hy : y ≤ vs.length) : (slicePick vs.toArray (some y) none none).toList = vs.drop y.toNat := by
  have e : sliceBounds (some y) none none vs.toArray.size = (((y.toNat : Nat) : Int), ((vs.toArray.size : Nat) : Int), 1) := by
    simp only [sliceBounds, Option.getD_none, show (1 : Int) > 0 by decide, if_true, if_neg (show ¬ (y < 0) by (first | lia | omega))]
    congr 1
    simp only [List.size_toArray]
    (first | lia | omega)
  rw [kmk_pick_nat _ e]
  show ((vs.drop y.toNat).take (vs.toArray.size - y.toNat)) = _
  rw [List.size_toArray, List.take_of_length_le (by rw [List.length_drop]; exact Nat.le_refl _)]
theorem slice_tmp {prog : Program} {w : World} {A : Around} {E : Value → Shared → Prop} {s : Shared} {h₀ : Heap} {L : Addr} {m : Str → Option Value} {news : List (Addr × Obj)} {value slice : PySem.Expr} {l : Addr} {items : Array Value} {vl vu : Value} {lo hi : Option Int} {zs : List Value} {Q : Value → Shared → Prop}
    (F : Fr h₀ L s.heap m) (N : News h₀ L s.heap news) (hl : s.heap.IsList l items) (pl : IsPart vl lo) (pu : IsPart vu hi) (e : (slicePick items lo hi none).toList = zs)
    (h : ∀ D h', Fr h₀ L h' m → News h₀ L h' ((D, listOf zs.toArray 0) :: news) → (∀ p ∈ news, p.1 < D) → Q (.ref D) { s with heap := h' })
    (hs : subscripted slice false (.ref l) (.ref s.heap.objs.size) = operate [.ref s.heap.objs.size, .ref l] (getItem (.ref l) (.ref s.heap.objs.size))) (hsz : items.size ≤ sizeLine) :
    wpAny (model prog w) A (subscriptTail value slice (.ref l) (.ref s.heap.objs.size)) Q E { s with heap := s.heap.push { cls := .type "slice", data := .fields #[vl, vu, .none] } } := by
  refine PyProof.Rows.tail_any (Heap.IsList.typeIs (s := { s with heap := s.heap.push { cls := .type "slice", data := .fields #[vl, vu, .none] } }) (hl.push _)) list_getitem_lookup
    (wpAny_getItem_list_slice (hl.push _) (Heap.IsSliceOf.new ..) pl pu .none (by simp) ?_ hsz) hs
  have N1 := News.push (F.push { cls := .type "slice", data := .fields #[vl, vu, .none] }) (N.grown fun _ _ e => Heap.get?_push_of_some _ e) { cls := .type "list", data := .seq (slicePick items lo hi none) }
  rw [Heap.size_push] at N1
  show Q (.ref (s.heap.push _).objs.size) _
  rw [Heap.size_push]
  refine h _ _ ((F.push _).push _) ?_ (fun p hp => Nat.lt_succ_of_lt (Heap.lt_size (N p hp).1))
  rw [← e, Array.toArray_toList]
  exact N1
inductive FourInts (vs : List Value) : Prop
  | intro (a0 a1 a2 a3 : Int) (t0 t1 t2 t3 : Tok) (e : vs = [Value.int a0 t0, .int a1 t1, .int a2 t2, .int a3 t3]) (h0 : 0 ≤ a0 ∧ a0 < 1000000) (h1 : 0 ≤ a1 ∧ a1 < 1000000) (h2 : 0 ≤ a2 ∧ a2 < 1000000) (h3 : 0 ≤ a3 ∧ a3 < 1000000) : FourInts vs
theorem four_ints {vs : List Value} {ns : List Int} (h : IntsAre vs ns) (hl : ns.length = 4) (hb : ∀ z ∈ ns, 0 ≤ z ∧ z < 1000000) :
    FourInts vs := by
  cases h with
  | nil => cases hl
  | cons a0 t0 h => cases h with
    | nil => cases hl
    | cons a1 t1 h => cases h with
      | nil => cases hl
      | cons a2 t2 h => cases h with
        | nil => cases hl
        | cons a3 t3 h => cases h with
          | nil => exact ⟨a0, a1, a2, a3, t0, t1, t2, t3, rfl, hb _ (by ((repeat (first | exact List.Mem.head _ | refine List.Mem.tail _ ?_ | assumption | (refine List.mem_append_left _ ?_; assumption) | refine List.mem_append_right _ ?_)); done)), hb _ (by ((repeat (first | exact List.Mem.head _ | refine List.Mem.tail _ ?_ | assumption | (refine List.mem_append_left _ ?_; assumption) | refine List.mem_append_right _ ?_)); done)), hb _ (by ((repeat (first | exact List.Mem.head _ | refine List.Mem.tail _ ?_ | assumption | (refine List.mem_append_left _ ?_; assumption) | refine List.mem_append_right _ ?_)); done)), hb _ (by ((repeat (first | exact List.Mem.head _ | refine List.Mem.tail _ ?_ | assumption | (refine List.mem_append_left _ ?_; assumption) | refine List.mem_append_right _ ?_)); done))⟩
          | cons _ _ _ => simp at hl
theorem mod4 (k : Int) : 0 ≤ k.fmod 4 ∧ k.fmod 4 < 4 := by
  rw [Int.fmod_eq_emod_of_nonneg _ (by decide)]
  exact ⟨Int.emod_nonneg _ (by decide), Int.emod_lt_of_pos _ (by decide)⟩
inductive NamesAt (k : Int) (t1 t2 t3 t4 : Tok) : Prop
  | intro (c0 c1 : Nat) (t : Tok) (e : [Value.str (Str.ofString "ab") t1, .str (Str.ofString "Ba") t2, .str (Str.ofString "kS") t3, .str (Str.ofString "yZ") t4][k.toNat]? = some (.str ⟨#[c0, c1]⟩ t)) (h : TwoLetters c0 c1) : NamesAt k t1 t2 t3 t4
theorem names_at {k : Int} {t1 t2 t3 t4 : Tok} (h0 : 0 ≤ k) (h1 : k < 4) : NamesAt k t1 t2 t3 t4 := by
  have e1 : Str.ofString "ab" = ⟨#[97, 98]⟩ := by decide
  have e2 : Str.ofString "Ba" = ⟨#[66, 97]⟩ := by decide
  have e3 : Str.ofString "kS" = ⟨#[107, 83]⟩ := by decide
  have e4 : Str.ofString "yZ" = ⟨#[121, 90]⟩ := by decide
  have : k = 0 ∨ k = 1 ∨ k = 2 ∨ k = 3 := by (first | lia | omega)
  rcases this with rfl | rfl | rfl | rfl
  · exact ⟨97, 98, t1, by rw [e1]; rfl, .inl ⟨rfl, rfl⟩⟩
  · exact ⟨66, 97, t2, by rw [e2]; rfl, .inr (.inl ⟨rfl, rfl⟩)⟩
  · exact ⟨107, 83, t3, by rw [e3]; rfl, .inr (.inr (.inl ⟨rfl, rfl⟩))⟩
  · exact ⟨121, 90, t4, by rw [e4]; rfl, .inr (.inr (.inr ⟨rfl, rfl⟩))⟩
inductive PriceAt (k : Int) (T1 T2 T3 T4 : Addr) (t1 t2 t3 t4 t5 t6 t7 t8 t9 t10 t11 t12 : Tok) : Prop
  | intro (r : Addr) (P Q : Int) (top : Nat) (tp tq tt : Tok) (f1 : [Value.ref T1, .ref T2, .ref T3, .ref T4][k.toNat]? = some (.ref r)) (f2 : (r, tupO [.int P tp, .int Q tq, .int (top : Int) tt]) ∈ [(T4, tupO [.int 3 t10, .int 2 t11, .int 10 t12]), (T3, tupO [.int 1 t7, .int 3 t8, .int 7 t9]), (T2, tupO [.int 2 t4, .int 1 t5, .int 6 t6]), (T1, tupO [.int 1 t1, .int 2 t2, .int 6 t3])]) (f3 : PriceOk P Q top) : PriceAt k T1 T2 T3 T4 t1 t2 t3 t4 t5 t6 t7 t8 t9 t10 t11 t12
theorem price_top {P Q : Int} {top : Nat} (h : PriceOk P Q top) : top ≤ 100 := by rcases h with h | h | h | h <;> (obtain ⟨_, _, rfl⟩ := h; decide)
theorem mem_sub {α : Type} {a : α} {l l' : List α} (h : a ∈ l) (s : ∀ z ∈ l, z ∈ l') : a ∈ l' := s a h
theorem price_at {k : Int} {T1 T2 T3 T4 : Addr} {t1 t2 t3 t4 t5 t6 t7 t8 t9 t10 t11 t12 : Tok} (h0 : 0 ≤ k) (h1 : k < 4) :
    PriceAt k T1 T2 T3 T4 t1 t2 t3 t4 t5 t6 t7 t8 t9 t10 t11 t12 := by
  have : k = 0 ∨ k = 1 ∨ k = 2 ∨ k = 3 := by (first | lia | omega)
  rcases this with rfl | rfl | rfl | rfl
  · exact ⟨T1, 1, 2, 6, t1, t2, t3, rfl, by ((repeat (first | exact List.Mem.head _ | refine List.Mem.tail _ ?_ | assumption | (refine List.mem_append_left _ ?_; assumption) | refine List.mem_append_right _ ?_)); done), .inl ⟨rfl, rfl, rfl⟩⟩
  · exact ⟨T2, 2, 1, 6, t4, t5, t6, rfl, by ((repeat (first | exact List.Mem.head _ | refine List.Mem.tail _ ?_ | assumption | (refine List.mem_append_left _ ?_; assumption) | refine List.mem_append_right _ ?_)); done), .inr (.inl ⟨rfl, rfl, rfl⟩)⟩
  · exact ⟨T3, 1, 3, 7, t7, t8, t9, rfl, by ((repeat (first | exact List.Mem.head _ | refine List.Mem.tail _ ?_ | assumption | (refine List.mem_append_left _ ?_; assumption) | refine List.mem_append_right _ ?_)); done), .inr (.inr (.inl ⟨rfl, rfl, rfl⟩))⟩
  · exact ⟨T4, 3, 2, 10, t10, t11, t12, rfl, by ((repeat (first | exact List.Mem.head _ | refine List.Mem.tail _ ?_ | assumption | (refine List.mem_append_left _ ?_; assumption) | refine List.mem_append_right _ ?_)); done), .inr (.inr (.inr ⟨rfl, rfl, rfl⟩))⟩
def WordsJ (c0 c1 : Nat) (i : Nat) (ys : List Value) : Prop := ∃ ws : List Str, ws.length = i ∧ StrsAre ys ws ∧ ∀ x ∈ ws, 1 ≤ x.cps.size ∧ x.cps.size ≤ 4 ∧ ∀ c ∈ x.cps.toList, c = c0 ∨ c = c1
inductive ThreeStrs (vs : List Value) (ws : List Str) : Prop
  | intro (w0 w1 w2 : Str) (s0 s1 s2 : Tok) (e1 : vs = [Value.str w0 s0, .str w1 s1, .str w2 s2]) (e2 : ws = [w0, w1, w2]) : ThreeStrs vs ws
theorem three_strs {vs : List Value} {ws : List Str} (h : StrsAre vs ws) (hl : ws.length = 3) : ThreeStrs vs ws := by
  cases h with
  | nil => cases hl
  | cons w0 s0 h => cases h with
    | nil => cases hl
    | cons w1 s1 h => cases h with
      | nil => cases hl
      | cons w2 s2 h => cases h with
        | nil => exact ⟨w0, w1, w2, s0, s1, s2, rfl, rfl⟩
        | cons _ _ _ => simp at hl
theorem two_small {c0 c1 : Nat} (h : TwoLetters c0 c1) : c0 < 128 ∧ c1 < 128 ∧ c0 ≠ c1 ∧ (c0 ≠ 47 ∧ c0 ≠ 46) ∧ (c1 ≠ 47 ∧ c1 ≠ 46) := by
  rcases h with h | h | h | h <;> (obtain ⟨rfl, rfl⟩ := h; decide)
theorem least_len (ws : List Str) : ∀ n, (leastUpto ws n).length ≤ n
  | 0 => Nat.le_refl _
  | n + 1 => by
    have ih := least_len ws n
    rw [leastUpto, List.length_append]
    cases ws[n]? with
    | none => simp only [List.length_nil]; (first | lia | omega)
    | some w =>
      dsimp only
      split
      · simp only [List.length_cons, List.length_nil]; (first | lia | omega)
      · simp only [List.length_nil]; (first | lia | omega)
theorem least_mem {ws : List Str} {x : Str} : ∀ {n : Nat}, x ∈ leastUpto ws n → x ∈ ws
  | 0, h => by rw [leastUpto] at h; cases h
  | n + 1, h => by
    rw [leastUpto] at h
    rcases List.mem_append.mp h with h | h
    · exact least_mem h
    · cases hw : ws[n]? with
      | none => rw [hw] at h; cases h
      | some w =>
        rw [hw] at h
        dsimp only at h
        split at h
        · rw [List.mem_singleton.mp h]; exact List.mem_of_getElem? hw
        · cases h
theorem told_len {K : Nat → Int} {top : Nat} (h : ∀ t, t ≤ top → 0 ≤ K t ∧ K t ≤ 4000) : ∀ {i : Nat}, i ≤ top + 1 → (toldUpto K i).length ≤ 4000 * i
  | 0, _ => Nat.le_refl _
  | i + 1, hi => by
    have ih := told_len h (i := i) (by (first | lia | omega))
    have h1 := h i (by (first | lia | omega))
    rw [toldUpto, List.length_append, List.length_replicate]
    (first | lia | omega)
theorem law_holds.tw8441880690091102137 : True := trivial
theorem law_holds.tw9423440377400516374 : True := trivial
theorem law_holds.tw18326849912455186884 : True := trivial
theorem law_holds.tw8634839017697508684 : True := trivial
theorem law_holds.tw11027446948787134436 : True := trivial
theorem law_holds.tw3912811242725288453 : True := trivial
theorem law_holds.tw3850375180904979519 : True := trivial
theorem law_holds.tw11625900857008200698 : True := trivial
theorem law_holds.tw7120836010843673076 : True := trivial
theorem law_holds.tw14498155544194170393 : True := trivial
theorem law_holds.tw13154458805202713791 : True := trivial
theorem law_holds.tw12741236809623291298 : True := trivial
theorem law_holds.tw15274831704391544125 : True := trivial
theorem law_holds.tw5212653520564569363 : True := trivial
theorem law_holds.tw1622690429015379626 : True := trivial
theorem law_holds.tw2644310842459337959 : True := trivial
theorem law_holds.tw11633083819707477107 : True := trivial
theorem law_holds.tw10264638600885302300 : True := trivial
theorem law_holds.tw15448297888555860652 : True := trivial
theorem law_holds.tw18269650602155537469 : True := trivial
theorem law_holds.tw8285764192309689115 : True := trivial
theorem law_holds.tw1024454922138811184 : True := trivial
theorem law_holds.tw2856731137302751260 : True := trivial
theorem law_holds.tw12835091436910803158 : True := trivial
theorem law_holds.tw16805829885119392726 : True := trivial
theorem law_holds.tw8785698371604719795 : True := trivial
theorem law_holds.tw5731563423909890137 : True := trivial
theorem law_holds.tw13028658284911697911 : True := trivial
theorem law_holds.tw5640673133297012132 : True := trivial
theorem law_holds.tw3186734533307500241 : True := trivial
theorem law_holds.tw10486713781251687710 : True := trivial
theorem law_holds.tw1599026117119855824 : True := trivial
theorem law_holds.tw11484002064277903863 : True := trivial
theorem law_holds.tw1989176631692091739 : True := trivial
theorem law_holds.tw12831907817818079685 : True := trivial
theorem law_holds.tw17713402740875732926 : True := trivial
theorem law_holds.tw15802469936163623734 : True := trivial
theorem law_holds.tw6896717019858035522 : True := trivial
theorem law_holds.tw4439653461905209652 : True := trivial
theorem law_holds.tw13780023080261437657 : True := trivial
theorem law_holds.tw13766487248619392586 : True := trivial
theorem law_holds.tw12889056044993165476 : True := trivial
theorem law_holds.tw3158129796062787159 : True := trivial
theorem law_holds.tw7497986649931050792 : True := trivial
theorem law_holds.tw1377309892636839040 : True := trivial
theorem law_holds.tw16098122237329998606 : True := trivial
theorem law_holds.tw14983226153234331074 : True := trivial
theorem law_holds.tw10566571302883470556 : True := trivial
theorem law_holds.tw9529696498207198238 : True := trivial
theorem law_holds.tw9184033795430018204 : True := trivial
theorem law_holds.tw2643271747718453845 : True := trivial
theorem law_holds.tw3910120701321347557 : True := trivial
theorem law_holds.tw1414043511812021011 : True := trivial
theorem law_holds.tw18254337876149969668 : True := trivial
theorem law_holds.tw16461882675039125421 : True := trivial
theorem law_holds.tw4441770287765753910 : True := trivial
theorem law_holds.tw10024239376800412576 : True := trivial
theorem law_holds.tw5062152199769849712 : True := trivial
theorem law_holds.tw7304591109411159013 : True := trivial
theorem law_holds.tw12115171985352901274 : True := trivial
theorem law_holds.tw10188763426450519768 : True := trivial
theorem law_holds.tw13280740594461564331 : True := trivial
theorem law_holds.tw12780804625047726367 : True := trivial
theorem law_holds.tw498061464947678834 : True := trivial
theorem law_holds.tw576407869801174206 : True := trivial
theorem law_holds.tw14390095281932903014 : True := trivial
theorem law_holds.tw10368410895845634921 : True := trivial
theorem law_holds.tw9682718004065560343 : True := trivial
theorem law_holds.tw3850404396616230974 : True := trivial
theorem law_holds.tw4581845663705801772 : True := trivial
theorem law_holds.tw9992725586745946429 : True := trivial
theorem law_holds.tw2503670479209048990 : True := trivial
theorem law_holds.tw2269544990204364226 : True := trivial
theorem law_holds.tw3956099054510807996 : True := trivial
theorem law_holds.tw519298541982818421 : True := trivial
theorem law_holds.tw15014403891855920072 : True := trivial
theorem law_holds.tw784011647948385275 : True := trivial
theorem law_holds.tw302768837105346163 : True := trivial
theorem law_holds.tw18234560199702728603 : True := trivial
theorem law_holds.tw9255152265573255198 : True := trivial
theorem law_holds.tw12134408205421670959 : True := trivial
theorem law_holds.tw123295346585929383 : True := trivial
theorem law_holds.tw8984712037535005518 : True := trivial
theorem law_holds.tw15806970514647361693 : True := trivial
theorem law_holds.tw13709617746848070560 : True := trivial
theorem law_holds.tw1670043908289496885 : True := trivial
theorem law_holds.tw2387193687640843687 : True := trivial
theorem law_holds.tw8909828626151137519 : True := trivial
theorem law_holds.tw5112083995522966620 : True := trivial
theorem law_holds.tw10028117763298573888 : True := trivial
theorem law_holds.tw10371022188087798493 : True := trivial
theorem law_holds.tw8553002610548859549 : True := trivial
theorem law_holds.tw9168033884955339765 : True := trivial
theorem law_holds.tw12116493165278983582 : True := trivial
theorem law_holds.tw11100686419730198450 : True := trivial
theorem law_holds.tw14822640431511872941 : True := trivial
theorem law_holds.tw8970147916757833333 : True := trivial
theorem law_holds.tw6776455111828631412 : True := trivial
theorem law_holds.tw11182679623053108816 : True := trivial
theorem law_holds.tw7407239408455114201 : True := trivial
theorem law_holds.tw12626328134170644701 : True := trivial
theorem law_holds.tw1689763614830377041 : True := trivial
theorem law_holds.tw14988988175077273356 : True := trivial
theorem law_holds.tw11781800970755023335 : True := trivial
theorem law_holds.tw17180001009569633970 : True := trivial
theorem law_holds.tw12303009252429188658 : True := trivial
theorem law_holds.tw5506821171919863439 : True := trivial
theorem law_holds.tw13402424001964919149 : True := trivial
theorem law_holds.tw5770249724584273481 : True := trivial
theorem law_holds.tw6159533029260741167 : True := trivial
theorem law_holds.tw15352839923633478061 : True := trivial
theorem law_holds.tw11764581739189218997 : True := trivial
theorem law_holds.tw11966672015165255308 : True := trivial
theorem law_holds.tw2907507879108658156 : True := trivial
theorem law_holds.tw14326059299131336239 : True := trivial
theorem law_holds.tw6860709855171689206 : True := trivial
theorem law_holds.tw5389484754426515990 : True := trivial
theorem law_holds.tw15006436103509636135 : True := trivial
theorem law_holds.tw3253568177066640346 : True := trivial
theorem law_holds.tw9207643191828677137 : True := trivial
theorem law_holds.tw2075624079617657780 : True := trivial
theorem law_holds.tw16462025622868589483 : True := trivial
theorem law_holds.tw179590077315354965 : True := trivial
theorem law_holds.tw2136269947727277649 : True := trivial
theorem law_holds.tw8666519363043736892 : True := trivial
theorem law_holds.tw10242277825702978295 : True := trivial
theorem law_holds.tw13431030151845061361 : True := trivial
theorem law_holds.tw14545874151571354728 : True := trivial
theorem law_holds.tw6317479115527610633 : True := trivial
theorem law_holds.tw602461330855297101 : True := trivial
theorem law_holds.tw16470317323979864763 : True := trivial
theorem law_holds.tw4614512636035447770 : True := trivial
theorem law_holds.tw17942709131360195518 : True := trivial
theorem law_holds.tw7019463264422422977 : True := trivial
theorem law_holds.tw13397297893571687751 : True := trivial
theorem law_holds.tw3366817510852727610 : True := trivial
theorem law_holds.tw9849722394096787677 : True := trivial
theorem law_holds.tw15607887362523206001 : True := trivial
theorem law_holds.tw4593294709026258786 : True := trivial
theorem law_holds.tw2882485010973397480 : True := trivial
theorem law_holds.tw2295933128562542503 : True := trivial
theorem law_holds.tw4916342969005030805 : True := trivial
theorem law_holds.tw2618386414584295968 : True := trivial
theorem law_holds.tw9552830710289189752 : True := trivial
theorem law_holds.tw16099233806120587224 : True := trivial
theorem law_holds.tw2102315897755806987 : True := trivial
theorem law_holds.tw1285599515219305098 : True := trivial
theorem law_holds.tw4818577856007422655 : True := trivial
theorem law_holds.tw14828999820898988419 : True := trivial
theorem law_holds.tw4037582482628031876 : True := trivial
theorem law_holds.tw676263390381983339 : True := trivial
theorem law_holds.tw12223724995276690173 : True := trivial
theorem law_holds.tw631266038723830076 : True := trivial
theorem law_holds.tw7185456241796803578 : True := trivial
theorem law_holds.tw724200737284857819 : True := trivial
theorem law_holds.tw12798875541447807669 : True := trivial
theorem law_holds.tw907578622648922086 : True := trivial
theorem law_holds.tw7221428835167493151 : True := trivial
theorem law_holds.tw12342728606916771844 : True := trivial
theorem law_holds.tw382567035312083511 : True := trivial
theorem law_holds.tw1385162719727133579 : True := trivial
theorem law_holds.tw15694993059591697976 : True := trivial
theorem law_holds.tw8652346329174877282 : True := trivial
theorem law_holds.tw11347954631545130290 : True := trivial
theorem law_holds.tw13301187468288870568 : True := trivial
theorem law_holds.tw447027507633508388 : True := trivial
theorem law_holds.tw7820799176418779761 : True := trivial
theorem law_holds.tw7636989558263936852 : True := trivial
theorem law_holds.tw3776956092104397036 : True := trivial
theorem law_holds.tw12607336285111757513 : True := trivial
theorem law_holds.tw8266603773606604290 : True := trivial
theorem law_holds.tw14571795756577361901 : True := trivial
theorem law_holds.tw15661869461025623997 : True := trivial
theorem law_holds.tw11609493526922420660 : True := trivial
theorem law_holds.tw10007947361888340627 : True := trivial
theorem law_holds.tw12476058986133298565 : True := trivial
theorem law_holds.tw718173064312146323 : True := trivial
theorem law_holds.tw8249079356659094474 : True := trivial
theorem law_holds.tw11404014056486942332 : True := trivial
theorem law_holds.tw7356724547972884604 : True := trivial
theorem law_holds.tw18203989763732354715 : True := trivial
theorem law_holds.tw10817052189556005596 : True := trivial
theorem law_holds.tw16406091861079842607 : True := trivial
theorem law_holds.tw10666784280354678857 : True := trivial
theorem law_holds.tw4273555757443719353 : True := trivial
theorem law_holds.tw6499956759230125245 : True := trivial
theorem law_holds.tw12732824653754844360 : True := trivial
theorem law_holds.tw16883458599210261866 : True := trivial
theorem law_holds.tw14160533322030094474 : True := trivial
theorem law_holds.tw3943428198234077543 : True := trivial
theorem law_holds.tw8176227357466254829 : True := trivial
theorem law_holds.tw13800757232730249582 : True := trivial
theorem law_holds.tw14925382992726071281 : True := trivial
theorem law_holds.tw2043166853727251185 : True := trivial
theorem law_holds.tw1832781179975386347 : True := trivial
theorem law_holds.tw14289194402921355359 : True := trivial
theorem law_holds.tw4781243967656130014 : True := trivial
theorem law_holds.tw6564709946809587534 : True := trivial
theorem law_holds.tw9606376775287448836 : True := trivial
theorem law_holds.tw13392613628428298086 : True := trivial
theorem law_holds.tw14997073306097389879 : True := trivial
theorem law_holds.tw11097350217990362986 : True := trivial
theorem law_holds.tw6765152471904792315 : True := trivial
theorem law_holds.tw15759456685926392790 : True := trivial
theorem law_holds.tw8835965917227929528 : True := trivial
theorem law_holds.tw12459966957829302596 : True := trivial
theorem law_holds.tw8957123355933967898 : True := trivial
theorem law_holds.tw653560878884961445 : True := trivial
theorem law_holds.tw17027635718292003107 : True := trivial
set_option Elab.async true in
theorem law_holds : PySem.Challenge.rw_il0067_01.Holds := by
  w_on
  o_law
  k_head
  case hw => w_witness2
  k_go0
  refine wp_hide ?_
  intro Q7 hQ7
  repeat' ((fail_if_success (with_reducible (first | show wpAny _ _ (eval (Expr.ListComp _ _ _ _) _) _ _ _ | show wpAny _ _ (call (Value.type _) _) _ _ _ | show wpAny _ _ (exec (Stmt.Assign _ (Expr.ListComp _ _ _ _) _) _) _ _ _ | show wpAny _ _ (exec (Stmt.For _ _ _ _ _) _) _ _ _))); first | (with_reducible refine execs_hideT ?_; intro Q9 tk hQ9 hR9) | (with_reducible refine hQ9 _ ?_; clear hQ9 hR9; (try clear Q9)) | ((with_reducible refine' hR9 _ _ ?hk9 ?_); (case hk9 => exact nofun); clear hQ9 hR9; (try clear Q9)) | (with_reducible refine hQ8 _ _ ?_; clear hQ8; (try clear Q8); (try dsimp only)) | (with_reducible refine hQ8 _ _ _ ?_; clear hQ8; (try clear Q8); (try dsimp only)) | (with_reducible refine hQ7 _ _ ?_; clear hQ7; (try clear Q7); (try dsimp only)) | (k_unfold; (try dsimp only)) | walk_at "my step" | fail "no step")
  with_reducible rename News _ _ _ _ => N5
  with_reducible rename Fr _ _ _ _ => F5
  dsimp only at F5 N5 ⊢
  rename_i w s₀ s₁ mg mb G Y fa o pm doc ho hg KX X V GL T B TE TW a37 o36 M a34 a33 hcd ns hs hlay0 hL0 hr0 hl2 l25 l24 sa vs l21 hL ra w1 r0 hI hr hc1 hc2 K0 hD h₁ tk₁ oA oB dA dB X0
  change (law0.heap_1 w.params).In _ at KX
  revert KX
  k_fill
  intro KX
  clear X0 hD hc2 hr r0 w1 ra hl2 hr0 hlay0 hs M TW TE B GL V X
  change Below callerA s₁.heap [] s₁.heap at K0
  obtain ⟨h₀, g0, d0, tk0, os0⟩ := s₁
  dsimp only at *
  clear G Y
  generalize hLL : h₀.objs.size = L at F5 N5 hQ9 ⊢
  have F6 : Fr h₀ L h₁ (fun y => if y = Str.ofString "script" then some (Value.ref sa) else none) := by with_unfolding_all exact F5
  have dA6 : oA.data = .cell none := by with_unfolding_all exact dA
  have dB6 : oB.data = .cell none := by with_unfolding_all exact dB
  clear F5 dA dB ho hL0
  refine' Assign_ListComp_any F6 ?k1 ?k2 ?k3 ?k4 ?k5 ?k6 ?k7 ?k8 ?_
  case k1 => rfl
  case k2 => with_unfolding_all rfl
  case k3 => with_unfolding_all rfl
  case k4 => decide
  case k5 => rfl
  case k6 => decide
  case k7 => rfl
  case k8 => rfl
  repeat' ((fail_if_success (with_reducible (first | show wpAny _ _ (pyIter _) _ _ _ | show wpAny _ _ (subscriptTail _ _ (Value.ref _) _) _ _ _ | show wpAny _ _ (call (Value.type _) _) _ _ _))); first | (with_reducible refine execs_hideT ?_; intro Q9 tk hQ9 hR9) | (with_reducible refine hQ9 _ ?_; clear hQ9 hR9; (try clear Q9)) | ((with_reducible refine' hR9 _ _ ?hk9 ?_); (case hk9 => exact nofun); clear hQ9 hR9; (try clear Q9)) | (with_reducible refine hQ8 _ _ ?_; clear hQ8; (try clear Q8); (try dsimp only)) | (with_reducible refine hQ8 _ _ _ ?_; clear hQ8; (try clear Q8); (try dsimp only)) | (with_reducible refine hQ7 _ _ ?_; clear hQ7; (try clear Q7); (try dsimp only)) | (k_unfold; (try dsimp only)) | walk_at "my step" | fail "no step")
  have hsa : h₁.IsList sa vs.toArray := hL.at fun o e => F6.keep _ _ e
  have hvl : vs.length ≤ 63 := by have := hI.length; (first | lia | omega)
  refine' kmk_slice_lit (s := ⟨_, _, _, _, _⟩) (l := sa) (its := vs.toArray) (zs := vs.take 4) F6 N5 hsa .none (.int _ _) ?sp3 ?sp4 ?sp5 ?sp6 ?sp7
  case sp3 => rw [slice_upto _ (by decide)]; rfl
  case sp5 => with_unfolding_all rfl
  case sp6 => intro _; with_unfolding_all rfl
  case sp7 => rw [List.size_toArray]; have := sizeLine_eq; (first | lia | omega)
  intro D7 h7 F7 N7 l7
  k_lt l7
  dsimp only
  repeat' ((fail_if_success (with_reducible (first | show wpAny _ _ (pyIter _) _ _ _ | show wpAny _ _ (subscriptTail _ _ (Value.ref _) _) _ _ _ | show wpAny _ _ (call (Value.type _) _) _ _ _))); first | (with_reducible refine execs_hideT ?_; intro Q9 tk hQ9 hR9) | (with_reducible refine hQ9 _ ?_; clear hQ9 hR9; (try clear Q9)) | ((with_reducible refine' hR9 _ _ ?hk9 ?_); (case hk9 => exact nofun); clear hQ9 hR9; (try clear Q9)) | (with_reducible refine hQ8 _ _ ?_; clear hQ8; (try clear Q8); (try dsimp only)) | (with_reducible refine hQ8 _ _ _ ?_; clear hQ8; (try clear Q8); (try dsimp only)) | (with_reducible refine hQ7 _ _ ?_; clear hQ7; (try clear Q7); (try dsimp only)) | (k_unfold; (try dsimp only)) | walk_at "my step" | fail "no step")
  have hIt : IntsAre (vs.take 4) (ns.take 4) := ints_take 4 hI
  refine' compAt_list _ ?k1 ?k2 ?k3 F7 N7 (its := (vs.take 4).toArray) (k := 0) ?k5 ?k6 ?k7 (cstep0 (J := fun i ys => IntsAre ys ((ns.take 4).map (fun n => n.fmod 1000000) |>.take i)) ?k8) (cfin0 ?k9)
  case k1 => rfl
  case k2 => rfl
  case k3 => rfl
  case k5 => k_mem
  case k6 => rw [List.size_toArray, List.length_take]; have := sizeLine_eq; (first | lia | omega)
  case k7 => exact ⟨rfl, .nil⟩
  case k8 =>
    intro i ys own C oC D m₂ h₁ tk₁ E' hi hV hC hJ FF NN
    refine hideP ?_
    intro P9 kP9
    obtain ⟨v, hv, hx⟩ := hV
    obtain ⟨n, tn, rfl, hn⟩ := hIt.at i v (by simpa using hv)
    refine kP9 ?_
    clear kP9 P9
    refine tests_nil ?_
    dsimp only [if_true]
    dsimp only [List.cons_append] at NN ⊢
    repeat' ((fail_if_success (with_reducible (first | show wpAny _ _ (pyIter _) _ _ _ | show wpAny _ _ (call (Value.type _) _) _ _ _))); first | (with_reducible refine execs_hideT ?_; intro Q9 tk hQ9 hR9) | (with_reducible refine hQ9 _ ?_; clear hQ9 hR9; (try clear Q9)) | ((with_reducible refine' hR9 _ _ ?hk9 ?_); (case hk9 => exact nofun); clear hQ9 hR9; (try clear Q9)) | (with_reducible refine hQ8 _ _ ?_; clear hQ8; (try clear Q8); (try dsimp only)) | (with_reducible refine hQ8 _ _ _ ?_; clear hQ8; (try clear Q8); (try dsimp only)) | (with_reducible refine hQ7 _ _ ?_; clear hQ7; (try clear Q7); (try dsimp only)) | (k_unfold; (try dsimp only)) | walk_at "my step" | fail "no step")
    refine call_int_int ?_
    repeat' ((fail_if_success (with_reducible (first | show wpAny _ _ (pyIter _) _ _ _ | show wpAny _ _ (call (Value.type _) _) _ _ _ | show wpAny _ _ (binaryOp .Mult _ _) _ _ _))); first | (with_reducible refine execs_hideT ?_; intro Q9 tk hQ9 hR9) | (with_reducible refine hQ9 _ ?_; clear hQ9 hR9; (try clear Q9)) | ((with_reducible refine' hR9 _ _ ?hk9 ?_); (case hk9 => exact nofun); clear hQ9 hR9; (try clear Q9)) | (with_reducible refine hQ8 _ _ ?_; clear hQ8; (try clear Q8); (try dsimp only)) | (with_reducible refine hQ8 _ _ _ ?_; clear hQ8; (try clear Q8); (try dsimp only)) | (with_reducible refine hQ7 _ _ ?_; clear hQ7; (try clear Q7); (try dsimp only)) | (k_unfold; (try dsimp only)) | walk_at "my step" | fail "no step")
    refine PEnd.mk (by assumption) NN ?_
    rw [ten6]
    refine ints_take_snoc hJ ?_
    rw [List.getElem?_map, hn]; rfl
  case k9 =>
    intro g ys hJ D8 h8 tk8 F8 N8 n8
    dsimp only
    repeat' ((fail_if_success (with_reducible (first | show wpAny _ _ (eval (Expr.ListComp _ _ _ _) _) _ _ _ | show wpAny _ _ (call (Value.type _) _) _ _ _ | show wpAny _ _ (exec (Stmt.Assign _ (Expr.ListComp _ _ _ _) _) _) _ _ _ | show wpAny _ _ (exec (Stmt.For _ _ _ _ _) _) _ _ _ | show wpAny _ _ (call (Value.ref _) _) _ _ _ | show wpAny _ _ (subscriptTail _ _ (Value.ref _) _) _ _ _ | show wpAny _ _ (pyIter _) _ _ _ | show wpAny _ _ (call (Value.builtin _) _) _ _ _))); first | (with_reducible refine execs_hideT ?_; intro Q9 tk hQ9 hR9) | (with_reducible refine hQ9 _ ?_; clear hQ9 hR9; (try clear Q9)) | ((with_reducible refine' hR9 _ _ ?hk9 ?_); (case hk9 => exact nofun); clear hQ9 hR9; (try clear Q9)) | (with_reducible refine hQ8 _ _ ?_; clear hQ8; (try clear Q8); (try dsimp only)) | (with_reducible refine hQ8 _ _ _ ?_; clear hQ8; (try clear Q8); (try dsimp only)) | (with_reducible refine hQ7 _ _ ?_; clear hQ7; (try clear Q7); (try dsimp only)) | (k_unfold; (try dsimp only)) | walk_at "my step" | fail "no step")
    obtain ⟨dl, hJ2, hdl, hdz⟩ := drawn_of hJ
    clear hJ
    have hyl : ys.length = dl.length := hJ2.length
    with_reducible rename News h₀ _ _ _ => N9
    refine kst_len (us := ys) N9 (by k_mem) hyl (by (first | lia | omega)) ?_
    repeat' ((fail_if_success (with_reducible (first | show wpAny _ _ (eval (Expr.ListComp _ _ _ _) _) _ _ _ | show wpAny _ _ (call (Value.type _) _) _ _ _ | show wpAny _ _ (exec (Stmt.Assign _ (Expr.ListComp _ _ _ _) _) _) _ _ _ | show wpAny _ _ (exec (Stmt.For _ _ _ _ _) _) _ _ _ | show wpAny _ _ (call (Value.ref _) _) _ _ _ | show wpAny _ _ (subscriptTail _ _ (Value.ref _) _) _ _ _ | show wpAny _ _ (pyIter _) _ _ _ | show wpAny _ _ (call (Value.builtin _) _) _ _ _))); first | (with_reducible refine execs_hideT ?_; intro Q9 tk hQ9 hR9) | (with_reducible refine hQ9 _ ?_; clear hQ9 hR9; (try clear Q9)) | ((with_reducible refine' hR9 _ _ ?hk9 ?_); (case hk9 => exact nofun); clear hQ9 hR9; (try clear Q9)) | (with_reducible refine hQ8 _ _ ?_; clear hQ8; (try clear Q8); (try dsimp only)) | (with_reducible refine hQ8 _ _ _ ?_; clear hQ8; (try clear Q8); (try dsimp only)) | (with_reducible refine hQ7 _ _ ?_; clear hQ7; (try clear Q7); (try dsimp only)) | (k_unfold; (try dsimp only)) | walk_at "my step" | fail "no step")
    with_reducible rename News h₀ _ _ _ => N10
    with_reducible rename Fr h₀ _ _ _ => F10
    with_reducible rename Addr => l12
    have hkl : (0 : Int) ≤ (dl.length : Int) := by (first | lia | omega)
    refine' slice_tmp (s := ⟨_, _, _, _, _⟩) (l := l12) (items := [Value.int 12 tk, .int 9 (tk + 1), .int 19 (tk + 1 + 1), .int 0 (tk + 1 + 1 + 1)].toArray) (zs := [Value.int 12 tk, .int 9 (tk + 1), .int 19 (tk + 1 + 1), .int 0 (tk + 1 + 1 + 1)].drop dl.length) F10 N10 (PySem.IsL.isList (n := 0) (N10 _ List.mem_cons_self).1) (.int _ _) .none ?sq3 ?sq4 ?sq5 ?sq7
    case sq3 => rw [slice_downfrom _ hkl (by simp only [List.length_cons, List.length_nil]; (first | lia | omega)), Int.toNat_natCast]
    case sq5 => with_unfolding_all rfl
    case sq7 => exact Nat.le_of_ble_eq_true rfl
    intro D11 h11 F11 N11 l11
    k_lt l11
    dsimp only
    repeat' ((fail_if_success (with_reducible (first | show wpAny _ _ (eval (Expr.ListComp _ _ _ _) _) _ _ _ | show wpAny _ _ (call (Value.type _) _) _ _ _ | show wpAny _ _ (exec (Stmt.Assign _ (Expr.ListComp _ _ _ _) _) _) _ _ _ | show wpAny _ _ (exec (Stmt.For _ _ _ _ _) _) _ _ _ | show wpAny _ _ (call (Value.ref _) _) _ _ _ | show wpAny _ _ (subscriptTail _ _ (Value.ref _) _) _ _ _ | show wpAny _ _ (pyIter _) _ _ _ | show wpAny _ _ (call (Value.builtin _) _) _ _ _))); first | (with_reducible refine execs_hideT ?_; intro Q9 tk hQ9 hR9) | (with_reducible refine hQ9 _ ?_; clear hQ9 hR9; (try clear Q9)) | ((with_reducible refine' hR9 _ _ ?hk9 ?_); (case hk9 => exact nofun); clear hQ9 hR9; (try clear Q9)) | (with_reducible refine hQ8 _ _ ?_; clear hQ8; (try clear Q8); (try dsimp only)) | (with_reducible refine hQ8 _ _ _ ?_; clear hQ8; (try clear Q8); (try dsimp only)) | (with_reducible refine hQ7 _ _ ?_; clear hQ7; (try clear Q7); (try dsimp only)) | (k_unfold; (try dsimp only)) | walk_at "my step" | fail "no step")
    have hcl : IntsAre ([Value.int 12 tk, .int 9 (tk + 1), .int 19 (tk + 1 + 1), .int 0 (tk + 1 + 1 + 1)].drop dl.length) (([12, 9, 19, 0] : List Int).drop dl.length) := (IntsAre.cons 12 _ (.cons 9 _ (.cons 19 _ (.cons 0 _ .nil)))).drop dl.length
    have hlen4 : (dl ++ ([12, 9, 19, 0] : List Int).drop dl.length).length = 4 := by
      rw [List.length_append, List.length_drop]; simp only [List.length_cons, List.length_nil]; (first | lia | omega)
    refine PyProof.Rows.add_lists F11 N11 (PySem.IsL.isList (n := ys.length) (N11 (D8, listOf ys.toArray ys.length) (by k_mem)).1) (PySem.IsL.isList (n := 0) (N11 _ List.mem_cons_self).1) ?_ (by have h1 := hcl.length; have h2 := hlen4; rw [List.length_append] at h2; rw [hyl, h1]; have := sizeLine_eq; (first | lia | omega))
    intro h13 F13 N13
    have hcells := hJ2.append hcl
    generalize hD13 : h11.objs.size = D13 at N13 ⊢
    have hDg1 : L + 1 < D13 := hD13 ▸ Heap.lt_size (N11 (L + 1, oB) (by k_mem)).1
    have hDg2 : L + 1 + 1 < D13 := hD13 ▸ Heap.lt_size (N11 (L + 1 + 1, oA) (by k_mem)).1
    have hc4 : ∀ z ∈ dl ++ ([12, 9, 19, 0] : List Int).drop dl.length, 0 ≤ z ∧ z < 1000000 := by
      intro z hz
      rcases List.mem_append.mp hz with hz | hz
      · exact hdz z hz
      · have h1 := List.mem_of_mem_drop hz
        simp only [List.mem_cons, List.not_mem_nil, or_false] at h1
        rcases h1 with rfl | rfl | rfl | rfl <;> decide
    obtain ⟨a0, a1, a2, a3, t0, t1, t2, t3, hcv, b0, b1, b2, b3⟩ := four_ints hcells hlen4 hc4
    rw [hcv] at N13
    have N14 := nperm N13 (news' := [(D13, listOf [Value.int a0 t0, .int a1 t1, .int a2 t2, .int a3 t3].toArray 0), (L + 1 + 1, oA), (L + 1, oB)]) (by ((repeat (refine allc (by ((repeat (first | exact List.Mem.head _ | refine List.Mem.tail _ ?_ | assumption | (refine List.mem_append_left _ ?_; assumption) | refine List.mem_append_right _ ?_)); done)) ?_)); first | exact List.forall_mem_nil _ | (intro z9 h9; (repeat (first | exact h9 | refine List.Mem.tail _ ?_ | exact List.mem_append_left _ h9 | refine List.mem_append_right _ ?_)); done)))
    try clear N13
    try clear N11
    try clear N10
    try clear hcells
    try clear hcv
    try clear hcl
    try clear hlen4
    try clear hc4
    try clear hJ2
    try clear hdz
    try clear hyl
    try clear hkl
    try clear hdl
    try clear F11
    try clear l11
    try clear l7
    try clear n8
    try clear hIt
    try clear hvl
    try clear hD13
    repeat' ((fail_if_success (with_reducible (first | show wpAny _ _ (eval (Expr.ListComp _ _ _ _) _) _ _ _ | show wpAny _ _ (call (Value.type _) _) _ _ _ | show wpAny _ _ (exec (Stmt.Assign _ (Expr.ListComp _ _ _ _) _) _) _ _ _ | show wpAny _ _ (exec (Stmt.For _ _ _ _ _) _) _ _ _ | show wpAny _ _ (call (Value.ref _) _) _ _ _ | show wpAny _ _ (subscriptTail _ _ (Value.ref _) _) _ _ _ | show wpAny _ _ (pyIter _) _ _ _ | show wpAny _ _ (call (Value.builtin _) _) _ _ _))); first | (with_reducible refine execs_hideT ?_; intro Q9 tk hQ9 hR9) | (with_reducible refine hQ9 _ ?_; clear hQ9 hR9; (try clear Q9)) | ((with_reducible refine' hR9 _ _ ?hk9 ?_); (case hk9 => exact nofun); clear hQ9 hR9; (try clear Q9)) | (with_reducible refine hQ8 _ _ ?_; clear hQ8; (try clear Q8); (try dsimp only)) | (with_reducible refine hQ8 _ _ _ ?_; clear hQ8; (try clear Q8); (try dsimp only)) | (with_reducible refine hQ7 _ _ ?_; clear hQ7; (try clear Q7); (try dsimp only)) | (k_unfold; (try dsimp only)) | walk_at "my step" | fail "no step")
    with_reducible rename News h₀ _ _ _ => N16
    refine lget (vs := [Value.int a0 t0, .int a1 t1, .int a2 t2, .int a3 t3]) (n := 0) (v := .int a3 t3) N16 (by k_mem) (by decide) (by decide) rfl ?_
    repeat' ((fail_if_success (with_reducible (first | show wpAny _ _ (eval (Expr.ListComp _ _ _ _) _) _ _ _ | show wpAny _ _ (call (Value.type _) _) _ _ _ | show wpAny _ _ (exec (Stmt.Assign _ (Expr.ListComp _ _ _ _) _) _) _ _ _ | show wpAny _ _ (exec (Stmt.For _ _ _ _ _) _) _ _ _ | show wpAny _ _ (call (Value.ref _) _) _ _ _ | show wpAny _ _ (subscriptTail _ _ (Value.ref _) _) _ _ _ | show wpAny _ _ (pyIter _) _ _ _ | show wpAny _ _ (call (Value.builtin _) _) _ _ _))); first | (with_reducible refine execs_hideT ?_; intro Q9 tk hQ9 hR9) | (with_reducible refine hQ9 _ ?_; clear hQ9 hR9; (try clear Q9)) | ((with_reducible refine' hR9 _ _ ?hk9 ?_); (case hk9 => exact nofun); clear hQ9 hR9; (try clear Q9)) | (with_reducible refine hQ8 _ _ ?_; clear hQ8; (try clear Q8); (try dsimp only)) | (with_reducible refine hQ8 _ _ _ ?_; clear hQ8; (try clear Q8); (try dsimp only)) | (with_reducible refine hQ7 _ _ ?_; clear hQ7; (try clear Q7); (try dsimp only)) | (k_unfold; (try dsimp only)) | walk_at "my step" | fail "no step")
    with_reducible rename News h₀ _ _ _ => N17
    obtain ⟨hk1, hk2⟩ := mod4 (a3.fdiv 4)
    obtain ⟨c0, c1, tn0, hnm, hcc⟩ := names_at (t1 := tk) (t2 := tk + 1) (t3 := tk + 1 + 1) (t4 := tk + 1 + 1 + 1) hk1 hk2
    refine tget N17 List.mem_cons_self hk1 (by (first | lia | omega)) hnm ?_
    repeat' ((fail_if_success (with_reducible (first | show wpAny _ _ (eval (Expr.ListComp _ _ _ _) _) _ _ _ | show wpAny _ _ (call (Value.type _) _) _ _ _ | show wpAny _ _ (exec (Stmt.Assign _ (Expr.ListComp _ _ _ _) _) _) _ _ _ | show wpAny _ _ (exec (Stmt.For _ _ _ _ _) _) _ _ _ | show wpAny _ _ (call (Value.ref _) _) _ _ _ | show wpAny _ _ (subscriptTail _ _ (Value.ref _) _) _ _ _ | show wpAny _ _ (pyIter _) _ _ _ | show wpAny _ _ (call (Value.builtin _) _) _ _ _ | show wpAny _ _ (storeName _ _ _) _ _ _ | show wpAny _ _ (newTuple _) _ _ _))); first | (with_reducible refine execs_hideT ?_; intro Q9 tk hQ9 hR9) | (with_reducible refine hQ9 _ ?_; clear hQ9 hR9; (try clear Q9)) | ((with_reducible refine' hR9 _ _ ?hk9 ?_); (case hk9 => exact nofun); clear hQ9 hR9; (try clear Q9)) | (with_reducible refine hQ8 _ _ ?_; clear hQ8; (try clear Q8); (try dsimp only)) | (with_reducible refine hQ8 _ _ _ ?_; clear hQ8; (try clear Q8); (try dsimp only)) | (with_reducible refine hQ7 _ _ ?_; clear hQ7; (try clear Q7); (try dsimp only)) | (k_unfold; (try dsimp only)) | walk_at "my step" | fail "no step")
    with_reducible rename Fr h₀ _ _ _ => F17
    have N18 := nperm N17 (news' := [(L + 1, oB), (D13, listOf [Value.int a0 t0, .int a1 t1, .int a2 t2, .int a3 t3].toArray 0), (L + 1 + 1, oA)]) (by ((repeat (refine allc (by ((repeat (first | exact List.Mem.head _ | refine List.Mem.tail _ ?_ | assumption | (refine List.mem_append_left _ ?_; assumption) | refine List.mem_append_right _ ?_)); done)) ?_)); first | exact List.forall_mem_nil _ | (intro z9 h9; (repeat (first | exact h9 | refine List.Mem.tail _ ?_ | exact List.mem_append_left _ h9 | refine List.mem_append_right _ ?_)); done)))
    refine' storeX_C (c := L + 1) (o := oB) F17 N18 ?c1 (UpdF.head ?c2) dB6 ?_ ?c3 ?c4
    case c1 => rfl
    case c2 =>
      simp only [List.forall_mem_cons]
      exact ⟨Nat.ne_of_gt hDg1, Nat.succ_ne_self _, fun _ h => nomatch h⟩
    case c3 => rfl
    case c4 => rfl
    intro h19 oN F19 N19 dN
    clear N17 N18 F17 dB6
    repeat' ((fail_if_success (with_reducible (first | show wpAny _ _ (eval (Expr.ListComp _ _ _ _) _) _ _ _ | show wpAny _ _ (call (Value.type _) _) _ _ _ | show wpAny _ _ (exec (Stmt.Assign _ (Expr.ListComp _ _ _ _) _) _) _ _ _ | show wpAny _ _ (exec (Stmt.For _ _ _ _ _) _) _ _ _ | show wpAny _ _ (call (Value.ref _) _) _ _ _ | show wpAny _ _ (subscriptTail _ _ (Value.ref _) _) _ _ _ | show wpAny _ _ (pyIter _) _ _ _ | show wpAny _ _ (call (Value.builtin _) _) _ _ _ | show wpAny _ _ (storeName _ _ _) _ _ _ | show wpAny _ _ (newTuple _) _ _ _ | show wpAny _ _ (execs (_ :: _) _) _ _ _))); first | (with_reducible refine execs_hideT ?_; intro Q9 tk hQ9 hR9) | (with_reducible refine hQ9 _ ?_; clear hQ9 hR9; (try clear Q9)) | ((with_reducible refine' hR9 _ _ ?hk9 ?_); (case hk9 => exact nofun); clear hQ9 hR9; (try clear Q9)) | (with_reducible refine hQ8 _ _ ?_; clear hQ8; (try clear Q8); (try dsimp only)) | (with_reducible refine hQ8 _ _ _ ?_; clear hQ8; (try clear Q8); (try dsimp only)) | (with_reducible refine hQ7 _ _ ?_; clear hQ7; (try clear Q7); (try dsimp only)) | (k_unfold; (try dsimp only)) | walk_at "my step" | fail "no step")
    iterate 2 (first | (walk1; (try dsimp only)) | skip)
    refine Assign_Tuple ?_
    repeat' ((fail_if_success (with_reducible (first | show wpAny _ _ (eval (Expr.ListComp _ _ _ _) _) _ _ _ | show wpAny _ _ (call (Value.type _) _) _ _ _ | show wpAny _ _ (exec (Stmt.Assign _ (Expr.ListComp _ _ _ _) _) _) _ _ _ | show wpAny _ _ (exec (Stmt.For _ _ _ _ _) _) _ _ _ | show wpAny _ _ (call (Value.ref _) _) _ _ _ | show wpAny _ _ (subscriptTail _ _ (Value.ref _) _) _ _ _ | show wpAny _ _ (pyIter _) _ _ _ | show wpAny _ _ (call (Value.builtin _) _) _ _ _ | show wpAny _ _ (storeName _ _ _) _ _ _ | show wpAny _ _ (execs (_ :: _) _) _ _ _))); first | (with_reducible refine execs_hideT ?_; intro Q9 tk hQ9 hR9) | (with_reducible refine hQ9 _ ?_; clear hQ9 hR9; (try clear Q9)) | ((with_reducible refine' hR9 _ _ ?hk9 ?_); (case hk9 => exact nofun); clear hQ9 hR9; (try clear Q9)) | (with_reducible refine hQ8 _ _ ?_; clear hQ8; (try clear Q8); (try dsimp only)) | (with_reducible refine hQ8 _ _ _ ?_; clear hQ8; (try clear Q8); (try dsimp only)) | (with_reducible refine hQ7 _ _ ?_; clear hQ7; (try clear Q7); (try dsimp only)) | (k_unfold; (try dsimp only)) | walk_at "my step" | fail "no step")
    with_reducible rename News h₀ _ _ _ => N20
    refine lget (vs := [Value.int a0 t0, .int a1 t1, .int a2 t2, .int a3 t3]) (n := 0) (v := .int a3 t3) N20 (by k_mem) (by decide) (by decide) rfl ?_
    repeat' ((fail_if_success (with_reducible (first | show wpAny _ _ (eval (Expr.ListComp _ _ _ _) _) _ _ _ | show wpAny _ _ (call (Value.type _) _) _ _ _ | show wpAny _ _ (exec (Stmt.Assign _ (Expr.ListComp _ _ _ _) _) _) _ _ _ | show wpAny _ _ (exec (Stmt.For _ _ _ _ _) _) _ _ _ | show wpAny _ _ (call (Value.ref _) _) _ _ _ | show wpAny _ _ (subscriptTail _ _ (Value.ref _) _) _ _ _ | show wpAny _ _ (pyIter _) _ _ _ | show wpAny _ _ (call (Value.builtin _) _) _ _ _ | show wpAny _ _ (storeName _ _ _) _ _ _ | show wpAny _ _ (execs (_ :: _) _) _ _ _))); first | (with_reducible refine execs_hideT ?_; intro Q9 tk hQ9 hR9) | (with_reducible refine hQ9 _ ?_; clear hQ9 hR9; (try clear Q9)) | ((with_reducible refine' hR9 _ _ ?hk9 ?_); (case hk9 => exact nofun); clear hQ9 hR9; (try clear Q9)) | (with_reducible refine hQ8 _ _ ?_; clear hQ8; (try clear Q8); (try dsimp only)) | (with_reducible refine hQ8 _ _ _ ?_; clear hQ8; (try clear Q8); (try dsimp only)) | (with_reducible refine hQ7 _ _ ?_; clear hQ7; (try clear Q7); (try dsimp only)) | (k_unfold; (try dsimp only)) | walk_at "my step" | fail "no step")
    with_reducible rename News h₀ _ _ _ => N21
    rename_i T1 _ _ T2 _ _ T3 _ _ T4 _ _ T5 _ F21 _
    obtain ⟨hq1, hq2⟩ := mod4 a3
    obtain ⟨r, P, Q, top, tP, tQ, tT, hr, hrm, hpk⟩ := price_at (k := a3.fmod 4) (T1 := T1) (T2 := T2) (T3 := T3) (T4 := T4) (t1 := tk) (t2 := tk + 1) (t3 := tk + 1 + 1) (t4 := tk + 1 + 1 + 1) (t5 := tk + 1 + 1 + 1 + 1) (t6 := tk + 1 + 1 + 1 + 1 + 1) (t7 := tk + 1 + 1 + 1 + 1 + 1 + 1) (t8 := tk + 1 + 1 + 1 + 1 + 1 + 1 + 1) (t9 := tk + 1 + 1 + 1 + 1 + 1 + 1 + 1 + 1) (t10 := tk + 1 + 1 + 1 + 1 + 1 + 1 + 1 + 1 + 1) (t11 := tk + 1 + 1 + 1 + 1 + 1 + 1 + 1 + 1 + 1 + 1) (t12 := tk + 1 + 1 + 1 + 1 + 1 + 1 + 1 + 1 + 1 + 1 + 1) hq1 hq2
    refine tget N21 List.mem_cons_self hq1 (by (first | lia | omega)) hr ?_
    have hTT : IsTup _ r #[.int P tP, .int Q tQ, .int (top : Int) tT] := ⟨_, (N21 (r, tupO [.int P tP, .int Q tQ, .int (top : Int) tT]) (mem_sub hrm (by ((repeat (refine allc (by ((repeat (first | exact List.Mem.head _ | refine List.Mem.tail _ ?_ | assumption | (refine List.mem_append_left _ ?_; assumption) | refine List.mem_append_right _ ?_)); done)) ?_)); first | exact List.forall_mem_nil _ | (intro z9 h9; (repeat (first | exact h9 | refine List.Mem.tail _ ?_ | exact List.mem_append_left _ h9 | refine List.mem_append_right _ ?_)); done))))).1, rfl, _, rfl⟩
    clear hr hrm
    have N22 := nperm N21 (news' := [(L + 1, oN), (D13, listOf [Value.int a0 t0, .int a1 t1, .int a2 t2, .int a3 t3].toArray 0), (L + 1 + 1, oA)]) (by ((repeat (refine allc (by ((repeat (first | exact List.Mem.head _ | refine List.Mem.tail _ ?_ | assumption | (refine List.mem_append_left _ ?_; assumption) | refine List.mem_append_right _ ?_)); done)) ?_)); first | exact List.forall_mem_nil _ | (intro z9 h9; (repeat (first | exact h9 | refine List.Mem.tail _ ?_ | exact List.mem_append_left _ h9 | refine List.mem_append_right _ ?_)); done)))
    clear N21
    repeat' ((fail_if_success (with_reducible (first | show wpAny _ _ (eval (Expr.ListComp _ _ _ _) _) _ _ _ | show wpAny _ _ (call (Value.type _) _) _ _ _ | show wpAny _ _ (exec (Stmt.Assign _ (Expr.ListComp _ _ _ _) _) _) _ _ _ | show wpAny _ _ (exec (Stmt.For _ _ _ _ _) _) _ _ _ | show wpAny _ _ (call (Value.ref _) _) _ _ _ | show wpAny _ _ (subscriptTail _ _ (Value.ref _) _) _ _ _ | show wpAny _ _ (pyIter _) _ _ _ | show wpAny _ _ (call (Value.builtin _) _) _ _ _))); first | (with_reducible refine execs_hideT ?_; intro Q9 tk hQ9 hR9) | (with_reducible refine hQ9 _ ?_; clear hQ9 hR9; (try clear Q9)) | ((with_reducible refine' hR9 _ _ ?hk9 ?_); (case hk9 => exact nofun); clear hQ9 hR9; (try clear Q9)) | (with_reducible refine hQ8 _ _ ?_; clear hQ8; (try clear Q8); (try dsimp only)) | (with_reducible refine hQ8 _ _ _ ?_; clear hQ8; (try clear Q8); (try dsimp only)) | (with_reducible refine hQ7 _ _ ?_; clear hQ7; (try clear Q7); (try dsimp only)) | (k_unfold; (try dsimp only)) | walk_at "my step" | fail "no step")
    with_reducible rename News h₀ _ _ _ => N23
    with_reducible rename Fr h₀ _ _ _ => F23
    try clear hTT
    refine' Assign_ListComp_any F23 ?k1 ?k2 ?k3 ?k4 ?k5 ?k6 ?k7 ?k8 ?_
    case k1 => rfl
    case k2 => with_unfolding_all rfl
    case k3 => with_unfolding_all rfl
    case k4 => decide
    case k5 => rfl
    case k6 => decide
    case k7 => rfl
    case k8 => rfl
    repeat' ((fail_if_success (with_reducible (first | show wpAny _ _ (pyIter _) _ _ _ | show wpAny _ _ (subscriptTail _ _ (Value.ref _) _) _ _ _ | show wpAny _ _ (call (Value.type _) _) _ _ _))); first | (with_reducible refine execs_hideT ?_; intro Q9 tk hQ9 hR9) | (with_reducible refine hQ9 _ ?_; clear hQ9 hR9; (try clear Q9)) | ((with_reducible refine' hR9 _ _ ?hk9 ?_); (case hk9 => exact nofun); clear hQ9 hR9; (try clear Q9)) | (with_reducible refine hQ8 _ _ ?_; clear hQ8; (try clear Q8); (try dsimp only)) | (with_reducible refine hQ8 _ _ _ ?_; clear hQ8; (try clear Q8); (try dsimp only)) | (with_reducible refine hQ7 _ _ ?_; clear hQ7; (try clear Q7); (try dsimp only)) | (k_unfold; (try dsimp only)) | walk_at "my step" | fail "no step")
    refine' kmk_slice_lit (s := ⟨_, _, _, _, _⟩) (l := D13) (its := [Value.int a0 t0, .int a1 t1, .int a2 t2, .int a3 t3].toArray) (zs := [Value.int a0 t0, .int a1 t1, .int a2 t2]) F23 N23 (PySem.IsL.isList (n := 0) (N23 (D13, _) (by k_mem)).1) .none (.int _ _) ?sr3 ?sr4 ?sr5 ?sr6 ?sr7
    case sr3 => rw [slice_upto _ (by decide)]; rfl
    case sr5 => with_unfolding_all rfl
    case sr6 => intro _; with_unfolding_all rfl
    case sr7 => exact Nat.le_of_ble_eq_true rfl
    intro D24 h24 F24 N24 l24'
    k_lt l24'
    dsimp only
    repeat' ((fail_if_success (with_reducible (first | show wpAny _ _ (pyIter _) _ _ _ | show wpAny _ _ (subscriptTail _ _ (Value.ref _) _) _ _ _ | show wpAny _ _ (call (Value.type _) _) _ _ _))); first | (with_reducible refine execs_hideT ?_; intro Q9 tk hQ9 hR9) | (with_reducible refine hQ9 _ ?_; clear hQ9 hR9; (try clear Q9)) | ((with_reducible refine' hR9 _ _ ?hk9 ?_); (case hk9 => exact nofun); clear hQ9 hR9; (try clear Q9)) | (with_reducible refine hQ8 _ _ ?_; clear hQ8; (try clear Q8); (try dsimp only)) | (with_reducible refine hQ8 _ _ _ ?_; clear hQ8; (try clear Q8); (try dsimp only)) | (with_reducible refine hQ7 _ _ ?_; clear hQ7; (try clear Q7); (try dsimp only)) | (k_unfold; (try dsimp only)) | walk_at "my step" | fail "no step")
    refine' compAt_list _ ?k1 ?k2 ?k3 F24 N24 (its := [Value.int a0 t0, .int a1 t1, .int a2 t2].toArray) (k := 0) ?k5 ?k6 ?k7 (cstep0 (J := WordsJ c0 c1) ?k8) (cfin0 ?k9)
    case k1 => rfl
    case k2 => rfl
    case k3 => rfl
    case k5 => k_mem
    case k6 => exact Nat.le_of_ble_eq_true rfl
    case k7 => exact ⟨rfl, [], rfl, .nil, fun _ h => nomatch h⟩
    case k8 =>
      intro i ys' own C oC D m₂ h₁ tk₁ E' hi hV hC hJ FF NN
      refine hideP ?_
      intro P9 kP9
      obtain ⟨v, hv, hx⟩ := hV
      obtain ⟨z, tz, rfl, hz0, hz1⟩ : ∃ z tz, v = .int z tz ∧ 0 ≤ z ∧ z < 1000000 := by
        have hi3 : i = 0 ∨ i = 1 ∨ i = 2 := by
          have : i < 3 := hi
          (first | lia | omega)
        rcases hi3 with rfl | rfl | rfl
        · exact ⟨a0, t0, (Option.some.inj hv).symm, b0.1, b0.2⟩
        · exact ⟨a1, t1, (Option.some.inj hv).symm, b1.1, b1.2⟩
        · exact ⟨a2, t2, (Option.some.inj hv).symm, b2.1, b2.2⟩
      refine kP9 ?_
      clear kP9 P9
      refine tests_nil ?_
      dsimp only [if_true]
      dsimp only [List.cons_append, List.nil_append] at NN ⊢
      repeat' ((fail_if_success (with_reducible (first | show wpAny _ _ (pyIter _) _ _ _ | show wpAny _ _ (call (Value.ref _) _) _ _ _))); first | (with_reducible refine execs_hideT ?_; intro Q9 tk hQ9 hR9) | (with_reducible refine hQ9 _ ?_; clear hQ9 hR9; (try clear Q9)) | ((with_reducible refine' hR9 _ _ ?hk9 ?_); (case hk9 => exact nofun); clear hQ9 hR9; (try clear Q9)) | (with_reducible refine hQ8 _ _ ?_; clear hQ8; (try clear Q8); (try dsimp only)) | (with_reducible refine hQ8 _ _ _ ?_; clear hQ8; (try clear Q8); (try dsimp only)) | (with_reducible refine hQ7 _ _ ?_; clear hQ7; (try clear Q7); (try dsimp only)) | (k_unfold; (try dsimp only)) | walk_at "my step" | fail "no step")
      refine' c_word (c0 := c0) (c1 := c1) ?k1 ?k2 ?k3 ?k4 ?k5 ?kf ?k6 ?k7 ?k8 ?x1 ?x2 ?x3 ?_
      case k1 => exact K0
      case k2 => exact FF
      case k3 => exact KX
      case k4 => exact NN
      case k5 => exact T
      case kf => exact rfl
      case k6 => exact rfl
      case k7 => decide
      case k8 => decide
      case x1 => rfl
      case x2 => exact hz0
      case x3 => exact hz1
      intro x t9 h9 tk9 F9 N9 hx1 hx4 hxl
      refine PEnd.mk F9 N9 ?_
      obtain ⟨ws, hl, hs, hw⟩ := hJ
      exact ⟨ws ++ [x], by rw [List.length_append, hl]; rfl, strs_snoc hs, fun y hy => (List.mem_append.mp hy).elim (hw y) fun h => by rw [List.mem_singleton.mp h]; exact ⟨hx1, hx4, hxl⟩⟩
    case k9 =>
      intro g ys hJ D25 h25 tk25 F25 N25 n25
      dsimp only
      obtain ⟨ws, hl, hs, hw⟩ := hJ
      obtain ⟨w0, w1, w2, s0, s1, s2, rfl, rfl⟩ := three_strs hs hl
      have hw0 := hw w0 (by simp)
      have hw1 := hw w1 (by simp)
      have hw2 := hw w2 (by simp)
      clear hs hw hl
      repeat' ((fail_if_success (with_reducible (first | show wpAny _ _ (eval (Expr.ListComp _ _ _ _) _) _ _ _ | show wpAny _ _ (call (Value.type _) _) _ _ _ | show wpAny _ _ (exec (Stmt.Assign _ (Expr.ListComp _ _ _ _) _) _) _ _ _ | show wpAny _ _ (exec (Stmt.For _ _ _ _ _) _) _ _ _ | show wpAny _ _ (call (Value.ref _) _) _ _ _ | show wpAny _ _ (subscriptTail _ _ (Value.ref _) _) _ _ _ | show wpAny _ _ (pyIter _) _ _ _ | show wpAny _ _ (call (Value.builtin _) _) _ _ _))); first | (with_reducible refine execs_hideT ?_; intro Q9 tk hQ9 hR9) | (with_reducible refine hQ9 _ ?_; clear hQ9 hR9; (try clear Q9)) | ((with_reducible refine' hR9 _ _ ?hk9 ?_); (case hk9 => exact nofun); clear hQ9 hR9; (try clear Q9)) | (with_reducible refine hQ8 _ _ ?_; clear hQ8; (try clear Q8); (try dsimp only)) | (with_reducible refine hQ8 _ _ _ ?_; clear hQ8; (try clear Q8); (try dsimp only)) | (with_reducible refine hQ7 _ _ ?_; clear hQ7; (try clear Q7); (try dsimp only)) | (k_unfold; (try dsimp only)) | walk_at "my step" | fail "no step")
      obtain ⟨J, μ, C, K, SW, SC, hJK, hKb⟩ := plain_law hcc hpk hw0 hw1 hw2
      have TO := text_ok hcc hw0 hw1 hw2
      have hc128 := two_small hcc
      have htop : top ≤ 100 := price_top hpk
      rename_i D26 _ F26 N26 l26
      refine' c_walked (wa := D25) (pa := D26) (w0 := w0) (w1 := w1) (w2 := w2) (s0 := s0) (s1 := s1) (s2 := s2) (wn := 3) (p := P) (q := Q) (T0 := (top : Int)) (tp := tP) (tq := tQ) (J := J) (μ := μ) (c0 := c0) (c1 := c1) ?k1 ?k2 ?k3 ?k4 ?k5 ?kf ?k6 ?k7 ?k8 ?x1 ?x2 ?x3 ?x4 ?x5 ?x6 ?x7 ?x8 ?x9 ?x10 ?_
      case k1 => exact K0
      case k2 => exact F26
      case k3 => exact KX
      case k4 => exact N26
      case k5 => exact T
      case kf => exact rfl
      case k6 => exact rfl
      case k7 => decide
      case k8 => decide
      case x1 => k_mem
      case x2 => k_mem
      case x3 => exact l26.1
      case x4 => exact hc128.1
      case x5 => exact hc128.2.1
      case x6 => exact hw0.2.1
      case x7 => exact hw1.2.1
      case x8 => exact hw2.2.1
      case x9 => exact TO
      case x10 => exact SW
      intro ta tv tn9 nt h27 tk27 hJ9 htv hta F27 N27
      have htn := hJK _ hJ9
      subst htn
      clear hJ9 SW TO hJK N26 F26
      repeat' ((fail_if_success (with_reducible (first | show wpAny _ _ (eval (Expr.ListComp _ _ _ _) _) _ _ _ | show wpAny _ _ (call (Value.type _) _) _ _ _ | show wpAny _ _ (exec (Stmt.Assign _ (Expr.ListComp _ _ _ _) _) _) _ _ _ | show wpAny _ _ (exec (Stmt.For _ _ _ _ _) _) _ _ _ | show wpAny _ _ (call (Value.ref _) _) _ _ _ | show wpAny _ _ (subscriptTail _ _ (Value.ref _) _) _ _ _ | show wpAny _ _ (pyIter _) _ _ _ | show wpAny _ _ (call (Value.builtin _) _) _ _ _))); first | (with_reducible refine execs_hideT ?_; intro Q9 tk hQ9 hR9) | (with_reducible refine hQ9 _ ?_; clear hQ9 hR9; (try clear Q9)) | ((with_reducible refine' hR9 _ _ ?hk9 ?_); (case hk9 => exact nofun); clear hQ9 hR9; (try clear Q9)) | (with_reducible refine hQ8 _ _ ?_; clear hQ8; (try clear Q8); (try dsimp only)) | (with_reducible refine hQ8 _ _ _ ?_; clear hQ8; (try clear Q8); (try dsimp only)) | (with_reducible refine hQ7 _ _ ?_; clear hQ7; (try clear Q7); (try dsimp only)) | (k_unfold; (try dsimp only)) | walk_at "my step" | fail "no step")
      with_reducible rename News h₀ _ _ _ => N28
      with_reducible rename Fr h₀ _ _ _ => F28
      refine' c_least (wa := D25) (w0 := w0) (w1 := w1) (w2 := w2) (s0 := s0) (s1 := s1) (s2 := s2) (wn := 3) ?k1 ?k2 ?k3 ?k4 ?k5 ?kf ?k6 ?k7 ?k8 ?x1 ?x2 ?x3 ?x4 ?_
      case k1 => exact K0
      case k2 => exact F28
      case k3 => exact KX
      case k4 => exact N28
      case k5 => exact T
      case kf => exact rfl
      case k6 => exact rfl
      case k7 => decide
      case k8 => decide
      case x1 => k_mem
      case x2 => exact hw0.2.1
      case x3 => exact hw1.2.1
      case x4 => exact hw2.2.1
      intro D29 lv h29 tk29 F29 N29 hD29 hlv
      clear F28 N28
      repeat' ((fail_if_success (with_reducible (first | show wpAny _ _ (eval (Expr.ListComp _ _ _ _) _) _ _ _ | show wpAny _ _ (call (Value.type _) _) _ _ _ | show wpAny _ _ (exec (Stmt.Assign _ (Expr.ListComp _ _ _ _) _) _) _ _ _ | show wpAny _ _ (exec (Stmt.For _ _ _ _ _) _) _ _ _ | show wpAny _ _ (call (Value.ref _) _) _ _ _ | show wpAny _ _ (subscriptTail _ _ (Value.ref _) _) _ _ _ | show wpAny _ _ (pyIter _) _ _ _ | show wpAny _ _ (call (Value.builtin _) _) _ _ _))); first | (with_reducible refine execs_hideT ?_; intro Q9 tk hQ9 hR9) | (with_reducible refine hQ9 _ ?_; clear hQ9 hR9; (try clear Q9)) | ((with_reducible refine' hR9 _ _ ?hk9 ?_); (case hk9 => exact nofun); clear hQ9 hR9; (try clear Q9)) | (with_reducible refine hQ8 _ _ ?_; clear hQ8; (try clear Q8); (try dsimp only)) | (with_reducible refine hQ8 _ _ _ ?_; clear hQ8; (try clear Q8); (try dsimp only)) | (with_reducible refine hQ7 _ _ ?_; clear hQ7; (try clear Q7); (try dsimp only)) | (k_unfold; (try dsimp only)) | walk_at "my step" | fail "no step")
      with_reducible rename News h₀ _ _ _ => N30
      with_reducible rename Fr h₀ _ _ _ => F30
      with_reducible rename Addr => D31
      refine' c_counted (c0 := c0) (c1 := c1) (wa := D29) (pa := D31) (vs := lv) (ws := leastUpto [w0, w1, w2] 3) (wn := lv.length) (pn := 0) (top := top) (p := P) (q := Q) (C := C) (K := K) (tp := tP) (tq := tQ) ?k1 ?k2 ?k3 ?k4 ?k5 ?kf ?k6 ?k7 ?k8 ?x1 ?x2 ?x3 ?x4 ?x5 ?x6 ?x7 ?x8 ?x9 ?x10 ?x11 ?_
      case k1 => exact K0
      case k2 => exact F30
      case k3 => exact KX
      case k4 => exact N30
      case k5 => exact T
      case kf => exact rfl
      case k6 => exact rfl
      case k7 => decide
      case k8 => decide
      case x1 => k_mem
      case x2 => k_mem
      case x3 => exact hlv
      case x4 => exact least_len _ 3
      case x5 =>
        exact fun x hx => allc (p := fun x : Str => 1 ≤ x.cps.size ∧ x.cps.size ≤ 4 ∧ ∀ c ∈ x.cps.toList, c = c0 ∨ c = c1) hw0 (allc hw1 (allc hw2 (List.forall_mem_nil _))) x (least_mem hx)
      case x6 => exact hc128.2.2.2.1
      case x7 => exact hc128.2.2.2.2
      case x8 => rfl
      case x9 => exact hc128.2.2.1
      case x10 => exact SC
      case x11 => exact htop
      intro ra rv rn h32 tk32 F32 N32 hra hrv
      clear F30 N30 SC
      repeat' ((fail_if_success (with_reducible (first | show wpAny _ _ (eval (Expr.ListComp _ _ _ _) _) _ _ _ | show wpAny _ _ (call (Value.type _) _) _ _ _ | show wpAny _ _ (exec (Stmt.Assign _ (Expr.ListComp _ _ _ _) _) _) _ _ _ | show wpAny _ _ (exec (Stmt.For _ _ _ _ _) _) _ _ _ | show wpAny _ _ (call (Value.ref _) _) _ _ _ | show wpAny _ _ (subscriptTail _ _ (Value.ref _) _) _ _ _ | show wpAny _ _ (pyIter _) _ _ _ | show wpAny _ _ (call (Value.builtin _) _) _ _ _ | show wpAny _ _ (storeName _ _ _) _ _ _))); first | (with_reducible refine execs_hideT ?_; intro Q9 tk hQ9 hR9) | (with_reducible refine hQ9 _ ?_; clear hQ9 hR9; (try clear Q9)) | ((with_reducible refine' hR9 _ _ ?hk9 ?_); (case hk9 => exact nofun); clear hQ9 hR9; (try clear Q9)) | (with_reducible refine hQ8 _ _ ?_; clear hQ8; (try clear Q8); (try dsimp only)) | (with_reducible refine hQ8 _ _ _ ?_; clear hQ8; (try clear Q8); (try dsimp only)) | (with_reducible refine hQ7 _ _ ?_; clear hQ7; (try clear Q7); (try dsimp only)) | (k_unfold; (try dsimp only)) | walk_at "my step" | fail "no step")
      have hne1 : ra ≠ L + 1 + 1 := Ne.symm (hra (L + 1 + 1, oA) (by ((repeat (first | exact List.Mem.head _ | refine List.Mem.tail _ ?_ | assumption | (refine List.mem_append_left _ ?_; assumption) | refine List.mem_append_right _ ?_)); done)))
      have hne2 : ta ≠ L + 1 + 1 := Ne.symm (hta (L + 1 + 1, oA) (by ((repeat (first | exact List.Mem.head _ | refine List.Mem.tail _ ?_ | assumption | (refine List.mem_append_left _ ?_; assumption) | refine List.mem_append_right _ ?_)); done)))
      have N33 := nperm N32 (news' := [(L + 1 + 1, oA), (ra, listOf rv.toArray rn), (ta, listOf tv.toArray nt), (L + 1, oN)]) (by ((repeat (refine allc (by ((repeat (first | exact List.Mem.head _ | refine List.Mem.tail _ ?_ | assumption | (refine List.mem_append_left _ ?_; assumption) | refine List.mem_append_right _ ?_)); done)) ?_)); first | exact List.forall_mem_nil _ | (intro z9 h9; (repeat (first | exact h9 | refine List.Mem.tail _ ?_ | exact List.mem_append_left _ h9 | refine List.mem_append_right _ ?_)); done)))
      clear N32
      refine' storeX_C (c := L + 1 + 1) (o := oA) F32 N33 ?c1 (UpdF.head ?c2) dA6 ?_ ?c3 ?c4
      case c1 => rfl
      case c2 =>
        simp only [List.forall_mem_cons]
        exact ⟨hne1, hne2, Ne.symm (Nat.succ_ne_self _), fun _ h => nomatch h⟩
      case c3 => rfl
      case c4 => rfl
      intro h34 oC F34 N34 dC
      clear N33 F32 dA6
      repeat' ((fail_if_success (with_reducible (first | show wpAny _ _ (eval (Expr.ListComp _ _ _ _) _) _ _ _ | show wpAny _ _ (call (Value.type _) _) _ _ _ | show wpAny _ _ (exec (Stmt.Assign _ (Expr.ListComp _ _ _ _) _) _) _ _ _ | show wpAny _ _ (exec (Stmt.For _ _ _ _ _) _) _ _ _ | show wpAny _ _ (call (Value.ref _) _) _ _ _ | show wpAny _ _ (subscriptTail _ _ (Value.ref _) _) _ _ _ | show wpAny _ _ (pyIter _) _ _ _ | show wpAny _ _ (call (Value.builtin _) _) _ _ _ | show wpAny _ _ (storeName _ _ _) _ _ _))); first | (with_reducible refine execs_hideT ?_; intro Q9 tk hQ9 hR9) | (with_reducible refine hQ9 _ ?_; clear hQ9 hR9; (try clear Q9)) | ((with_reducible refine' hR9 _ _ ?hk9 ?_); (case hk9 => exact nofun); clear hQ9 hR9; (try clear Q9)) | (with_reducible refine hQ8 _ _ ?_; clear hQ8; (try clear Q8); (try dsimp only)) | (with_reducible refine hQ8 _ _ _ ?_; clear hQ8; (try clear Q8); (try dsimp only)) | (with_reducible refine hQ7 _ _ ?_; clear hQ7; (try clear Q7); (try dsimp only)) | (k_unfold; (try dsimp only)) | walk_at "my step" | fail "no step")
      with_reducible rename News h₀ _ _ _ => N35
      with_reducible rename Fr h₀ _ _ _ => F35
      refine' ListComp_two F35 ?j1 ?j2 ?j3 ?j4 ?j5 ?j6 ?j7 ?_
      case j1 => with_unfolding_all rfl
      case j2 => decide
      case j3 => rfl
      case j4 => decide
      case j5 => rfl
      case j6 => rfl
      case j7 => decide
      repeat' ((fail_if_success (with_reducible (first | show wpAny _ _ (eval (Expr.ListComp _ _ _ _) _) _ _ _ | show wpAny _ _ (exec (Stmt.Assign _ (Expr.ListComp _ _ _ _) _) _) _ _ _ | show wpAny _ _ (exec (Stmt.For _ _ _ _ _) _) _ _ _ | show wpAny _ _ (call (Value.ref _) _) _ _ _ | show wpAny _ _ (subscriptTail _ _ (Value.ref _) _) _ _ _ | show wpAny _ _ (pyIter _) _ _ _ | show wpAny _ _ (call (Value.builtin _) _) _ _ _ | show wpAny _ _ (storeName _ _ _) _ _ _))); first | (with_reducible refine execs_hideT ?_; intro Q9 tk hQ9 hR9) | (with_reducible refine hQ9 _ ?_; clear hQ9 hR9; (try clear Q9)) | ((with_reducible refine' hR9 _ _ ?hk9 ?_); (case hk9 => exact nofun); clear hQ9 hR9; (try clear Q9)) | (with_reducible refine hQ8 _ _ ?_; clear hQ8; (try clear Q8); (try dsimp only)) | (with_reducible refine hQ8 _ _ _ ?_; clear hQ8; (try clear Q8); (try dsimp only)) | (with_reducible refine hQ7 _ _ ?_; clear hQ7; (try clear Q7); (try dsimp only)) | (k_unfold; (try dsimp only)) | walk_at "my step" | fail "no step")
      rename_i hR36 F36 N36 _
      refine' comp2At_range (n0 := top + 1) (fun i => (K i).toNat) (fun i ys => IntsAre ys (toldUpto K i)) (fun i j ys => IntsAre ys (toldUpto K i ++ List.replicate j (i : Int))) ?g1 F36 N36 hR36 ?g2 ?g3 ?g4 ?g5 ?g6 ?g7 ?g8 ?g9 ?g10 ?g11
      case g1 => rfl
      case g2 => exact small_one (by decide) (by decide) (by (first | lia | omega)) (by (first | lia | omega))
      case g3 => rw [rangeSize_nat]; (first | lia | omega)
      case g4 => exact .nil
      case g5 =>
        intro i hi
        have := hKb i (by (first | lia | omega))
        (first | lia | omega)
      case g6 => intro i ys hi h; simpa using h
      case g7 => intro i ys hi h; exact h
      case g8 =>
        intro i j ys hi hj h
        have h1 := h.length
        have h2 := told_len hKb (i := i) (by (first | lia | omega))
        have h3 := hKb i (by (first | lia | omega))
        rw [List.length_append, List.length_replicate] at h1
        have := sizeLine_eq
        have h4 : 4000 * i ≤ 4000 * 100 := Nat.mul_le_mul_left _ (by (first | lia | omega))
        (first | lia | omega)
      case g9 =>
        intro g i ys' own C' oC' D m₂ h₁ tk₁ E' hi hx hC hJ FF NN
        obtain ⟨tx, hx⟩ := hx
        obtain ⟨tv', htv'⟩ := ints_range hrv hi
        have hKi := hKb i (by (first | lia | omega))
        rw [← Int.toNat_of_nonneg hKi.1] at htv'
        dsimp only [List.cons_append, List.nil_append] at NN ⊢
        repeat' ((fail_if_success (with_reducible (first | show wpAny _ _ (pyIter _) _ _ _ | show wpAny _ _ (call (Value.ref _) _) _ _ _ | show wpAny _ _ (subscriptTail _ _ (Value.ref _) _) _ _ _ | show wpAny _ _ (call (Value.type _) _) _ _ _))); first | (with_reducible refine execs_hideT ?_; intro Q9 tk hQ9 hR9) | (with_reducible refine hQ9 _ ?_; clear hQ9 hR9; (try clear Q9)) | ((with_reducible refine' hR9 _ _ ?hk9 ?_); (case hk9 => exact nofun); clear hQ9 hR9; (try clear Q9)) | (with_reducible refine hQ8 _ _ ?_; clear hQ8; (try clear Q8); (try dsimp only)) | (with_reducible refine hQ8 _ _ _ ?_; clear hQ8; (try clear Q8); (try dsimp only)) | (with_reducible refine hQ7 _ _ ?_; clear hQ7; (try clear Q7); (try dsimp only)) | (k_unfold; (try dsimp only)) | walk_at "my step" | fail "no step")
        with_reducible rename News h₀ _ _ _ => N40
        refine lget (vs := rv) (n := rn) (v := .int (((K i).toNat : Nat) : Int) tv') N40 (by k_mem) (by (first | lia | omega)) (by (first | lia | omega)) (by rw [Int.toNat_natCast]; exact htv') ?_
        have hK4 : (K i).toNat ≤ 4000 := by (first | lia | omega)
        generalize (K i).toNat = nk at hK4 ⊢
        clear hJ htv' hKi hKb hrv
        repeat' ((fail_if_success (with_reducible (first | show wpAny _ _ (pyIter _) _ _ _ | show wpAny _ _ (call (Value.ref _) _) _ _ _ | show wpAny _ _ (subscriptTail _ _ (Value.ref _) _) _ _ _))); first | (with_reducible refine execs_hideT ?_; intro Q9 tk hQ9 hR9) | (with_reducible refine hQ9 _ ?_; clear hQ9 hR9; (try clear Q9)) | ((with_reducible refine' hR9 _ _ ?hk9 ?_); (case hk9 => exact nofun); clear hQ9 hR9; (try clear Q9)) | (with_reducible refine hQ8 _ _ ?_; clear hQ8; (try clear Q8); (try dsimp only)) | (with_reducible refine hQ8 _ _ _ ?_; clear hQ8; (try clear Q8); (try dsimp only)) | (with_reducible refine hQ7 _ _ ?_; clear hQ7; (try clear Q7); (try dsimp only)) | (k_unfold; (try dsimp only)) | walk_at "my step" | fail "no step")
        rename_i hR42 F42 N42 _
        exact ⟨_, _, _, _, _, _, rfl, rfl, hR42, F42, N42⟩
      case g10 =>
        intro g i j ys' own C' oC' D m₂ h₁ tk₁ E' hi hj hx hC hJ FF NN
        obtain ⟨tx, hx⟩ := hx
        dsimp only [List.cons_append, List.nil_append] at NN ⊢
        repeat' ((fail_if_success (with_reducible (first | show wpAny _ _ (pyIter _) _ _ _ | show wpAny _ _ (call (Value.ref _) _) _ _ _ | show wpAny _ _ (subscriptTail _ _ (Value.ref _) _) _ _ _))); first | (with_reducible refine execs_hideT ?_; intro Q9 tk hQ9 hR9) | (with_reducible refine hQ9 _ ?_; clear hQ9 hR9; (try clear Q9)) | ((with_reducible refine' hR9 _ _ ?hk9 ?_); (case hk9 => exact nofun); clear hQ9 hR9; (try clear Q9)) | (with_reducible refine hQ8 _ _ ?_; clear hQ8; (try clear Q8); (try dsimp only)) | (with_reducible refine hQ8 _ _ _ ?_; clear hQ8; (try clear Q8); (try dsimp only)) | (with_reducible refine hQ7 _ _ ?_; clear hQ7; (try clear Q7); (try dsimp only)) | (k_unfold; (try dsimp only)) | walk_at "my step" | fail "no step")
        refine PEnd.mk (by assumption) NN ?_
        rw [List.replicate_succ', ← List.append_assoc]
        exact hJ.append (.cons _ tx .nil)
      case g11 =>
        intro g ys' hJ D41 h41 tk41 F41 N41 n41
        dsimp only
        repeat' ((fail_if_success (with_reducible (first | show wpAny _ _ (eval (Expr.ListComp _ _ _ _) _) _ _ _ | show wpAny _ _ (call (Value.type _) _) _ _ _ | show wpAny _ _ (exec (Stmt.Assign _ (Expr.ListComp _ _ _ _) _) _) _ _ _ | show wpAny _ _ (exec (Stmt.For _ _ _ _ _) _) _ _ _ | show wpAny _ _ (call (Value.ref _) _) _ _ _ | show wpAny _ _ (subscriptTail _ _ (Value.ref _) _) _ _ _ | show wpAny _ _ (pyIter _) _ _ _ | show wpAny _ _ (call (Value.builtin _) _) _ _ _ | show wpAny _ _ (storeName _ _ _) _ _ _ | show wpAny _ _ (compareOp _ (Value.ref _) (Value.ref _)) _ _ _))); first | (with_reducible refine execs_hideT ?_; intro Q9 tk hQ9 hR9) | (with_reducible refine hQ9 _ ?_; clear hQ9 hR9; (try clear Q9)) | ((with_reducible refine' hR9 _ _ ?hk9 ?_); (case hk9 => exact nofun); clear hQ9 hR9; (try clear Q9)) | (with_reducible refine hQ8 _ _ ?_; clear hQ8; (try clear Q8); (try dsimp only)) | (with_reducible refine hQ8 _ _ _ ?_; clear hQ8; (try clear Q8); (try dsimp only)) | (with_reducible refine hQ7 _ _ ?_; clear hQ7; (try clear Q7); (try dsimp only)) | (k_unfold; (try dsimp only)) | walk_at "my step" | fail "no step")
        refine ke_eq_ints (PySem.IsL.isList (n := nt) (N41 (ta, listOf tv.toArray nt) (by k_mem)).1) (PySem.IsL.isList (n := ys'.length) (N41 (D41, listOf ys'.toArray ys'.length) List.mem_cons_self).1) htv hJ (by ktr_units) ?_
        rw [decide_eq_true rfl]
        repeat' ((fail_if_success (with_reducible (first | show wpAny _ _ (eval (Expr.ListComp _ _ _ _) _) _ _ _ | show wpAny _ _ (call (Value.type _) _) _ _ _ | show wpAny _ _ (exec (Stmt.Assign _ (Expr.ListComp _ _ _ _) _) _) _ _ _ | show wpAny _ _ (exec (Stmt.For _ _ _ _ _) _) _ _ _ | show wpAny _ _ (call (Value.ref _) _) _ _ _ | show wpAny _ _ (subscriptTail _ _ (Value.ref _) _) _ _ _ | show wpAny _ _ (pyIter _) _ _ _ | show wpAny _ _ (call (Value.builtin _) _) _ _ _ | show wpAny _ _ (storeName _ _ _) _ _ _ | show wpAny _ _ (compareOp _ (Value.ref _) (Value.ref _)) _ _ _))); first | (with_reducible refine execs_hideT ?_; intro Q9 tk hQ9 hR9) | (with_reducible refine hQ9 _ ?_; clear hQ9 hR9; (try clear Q9)) | ((with_reducible refine' hR9 _ _ ?hk9 ?_); (case hk9 => exact nofun); clear hQ9 hR9; (try clear Q9)) | (with_reducible refine hQ8 _ _ ?_; clear hQ8; (try clear Q8); (try dsimp only)) | (with_reducible refine hQ8 _ _ _ ?_; clear hQ8; (try clear Q8); (try dsimp only)) | (with_reducible refine hQ7 _ _ ?_; clear hQ7; (try clear Q7); (try dsimp only)) | (k_unfold; (try dsimp only)) | walk_at "my step" | fail "no step")
        refine ⟨.inl ⟨.bool true, ofPy (.bool true), [], rfl, fun _ => rfl, ?_, ?_, ?_⟩, fun b o e => F41.keep b o e, rfl, hg⟩
        · exact .bool true
        · with_unfolding_all rfl
        · exact fun _ => ⟨.nil, fun _ h => nomatch h⟩
end Mine
end

theorem PySem.Challenge.cw_il0067_01_holds : PySem.Challenge.rw_il0067_01.Holds :=
  Mine.law_holds
