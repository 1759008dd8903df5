import PyProof.Rows.All
import Wide.All
import OpenK.AllK
import Wide.FinOn
import PySem.Challenge.RW_mr0156_01
set_option Elab.async false

/-! Hd -/
section
open PySem PySem.W PyProof.Rows
namespace Mine
set_option maxRecDepth 100000
set_option maxHeartbeats 8000000
open_top hd for PySem.Challenge.rw_mr0156_01
end Mine

end

/-! Base -/
section
open PySem PySem.W PySem.Spec PySem.Calls PySem.NumText PyProof.Rows
set_option maxRecDepth 100000
namespace Mine

/-- all that stands in g stands in h -/
def Ks (g h : Heap) : Prop := ∀ b o, g.get? b = some o → h.get? b = some o
theorem Ks.rfl' {g : Heap} : Ks g g := fun _ _ e => e
theorem Ks.trans {g h k : Heap} (a : Ks g h) (b : Ks h k) : Ks g k := fun x o e => b x o (a x o e)

/-- a def of the text: called at any place, it comes back, all that stood stands, and Post holds -/
def Spec (w : World) (mean : ExcName → Option Value) (mg mb : Str → Option Value) (f : Addr) (dep : Nat) (vs : List Value) (Pre : Heap → Prop) (Post : Heap → Value → Heap → Prop) : Prop :=
  ∀ (dp un : Nat) (gd : Option (List Code)) (cn : Str) (cs : Scope) (a : Addr) (ccd : Value) (cl : List (Str × Addr)) (outer : List Env) (A₀ : Around) (base h₀ : Heap) (L : Addr) (m : Str → Option Value) (s : Shared) (Q E : Value → Shared → Prop),
    Below A₀ base outer h₀ → Fr h₀ L s.heap m → (hd.heap_39 w.params).In h₀ → Top hd.view_39 (looseW hd.view_39 [Str.ofString "_filemode_table"]) mean mg mb h₀ → cs.kind = .function →
    dp + dep < recursionLimit → un + 8 * dep + 40 < cLine → (∀ g, Ks s.heap g → Pre g) →
    (∀ g v h' tk', Ks s.heap g → Ks g h' → Post g v h' → Q v { s with heap := h', toks := tk' }) →
    wpAny (model Challenge.rw_mr0156_01.row.prog w) (ktrTop dp un gd cn cs L a ccd cl outer) (call (.ref f) vs) Q E s

/-- the end of a def's body -/
def Back (s : Shared) (g : Heap) (P : Value → Heap → Prop) (v : Value) (s' : Shared) : Prop :=
  ∃ h' tk' L' m', s' = { s with heap := h', toks := tk' } ∧ Fr g L' h' m' ∧ P v h'
theorem Back.intro {s : Shared} {g : Heap} {P : Value → Heap → Prop} {v : Value} {h' : Heap} {tk' : Nat} {L' : Addr} {m' : Str → Option Value} (F : Fr g L' h' m') (h : P v h') : Back s g P v { s with heap := h', toks := tk' } := ⟨h', tk', L', m', rfl, F, h⟩

theorem Spec.enter {w : World} {mean : ExcName → Option Value} {mg mb : Str → Option Value} {f : Addr} {dep : Nat} {vs : List Value} {Pre : Heap → Prop} {Post : Heap → Value → Heap → Prop}
    {name qual : Str} {params : Arguments} {body : List Stmt} {scope : Scope} {dV kV doc pm cdv ct oc : Value} {an od : Option Addr} {osl : Array (Option Value)} {binds : List (Str × Value)}
    (ho : (hd.heap_39 w.params).lookup f = some ⟨oc, od, .func (fnOf name qual params body scope dV kV doc pm an cdv ct), osl⟩) (hcd : codeIn (hd.heap_39 w.params) cdv qual = true)
    (hbind : ∀ s, BindsTo s (fnOf name qual params body scope dV kV doc pm an cdv ct) ⟨vs, []⟩ binds) (hloc : ∀ y ∈ binds, scope.names.lookup y.1 = some .local)
    (hco : scope.isCoroutine = false) (hgen : scope.isGenerator = false) (hk : scope.kind = .function) (hcell : ∀ x ∈ scope.names, x.2 ≠ .cell)
    (h : ∀ (dp un : Nat) (gd : Option (List Code)) (cn : Str) (cs : Scope) (L a : Addr) (ccd : Value) (cl : List (Str × Addr)) (outer : List Env) (base g : Heap) (L' : Addr) (h₁ : Heap) (s : Shared) (tk : Nat) (R : Result → Shared → Prop),
      Fr g L' h₁ (fun y => binds.reverse.lookup y) → News g L' h₁ [] → Below (ktrTop dp un gd cn cs L a ccd cl outer) base (envX cn cs L a ccd cl :: outer) g → (hd.heap_39 w.params).In g →
      Top hd.view_39 (looseW hd.view_39 [Str.ofString "_filemode_table"]) mean mg mb g → cs.kind = .function → dp + dep < recursionLimit → un + 8 * dep + 40 < cLine → Pre g →
      wpAny (model Challenge.rw_mr0156_01.row.prog w) ((ktrTop dp un gd cn cs L a ccd cl outer).deeper (envOf qual scope L' f cdv)) (execs body (envOf qual scope L' f cdv))
        (fun fl s' => Back s g (Post g) (match fl with | .ret v => v | _ => .none) s')
        (fun e s' => wpAny (model Challenge.rw_mr0156_01.row.prog w) ((ktrTop dp un gd cn cs L a ccd cl outer).deeper (envOf qual scope L' f cdv)) (leaving (envOf qual scope L' f cdv) e) (fun _ s'' => R (.error e) s'') (fun e' s'' => R (.error e') s'') s') { s with heap := h₁, toks := tk }) :
    Spec w mean mg mb f dep vs Pre Post := by
  intro dp un gd cn cs a ccd cl outer A₀ base h₀ L m s Q E B F X T hcs hd hu hpre hret
  refine wpAny_call ?_
  refine code_defG (news := []) B F X News.nil T rfl rfl hcs ho hcd (by show dp < recursionLimit; omega) (hbind s) hloc ?_ hco hgen hk hcell
  intro g L' h₁ FG F' N' B' X' T' kG
  have kg : Ks s.heap g := fun b o e => kG b o e (fun q => nomatch q)
  refine wpAny_mono (h dp un gd cn cs L a ccd cl outer base g L' h₁ s (s.toks + binds.length) (fun r s' => match r with | .ok (.ret v) => Q v s' | .ok _ => False | .error e => E e s') F' N' B' X' T' hcs hd hu (hpre g kg)) ?_ (fun _ _ e => e)
  rintro fl s' ⟨h', tk', L₂, m', rfl, F₂, hp⟩
  exact leaveK_ F₂ News.nil fun _ _ => hret g _ h' tk' kg F₂.keep hp

/-- a fresh letter for the next token -/
theorem tidy {α : Type} {M : Model} {A : Around} {T : Sem α} {Q : α → Shared → Prop} {E : Value → Shared → Prop} {S s : Shared} {g h : Heap} {L : Addr} {m : Str → Option Value} (_F : Fr g L h m)
    (H : ∀ tk, wpAny M A T Q E { s with heap := h, toks := tk }) (e : S = { s with heap := h, toks := S.toks }) : wpAny M A T Q E S := e ▸ H S.toks

/-- the rest of a block as a letter -/
theorem execs_cut {M : Model} {A : Around} {env : Env} {Q : Flow → Shared → Prop} {E : Value → Shared → Prop} {s : Shared} {st : Stmt} {rest : List Stmt} (h : ∀ r, r = rest → wpAny M A (execs (st :: r) env) Q E s) : wpAny M A (execs (st :: rest) env) Q E s := h rest rfl

/-- a cut: the frame and the ledger at this place -/
def At (s : Shared) (g : Heap) (L : Addr) (m : Str → Option Value) (news : List (Addr × Obj)) (s₂ : Shared) : Prop := ∃ h tk, s₂ = { s with heap := h, toks := tk } ∧ Fr g L h m ∧ News g L h news
theorem At.intro {s : Shared} {g h : Heap} {L : Addr} {m : Str → Option Value} {news : List (Addr × Obj)} {tk : Nat} (F : Fr g L h m) (N : News g L h news) : At s g L m news { s with heap := h, toks := tk } := ⟨h, tk, rfl, F, N⟩

/-- a turn's end, one object of the loop's own; the walk has no line for it -/
def TEnd (h₀ : Heap) (L : Addr) (s₁ : Shared) (p : Addr × Obj) (rest : (Str → Option Value) → List (Addr × Obj) → Prop) (Q : Flow → Shared → Prop) (f : Flow) (s₂ : Shared) : Prop :=
  match f with
  | .ret v => Q (.ret v) s₂
  | .brk => Q .next s₂
  | _ => UnrEnd h₀ L s₁ p.1 p.2 rest s₂
theorem TEnd.next {h₀ : Heap} {L : Addr} {s₁ : Shared} {p : Addr × Obj} {rest : (Str → Option Value) → List (Addr × Obj) → Prop} {Q : Flow → Shared → Prop} {h' : Heap} {tk : Nat} {m' : Str → Option Value} (news' : List (Addr × Obj)) (F : Fr h₀ L h' m') (N : News h₀ L h' (p :: news')) (ho : ∀ r ∈ news', r.1 ≠ p.1) (hr : rest m' news') :
    TEnd h₀ L s₁ p rest Q .next { s₁ with heap := h', toks := tk } := ⟨h', tk, m', news', rfl, F, N, ho, hr⟩
theorem TEnd.brk {h₀ : Heap} {L : Addr} {s₁ s₂ : Shared} {p : Addr × Obj} {rest : (Str → Option Value) → List (Addr × Obj) → Prop} {Q : Flow → Shared → Prop} (h : Q .next s₂) : TEnd h₀ L s₁ p rest Q .brk s₂ := h

/-- a statement goes on, and P holds -/
def Nx (P : Shared → Prop) (f : Flow) (s' : Shared) : Prop := f = .next ∧ P s'
theorem exec_cut {M : Model} {A : Around} {env : Env} {Q : Flow → Shared → Prop} {E : Value → Shared → Prop} {s : Shared} {st : Stmt} {rest : List Stmt} (P : Shared → Prop) (h1 : wpAny M A (exec st env) (Nx P) E s) (h2 : ∀ s', P s' → wpAny M A (execs rest env) Q E s') :
    wpAny M A (execs (st :: rest) env) Q E s := by
  refine wpAny_execs_cons (wpAny_mono h1 (fun f s' h => ?_) fun _ _ e => e)
  obtain ⟨rfl, hp⟩ := h
  exact h2 s' hp
/-- a value and a place -/
def Vx (P : Value → Shared → Prop) (v : Value) (s' : Shared) : Prop := P v s'
theorem val_cut {M : Model} {A : Around} {Q : Value → Shared → Prop} {E : Value → Shared → Prop} {s : Shared} {T : Sem Value} (P : Value → Shared → Prop) (h1 : wpAny M A T (Vx P) E s) (h2 : ∀ v s', P v s' → Q v s') : wpAny M A T Q E s :=
  wpAny_mono h1 (fun v s' h => h2 v s' h) fun _ _ e => e
def RangeAt (s : Shared) (g : Heap) (L : Addr) (m : Str → Option Value) (news : List (Addr × Obj)) (lo hi : Int) (v : Value) (s₂ : Shared) : Prop :=
  ∃ r t u w h tk, v = .ref r ∧ s₂ = { s with heap := h, toks := tk } ∧ IsRange h r lo hi 1 t u w ∧ Fr g L h m ∧ News g L h news

/-- one figure -/
noncomputable def fig (d : Nat) : Str := Str.mk #[48 + d]
/-- a list's items are figures -/
def Figs (vs : List Value) (ds : List Nat) : Prop := StrsAre vs (ds.map fig) ∧ ∀ d ∈ ds, d < 10
/-- the number that figures tell, the last one first -/
noncomputable def valOf (ds : List Nat) : Int := ds.reverse.foldl (fun (a : Int) (d : Nat) => a * 10 + (d : Int)) 0

theorem fig_len (d : Nat) : (fig d).length = 1 := rfl
theorem intText_fig {d : Nat} (h : d < 10) : PySem.intText? (fig d) = some (d : Int) := by
  have := intText_digits (x := fig d) (by intro c hc; simp only [fig, List.mem_singleton] at hc; omega) (by simp [fig]) (by rw [fig_len]; decide)
  rw [this]
  simp [fig, digitsVal]
theorem strs_rev {vs : List Value} {ys : List Str} (h : StrsAre vs ys) : StrsAre vs.reverse ys.reverse := by
  induction h with
  | nil => exact .nil
  | cons y t r ih => rw [List.reverse_cons, List.reverse_cons]; exact ih.append' (.cons y t .nil)
theorem Figs.length {vs : List Value} {ds : List Nat} (h : Figs vs ds) : vs.length = ds.length := by have := h.1.length; simpa using this
theorem Figs.rev {vs : List Value} {ds : List Nat} (h : Figs vs ds) : Figs vs.reverse ds.reverse :=
  ⟨by have := strs_rev h.1; rwa [← List.map_reverse] at this, fun d hd => h.2 d (List.mem_reverse.mp hd)⟩
theorem Figs.item {vs : List Value} {ds : List Nat} (h : Figs vs ds) {i : Nat} {v : Value} (hv : vs[i]? = some v) : ∃ d t, v = .str (fig d) t ∧ ds[i]? = some d ∧ d < 10 := by
  obtain ⟨y, t, e, hy⟩ := h.1.item i v hv
  rw [List.getElem?_map, Option.map_eq_some_iff] at hy
  obtain ⟨d, hd, rfl⟩ := hy
  exact ⟨d, t, e, hd, h.2 d (List.mem_of_getElem? hd)⟩
theorem Figs.at {vs : List Value} {ds : List Nat} (h : Figs vs ds) {i d : Nat} (hd : ds[i]? = some d) : ∃ t, vs[i]? = some (.str (fig d) t) :=
  h.1.at (by rw [List.getElem?_map, hd]; rfl)

/-- the text of figures -/
noncomputable def figsText (ds : List Nat) : Str := Str.mk (ds.map (48 + ·)).toArray
noncomputable def placeText (m0 m1 : Str) (d0 d1 : List Nat) : Str := m0 ++ figsText d0.reverse ++ Str.ofString "." ++ m1 ++ figsText d1.reverse
theorem figs_join (ds : List Nat) : Txt.join (Str.ofString "") (ds.map fig) = figsText ds := by
  show Builtin.Str.glued _ _ = _
  rw [StrLaws.glued_eq_join]
  have := PyProof.Rows.join_ones (ds.map (48 + ·))
  rw [List.map_map] at this
  exact this
theorem figsText_len (ds : List Nat) : (figsText ds).length = ds.length := by simp [figsText, Str.length]
theorem figs_sum : ∀ ds : List Nat, ((ds.map fig).map (·.length)).sum = ds.length
  | [] => rfl
  | d :: r => by simp only [List.map_cons, List.sum_cons, figs_sum r, fig_len, List.length_cons]; omega
theorem join_figs {prog : Program} {w : World} {A : Around} {E : Value → Shared → Prop} {s : Shared} {Q : Value → Shared → Prop} {D : Addr} {items : Array Value} {ds : List Nat} {t : Tok} (hl : s.heap.IsList D items) (hF : Figs items.toList ds) (hn : ds.length ≤ 1000)
    (h : ∀ t' k, Q (.str (figsText ds) t') { s with toks := k }) : wpAny (model prog w) A (call (.builtin "str.join") [.str (Str.ofString "") t, .ref D]) Q E s := by
  refine join_list hl hF.1 ?_ fun t' k => by rw [figs_join]; exact h t' k
  rw [figs_sum, List.length_map]
  have : (Str.ofString "").length = 0 := by decide
  rw [this]; omega

noncomputable def pick (x : Str) (k : Int) : Str := Str.mk #[x.cps.getD k.toNat 0]
theorem pick_len (x : Str) (k : Int) : (pick x k).length = 1 := rfl
theorem item_pick {prog : Program} {w : World} {A : Around} {E : Value → Shared → Prop} {s : Shared} {Q : Value → Shared → Prop} {value slice : PySem.Expr} {x : Str} {t u : Tok} {k : Int} (h0 : 0 ≤ k) (h1 : k < (x.length : Int)) (hz : (x.length : Int) < 2 ^ 62)
    (h : Q (.str (pick x k) s.toks) { s with toks := s.toks + 1 })
    (hs : subscripted slice false (.str x t) (.int k u) = operate [.str x t, .int k u] (getItem (.str x t) (.int k u)) := by with_unfolding_all rfl) :
    wpAny (model prog w) A (subscriptTail value slice (.str x t) (.int k u)) Q E s := by
  refine tail_any (typeIs_str s x t) F.slot_str_getitem.lookup (P.getItem_str (c := x.cps.getD k.toNat 0) ?_ ?_ h) hs
  · rw [Bool.or_eq_false_iff]
    exact ⟨decide_eq_false (by omega), decide_eq_false (by omega)⟩
  · have hk : k.toNat < x.cps.size := by have : x.length = x.cps.size := rfl; omega
    have : seqIndex? k x.length = some k.toNat := by
      unfold seqIndex?
      simp only [show x.length = x.cps.size from rfl]
      first | (rw [if_neg (by omega)]; simp; omega) | (simp; omega)
    rw [this]
    simp [hk]

theorem strs_set {x : Str} {u : Tok} : ∀ {vs : List Value} {ys : List Str}, StrsAre vs ys → ∀ j : Nat, StrsAre (vs.set j (.str x u)) (ys.set j x)
  | _, _, .nil, _ => .nil
  | _, _, .cons _ _ h, 0 => .cons x u h
  | _, _, .cons y t h, j + 1 => .cons y t (strs_set h j)
theorem Figs.set {vs : List Value} {ds : List Nat} (h : Figs vs ds) (j : Nat) {d : Nat} (hd : d < 10) (t : Tok) : Figs (vs.set j (.str (fig d) t)) (ds.set j d) :=
  ⟨by rw [List.map_set]; exact strs_set h.1 j, fun c hc => by
    rcases List.mem_or_eq_of_mem_set hc with q | q
    · exact h.2 c q
    · rw [q]; exact hd⟩
noncomputable def swp (d : Nat) : Nat := if d % 2 = 0 then d + 1 else d - 1
theorem swp_lt {d : Nat} (h : d < 10) : swp d < 10 := by unfold swp; split <;> omega
theorem pick_swp : ∀ d : Nat, d < 10 → pick (Str.ofString "1032547698") (d : Int) = fig (swp d) := by decide
theorem swpLen : (Str.ofString "1032547698").length = 10 := by decide
theorem set_any {prog : Program} {w : World} {A : Around} {E : Value → Shared → Prop} {s : Shared} {h₀ : Heap} {L D : Addr} {m : Str → Option Value} {news news' : List (Addr × Obj)} {vs : List Value} {n : Nat} {k : Int} {t : Tok} {v : Value} {Q : Unit → Shared → Prop}
    (F : Fr h₀ L s.heap m) (N : News h₀ L s.heap news) (U : Upd D (listOf vs.toArray n) (listOf (vs.set k.toNat v).toArray n) news news') (h0 : 0 ≤ k) (h1 : k < vs.length) (hfit : k < 2 ^ 63)
    (h : ∀ h', Fr h₀ L h' m → News h₀ L h' news' → Q () { s with heap := h' }) : wpAny (model prog w) A (setItem (.ref D) (.int k t) v) Q E s := by
  obtain ⟨pre, post, rfl, rfl, a, b⟩ := U.split
  have z := N (D, listOf vs.toArray n) (List.mem_append.mpr (.inr (.head _)))
  refine ki_setAt z.1 h0 hfit (by rw [List.size_toArray]; exact h1) (h _ (F.change (Heap.SameBut.update ..) z.2.1 z.2.2) (ki_turn _ N a b ?_ ?_))
  · apply Array.toList_inj.mp
    simp
  · simp

theorem item_fig {prog : Program} {w : World} {A : Around} {E : Value → Shared → Prop} {s : Shared} {h₀ : Heap} {L r : Addr} {news : List (Addr × Obj)} {us : List Value} {ds : List Nat} {c k : Nat} {t : Tok} {Q : Value → Shared → Prop} {value slice : PySem.Expr}
    (N : News h₀ L s.heap news) (hm : (r, listOf us.toArray c) ∈ news) (hF : Figs us ds) (hk : k < ds.length) (hz : ds.length ≤ 24) (h : ∀ d td, ds[k]? = some d → d < 10 → Q (.str (fig d) td) s)
    (hs : subscripted slice false (.ref r) (.int (k : Int) t) = operate [.ref r, .int (k : Int) t] (getItem (.ref r) (.int (k : Int) t)) := by with_unfolding_all rfl) :
    wpAny (model prog w) A (subscriptTail value slice (.ref r) (.int (k : Int) t)) Q E s := by
  have hd : ds[k]? = some ds[k] := List.getElem?_eq_getElem hk
  obtain ⟨td, hd2⟩ := hF.at hd
  exact item_litK (News.isList N hm) (by omega) (by omega) (v := Value.str (fig ds[k]) td) (by simpa using hd2) (h _ td hd (hF.2 _ (List.mem_of_getElem? hd))) hs

section
variable {prog : Program} {w : World} {A : Around} {E : Value → Shared → Prop} {s : Shared} {env : Env} {h₀ : Heap} {x : Str} {body : List Stmt} {Q : Flow → Shared → Prop}
/-- a loop over a list of the ledger's, by an invariant over names and ledger -/
theorem iter_listJ {ax : Addr} {lo : Obj} {vs : List Value} {n : Nat} {m₀ : Str → Option Value} {news : List (Addr × Obj)} (J : Nat → (Str → Option Value) → List (Addr × Obj) → Prop)
    (hh : A.handled = none) (F : Fr h₀ env.locals s.heap m₀) (N : News h₀ env.locals s.heap news) (hm : (ax, lo) ∈ news) (hc : lo.cls = .type "list") (hd : lo.data = .seq vs.toArray n) (hj : J 0 m₀ news)
    (turn : ∀ i v m₁ news₁ I it h tk, vs[i]? = some v → J i m₁ news₁ → (ax, lo) ∈ news₁ → (∀ p ∈ news₁, p.1 ≠ I) → it.cls = .type "list_iterator" → Fr h₀ env.locals h (fun y => if y = x then some v else m₁ y) → News h₀ env.locals h ((I, it) :: news₁) →
      wpAny (model prog w) A (execs body env) (UnrPost h₀ env.locals { s with heap := h, toks := tk } I it (fun m' n' => (ax, lo) ∈ n' ∧ (∀ p ∈ n', p.1 ≠ I) ∧ J (i + 1) m' n') Q) E { s with heap := h, toks := tk })
    (done : ∀ m₁ news₁ h tk, J vs.length m₁ news₁ → Fr h₀ env.locals h m₁ → News h₀ env.locals h news₁ → Q .next { s with heap := h, toks := tk }) :
    wpAny (model prog w) A (pyIter (.ref ax)) (fun it s₂ => LoopAtV prog w A h₀ env x body Q E it s₂) E s := by
  refine iter_listUnr hh F N hm hc hd fun I hI => ?_
  have key : ∀ (r : List Value) (i : Nat) m₁ news₁, vs.drop i = r → J i m₁ news₁ → (∀ p ∈ news₁, p.1 ≠ I) → (ax, lo) ∈ news₁ → i ≤ vs.length → ListRest prog w A E h₀ env x body Q s I (ax, lo) r m₁ news₁ := by
    intro r
    induction r with
    | nil =>
      intro i m₁ news₁ e hJ hne hmem hi
      have hlen : i = vs.length := by
        have := congrArg List.length e
        simp at this; omega
      subst hlen
      exact ListRest.zero fun h tk F' N' => done m₁ news₁ h tk hJ F' N'
    | cons v r ih =>
      intro i m₁ news₁ e hJ hne hmem hi
      have hv : vs[i]? = some v := by
        have := congrArg List.head? e
        simpa [List.head?_drop] using this
      refine ListRest.succ fun it h tk hit F' N' => ?_
      refine wpAny_mono (turn i v m₁ news₁ I it h tk hv hJ hmem hne hit F' N') (fun f s₂ p => ?_) fun _ _ e => e
      have hlt : i < vs.length := by
        rw [List.getElem?_eq_some_iff] at hv; exact hv.1
      have fin : UnrEnd h₀ env.locals { s with heap := h, toks := tk } I it (fun m' n' => (ax, lo) ∈ n' ∧ (∀ p ∈ n', p.1 ≠ I) ∧ J (i + 1) m' n') s₂ → UnrEnd h₀ env.locals { s with heap := h, toks := tk } I it (fun m' n' => (ax, lo) ∈ n' ∧ ListRest prog w A E h₀ env x body Q s I (ax, lo) r m' n') s₂ := by
        rintro ⟨h', tk', m', news', e', F₂, N₂, ho, hmm, hne', hJ'⟩
        refine ⟨h', tk', m', news', e', F₂, N₂, ho, hmm, ih (i + 1) m' news' ?_ hJ' hne' hmm (by omega)⟩
        rw [← List.tail_drop, e]; rfl
      cases f with
      | ret v => exact p
      | brk => exact p
      | next => exact fin p
      | cont => exact fin p
  exact key vs 0 m₀ news (by simp) hj (fun p hp => Nat.ne_of_lt (hI p hp)) hm (Nat.zero_le _)
/-- the same, the ledger as it was, one name y that turns -/
theorem iter_listAcc {ax : Addr} {lo : Obj} {vs : List Value} {n : Nat} {m₀ : Str → Option Value} {news : List (Addr × Obj)} {y : Str} {a₀ : Value} (R : Nat → Value → Prop)
    (hh : A.handled = none) (F : Fr h₀ env.locals s.heap m₀) (N : News h₀ env.locals s.heap news) (hm : (ax, lo) ∈ news) (hc : lo.cls = .type "list") (hd : lo.data = .seq vs.toArray n) (hr : R 0 a₀) (hy : m₀ y = some a₀) (hyx : y ≠ x)
    (turn : ∀ i v a I it h tk, vs[i]? = some v → R i a → (∀ p ∈ news, p.1 ≠ I) → it.cls = .type "list_iterator" → Fr h₀ env.locals h (fun z => if z = x then some v else if z = y then some a else m₀ z) → News h₀ env.locals h ((I, it) :: news) →
      wpAny (model prog w) A (execs body env) (UnrPost h₀ env.locals { s with heap := h, toks := tk } I it (fun m' n' => n' = news ∧ (∃ a', R (i + 1) a' ∧ m' y = some a') ∧ ∀ z, z ≠ x → z ≠ y → m' z = m₀ z) Q) E { s with heap := h, toks := tk })
    (done : ∀ a (u : Str → Option Value) h tk, R vs.length a → Fr h₀ env.locals h (fun z => if z = x then u z else if z = y then some a else m₀ z) → News h₀ env.locals h news → Q .next { s with heap := h, toks := tk }) :
    wpAny (model prog w) A (pyIter (.ref ax)) (fun it s₂ => LoopAtV prog w A h₀ env x body Q E it s₂) E s := by
  refine iter_listJ (fun i m₁ n₁ => n₁ = news ∧ (∃ a, R i a ∧ m₁ y = some a) ∧ ∀ z, z ≠ x → z ≠ y → m₁ z = m₀ z) hh F N hm hc hd ⟨rfl, ⟨a₀, hr, hy⟩, fun _ _ _ => rfl⟩ ?_ ?_
  · rintro i v m₁ news₁ I it h tk hv ⟨rfl, ⟨a, ha, hma⟩, hrest⟩ _ hne hit F₁ N₁
    have e : (fun z => if z = x then some v else m₁ z) = fun z => if z = x then some v else if z = y then some a else m₀ z := by
      funext z
      by_cases h1 : z = x
      · simp [h1]
      · simp only [if_neg h1]
        by_cases h2 : z = y
        · subst h2; simp [hma]
        · simp only [if_neg h2]; exact hrest z h1 h2
    rw [e] at F₁
    refine wpAny_mono (turn i v a I it h tk hv ha hne hit F₁ N₁) (fun f s₂ p => ?_) fun _ _ e => e
    have fin : UnrEnd h₀ env.locals { s with heap := h, toks := tk } I it (fun m' n' => n' = news₁ ∧ (∃ a', R (i + 1) a' ∧ m' y = some a') ∧ ∀ z, z ≠ x → z ≠ y → m' z = m₀ z) s₂ → UnrEnd h₀ env.locals { s with heap := h, toks := tk } I it (fun m' n' => (ax, lo) ∈ n' ∧ (∀ p ∈ n', p.1 ≠ I) ∧ (fun m₁ n₁ => n₁ = news₁ ∧ (∃ a, R (i + 1) a ∧ m₁ y = some a) ∧ ∀ z, z ≠ x → z ≠ y → m₁ z = m₀ z) m' n') s₂ := by
      rintro ⟨h', tk', m', news', e', F₂, N₂, ho, rfl, ha', hr'⟩
      exact ⟨h', tk', m', news', e', F₂, N₂, ho, hm, ho, rfl, ha', hr'⟩
    cases f with
    | ret v => exact p
    | brk => exact p
    | next => exact fin p
    | cont => exact fin p
  · rintro m₁ news₁ h tk ⟨rfl, ⟨a, ha, hma⟩, hrest⟩ F₁ N₁
    refine done a m₁ h tk ha ?_ N₁
    have e : (fun z => if z = x then m₁ z else if z = y then some a else m₀ z) = m₁ := by
      funext z
      by_cases h1 : z = x
      · simp [h1]
      · simp only [if_neg h1]
        by_cases h2 : z = y
        · subst h2; simp [hma]
        · simp only [if_neg h2]; exact (hrest z h1 h2).symm
    rw [e]; exact F₁
/-- a loop over a range by ones, by an invariant over names and ledger -/
theorem iter_rangeJ {r : Addr} {a₀ b₀ : Int} {t₀ u₀ v₀ : Tok} {n : Nat} {m₀ : Str → Option Value} {news : List (Addr × Obj)} (J : Nat → (Str → Option Value) → List (Addr × Obj) → Prop)
    (hh : A.handled = none) (hr : IsRange s.heap r a₀ b₀ 1 t₀ u₀ v₀) (hsmall : Builtin.Range.small a₀ b₀ 1 = true) (hn : Builtin.Range.rangeSize a₀ b₀ 1 = (n : Int)) (F : Fr h₀ env.locals s.heap m₀) (N : News h₀ env.locals s.heap news) (hj : J 0 m₀ news)
    (turn : ∀ i m₁ news₁ I it t h tk, i < n → J i m₁ news₁ → (∀ p ∈ news₁, p.1 ≠ I) → it.cls = .type "range_iterator" → Fr h₀ env.locals h (fun y => if y = x then some (.int (a₀ + (i : Int)) t) else m₁ y) → News h₀ env.locals h ((I, it) :: news₁) →
      wpAny (model prog w) A (execs body env) (TEnd h₀ env.locals { s with heap := h, toks := tk } (I, it) (J (i + 1)) Q) E { s with heap := h, toks := tk })
    (done : ∀ m₁ news₁ h tk, J n m₁ news₁ → Fr h₀ env.locals h m₁ → News h₀ env.locals h news₁ → Q .next { s with heap := h, toks := tk }) :
    wpAny (model prog w) A (pyIter (.ref r)) (fun it s₂ => LoopAtV prog w A h₀ env x body Q E it s₂) E s := by
  refine iter_rangeUnr hh hr hsmall hn F N fun I hI => ?_
  have key : ∀ (k i : Nat) m₁ news₁, i + k = n → J i m₁ news₁ → (∀ p ∈ news₁, p.1 ≠ I) → RangeRest prog w A E h₀ env x body Q s I a₀ n k i m₁ news₁ := by
    intro k
    induction k with
    | zero =>
      intro i m₁ news₁ e hJ hne
      have e' : i = n := by omega
      subst e'
      exact RangeRest.zero fun h tk F' N' => done m₁ news₁ h tk hJ F' N'
    | succ k ih =>
      intro i m₁ news₁ e hJ hne
      refine RangeRest.succ fun t h tk F' N' => ?_
      refine wpAny_mono (turn i m₁ news₁ I _ t h tk (by omega) hJ hne rfl F' N') (fun f s₂ p => ?_) fun _ _ e => e
      have fin : ∀ {it : Obj}, UnrEnd h₀ env.locals { s with heap := h, toks := tk } I it (J (i + 1)) s₂ → UnrEnd h₀ env.locals { s with heap := h, toks := tk } I it (RangeRest prog w A E h₀ env x body Q s I a₀ n k (i + 1)) s₂ := by
        rintro it ⟨h', tk', m', news', e', F₂, N₂, ho, hJ'⟩
        exact ⟨h', tk', m', news', e', F₂, N₂, ho, ih (i + 1) m' news' (by omega) hJ' ho⟩
      cases f with
      | ret v => exact p
      | brk => exact p
      | next => exact fin p
      | cont => exact fin p
  exact key n 0 m₀ news (by omega) hj (fun p hp => Nat.ne_of_lt (hI p hp))
end
end Mine

end

/-! MapI -/
section
open PySem PySem.W PySem.Spec PySem.Calls PyProof.Rows
open Sem (wp)
set_option maxRecDepth 100000
namespace Mine

/-! the facts of the built-in class map -/
theorem owner_map : Manifest.owners.lookup (String.ofList ['p', 'a', 'm'].reverse) = some Manifest.sig_map := by kernel_rfl
theorem slot_map_init : Slot "map" "__init__" "object.__init__" :=
  .of (owner := "object") (n := "__init__") (by rw [typeLookup_type, builtinLookup_eq_fast]; kernel_rfl) (by decide +kernel) (by decide +kernel) (by decide +kernel)
    (by first | exact .inl (by decide +kernel) | exact .inr (by decide +kernel)) (by rw [isSubtype_type]; kernel_rfl)
theorem slot_map_iter : Slot "map" "__iter__" "map.__iter__" :=
  .of (owner := "map") (n := "__iter__") (by rw [typeLookup_type, builtinLookup_eq_fast]; kernel_rfl) (by decide +kernel) (by decide +kernel) (by decide +kernel)
    (by first | exact .inl (by decide +kernel) | exact .inr (by decide +kernel)) (by rw [isSubtype_type]; kernel_rfl)
theorem slot_map_next : Slot "map" "__next__" "map.__next__" :=
  .of (owner := "map") (n := "__next__") (by rw [typeLookup_type, builtinLookup_eq_fast]; kernel_rfl) (by decide +kernel) (by decide +kernel) (by decide +kernel)
    (by first | exact .inl (by decide +kernel) | exact .inr (by decide +kernel)) (by rw [isSubtype_type]; kernel_rfl)
theorem args_map_iter_1 (a : Value) : argsOk "map.__iter__" ⟨[a], []⟩ := by
  unfold argsOk; rw [PySem.signature?_of (id := "map.__iter__") (n := ['_', '_', 'r', 'e', 't', 'i', '_', '_']) (o := ['p', 'a', 'm']) (by kernel_rfl) owner_map]; kernel_rfl
theorem args_map_next_1 (a : Value) : argsOk "map.__next__" ⟨[a], []⟩ := by
  unfold argsOk; rw [PySem.signature?_of (id := "map.__next__") (n := ['_', '_', 't', 'x', 'e', 'n', '_', '_']) (o := ['p', 'a', 'm']) (by kernel_rfl) owner_map]; kernel_rfl
theorem entry_map_iter : entryFor table "map.__iter__" = some Builtin.«dict_keyiterator.__iter__» :=
  entryFor_alias (id' := "dict_keyiterator.__iter__") (by kernel_rfl) (by first | rfl | decide +kernel | (unfold String.splitOn; simp +decide [String.splitOnAux])) (by decide +kernel) (by kernel_rfl)
theorem entry_map_next : entryFor table "map.__next__" = some Builtin.«map.__next__» := entryFor_of_tree (by kernel_rfl)
theorem entry_map_new : entryFor table "map.__new__" = some Builtin.«map.__new__» := entryFor_of_tree (by kernel_rfl)
theorem mro_map : mroOf (.type "map") = pure [.type "map", .type "object"] := by rw [mroOf_type]; kernel_rfl
theorem lookup_map_new : typeLookup (.type "map") "__new__" = pure (some (.builtin "map.__new__")) := by rw [typeLookup_type, builtinLookup_eq_fast]; kernel_rfl
theorem called_map : TypeCalled "map" "map.__new__" "object.__init__" :=
  ⟨by decide +kernel, by decide +kernel, ⟨_, _, mro_map⟩, madeBy_type mro_map lookup_map_new (by decide +kernel), by decide +kernel, by rw [isSubtype_type]; kernel_rfl, slot_map_init⟩
theorem typeCall_map_2 (a b : Value) : checkTypeCall "map" ⟨[a, b], []⟩ = pure () := by kernel_rfl
theorem newCall_map_2 (a b : Value) : checkBuiltinCall "map.__new__" ⟨[.type "map", a, b], []⟩ = pure () := by kernel_rfl
theorem sub_map : isSubtype (.type "map") (.type "map") = pure true := by rw [isSubtype_type]; kernel_rfl

abbrev IsMap (h : Heap) (e t : Addr) (f : Value) : Prop := h.get? e = some { cls := .type "map", dict := none, data := .fields #[.ref t, f], slots := #[] }
abbrev IsOne (h : Heap) (t : Addr) (a : Value) : Prop := h.get? t = some { cls := .type "tuple", data := .seq #[a] }

noncomputable abbrev mapH1 (h : Heap) (l : Addr) : Heap := h.push { cls := .type "list_iterator", data := .fields #[.ref l, .int 0 0] }
noncomputable abbrev mapH2 (h : Heap) (l : Addr) : Heap := (mapH1 h l).push { cls := .type "tuple", data := .seq #[.ref h.objs.size] }
noncomputable abbrev mapH3 (h : Heap) (l : Addr) (f : Value) : Heap := (mapH2 h l).push { cls := .type "map", data := .fields #[.ref (mapH1 h l).objs.size, f] }

theorem meets_map_new (f : Value) (l : Addr) (xs : Array Value) :
    Meets (Builtin.«map.__new__» ⟨[.type "map", f, .ref l], []⟩) (fun _ R s => s.heap.IsList l xs ∧
      R (.ok (.ret (.ref (mapH2 s.heap l).objs.size))) { s with heap := mapH3 s.heap l f }) :=
  .of_wp fun prog w A R s h => by
    obtain ⟨hp, g, d, tk, os⟩ := s; obtain ⟨hl1, h⟩ := h
    have hsub := sub_map
    have hL1 : Heap.IsList (Shared.heap ⟨hp, g, d, tk, os⟩) l xs := hl1
    wp_walk using wpAny_pyIter_list hL1
    exact ⟨_, rfl, h⟩

section
variable {prog : Program} {w : World} {A : Around} {E : Value → Shared → Prop} {s : Shared}

theorem call_map {f : Value} {l : Addr} {xs : Array Value} {Q : Value → Shared → Prop} (hl : s.heap.IsList l xs)
    (h : ∀ h', IsMap h' (s.heap.objs.size + 2) (s.heap.objs.size + 1) f → IsOne h' (s.heap.objs.size + 1) (.ref s.heap.objs.size) → h'.IsListIter s.heap.objs.size l 0 →
      (∀ c o, s.heap.get? c = some o → h'.get? c = some o) → Q (.ref (s.heap.objs.size + 2)) { s with heap := h' }) :
    wpAny (model prog w) A (call (.type "map") [f, .ref l]) Q E s := by
  refine callType_new called_map (by decide) (typeCall_map_2 _ _) (newCall_map_2 _ _) (fun obj => F.args_object_init_3 obj _ _) entry_map_new
    (meets_map_new f l xs) ⟨hl, ?_⟩
  have z1 : (mapH1 s.heap l).objs.size = s.heap.objs.size + 1 := Heap.size_push ..
  have z2 : (mapH2 s.heap l).objs.size = s.heap.objs.size + 2 := by rw [Heap.size_push, z1]
  have g3 : (mapH3 s.heap l f).get? (mapH2 s.heap l).objs.size = some _ := Heap.get?_push_size _ rfl
  have g2 : (mapH3 s.heap l f).get? (mapH1 s.heap l).objs.size = some _ := Heap.get?_push_of_some _ (Heap.get?_push_size _ rfl)
  have g1 : (mapH3 s.heap l f).get? s.heap.objs.size = some _ := Heap.get?_push_of_some _ (Heap.get?_push_of_some _ (Heap.get?_push_size _ rfl))
  show _ ∧ _
  rw [z1, z2] at g3
  rw [z1] at g2
  rw [z2]
  exact ⟨⟨_, g3, rfl⟩, h _ g3 g2 ⟨_, g1, rfl, rfl⟩ fun c o x => Heap.get?_push_of_some _ (Heap.get?_push_of_some _ (Heap.get?_push_of_some _ x))⟩

theorem pyIter_map {e t : Addr} {f : Value} {Q : Value → Shared → Prop} (he : IsMap s.heap e t f) (h : Q (.ref e) s) : wpAny (model prog w) A (pyIter (.ref e)) Q E s := by
  have hT : s.TypeIs (.ref e) "map" := ⟨_, he, rfl⟩
  refine wpAny_pyIter_slot hT slot_map_iter (wpAny_call_entry slot_map_iter hT entry_map_iter ?_ (args_map_iter_1 _))
  show wpAny _ _ (ret (.ref e)) _ _ s
  exact wpAny_pure ⟨_, rfl, "map", _, hT, slot_map_next.lookup, h⟩

theorem pyNext_map_item {e t it l : Addr} {i : Nat} {f : Value} {items : Array Value} {x : Value} {Q : Option Value → Shared → Prop}
    (he : IsMap s.heap e t f) (ht : IsOne s.heap t (.ref it)) (hit : s.heap.IsListIter it l i) (hl : s.heap.IsList l items) (hx : items[i]? = some x) (hne : e ≠ it)
    (hQ : ∀ h', h'.IsListIter it l (i + 1) → Heap.SameBut it s.heap h' → ∀ A' : Around, wpAny (model prog w) A' (call f [x]) (fun v s' => Q (some v) s') (fun _ _ => False) { s with heap := h' }) :
    wpAny (model prog w) A (pyNext (.ref e)) Q E s := by
  have hT : s.TypeIs (.ref e) "map" := ⟨_, he, rfl⟩
  unfold pyNext
  refine wpAny_bind (wpAny_attempt (wpAny_callSpecial?_slot (name := Str.ofString "__next__") hT slot_map_next
    (wpAny_call_entry slot_map_next hT entry_map_next ?_ (args_map_next_1 _))))
  obtain ⟨hp, g, d, tk, os⟩ := s
  show wpAny _ _ (field (.ref e) 0 >>= _) _ _ _
  refine wpAny_bind (wpAny_field he rfl (x := .ref t) rfl ?_)
  refine wpAny_bind (wpAny_seqItems ht rfl ?_)
  dsimp only
  refine wpAny_bind ?_
  simp only [← Array.forIn_toList, List.forIn_cons, List.forIn_nil]
  refine wpAny_bind (wpAny_bind (wpAny_holding (wpAny_nextOf_list_item hit hl hx fun h' hit' hs' => wpAny_pure ?_)))
  dsimp only
  refine wpAny_pure ?_
  refine wpAny_bind (wpAny_field (show h'.get? e = some _ from (hs'.2 e hne).trans he) rfl (x := f) rfl ?_)
  refine wpAny_bind (wpAny_holding (wpAny_mono (hQ h' hit' hs' _) (fun v s' hq => ?_) fun _ _ x => x.elim))
  refine wpAny_bind (wpAny_letGo (wpAny_pure ⟨_, rfl, wpAny_pure hq⟩))

theorem pyNext_map_end {e t it l : Addr} {i : Nat} {f : Value} {items : Array Value} {Q : Option Value → Shared → Prop} (hh : A.handled = none)
    (he : IsMap s.heap e t f) (ht : IsOne s.heap t (.ref it)) (hit : s.heap.IsListIter it l i) (hl : s.heap.IsList l items) (hx : items[i]? = none)
    (hQ : ∀ h', Heap.ExtBut it s.heap h' → Q none { s with heap := h' }) :
    wpAny (model prog w) A (pyNext (.ref e)) Q E s := by
  have hT : s.TypeIs (.ref e) "map" := ⟨_, he, rfl⟩
  unfold pyNext
  refine wpAny_bind (wpAny_attempt (wpAny_callSpecial?_slot (name := Str.ofString "__next__") hT slot_map_next
    (wpAny_call_entry slot_map_next hT entry_map_next ?_ (args_map_next_1 _))))
  obtain ⟨hp, g, d, tk, os⟩ := s
  show wpAny _ _ (field (.ref e) 0 >>= _) _ _ _
  refine wpAny_bind (wpAny_field he rfl (x := .ref t) rfl ?_)
  refine wpAny_bind (wpAny_seqItems ht rfl ?_)
  dsimp only
  refine wpAny_bind ?_
  simp only [← Array.forIn_toList, List.forIn_cons, List.forIn_nil]
  refine wpAny_bind (wpAny_bind (wpAny_holding (wpAny_nextOf_list_end (A := A.in1) hh hit hl hx fun h' x he' hx' => ?_)))
  obtain ⟨o, ho, hc⟩ := hx'
  refine wpAny_bind (wpAny_isInstance (T := "StopIteration") (b := true) ⟨o, ho, hc⟩ isSubtype_stop ?_)
  exact wpAny_pure (hQ _ he')

theorem unpack_map_ints {e t it l : Addr} {x y : Str} {tx ty : Tok} {i j : Int} {Q : List Value → Shared → Prop} (hh : A.handled = none)
    (he : IsMap s.heap e t (.type "int")) (ht : IsOne s.heap t (.ref it)) (hit : s.heap.IsListIter it l 0) (hl : s.heap.IsList l #[.str x tx, .str y ty]) (hne : e ≠ it) (hnt : t ≠ it) (hnl : l ≠ it)
    (hx : PySem.intText? x = some i) (hy : PySem.intText? y = some j) (hlx : x.length ≤ 640) (hly : y.length ≤ 640)
    (hQ : ∀ h' tk ti tj, (∀ b o, b ≠ it → s.heap.get? b = some o → h'.get? b = some o) → Q [.int i ti, .int j tj] { s with heap := h', toks := tk }) :
    wpAny (model prog w) A (unpackItems (.ref e) 2 none) Q E s := by
  have hT : s.TypeIs (.ref e) "map" := ⟨_, he, rfl⟩
  unfold unpackItems
  refine wpAny_bind ?_
  unfold notIterableAtAll
  refine wpAny_bind (wpAny_specialOf hT slot_map_iter.lookup ?_)
  refine wpAny_pure ?_
  simp only [Bool.false_eq_true, if_false]
  refine wpAny_bind (wpAny_holding (pyIter_map he ?_))
  refine wpAny_bind (wpAny_holding ?_)
  unfold draw
  refine wpAny_bind (pyNext_map_item he ht hit hl (x := .str x tx) rfl hne fun h1 hit1 hs1 A1 => KIN.call_text hx hlx ?_)
  unfold draw
  refine wpAny_bind (wpAny_holding ?_)
  have he1 : IsMap h1 e t (.type "int") := (hs1.2 e hne).trans he
  have ht1 : IsOne h1 t (.ref it) := (hs1.2 t hnt).trans ht
  have hl1 : h1.IsList l #[.str x tx, .str y ty] := hl.extBut hs1.extBut hnl
  refine wpAny_bind (pyNext_map_item he1 ht1 hit1 hl1 (x := .str y ty) rfl hne fun h2 hit2 hs2 A2 => KIN.call_text hy hly ?_)
  refine wpAny_bind (wpAny_holding ?_)
  unfold draw
  refine wpAny_pure (wpAny_pure (wpAny_pure ?_))
  have he2 : IsMap h2 e t (.type "int") := (hs2.2 e hne).trans he1
  have ht2 : IsOne h2 t (.ref it) := (hs2.2 t hnt).trans ht1
  have hl2 : h2.IsList l #[.str x tx, .str y ty] := hl1.extBut hs2.extBut hnl
  simp only [List.length_cons, List.length_nil, Nat.lt_irrefl, if_false]
  refine wpAny_bind (wpAny_holding (pyNext_map_end hh he2 ht2 hit2 hl2 rfl fun h3 he3 => ?_))
  simp only [Option.isSome_none, Bool.false_eq_true, if_false]
  refine wpAny_pure (hQ h3 _ _ _ fun b o hb hbo => he3 b o hb (hs2.extBut b o hb (hs1.extBut b o hb hbo)))
end
end Mine

end

/-! EnumT -/
section
open PySem PySem.W PySem.Spec PySem.Calls PyProof.Rows
open Sem (wp)
set_option maxRecDepth 100000
namespace Mine
section
variable {prog : Program} {w : World} {A : Around} {E : Value → Shared → Prop} {s : Shared}

/-! one item of a tuple's iterator, drawn by another built-in -/
theorem nextOf_tup_item {it l : Addr} {i : Nat} {items : Array Value} {x : Value} {Q : Value → Shared → Prop} (hit : s.heap.IsTupleIter it l i) (hl : s.heap.IsTuple l items) (hx : items[i]? = some x)
    (hQ : ∀ h', h'.IsTupleIter it l (i + 1) → Heap.SameBut it s.heap h' → Q x { s with heap := h' }) : wpAny (model prog w) A (Builtin.SmallTypes.nextOf (.ref it)) Q E s := by
  obtain ⟨o, ho, hc, hd⟩ := id hit
  obtain ⟨ol, hol, _, nl, hdl⟩ := hl
  unfold Builtin.SmallTypes.nextOf
  refine wpAny_bind (wpAny_callSpecial?_slot (name := Str.ofString "__next__") hit.typeIs F.slot_tuple_iterator_next (wpAny_call_entry F.slot_tuple_iterator_next hit.typeIs F.entry_tuple_iterator_next ?_ (F.args_tuple_iterator_next_1 _)))
  show wpAny _ _ (field (.ref it) 0 >>= _) _ _ s
  refine wpAny_bind (wpAny_field ho hd (x := .ref l) rfl ?_)
  show wpAny _ _ (if (Value.ref l == Value.none) = true then _ else _) _ _ s
  rw [if_neg (show ¬ ((Value.ref l == Value.none) = true) from Bool.false_ne_true)]
  show wpAny _ _ (field (.ref it) 1 >>= _) _ _ s
  refine wpAny_bind (wpAny_field ho hd (x := .int i 0) rfl ?_)
  show wpAny _ _ (seqItems? (.ref l) >>= _) _ _ s
  refine wpAny_bind (wpAny_seqItems hol hdl ?_)
  simp only [Int.toNat_natCast, hx]
  refine wpAny_bind (wpAny_setField ho hd (by simp) (wpAny_pure ⟨x, rfl, wpAny_pure (hQ _ ?_ (Heap.SameBut.update ..))⟩))
  exact ⟨_, Heap.get?_update_self _ ho (Obj.isFreed_of_fields (Obj.data_mapFields hd _)), (Obj.cls_mapFields ..).trans hc, by rw [Obj.data_mapFields hd]; simp [rawInt]⟩

theorem nextOf_tup_end {it l : Addr} {i : Nat} {items : Array Value} {Q : Value → Shared → Prop} (hh : A.handled = none) (hit : s.heap.IsTupleIter it l i) (hl : s.heap.IsTuple l items) (hx : items[i]? = none)
    (hE : ∀ h' e, Heap.ExtBut it s.heap h' → (∃ o, h'.get? e = some o ∧ o.cls = .type "StopIteration") → E (.ref e) { s with heap := h' }) : wpAny (model prog w) A (Builtin.SmallTypes.nextOf (.ref it)) Q E s := by
  obtain ⟨o, ho, hc, hd⟩ := id hit
  obtain ⟨ol, hol, _, nl, hdl⟩ := hl
  unfold Builtin.SmallTypes.nextOf
  refine wpAny_bind (wpAny_callSpecial?_slot (name := Str.ofString "__next__") hit.typeIs F.slot_tuple_iterator_next (wpAny_call_entry F.slot_tuple_iterator_next hit.typeIs F.entry_tuple_iterator_next ?_ (F.args_tuple_iterator_next_1 _)))
  show wpAny _ _ (field (.ref it) 0 >>= _) _ _ s
  refine wpAny_bind (wpAny_field ho hd (x := .ref l) rfl ?_)
  show wpAny _ _ (if (Value.ref l == Value.none) = true then _ else _) _ _ s
  rw [if_neg (show ¬ ((Value.ref l == Value.none) = true) from Bool.false_ne_true)]
  show wpAny _ _ (field (.ref it) 1 >>= _) _ _ s
  refine wpAny_bind (wpAny_field ho hd (x := .int i 0) rfl ?_)
  show wpAny _ _ (seqItems? (.ref l) >>= _) _ _ s
  refine wpAny_bind (wpAny_seqItems hol hdl ?_)
  simp only [Int.toNat_natCast, hx]
  refine wpAny_bind (wpAny_rule (wpAny_bind (wpAny_setField ho hd (by simp) ?_)))
  show wpAny _ _ (newExc (.type "StopIteration") [] >>= _) _ _ _
  refine wpAny_bind ?_
  simp only [newExc, newTuple]
  refine wpAny_bind (wpAny_newObj_type ?_ (by size_fits))
  refine wpAny_bind (m := firstArgMember _ _) (wpAny_of_eq (a := Value.none) (by first | rfl | (simp only [firstArgMember]; rfl)) ?_)
  refine wpAny_newObj_type ?_ (by size_fits)
  simp only [raiseNew]
  refine wpAny_bind (wpAny_handled ?_)
  first | rw [show A.in1.handled = none from hh] | rw [hh]
  refine wpAny_bind (wpAny_pure (wpAny_throw ?_))
  exact hE _ _ (((Heap.SameBut.update ..).extBut.push _).push _) ⟨_, Heap.get?_push_size _ rfl, rfl⟩
end

/-! enumerate of a tuple -/
noncomputable abbrev enH1 (h : Heap) (l : Addr) : Heap := h.push { cls := .type "tuple_iterator", data := .fields #[.ref l, .int 0 0] }
noncomputable abbrev enH2 (h : Heap) (l : Addr) : Heap := (enH1 h l).push { cls := .type "enumerate", data := .fields #[.none, .bool false, .ref h.objs.size, rawInt 0, .none, .none] }

theorem meets_enum_tup (l : Addr) (items : Array Value) (n : Nat) (dct : Option Addr) (sl : Array (Option Value)) :
    Meets (Builtin.«enumerate.__new__» ⟨[.type "enumerate", .ref l], []⟩) (fun _ R s => s.heap.get? l = some { cls := .type "tuple", dict := dct, data := .seq items n, slots := sl } ∧
      R (.ok (.ret (.ref (enH1 s.heap l).objs.size))) { s with heap := enH2 s.heap l }) :=
  .of_wp fun prog w A R s h => by
    obtain ⟨hp, g, d, tk, os⟩ := s; obtain ⟨hl, h⟩ := h
    have hsub := sub_enumerate
    have hL : Heap.IsTuple (Shared.heap ⟨hp, g, d, tk, os⟩) l items := ⟨_, hl, rfl, n, rfl⟩
    wp_walk using AutoSeq1.wpAny_loadPart' hl
    refine wpAny_stack_any fun st => wpAny_pure ?_
    split
    · rename_i c _ _ _ _ _
      cases (c == Value.type "enumerate")
      · wp_walk using AutoSeq1.wpAny_loadPart' hl, wpAny_pyIter_tuple hL
        exact ⟨_, rfl, h⟩
      · wp_walk using AutoSeq1.wpAny_loadPart' hl, wpAny_pyIter_tuple hL
        exact ⟨_, rfl, h⟩
    · wp_walk using AutoSeq1.wpAny_loadPart' hl, wpAny_pyIter_tuple hL
      exact ⟨_, rfl, h⟩

section
variable {prog : Program} {w : World} {A : Around} {E : Value → Shared → Prop} {s : Shared}
theorem call_enum_tup {l : Addr} {items : Array Value} {Q : Value → Shared → Prop} (hL : s.heap.IsTuple l items)
    (h : ∀ h', IsEnum h' (s.heap.objs.size + 1) s.heap.objs.size 0 .none → h'.IsTupleIter s.heap.objs.size l 0 → (∀ b o, s.heap.get? b = some o → h'.get? b = some o) → Q (.ref (s.heap.objs.size + 1)) { s with heap := h' }) :
    wpAny (model prog w) A (call (.type "enumerate") [.ref l]) Q E s := by
  obtain ⟨⟨c, dct, dt, sl⟩, hl, hc, n, hd⟩ := hL
  replace hc : c = .type "tuple" := hc
  replace hd : dt = .seq items n := hd
  subst hc hd
  refine callType_new F.called_enumerate (by decide) (F.typeCall_enumerate_1 _) (F.newCall_enumerate_1 _) (fun obj => F.args_object_init_2 obj _) F.entry_enumerate_new (meets_enum_tup l items n dct sl) ⟨hl, ?_⟩
  have hz : (enH1 s.heap l).objs.size = s.heap.objs.size + 1 := Heap.size_push ..
  have he : IsEnum (enH2 s.heap l) (enH1 s.heap l).objs.size s.heap.objs.size 0 .none := Heap.get?_push_size _ rfl
  show _ ∧ _
  rw [hz] at he ⊢
  exact ⟨⟨_, he, rfl⟩, h _ he ⟨_, Heap.get?_push_of_some _ (Heap.get?_push_size _ rfl), rfl, rfl⟩ fun b o x => Heap.get?_push_of_some _ (Heap.get?_push_of_some _ x)⟩

/-- the state behind a draw: a new pair at a, the iterator one on, the rest as it was -/
theorem enum_tup_next {e it l : Addr} {i : Nat} {items : Array Value} {x old : Value} {Q : Value → Shared → Prop} (he : IsEnum s.heap e it i old) (hit : s.heap.IsTupleIter it l i) (hl : s.heap.IsTuple l items) (hx : items[i]? = some x) (hne : e ≠ it)
    (hQ : ∀ h' a t tk, IsEnumOut h' e it ((i : Int) + 1) x a → h'.IsTupleIter it l (i + 1) → h'.get? a = some { cls := .type "tuple", data := .seq #[.int i t, x] } → s.heap.objs.size ≤ a →
      (∀ b o, b ≠ e → b ≠ it → s.heap.get? b = some o → h'.get? b = some o) → Q (.ref a) { s with heap := h', toks := tk }) :
    wpAny (model prog w) A (Builtin.«enumerate.__next__» ⟨[.ref e], []⟩) (fun fin s' => ∃ v, fin = .done (.ret v) ∧ Q v s') E s := by
  obtain ⟨hp, g, d, tk, os⟩ := s
  show wpAny _ _ (field (.ref e) 2 >>= _) _ _ _
  refine wpAny_bind (wpAny_field he rfl (x := .ref it) rfl ?_)
  refine wpAny_bind (nextOf_tup_item hit hl hx fun h1 hit1 hs1 => ?_)
  have he1 : IsEnum h1 e it i old := (hs1.2 e hne).trans he
  have k1 : ∀ b o, b ≠ e → b ≠ it → hp.get? b = some o → h1.get? b = some o := fun b o _ hb q => hs1.extBut b o hb q
  have z1 : h1.objs.size = hp.objs.size := hs1.1
  show wpAny _ _ (field (.ref e) 3 >>= _) _ _ ⟨h1, g, d, tk, os⟩
  refine wpAny_bind (wpAny_field he1 rfl (x := rawInt i) rfl ?_)
  show wpAny _ _ (field (.ref e) 4 >>= _) _ _ ⟨h1, g, d, tk, os⟩
  refine wpAny_bind (wpAny_field he1 rfl (x := .none) rfl ?_)
  show wpAny _ _ (mkInt i >>= _) _ _ ⟨h1, g, d, tk, os⟩
  refine wpAny_bind (wpAny_mkInt ?_)
  show wpAny _ _ (setField (.ref e) 3 (rawInt ((i : Int) + 1)) >>= _) _ _ ⟨h1, g, d, tk + 1, os⟩
  refine wpAny_bind (wpAny_setField_rec he1 (by simp) fun h2 he2' hs2 => ?_)
  have he2 : IsEnum h2 e it ((i : Int) + 1) old := he2'
  have k2 : ∀ b o, b ≠ e → b ≠ it → hp.get? b = some o → h2.get? b = some o := fun b o hb hi q => hs2.extBut b o hb (k1 b o hb hi q)
  have z2 : h2.objs.size = hp.objs.size := hs2.1.trans z1
  have hit2 : h2.IsTupleIter it l (i + 1) := hit1.extBut hs2.extBut (Ne.symm hne)
  show wpAny _ _ (setField (.ref e) 4 .none >>= _) _ _ ⟨h2, g, d, tk + 1, os⟩
  refine wpAny_bind (wpAny_setField_rec he2 (by simp) fun h3 he3' hs3 => ?_)
  have he3 : IsEnum h3 e it ((i : Int) + 1) old := he3'
  have k3 : ∀ b o, b ≠ e → b ≠ it → hp.get? b = some o → h3.get? b = some o := fun b o hb hi q => hs3.extBut b o hb (k2 b o hb hi q)
  have z3 : h3.objs.size = hp.objs.size := hs3.1.trans z2
  have hit3 : h3.IsTupleIter it l (i + 1) := hit2.extBut hs3.extBut (Ne.symm hne)
  show wpAny _ _ (newTuple [.int i tk, x] >>= _) _ _ ⟨h3, g, d, tk + 1, os⟩
  refine wpAny_bind (wpAny_newTuple ?_)
  have hlt : e < h3.objs.size := Heap.lt_size he3
  have he4 : IsEnum (h3.push { cls := .type "tuple", data := .seq #[.int i tk, x] }) e it ((i : Int) + 1) old := Heap.get?_push_of_some _ he3
  have ht4 : (h3.push { cls := .type "tuple", data := .seq #[.int i tk, x] }).get? h3.objs.size = some { cls := .type "tuple", data := .seq #[.int i tk, x] } := Heap.get?_push_size _ rfl
  have k4 : ∀ b o, b ≠ e → b ≠ it → hp.get? b = some o → (h3.push { cls := .type "tuple", data := .seq #[.int i tk, x] }).get? b = some o := fun b o hb hi q => Heap.get?_push_of_some _ (k3 b o hb hi q)
  have hit4 : (h3.push { cls := .type "tuple", data := .seq #[.int i tk, x] }).IsTupleIter it l (i + 1) := hit3.at fun o q => Heap.get?_push_of_some _ q
  generalize h3.push { cls := .type "tuple", data := .seq #[.int i tk, x] } = h4 at he4 ht4 k4 hit4 ⊢
  generalize ha : h3.objs.size = a at *
  have hea : a ≠ e := Nat.ne_of_gt hlt
  show wpAny _ _ (Builtin.SmallTypes.ownedTupleIsFree (.ref e) >>= _) _ _ ⟨h4, g, d, tk + 1, os⟩
  refine wpAny_bind ?_
  unfold Builtin.SmallTypes.ownedTupleIsFree
  refine wpAny_bind (wpAny_field he4 rfl (x := .none) rfl (wpAny_pure ?_))
  simp only [if_true]
  refine wpAny_bind (wpAny_rule ?_)
  refine wpAny_bind (wpAny_field he4 rfl (x := old) rfl ?_)
  refine wpAny_bind (wpAny_setField_rec he4 (by simp) fun h5 he5' hs5 => ?_)
  have he5 : IsEnum h5 e it ((i : Int) + 1) x := he5'
  show wpAny _ _ (Builtin.SmallTypes.ownedTupleHandOut (.ref e) (.ref a) >>= _) _ _ ⟨h5, g, d, tk + 1, os⟩
  refine wpAny_bind ?_
  unfold Builtin.SmallTypes.ownedTupleHandOut
  refine wpAny_bind (wpAny_setField_rec he5 (by simp) fun h6 he6' hs6 => ?_)
  have he6 : IsEnumOut h6 e it ((i : Int) + 1) x a := he6'
  refine wpAny_setField_rec he6 (by simp) fun h7 he7' hs7 => ?_
  have he7 : IsEnumOut h7 e it ((i : Int) + 1) x a := he7'
  refine wpAny_bind (wpAny_letGo (wpAny_pure ⟨_, rfl, hQ h7 a tk _ he7 ?_ ?_ ?_ ?_⟩))
  · exact ((hit4.extBut hs5.extBut (Ne.symm hne)).extBut hs6.extBut (Ne.symm hne)).extBut hs7.extBut (Ne.symm hne)
  · exact hs7.extBut _ _ hea (hs6.extBut _ _ hea (hs5.extBut _ _ hea ht4))
  · exact Nat.le_of_eq z3.symm
  · exact fun b o hb hi q => hs7.extBut b o hb (hs6.extBut b o hb (hs5.extBut b o hb (k4 b o hb hi q)))

theorem walks_enum_tup (hh : A.handled = none) (e it l : Addr) (hei : e ≠ it) (hle : l ≠ e) (hli : l ≠ it) (items : Array Value) :
    WalksT prog w A e [e, it, l] [e, it] items.size
      (fun i vals => ∃ t x, items[i]? = some x ∧ vals = #[.int i t, x])
      (fun i h => (∃ old, IsEnum h e it i old) ∧ h.IsTupleIter it l i ∧ h.IsTuple l items)
      (fun i T h => (∃ x, IsEnumOut h e it ((i : Int) + 1) x T) ∧ h.IsTupleIter it l (i + 1) ∧ h.IsTuple l items ∧ T ≠ e ∧ T ≠ it) where
  sub := fun b hb => by
    simp only [List.mem_cons, List.not_mem_nil, or_false] at hb ⊢
    exact hb.elim .inl fun q => .inr (.inl q)
  frame := fun i h h' hst hk => by
    obtain ⟨⟨old, he⟩, hit, hl⟩ := hst
    exact ⟨⟨old, hk e (by simp) _ he⟩, hit.at fun o x => hk it (by simp) o x, hl.at fun o x => hk l (by simp) o x⟩
  item := fun i s Q E hi hst hQ => by
    obtain ⟨⟨old, he⟩, hit, hl⟩ := hst
    have hx : items[i]? = some items[i] := Array.getElem?_eq_getElem hi
    have hT : s.TypeIs (.ref e) "enumerate" := ⟨_, he, rfl⟩
    have helt : e < s.heap.objs.size := Heap.lt_size he
    have hilt : it < s.heap.objs.size := by obtain ⟨_, q, _⟩ := hit; exact Heap.lt_size q
    unfold pyNext
    refine wpAny_bind (wpAny_attempt (wpAny_callSpecial?_slot (name := Str.ofString "__next__") hT F.slot_enumerate_next
      (wpAny_call_entry F.slot_enumerate_next hT F.entry_enumerate_next (enum_tup_next he hit hl hx hei fun h' a t tk ho hit' ha hsz hk => wpAny_pure ?_) (F.args_enumerate_next_1 _))))
    exact hQ a #[.int i t, items[i]] h' tk ⟨_, _, hx, rfl⟩ hsz ⟨_, ha, rfl, _, rfl⟩
      ⟨⟨_, ho⟩, hit', hl.at fun o q => hk l o hle hli q, Nat.ne_of_gt (Nat.lt_of_lt_of_le helt hsz), Nat.ne_of_gt (Nat.lt_of_lt_of_le hilt hsz)⟩
      fun b o hb q => hk b o (fun e' => hb (by simp [e'])) (fun e' => hb (by simp [e'])) q
  go := fun elts k pos i T s Q E hm hQ => by
    obtain ⟨⟨x, ho⟩, hit, hl, hTe, hTi⟩ := hm
    refine wpAny_letOwnedTupleGo_enum ho fun h' he' hs' => hQ h' ⟨⟨x, by simpa using he'⟩, hit.at fun o y => (hs'.2 it hei.symm).trans y, hl.at fun o y => (hs'.2 l hle).trans y⟩ fun b o hb y => ?_
    exact (hs'.2 b fun e' => hb (by simp [e'])).trans y
  apart := fun i T h hm hT => by
    obtain ⟨_, _, _, hTe, hTi⟩ := hm
    simp only [List.mem_cons, List.not_mem_nil, or_false] at hT
    exact hT.elim hTe hTi
  done := fun s Q E hst hQ => by
    obtain ⟨⟨old, he⟩, hit, hl⟩ := hst
    have hT : s.TypeIs (.ref e) "enumerate" := ⟨_, he, rfl⟩
    unfold pyNext
    refine wpAny_bind (wpAny_attempt (wpAny_callSpecial?_slot (name := Str.ofString "__next__") hT F.slot_enumerate_next
      (wpAny_call_entry F.slot_enumerate_next hT F.entry_enumerate_next ?_ (F.args_enumerate_next_1 _))))
    show wpAny _ _ (field (.ref e) 2 >>= _) _ _ _
    refine wpAny_bind (wpAny_field he rfl (x := .ref it) rfl ?_)
    refine wpAny_bind (nextOf_tup_end (A := A.in1) hh hit hl (Array.getElem?_eq_none (Nat.le_refl _)) fun h' x he' hx' => ?_)
    obtain ⟨o, ho, hc⟩ := hx'
    refine wpAny_bind (wpAny_isInstance (T := "StopIteration") (b := true) ⟨o, ho, hc⟩ isSubtype_stop ?_)
    exact wpAny_pure (hQ _ s.toks fun b o hb q => he' b o (fun e' => hb (by simp [e'])) q)
  self := fun i s Q E hst hQ => by
    obtain ⟨⟨old, he⟩, _, _⟩ := hst
    exact wpAny_pyIter_enum he hQ
end
end Mine

end

/-! Loops -/
section
open PySem PySem.W PySem.Spec PySem.Calls PyProof.Rows
set_option maxRecDepth 100000
namespace Mine
section
variable {prog : Program} {w : World} {A : Around} {E : Value → Shared → Prop} {s : Shared} {env : Env} {h₀ : Heap} {target : Expr} {body orelse : List Stmt} {Q : Flow → Shared → Prop}

/-- any for loop with an else, by an invariant over the names and the ledger -/
theorem turns_else {I : Addr} {fp wr : List Addr} {n : Nat} {P Md : Nat → Value → Heap → Prop} {St : Nat → Heap → Prop} {m : Str → Option Value} {news : List (Addr × Obj)} (W : KTurns prog w A target I fp wr n P Md St)
    (hE : PassesOwn (model prog w) A env E) (hLf : env.locals ∉ fp) (hwr : ∀ b ∈ wr, h₀.get? b = none) (hnw : ∀ p ∈ news, p.1 ∉ wr) (hst : St 0 s.heap) (F : Fr h₀ env.locals s.heap m) (N : News h₀ env.locals s.heap news)
    (J : Nat → (Str → Option Value) → List (Addr × Obj) → Prop) (h0 : J 0 m news)
    (step : ∀ i v m₁ news₁ h₁ tk₁ own, i < n → P i v h₁ → J i m₁ news₁ → (∀ p ∈ news₁, p.1 ∉ wr) → (∀ p ∈ own, p.1 ∈ fp) → (∀ b ∈ fp, h₀.get? b = none → ∀ o, h₁.get? b = some o → (b, o) ∈ own) → St (i + 1) h₁ →
      Fr h₀ env.locals h₁ m₁ → News h₀ env.locals h₁ (own ++ news₁) →
      wpAny (model prog w) A (assign target env v) (fun _ s₂ => wpAny (model prog w) A (execs body env)
        (LoopStepV h₀ env.locals wr own (J (i + 1)) { s with heap := h₁, toks := tk₁ } (fun v s' => Q (.ret v) s') fun s' => Q .next s') E s₂) E { s with heap := h₁, toks := tk₁ })
    (done : ∀ h' tk m' news', Fr h₀ env.locals h' m' → News h₀ env.locals h' news' → J n m' news' → wpAny (model prog w) A (execs orelse env) Q E { s with heap := h', toks := tk }) :
    codeAny (model prog w) A (.forLoop target (.ref I) body orelse env) (fun r s' => match r with | .ok f => Q f s' | .error e => cameBackBy (model prog w) A env E e s') s := by
  have hLw : env.locals ∉ wr := fun h => hLf (W.sub _ h)
  refine codeAny_forLoop_any
    (fun k s' => ∃ h' tk m' news' i, s' = { s with heap := h', toks := tk } ∧ St i h' ∧ Fr h₀ env.locals h' m' ∧ News h₀ env.locals h' news' ∧ (∀ p ∈ news', p.1 ∉ wr) ∧ J i m' news' ∧ i ≤ n ∧ k = n + 1 - i) ?_ (n + 1)
    ⟨s.heap, s.toks, m, news, 0, rfl, hst, F, N, hnw, h0, Nat.zero_le _, rfl⟩
  rintro k s' ⟨h', tk, m', news', i, rfl, hst', F', N', hnw', hJ, hi, rfl⟩
  have kept : ∀ h₁ : Heap, (∀ b o, b ∉ wr → h'.get? b = some o → h₁.get? b = some o) → Fr h₀ env.locals h₁ m' ∧ News h₀ env.locals h₁ news' := fun h₁ hk =>
    ⟨⟨F'.ns.at' fun o e => hk _ o hLw e, fun b o e => hk b o (fun hb => by rw [hwr b hb] at e; cases e) (F'.keep b o e), F'.above⟩, fun p hp => ⟨hk _ _ (hnw' p hp) (N' p hp).1, (N' p hp).2⟩⟩
  rcases Nat.lt_or_ge i n with hlt | hge
  · refine W.item i _ _ _ hlt hst' fun v h₁ tk₁ hMd hk₁ => W.go i v _ _ _ hMd fun h₂ hP hst₂ hk₂ => ?_
    obtain ⟨F₂, N₂⟩ := kept h₂ fun b o hb q => hk₂ b o hb (hk₁ b o hb q)
    have Nown : News h₀ env.locals h₂ (PyProof.Rows.ownOf h₀ fp h₂) := news_ownOf hLf
    have on : ∀ h₃ m₂ news₂, Fr h₀ env.locals h₃ m₂ → News h₀ env.locals h₃ (PyProof.Rows.ownOf h₀ fp h₂ ++ news₂) → St (i + 1) h₃ := fun h₃ m₂ news₂ F₃ N₃ => W.frame _ _ _ hst₂ fun b hb o e => by
      cases hn : h₀.get? b with
      | some o₀ =>
        have q := F₂.keep b o₀ hn
        rw [e] at q
        cases q
        exact F₃.keep b o hn
      | none => exact (N₃ _ (List.mem_append_left _ (mem_ownOf hb hn e))).1
    refine wpAny_mono (wpAny_mono (step i v m' news' h₂ tk₁ (PyProof.Rows.ownOf h₀ fp h₂) hlt hP hJ hnw' ownOf_sub (fun b hb hn o e => mem_ownOf hb hn e) hst₂ F₂ (Nown.append N₂)) (fun _ s₂ q => wpAny_passesOwn hE q) hE) (fun _ s₂ q => wpAny_mono q (fun f s₃ h₃ => ?_) fun _ _ e => e) fun _ _ e => e
    cases f with
    | ret v => exact h₃
    | brk => exact h₃
    | cont =>
      obtain ⟨_, h₃', tk₃, m₂, news₂, rfl, F₃, N₃, ha₃, hJ₃⟩ := h₃
      exact ⟨n + 1 - (i + 1), by omega, h₃', tk₃, m₂, news₂, i + 1, rfl, on _ _ _ F₃ N₃, F₃, N₃.right, ha₃, hJ₃, hlt, rfl⟩
    | next =>
      obtain ⟨_, h₃', tk₃, m₂, news₂, rfl, F₃, N₃, ha₃, hJ₃⟩ := h₃
      exact ⟨n + 1 - (i + 1), by omega, h₃', tk₃, m₂, news₂, i + 1, rfl, on _ _ _ F₃ N₃, F₃, N₃.right, ha₃, hJ₃, hlt, rfl⟩
  · have hin : i = n := Nat.le_antisymm hi hge
    subst hin
    refine W.done _ _ _ hst' fun h₁ tk₁ hk₁ => ?_
    obtain ⟨F₁, N₁⟩ := kept h₁ hk₁
    exact wpAny_passesOwn hE (done h₁ tk₁ m' news' F₁ N₁ hJ)

/-- a for over a tuple of the ground, with an else: one iterator I of the loop's own -/
theorem for_tup_else {iter : Expr} {pos : Pos} {ax : Addr} {items : Array Value} {m : Str → Option Value} {news : List (Addr × Obj)} (J : Nat → (Str → Option Value) → List (Addr × Obj) → Prop)
    (hh : A.handled = none) (hT : IsTup h₀ ax items) (F : Fr h₀ env.locals s.heap m) (N : News h₀ env.locals s.heap news) (h0 : J 0 m news)
    (hiter : ∀ Q' : Value → Shared → Prop, Q' (.ref ax) s → wpAny (model prog w) A (eval iter env) Q' E s)
    (step : ∀ i v m₁ news₁ h₁ tk₁ I it, items[i]? = some v → J i m₁ news₁ → (∀ p ∈ news₁, p.1 ≠ I) → it.cls = .type "tuple_iterator" → Fr h₀ env.locals h₁ m₁ → News h₀ env.locals h₁ ((I, it) :: news₁) →
      wpAny (model prog w) A (assign target env v) (fun _ s₂ => wpAny (model prog w) A (execs body env) (TEnd h₀ env.locals { s with heap := h₁, toks := tk₁ } (I, it) (J (i + 1)) Q) E s₂) E { s with heap := h₁, toks := tk₁ })
    (done : ∀ h' tk m' news', Fr h₀ env.locals h' m' → News h₀ env.locals h' news' → J items.size m' news' → wpAny (model prog w) A (execs orelse env) Q E { s with heap := h', toks := tk })
    (hs : ∀ x, foldedSetIterable iter env x = pure x := by intro _; rfl)
    (hE : PassesOwn (model prog w) A env E := by passes_own) :
    wpAny (model prog w) A (exec (.For target iter body orelse pos) env) Q E s := by
  refine wpAny_For (hiter _ ?_) hs
  have hax : IsTup s.heap ax items := IsTup.keeps hT F.keep
  have hl : s.heap.IsTuple ax items := hax
  have hlt : ax < s.heap.objs.size := by obtain ⟨o, ho, _⟩ := hax; exact Heap.lt_size ho
  have hne : ax ≠ s.heap.objs.size := Nat.ne_of_lt hlt
  refine wpAny_pyIter_tuple hl ?_
  refine turns_else (h₀ := h₀) (s := { s with heap := s.heap.push { cls := .type "tuple_iterator", data := .fields #[.ref ax, .int 0 0] } }) (KTurns.ofWalks (Walks.tuple hh s.heap.objs.size ax hne items) fun i v s Q E st q => letGo_tupleiter st.1 q) hE ?_ ?_ ?_ ?_ (F.push _) (fun p hp => ⟨Heap.get?_push_of_some _ (N p hp).1, (N p hp).2⟩) J h0 ?_ done
  · intro hm
    rcases List.mem_cons.mp hm with e | hm
    · exact absurd F.ns.lt (e ▸ Nat.lt_irrefl _)
    · exact F.old_ne hT (List.mem_singleton.mp hm).symm
  · intro b hb
    rw [List.mem_singleton.mp hb]
    exact next_is_new F
  · intro p hp hI
    exact absurd (Heap.lt_size (N p hp).1) ((List.mem_singleton.mp hI) ▸ Nat.lt_irrefl _)
  · exact ⟨⟨_, Heap.get?_push_size _ rfl, rfl, rfl⟩, hl.at fun o e => Heap.get?_push_of_some _ e⟩
  · intro i v m₁ news₁ h₁ tk₁ own hi hP hJ hoff hown hall hst F₁ N₁
    obtain ⟨it, hit, hic, _⟩ := hst.1
    have hmem := hall s.heap.objs.size (List.mem_cons_self ..) (next_is_new F) it hit
    have hoff' : ∀ p ∈ news₁, p.1 ≠ s.heap.objs.size := fun p hp q => hoff p hp (by rw [q]; exact List.mem_singleton.mpr rfl)
    have N₂ : News h₀ env.locals h₁ ((s.heap.objs.size, it) :: news₁) := fun p hp => by
      rcases List.mem_cons.mp hp with rfl | hp
      · exact N₁ _ (List.mem_append_left _ hmem)
      · exact N₁ _ (List.mem_append_right _ hp)
    refine wpAny_mono (step i v m₁ news₁ h₁ tk₁ s.heap.objs.size it hP hJ hoff' hic F₁ N₂) (fun _ s₂ q => wpAny_mono q (fun f s₃ h₃ => ?_) fun _ _ e => e) fun _ _ e => e
    have fin : UnrEnd h₀ env.locals { s with heap := h₁, toks := tk₁ } s.heap.objs.size it (J (i + 1)) s₃ → LoopStepU h₀ env.locals [s.heap.objs.size] own (J (i + 1)) { s with heap := h₁, toks := tk₁ } .next s₃ := by
      rintro ⟨h', tk, m', news', e, F', N', ho, hJ'⟩
      refine ⟨rfl, h', tk, m', news', e, F', fun p hp => ?_, fun p hp hI => ho p hp (List.mem_singleton.mp hI), hJ'⟩
      rcases List.mem_append.mp hp with hp | hp
      · have P1 := N₁ p (List.mem_append_left _ hp)
        have h1 : p.1 = s.heap.objs.size := by
          rcases List.mem_cons.mp (hown p hp) with h1 | h1
          · exact h1
          · have h2 := P1.2.2
            rw [List.mem_singleton.mp h1] at h2
            obtain ⟨o, ho', _⟩ := hT
            rw [ho'] at h2; cases h2
        have h3 : p = (s.heap.objs.size, it) := by
          have h2 := P1.1
          rw [h1, hit] at h2
          exact Prod.ext h1 (Option.some.inj h2).symm
        rw [h3]; exact N' _ (List.mem_cons_self ..)
      · exact N' _ (List.mem_cons_of_mem _ hp)
    cases f with
    | ret v => exact LoopStepV.ret h₃
    | brk => exact LoopStepV.brk h₃
    | next => exact LoopStepV.next (fin h₃)
    | cont => exact LoopStepV.cont (fin h₃)

/-- a turn's end where the loop owns two objects -/
def End2 (h₀ : Heap) (L : Addr) (s₁ : Shared) (p q : Addr × Obj) (rest : (Str → Option Value) → List (Addr × Obj) → Prop) (s₂ : Shared) : Prop :=
  ∃ h' tk m' news', s₂ = { s₁ with heap := h', toks := tk } ∧ Fr h₀ L h' m' ∧ News h₀ L h' (p :: q :: news') ∧ (∀ r ∈ news', r.1 ≠ p.1 ∧ r.1 ≠ q.1) ∧ rest m' news'
def Post2 (h₀ : Heap) (L : Addr) (s₁ : Shared) (p q : Addr × Obj) (rest : (Str → Option Value) → List (Addr × Obj) → Prop) (Q : Flow → Shared → Prop) (f : Flow) (s₂ : Shared) : Prop :=
  match f with
  | .ret v => Q (.ret v) s₂
  | .brk => Q .next s₂
  | _ => End2 h₀ L s₁ p q rest s₂

/-- for i, x in enumerate(a tuple of the ground) -/
theorem Post2.next {h₀ : Heap} {L : Addr} {s₁ : Shared} {p q : Addr × Obj} {rest : (Str → Option Value) → List (Addr × Obj) → Prop} {Q : Flow → Shared → Prop} {h' : Heap} {tk : Nat} {m' : Str → Option Value} (news' : List (Addr × Obj)) (F : Fr h₀ L h' m') (N : News h₀ L h' (p :: q :: news')) (ho : ∀ r ∈ news', r.1 ≠ p.1 ∧ r.1 ≠ q.1) (hr : rest m' news') :
    Post2 h₀ L s₁ p q rest Q .next { s₁ with heap := h', toks := tk } := ⟨h', tk, m', news', rfl, F, N, ho, hr⟩
theorem for_enum_tup {elts : List Expr} {kk : Nat} {tpos : Pos} {iter : Expr} {pos : Pos} {ax : Addr} {items : Array Value} {m : Str → Option Value} {news : List (Addr × Obj)} (J : Nat → (Str → Option Value) → List (Addr × Obj) → Prop)
    (hh : A.handled = none) (hT : IsTup h₀ ax items) (F : Fr h₀ env.locals s.heap m) (N : News h₀ env.locals s.heap news) (h0 : J 0 m news)
    (hiter : ∀ Q' : Value → Shared → Prop, wpAny (model prog w) A (call (.type "enumerate") [.ref ax]) Q' E s → wpAny (model prog w) A (eval iter env) Q' E s)
    (step : ∀ i x t T m₁ news₁ h₁ tk₁ p q, items[i]? = some x → J i m₁ news₁ → (∀ r ∈ news₁, r.1 ≠ p.1 ∧ r.1 ≠ q.1) → p.2.cls = .type "enumerate" → q.2.cls = .type "tuple_iterator" → IsTup h₁ T #[.int i t, x] → Fr h₀ env.locals h₁ m₁ → News h₀ env.locals h₁ (p :: q :: news₁) →
      wpAny (model prog w) A (assign (.Tuple elts kk tpos) env (.ref T)) (fun _ s₂ => wpAny (model prog w) A (execs body env) (Post2 h₀ env.locals { s with heap := h₁, toks := tk₁ } p q (fun m' n' => J (i + 1) m' n') Q) E s₂) E { s with heap := h₁, toks := tk₁ })
    (done : ∀ h' tk m' news', Fr h₀ env.locals h' m' → News h₀ env.locals h' news' → J items.size m' news' → wpAny (model prog w) A (execs orelse env) Q E { s with heap := h', toks := tk })
    (hs : ∀ x, foldedSetIterable iter env x = pure x := by intro _; rfl)
    (hE : PassesOwn (model prog w) A env E := by passes_own) :
    wpAny (model prog w) A (exec (.For (.Tuple elts kk tpos) iter body orelse pos) env) Q E s := by
  have hax : IsTup s.heap ax items := IsTup.keeps hT F.keep
  have hl : s.heap.IsTuple ax items := hax
  have hlt : ax < s.heap.objs.size := by obtain ⟨o, ho, _⟩ := hax; exact Heap.lt_size ho
  refine wpAny_For (hiter _ (call_enum_tup hl fun h1 he1 hi1 k1 => ?_)) hs
  generalize hI : s.heap.objs.size = I at *
  have hLI : @LT.lt Nat _ env.locals I := hI ▸ F.ns.lt
  have hlt' : @LT.lt Nat _ ax I := hlt
  have hnI : h₀.get? I = none := hI ▸ next_is_new F
  have hge : h₀.objs.size ≤ I := by
    have := F.above
    exact Nat.le_trans this (Nat.le_of_lt hLI)
  have hnI1 : h₀.get? (I + 1) = none := by
    cases q : h₀.get? (I + 1) with
    | none => rfl
    | some o =>
      have q' : @LT.lt Nat _ (I + 1) h₀.objs.size := Heap.lt_size q
      omega
  have F1 := Fr.keeps F k1
  have N1 := News.grown N k1
  have hl1 : h1.IsTuple ax items := hl.at fun o e => k1 _ _ e
  have hNlt : ∀ r ∈ news, @LT.lt Nat _ r.1 I := fun r hr => hI ▸ Heap.lt_size (N r hr).1
  refine wpAny_pyIter_enum he1 ?_
  refine turns_else (h₀ := h₀) (s := { s with heap := h1 }) (KTurns.ofWalksU (walks_enum_tup hh (I + 1) I ax (neN (by omega)) (neN (by omega)) (neN (by omega)) items).toU) hE ?_ ?_ ?_ ⟨⟨_, he1⟩, hi1, hl1⟩ F1 N1 J h0 ?_ done
  · intro hm
    simp only [List.mem_cons, List.not_mem_nil, or_false] at hm
    rcases hm with e | e | e
    · have e' : @Eq Nat env.locals (I + 1) := e
      omega
    · have e' : @Eq Nat env.locals I := e
      omega
    · exact F.old_ne hT e.symm
  · intro b hb
    simp only [List.mem_cons, List.not_mem_nil, or_false] at hb
    rcases hb with e | e
    · rw [e]; exact hnI1
    · rw [e]; exact hnI
  · intro r hr hb
    have := hNlt r hr
    simp only [List.mem_cons, List.not_mem_nil, or_false] at hb
    have hb' : @Eq Nat r.1 (I + 1) ∨ @Eq Nat r.1 I := hb
    omega
  · rintro i v m₁ news₁ h₂ tk₁ own hi ⟨T, vals, rfl, ⟨t, x, hx, rfl⟩, hTT⟩ hJ hoff hown hall hst F₂ N₂
    obtain ⟨⟨old, heo⟩, hit, hlo⟩ := hst
    obtain ⟨oi, hoi, hic, _⟩ := hit
    have me := hall (I + 1) (by simp) hnI1 _ heo
    have mi := hall I (by simp) hnI _ hoi
    have hoff' : ∀ r ∈ news₁, r.1 ≠ I + 1 ∧ r.1 ≠ I := fun r hr => ⟨fun q => hoff r hr (by simp [q]), fun q => hoff r hr (by simp [q])⟩
    refine wpAny_mono (step i x t T m₁ news₁ h₂ tk₁ (I + 1, { cls := .type "enumerate", dict := none, data := .fields #[.none, .bool false, .ref I, rawInt ((i + 1 : Nat) : Int), .none, old], slots := #[] }) (I, oi) hx hJ hoff' rfl hic hTT F₂ (fun p hp => ?_)) (fun _ s₂ q => wpAny_mono q (fun f s₃ h₃ => ?_) fun _ _ e => e) fun _ _ e => e
    · rcases List.mem_cons.mp hp with rfl | hp
      · exact N₂ _ (List.mem_append_left _ me)
      · rcases List.mem_cons.mp hp with rfl | hp
        · exact N₂ _ (List.mem_append_left _ mi)
        · exact N₂ _ (List.mem_append_right _ hp)
    have fin : ∀ {pp qq : Addr × Obj}, pp.1 = I + 1 → qq.1 = I → h₂.get? pp.1 = some pp.2 → h₂.get? qq.1 = some qq.2 → End2 h₀ env.locals { s with heap := h₂, toks := tk₁ } pp qq (fun m' n' => J (i + 1) m' n') s₃ → LoopStepU h₀ env.locals [I + 1, I] own (J (i + 1)) { s with heap := h₂, toks := tk₁ } .next s₃ := by
      rintro ⟨a1, o1⟩ ⟨a2, o2⟩ rfl rfl g1 g2 ⟨h', tk, m', news', e, F', N', ho, hJ'⟩
      refine ⟨rfl, h', tk, m', news', e, F', fun p hp => ?_, fun p hp hb => ?_, hJ'⟩
      · rcases List.mem_append.mp hp with hp | hp
        · have P1 := N₂ p (List.mem_append_left _ hp)
          have h1 := hown p hp
          simp only [List.mem_cons, List.not_mem_nil, or_false] at h1
          rcases h1 with h1 | h1 | h1
          · have h3 : p = (a2 + 1, o1) := by
              have h2 := P1.1
              rw [h1] at h2
              exact Prod.ext h1 (Option.some.inj (h2.symm.trans g1))
            rw [h3]; exact N' _ (List.mem_cons_self ..)
          · have h3 : p = (a2, o2) := by
              have h2 := P1.1
              rw [h1] at h2
              exact Prod.ext h1 (Option.some.inj (h2.symm.trans g2))
            rw [h3]; exact N' _ (List.mem_cons_of_mem _ (List.mem_cons_self ..))
          · have h2 := P1.2.2
            rw [h1] at h2
            obtain ⟨o, ho', _⟩ := hT
            rw [ho'] at h2; cases h2
        · exact N' _ (List.mem_cons_of_mem _ (List.mem_cons_of_mem _ hp))
      · have := ho p hp
        simp only [List.mem_cons, List.not_mem_nil, or_false] at hb
        exact hb.elim this.1 this.2
    cases f with
    | ret v => exact LoopStepV.ret h₃
    | brk => exact LoopStepV.brk h₃
    | next => exact LoopStepV.next (fin rfl rfl heo hoi h₃)
    | cont => exact LoopStepV.cont (fin rfl rfl heo hoi h₃)
end
end Mine

end

/-! Plain -/
section
open PySem PySem.W PySem.Spec PySem.Calls PySem.NumText PyProof.Rows
set_option maxRecDepth 100000
namespace Mine

/-! texts -/
theorem cut_unique {c : Nat} : ∀ {p q a b : List Nat}, c ∉ p → c ∉ a → p ++ c :: q = a ++ c :: b → p = a ∧ q = b
  | [], _, [], _, _, _, e => by simpa using e
  | [], _, x :: a, _, _, ha, e => by simp only [List.nil_append, List.cons_append, List.cons.injEq] at e; exact absurd (e.1 ▸ List.mem_cons_self ..) ha
  | x :: p, _, [], _, hp, _, e => by simp only [List.nil_append, List.cons_append, List.cons.injEq] at e; exact absurd (e.1 ▸ List.mem_cons_self ..) hp
  | x :: p, _, y :: a, _, hp, ha, e => by
    simp only [List.cons_append, List.cons.injEq] at e
    obtain ⟨h1, h2⟩ := cut_unique (fun h => hp (List.mem_cons_of_mem _ h)) (fun h => ha (List.mem_cons_of_mem _ h)) e.2
    exact ⟨by rw [e.1, h1], h2⟩
theorem split_two {a b : Str} {c : Nat} (ha : c ∉ a.cps.toList) (hb : c ∉ b.cps.toList) : Txt.split (a ++ ⟨#[c]⟩ ++ b) ⟨#[c]⟩ = [a, b] := by
  have hcps : (a ++ ⟨#[c]⟩ ++ b).cps.toList = a.cps.toList ++ c :: b.cps.toList := by
    simp [Str.cps_append]
  have hfree := StrLaws.split_free (a ++ ⟨#[c]⟩ ++ b) c
  have hjoin := StrLaws.join_split (a ++ ⟨#[c]⟩ ++ b) ⟨#[c]⟩
  generalize Txt.split (a ++ ⟨#[c]⟩ ++ b) ⟨#[c]⟩ = l at hfree hjoin
  rw [← hjoin] at hcps
  match l, hfree, hcps with
  | [], _, e => simp [Str.join, Str.empty] at e
  | [p], hf, e =>
    have := hf p (by simp)
    exact absurd (by show c ∈ p.cps.toList; rw [show p.cps.toList = _ from e]; simp) this
  | p :: q :: r, hf, e =>
    have e' : p.cps.toList ++ c :: (Str.join ⟨#[c]⟩ (q :: r)).cps.toList = a.cps.toList ++ c :: b.cps.toList := by
      rw [← e]; show _ = (p ++ ⟨#[c]⟩ ++ Str.join ⟨#[c]⟩ (q :: r)).cps.toList; simp [Str.cps_append]
    obtain ⟨h1, h2⟩ := cut_unique (hf p (by simp)) ha e'
    have h1' : p = a := Str.ext' (Array.toList_inj.mp h1)
    cases r with
    | nil =>
      have h2' : q = b := Str.ext' (Array.toList_inj.mp h2)
      rw [h1', h2']
    | cons z r =>
      refine absurd ?_ hb
      rw [← h2]
      show c ∈ (q ++ ⟨#[c]⟩ ++ Str.join ⟨#[c]⟩ (z :: r)).cps.toList
      simp [Str.cps_append]

/-- no sign, plus, minus -/
def Mark (m : Str) : Prop := m = Str.ofString "" ∨ m = Str.ofString "+" ∨ m = Str.ofString "-"
noncomputable def numVal (m : Str) (e : List Nat) : Int := if m = Str.ofString "-" then - valOf e else valOf e
theorem Mark.len {m : Str} (h : Mark m) : m.length ≤ 1 := by rcases h with rfl | rfl | rfl <;> decide
theorem Mark.free {m : Str} (h : Mark m) : 46 ∉ m.cps.toList := by rcases h with rfl | rfl | rfl <;> decide
theorem figsText_cps (e : List Nat) : (figsText e).cps.toList = e.map (48 + ·) := by simp [figsText]
theorem figsText_free {e : List Nat} : 46 ∉ (figsText e).cps.toList := by
  rw [figsText_cps]
  intro h
  obtain ⟨d, _, q⟩ := List.mem_map.mp h
  omega
theorem num_free {m : Str} (h : Mark m) (e : List Nat) : 46 ∉ (m ++ figsText e).cps.toList := by
  have h1 := h.free
  have h2 := figsText_free (e := e)
  simp only [Str.cps_append, Array.toList_append, List.mem_append, not_or]
  exact ⟨h1, h2⟩
theorem place_split {m0 m1 : Str} (h0 : Mark m0) (h1 : Mark m1) (d0 d1 : List Nat) : Txt.split (placeText m0 m1 d0 d1) (Str.ofString ".") = [m0 ++ figsText d0.reverse, m1 ++ figsText d1.reverse] := by
  have e : Str.ofString "." = ⟨#[46]⟩ := by decide
  have := split_two (num_free h0 d0.reverse) (num_free h1 d1.reverse)
  unfold placeText
  rw [e]
  rw [← this]
  congr 1
  rw [Str.append_assoc (m0 ++ figsText d0.reverse ++ ⟨#[46]⟩) m1]
theorem digitsVal_figs (e : List Nat) : ((digitsVal (e.map (48 + ·)) : Nat) : Int) = e.foldl (fun (a : Int) (d : Nat) => a * 10 + (d : Int)) 0 := by
  unfold digitsVal
  have key : ∀ (l : List Nat) (a : Nat), (((l.map (48 + ·)).foldl (fun acc c => acc * 10 + (c - 48)) a : Nat) : Int) = l.foldl (fun (a : Int) (d : Nat) => a * 10 + (d : Int)) (a : Int) := by
    intro l
    induction l with
    | nil => intro a; rfl
    | cons d r ih =>
      intro a
      simp only [List.map_cons, List.foldl_cons]
      rw [ih]
      congr 1
      omega
  exact key e 0
theorem intText_plus {x : Str} {cs : List Nat} (hx : x.cps.toList = 43 :: cs) (h : AllDigits cs) (h1 : cs ≠ []) (h2 : x.length ≤ 4300) : PySem.intText? x = some ((digitsVal cs : Nat) : Int) := by
  have hs : ∀ c ∈ x.cps.toList, c = 43 ∨ (48 ≤ c ∧ c ≤ 57) := by
    rw [hx]
    intro c hc
    rcases List.mem_cons.mp hc with e | hc
    · exact Or.inl e
    · exact Or.inr (h c hc)
  have e1 : numTextOf x = x.cps.toList := by
    refine if_pos ?_
    rw [← Array.all_toList, List.all_eq_true]
    intro c hc
    have := hs c hc
    exact decide_eq_true (by omega)
  have e2 : numSeenOf x = x.cps.toList := by
    show (numTextOf x).takeWhile _ = _
    rw [e1]
    refine takeWhile_all fun c hc => ?_
    have := hs c hc
    exact bne_iff_ne.mpr (by omega)
  have hl : x.cps.toList.length = x.length := Array.length_toList
  unfold PySem.intText?
  rw [e1, e2, hx]
  rw [hx, List.length_cons] at hl
  have es : sign ((43 :: cs).dropWhile blank) = (false, cs) := by rw [dropWhile_of (by decide)]; rfl
  have ec : core (43 :: cs) = cs := by
    unfold core
    rw [es]
    show (cs.reverse.dropWhile blank).reverse = cs
    rw [dropWhile_digits h.reverse, List.reverse_reverse]
  rw [ec, es, digits_of h h1]
  have hsz := push_size cs #[]
  have hv := push_foldl cs #[]
  rw [if_pos (beq_self_eq_true _)]
  show (if _ ≤ 4300 then some (worth false _) else none) = _
  rw [if_pos (by rw [hsz]; simp only [Array.size_empty]; omega)]
  unfold worth digitsVal
  rw [hv]
  rfl
theorem figs_digits {e : List Nat} (h : ∀ d ∈ e, d < 10) : AllDigits (e.map (48 + ·)) := by
  intro c hc
  obtain ⟨d, hd, rfl⟩ := List.mem_map.mp hc
  have := h d hd
  omega
theorem num_text {m : Str} (hm : Mark m) {e : List Nat} (he : ∀ d ∈ e, d < 10) (hne : e ≠ []) (hl : e.length ≤ 24) : PySem.intText? (m ++ figsText e.reverse) = some (numVal m e) := by
  have hd : AllDigits (e.reverse.map (48 + ·)) := figs_digits fun d hd => he d (List.mem_reverse.mp hd)
  have hn : e.reverse.map (48 + ·) ≠ [] := by simpa using hne
  have hlen : (m ++ figsText e.reverse).length ≤ 4300 := by
    have := hm.len
    rw [Str.length_append, figsText_len, List.length_reverse]; omega
  have hc : (m ++ figsText e.reverse).cps.toList = m.cps.toList ++ e.reverse.map (48 + ·) := by rw [Str.cps_append, Array.toList_append, figsText_cps]
  have hv := digitsVal_figs e.reverse
  rcases hm with rfl | rfl | rfl
  · have hc' : (Str.ofString "" ++ figsText e.reverse).cps.toList = e.reverse.map (48 + ·) := hc
    rw [intText_digits (by rw [hc']; exact hd) (by rw [hc']; exact hn) hlen, hc', hv]
    rfl
  · have hc' : (Str.ofString "+" ++ figsText e.reverse).cps.toList = 43 :: e.reverse.map (48 + ·) := hc
    rw [intText_plus hc' hd hn hlen, hv]
    rfl
  · have hc' : (Str.ofString "-" ++ figsText e.reverse).cps.toList = 45 :: e.reverse.map (48 + ·) := hc
    rw [intText_neg hc' hd hn hlen, hv]
    rfl
end Mine

end

/-! Bits -/
section
open PySem PySem.W PySem.Spec PySem.Calls PySem.NumText PyProof.Rows
set_option maxRecDepth 100000
namespace Mine
theorem bitAnd_nat (a b : Nat) : Builtin.bitAnd (a : Int) (b : Int) = ((a &&& b : Nat) : Int) := by
  first | rfl | (unfold Builtin.bitAnd; simp)
theorem and_high (n : Nat) : n &&& 61440 = n / 4096 % 16 * 4096 := by
  apply Nat.eq_of_testBit_eq
  intro i
  rw [show (61440 : Nat) = (2 ^ 4 - 1) * 2 ^ 12 by decide, show (4096 : Nat) = 2 ^ 12 by decide, show (16 : Nat) = 2 ^ 4 by decide]
  simp only [Nat.testBit_and, Nat.testBit_mul_two_pow, Nat.testBit_mod_two_pow, Nat.testBit_div_two_pow, Nat.testBit_two_pow_sub_one]
  by_cases h : 12 ≤ i
  · simp only [h, decide_true, Bool.true_and]
    rw [show i - 12 + 12 = i by omega]
    exact Bool.and_comm _ _
  · simp [h]
theorem and_low (n : Nat) : n &&& 4095 = n % 4096 := by
  have := Nat.and_two_pow_sub_one_eq_mod n 12
  simpa using this
theorem shown_eq {x : Int} (h : 0 ≤ x) : Builtin.bitAnd x 61440 + Builtin.bitAnd x 4095 = x % 65536 := by
  obtain ⟨n, rfl⟩ := Int.eq_ofNat_of_zero_le h
  have h1 : Builtin.bitAnd (n : Int) 61440 = ((n &&& 61440 : Nat) : Int) := bitAnd_nat n 61440
  have h2 : Builtin.bitAnd (n : Int) 4095 = ((n &&& 4095 : Nat) : Int) := bitAnd_nat n 4095
  rw [h1, h2, and_high, and_low]
  omega

/-! dialing a figure -/
theorem valOf_cons (d : Nat) (e : List Nat) : valOf (d :: e) = valOf e * 10 + (d : Int) := by
  unfold valOf
  rw [List.reverse_cons, List.foldl_append]
  rfl
theorem valOf_set : ∀ {e : List Nat} {k d : Nat} (d' : Nat), e[k]? = some d → valOf (e.set k d') = valOf e + ((d' : Int) - d) * 10 ^ k
  | x :: e, 0, d, d', h => by
    cases h
    rw [List.set_cons_zero, valOf_cons, valOf_cons]
    simp; omega
  | x :: e, k + 1, d, d', h => by
    rw [List.set_cons_succ, valOf_cons, valOf_cons, valOf_set d' (by simpa using h), Int.pow_succ]
    have : ((d' : Int) - d) * (10 ^ k * 10) = (((d' : Int) - d) * 10 ^ k) * 10 := by rw [Int.mul_assoc]
    rw [this]
    generalize ((d' : Int) - d) * 10 ^ k = q
    omega
theorem swp_off (d : Nat) : ((swp d : Nat) : Int) - d = 1 ∨ ((swp d : Nat) : Int) - d = -1 := by unfold swp; split <;> omega
theorem numVal_swp {m : Str} {e : List Nat} {k d : Nat} (h : e[k]? = some d) : numVal m (e.set k (swp d)) = numVal m e + 10 ^ k ∨ numVal m (e.set k (swp d)) = numVal m e - 10 ^ k := by
  unfold numVal
  rw [valOf_set (swp d) h]
  generalize (10 : Int) ^ k = q
  rcases swp_off d with e | e <;> rw [e] <;> split <;> omega
theorem pow_pos2 (k : Nat) : (0 : Int) < 2 ^ k := Int.pow_pos (by decide)
theorem emod_two (a : Int) {q : Int} (hq : 0 < q) : a % (q * 2) = a % q + q * (a / q % 2) := by
  have e1 : a % q + q * (a / q) = a := Int.emod_add_mul_ediv a q
  have e2 : a / q % 2 + 2 * (a / q / 2) = a / q := Int.emod_add_mul_ediv (a / q) 2
  have h1 : a = (a % q + q * (a / q % 2)) + (q * 2) * (a / q / 2) := by
    conv => lhs; rw [← e1, ← e2]
    rw [Int.mul_add, Int.mul_assoc, Int.add_assoc]
  have h0 := Int.emod_nonneg a (Int.ne_of_gt hq)
  have h2 := Int.emod_lt_of_pos a hq
  have h3 : a / q % 2 = 0 ∨ a / q % 2 = 1 := by omega
  have h4 : (a % q + q * (a / q % 2)) % (q * 2) = a % q + q * (a / q % 2) := by
    apply Int.emod_eq_of_lt
    · rcases h3 with h3 | h3 <;> rw [h3] <;> omega
    · rcases h3 with h3 | h3 <;> rw [h3] <;> omega
  have h5 : a % (q * 2) = ((a % q + q * (a / q % 2)) + (q * 2) * (a / q / 2)) % (q * 2) := congrArg (· % (q * 2)) h1
  rw [h5, Int.add_mul_emod_self_left, h4]
theorem bit_low (a m : Int) {q : Int} (hq : 0 < q) : a % (q * (2 * m)) / q % 2 = a / q % 2 := by
  have e : a % (q * (2 * m)) + (q * (2 * m)) * (a / (q * (2 * m))) = a := Int.emod_add_mul_ediv a _
  have e' : a / q = (a % (q * (2 * m)) + q * (2 * (m * (a / (q * (2 * m)))))) / q := by
    have : q * (2 * (m * (a / (q * (2 * m))))) = q * (2 * m) * (a / (q * (2 * m))) := by
      generalize a / (q * (2 * m)) = z
      rw [Int.mul_assoc, Int.mul_assoc]
    rw [this, e]
  rw [e', Int.add_mul_ediv_left _ _ (Int.ne_of_gt hq)]
  omega
theorem bit_shown (a : Int) {k : Nat} (hk : k < 16) : a % 4294967296 % 65536 / 2 ^ k % 2 = a / 2 ^ k % 2 := by
  have e : a % 4294967296 % 65536 = a % 65536 := by omega
  have e2 : (65536 : Int) = 2 ^ k * (2 * 2 ^ (15 - k)) := by
    rw [Int.mul_comm 2, ← Int.pow_succ, ← Int.pow_add]
    have : k + (15 - k + 1) = 16 := by omega
    rw [this]; decide
  rw [e, e2]
  exact bit_low a _ (pow_pos2 k)
theorem dial_keep (a w : Int) {k : Nat} (hk : k < 16) (h : a % 2 ^ k = w % 2 ^ k) (hb : a % 4294967296 % 65536 / 2 ^ k % 2 = w / 2 ^ k % 2) : a % 2 ^ (k + 1) = w % 2 ^ (k + 1) := by
  rw [bit_shown a hk] at hb
  rw [Int.pow_succ, emod_two a (pow_pos2 k), emod_two w (pow_pos2 k), h, hb]
theorem dial_off (a w f : Int) {k : Nat} (hk : k < 16) (hf : f % 2 = 1) (h : a % 2 ^ k = w % 2 ^ k) (hb : ¬ a % 4294967296 % 65536 / 2 ^ k % 2 = w / 2 ^ k % 2) : (a + 2 ^ k * f) % 2 ^ (k + 1) = w % 2 ^ (k + 1) := by
  rw [bit_shown a hk] at hb
  rw [Int.pow_succ, emod_two _ (pow_pos2 k), emod_two w (pow_pos2 k), Int.add_mul_emod_self_left, Int.add_mul_ediv_left _ _ (Int.ne_of_gt (pow_pos2 k)), h]
  have : (a / 2 ^ k + f) % 2 = w / 2 ^ k % 2 := by omega
  rw [this]
theorem five_odd : ∀ k : Nat, (5 : Int) ^ k % 2 = 1
  | 0 => by decide
  | k + 1 => by rw [Int.pow_succ]; have := five_odd k; omega
theorem ten_pow (k : Nat) : (10 : Int) ^ k = 2 ^ k * 5 ^ k := by rw [← Int.mul_pow]; rfl
theorem dial_up (a w : Int) {k : Nat} (hk : k < 16) (h : a % 2 ^ k = w % 2 ^ k) (hb : ¬ a % 4294967296 % 65536 / 2 ^ k % 2 = w / 2 ^ k % 2) : (a + 10 ^ k) % 2 ^ (k + 1) = w % 2 ^ (k + 1) := by
  rw [ten_pow]
  exact dial_off a w _ hk (five_odd k) h hb
theorem dial_down (a w : Int) {k : Nat} (hk : k < 16) (h : a % 2 ^ k = w % 2 ^ k) (hb : ¬ a % 4294967296 % 65536 / 2 ^ k % 2 = w / 2 ^ k % 2) : (a - 10 ^ k) % 2 ^ (k + 1) = w % 2 ^ (k + 1) := by
  have e : a - 10 ^ k = a + 2 ^ k * (- 5 ^ k) := by rw [ten_pow, Int.mul_neg, Int.sub_eq_add_neg]
  rw [e]
  exact dial_off a w _ hk (by have := five_odd k; omega) h hb
/-- the lowest k bits are the wished ones -/
def Dial (m : Str) (w : Int) (e : List Nat) (k : Nat) : Prop := numVal m e % 2 ^ k = w % 2 ^ k
theorem two_pos (k : Nat) : (0 : Int) ≤ 2 ^ k := Int.pow_nonneg (by decide)
theorem look_eq {a w : Int} (k : Nat) : ((Builtin.bitAnd (a.fmod 4294967296) 61440 + Builtin.bitAnd (a.fmod 4294967296) 4095).fdiv (2 ^ ((k : Nat) : Int).toNat)).fmod 2 = (w.fdiv (2 ^ ((k : Nat) : Int).toNat)).fmod 2 ↔ a % 4294967296 % 65536 / 2 ^ k % 2 = w / 2 ^ k % 2 := by
  rw [Int.fmod_eq_emod_of_nonneg a (by decide : (0 : Int) ≤ 4294967296), shown_eq (Int.emod_nonneg _ (by decide)), Int.toNat_natCast]
  rw [Int.fdiv_eq_ediv_of_nonneg _ (two_pos k), Int.fdiv_eq_ediv_of_nonneg _ (two_pos k), Int.fmod_eq_emod_of_nonneg _ (by decide : (0 : Int) ≤ 2), Int.fmod_eq_emod_of_nonneg _ (by decide : (0 : Int) ≤ 2)]
theorem Dial.keep {m : Str} {w : Int} {e : List Nat} {k : Nat} (hk : k < 16) (h : Dial m w e k)
    (hb : ((Builtin.bitAnd ((numVal m e).fmod 4294967296) 61440 + Builtin.bitAnd ((numVal m e).fmod 4294967296) 4095).fdiv (2 ^ ((k : Nat) : Int).toNat)).fmod 2 = (w.fdiv (2 ^ ((k : Nat) : Int).toNat)).fmod 2) : Dial m w e (k + 1) :=
  dial_keep _ _ hk h ((look_eq k).mp hb)
theorem Dial.turn {m : Str} {w : Int} {e : List Nat} {k d : Nat} (hk : k < 16) (h : Dial m w e k)
    (hb : ((Builtin.bitAnd ((numVal m e).fmod 4294967296) 61440 + Builtin.bitAnd ((numVal m e).fmod 4294967296) 4095).fdiv (2 ^ ((k : Nat) : Int).toNat)).fmod 2 ≠ (w.fdiv (2 ^ ((k : Nat) : Int).toNat)).fmod 2) (hd : e[k]? = some d) : Dial m w (e.set k (swp d)) (k + 1) := by
  have hn : ¬ numVal m e % 4294967296 % 65536 / 2 ^ k % 2 = w / 2 ^ k % 2 := fun q => hb ((look_eq k).mpr q)
  unfold Dial
  rcases numVal_swp (m := m) hd with q | q <;> rw [q]
  · exact dial_up _ _ hk h hn
  · exact dial_down _ _ hk h hn
end Mine

end

/-! CellC -/
section
open PySem PySem.W PySem.Spec PySem.Calls PySem.NumText PyProof.Rows
set_option maxRecDepth 100000
namespace Mine
theorem news_same {h₀ h h' : Heap} {L a : Addr} {l : List (Addr × Obj)} (N : News h₀ L h l) (hs : Heap.SameBut a h h') (off : ∀ p ∈ l, p.1 ≠ a) : News h₀ L h' l := fun p hp => ⟨hs.extBut _ _ (off p hp) (N p hp).1, (N p hp).2⟩
/-- the end of a turn, the ledger as it was -/
def FEnd (h₀ : Heap) (L : Addr) (m : Str → Option Value) (s : Shared) (all : List (Addr × Obj)) (rest : Value → Prop) (y : Value) (s₂ : Shared) : Prop :=
  ∃ h' tk, s₂ = { s with heap := h', toks := tk } ∧ Fr h₀ L h' m ∧ News h₀ L h' all ∧ rest y
theorem FEnd.intro {h₀ h' : Heap} {L : Addr} {m : Str → Option Value} {s : Shared} {all : List (Addr × Obj)} {rest : Value → Prop} {y : Value} {tk : Nat} (F : Fr h₀ L h' m) (N : News h₀ L h' all) (r : rest y) : FEnd h₀ L m s all rest y { s with heap := h', toks := tk } := ⟨h', tk, rfl, F, N, r⟩
theorem rest_all {prog : Program} {w : World} {A : Around} {h₀ : Heap} {L : Addr} {m : Str → Option Value} {env : Env} {elt : PySem.Expr} {x : Str} {scope : Scope} {cl : List (Str × Addr)} {s : Shared} {S : List (Addr × Obj) → Prop} {P : Nat → Value → Prop} {Fin : List Value → List (Addr × Obj) → Prop} {n : Nat} {news : List (Addr × Obj)}
    (J : Nat → List Value → Prop) (hS : S news) (hj : J 0 [])
    (turn : ∀ i ys v I oI C oC D m₂ h tk (E' : Value → Shared → Prop), i < n → J i ys → P i v → LCg.NsObj oC m₂ → m₂ x = some v → Fr h₀ L h m → News h₀ L h ((I, oI) :: (C, oC) :: (D, LCg.lst ys) :: news) → LCg.Off3 I C D news → ((@Ne Nat I C) ∧ (@Ne Nat I D) ∧ (@Ne Nat C D)) →
      wpAny (model prog w) A (eval elt (compEnvC scope cl C env)) (FEnd h₀ L m { s with heap := h, toks := tk } ((I, oI) :: (C, oC) :: (D, LCg.lst ys) :: news) (fun y => J (i + 1) (ys ++ [y]))) E' { s with heap := h, toks := tk })
    (fin : ∀ ys, J n ys → Fin ys news) : LCg.CompRest prog w A h₀ L m env elt x scope cl s S P Fin n 0 [] news := by
  have key : ∀ (k i : Nat) ys, i + k = n → J i ys → LCg.CompRest prog w A h₀ L m env elt x scope cl s S P Fin k i ys news := by
    intro k
    induction k with
    | zero =>
      intro i ys e hJ
      have e' : i = n := by omega
      subst e'
      exact LCg.CompRest.zero (fin ys hJ)
    | succ k ih =>
      intro i ys e hJ
      refine LCg.CompRest.succ fun v I oI C oC D m₂ h tk E' hP hC hx F N off ne => ?_
      refine wpAny_mono (turn i ys v I oI C oC D m₂ h tk E' (by omega) hJ hP hC hx F N off ne) (fun y s₂ p => ?_) fun _ _ e => e
      obtain ⟨h', tk', e', F', N', hJ'⟩ := p
      exact ⟨h', tk', news, e', F', N', off, hS, ih (i + 1) (ys ++ [y]) (by omega) hJ'⟩
  exact key n 0 [] (by omega) hj
/-- apart from the block's own four objects -/
def Off4 (K I C D : Addr) (l : List (Addr × Obj)) : Prop := ∀ p ∈ l, p.1 ≠ K ∧ p.1 ≠ I ∧ p.1 ≠ C ∧ p.1 ≠ D
/-- a turn of a block whose name is a cell -/
def CEnd (h₀ : Heap) (L : Addr) (m : Str → Option Value) (s : Shared) (K I C D : Addr) (oK oI oC oD : Obj) (rest : Value → List (Addr × Obj) → Prop) (y : Value) (s₂ : Shared) : Prop :=
  ∃ h' tk nw, s₂ = { s with heap := h', toks := tk } ∧ Fr h₀ L h' m ∧ News h₀ L h' ((K, oK) :: (I, oI) :: (C, oC) :: (D, oD) :: nw) ∧ Off4 K I C D nw ∧ rest y nw

section
variable {prog : Program} {w : World} {A : Around} {E : Value → Shared → Prop} {s : Shared} {h₀ : Heap} {L : Addr} {m : Str → Option Value} {env : Env}
theorem newEnv_cell {scope : Scope} {globals : Addr} {cl : List (Str × Addr)} {qual x : Str} {Q : Env → Shared → Prop}
    (hcf : ∀ n acc, cellsFrom n scope.names acc = (x, n) :: acc) (hpc : ∀ h, pushCells h scope.names = h.push { cls := .type "cell", data := .cell none })
    (hQ : Q (newEnv scope s.heap.objs.size globals ((x, s.heap.objs.size + 1) :: cl) qual none .none (some env) builtinsNs) { s with heap := (s.heap.push { cls := .type "dict", data := .dict #[] }).push { cls := .type "cell", data := .cell none } }) :
    wpAny (model prog w) A (newFunctionEnv scope globals cl [] qual none .none (some env)) Q E s := by
  simp only [newFunctionEnv, Option.isSome_some, if_true]
  refine wpAny_bind (wpAny_alloc ?_)
  refine wpAny_bind (wpAny_layCells _ (fun name kind cells => by cases hkc : kind == NameKind.cell <;> simp) _ _ _ _ ?_)
  rw [hcf, hpc]
  rw [show ({ s with heap := s.heap.push { cls := .type "dict", data := .dict #[] } } : Shared).heap.objs.size = s.heap.objs.size + 1 from Heap.size_push ..]
  exact wpAny_bind (by rw [List.forIn_nil]; exact wpAny_pure (wpAny_pure hQ))

theorem comp_cell {elt iter : PySem.Expr} {x y : Str} {px py : Pos} {scope : Scope} {cl : List (Str × Addr)} {pos spos : Pos} {Q : Flow → Shared → Prop} {news : List (Addr × Obj)} {b : Int} (n : Nat) (J : Nat → List Value → List (Addr × Obj) → Prop)
    (hLe : env.locals = L) (hh : A.handled = none) (hn : n ≤ sizeLine) (hsm : Builtin.Range.small 0 b 1 = true) (hsz : Builtin.Range.rangeSize 0 b 1 = ((n : Nat) : Int))
    (hsw : swapsWith (.ListComp elt [⟨.Name x px, iter, [], 0⟩] scope pos) (some (.Name y py)) spos.line env = pure true)
    (hclos : closureFor scope env = pure cl) (hcf : ∀ n acc, cellsFrom n scope.names acc = (x, n) :: acc) (hpc : ∀ h, pushCells h scope.names = h.push { cls := .type "cell", data := .cell none })
    (hkind : scope.kind = .function) (hnames : ∀ z ∈ scope.names, z.2 = .local → scope.names.lookup z.1 = some .local) (hx : (relabel scope env).names.lookup x = some .cell)
    (hy : env.kindOf y = some .local) (hp : (env.scope.kind == .class || (env.scope.kind == .module && env.locals != env.globals)) = false)
    (hiter : wpAny (model prog w) A (eval iter env) (Vx (RangeAt s h₀ L m news 0 b)) E s) (hj : J 0 [] news)
    (turn : ∀ i ys nw t K I C D oK oI oC h tk E', i < n → J i ys nw → oK.data = .cell (some (.int (0 + (i : Int)) t)) → Fr h₀ L h m → News h₀ L h ((K, oK) :: (I, oI) :: (C, oC) :: (D, LCg.lst ys) :: nw) → Off4 K I C D nw → [K, I, C, D].Pairwise (fun a b : Nat => a ≠ b) →
      wpAny (model prog w) A (eval elt (compEnvC scope ((x, K) :: cl) C env)) (CEnd h₀ L m { s with heap := h, toks := tk } K I C D oK oI oC (LCg.lst ys) (fun v nw' => J (i + 1) (ys ++ [v]) nw')) E' { s with heap := h, toks := tk })
    (done : ∀ ys nw D h tk, J n ys nw → Fr h₀ L h (fun z => if z = y then some (.ref D) else m z) → News h₀ L h ((D, LCg.lst ys) :: nw) → (∀ p ∈ nw, p.1 ≠ D) → Q .next { s with heap := h, toks := tk })
    (hs : ∀ x, foldedSetIterable iter env x = pure x := by intro _; rfl) :
    wpAny (model prog w) A (exec (.Assign [.Name y py] (.ListComp elt [⟨.Name x px, iter, [], 0⟩] scope pos) spos) env) Q E s := by
  subst hLe
  rw [exec_Assign_Name_used _ _ _ _ hsw]
  refine wpAny_bind (wpAny_standAt (wpAny_bind ?_))
  show wpAny _ A (do let _ ← comprehension (.ListComp elt [⟨.Name x px, iter, [], 0⟩] scope pos) scope env _ (newList []) false (eval iter env) (some (assign (.Name y py) env))) _ _ s
  refine wpAny_bind (wpAny_mono (wpAny_comprehension_free (use := some (assign (.Name y py) env)) (Q := fun _ s' => Q .next s') rfl hs hclos hkind hnames
    (wpAny_mono hiter (fun xv s₁ h₁ => ?_) fun _ _ e => e)) (fun _ s' hq => wpAny_pure (wpAny_pure hq)) fun _ _ e => e)
  obtain ⟨r, t, u, v, h, tk, rfl, rfl, hr, F, N⟩ := h₁
  refine wpAny_pyIter_range hr hsm ?_
  refine wpAny_newObj_type ?_
  refine newEnv_cell hcf hpc ?_
  dsimp only
  have hS1 : ∀ o o' : Obj, ((h.push o).push o').objs.size = h.objs.size + 1 + 1 := fun o o' => by rw [Heap.size_push, Heap.size_push]
  generalize hg1 : h.push { cls := .type "range_iterator", data := .fields #[rawInt 0, rawInt (Builtin.Range.rangeSize 0 b 1), rawInt 1] } = g1
  have z1 : g1.objs.size = h.objs.size + 1 := by rw [← hg1, Heap.size_push]
  generalize hg2 : g1.push { cls := .type "list", data := .seq ([] : List Value).toArray } = g2
  have z2 : g2.objs.size = h.objs.size + 1 + 1 := by rw [← hg2, Heap.size_push, z1]
  generalize hg3 : g2.push { cls := .type "dict", data := .dict #[] } = g3
  have z3 : g3.objs.size = h.objs.size + 1 + 1 + 1 := by rw [← hg3, Heap.size_push, z2]
  generalize hg4 : g3.push { cls := .type "cell", data := .cell none } = g4
  have k1 : ∀ b o, h.get? b = some o → g1.get? b = some o := fun b o e => hg1 ▸ Heap.get?_push_of_some _ e
  have k2 : ∀ b o, g1.get? b = some o → g2.get? b = some o := fun b o e => hg2 ▸ Heap.get?_push_of_some _ e
  have k3 : ∀ b o, g2.get? b = some o → g3.get? b = some o := fun b o e => hg3 ▸ Heap.get?_push_of_some _ e
  have k4 : ∀ b o, g3.get? b = some o → g4.get? b = some o := fun b o e => hg4 ▸ Heap.get?_push_of_some _ e
  have kk : ∀ b o, h.get? b = some o → g4.get? b = some o := fun b o e => k4 _ _ (k3 _ _ (k2 _ _ (k1 _ _ e)))
  have oI0 : g4.get? h.objs.size = some { cls := .type "range_iterator", data := .fields #[rawInt 0, rawInt (Builtin.Range.rangeSize 0 b 1), rawInt 1] } := k4 _ _ (k3 _ _ (k2 _ _ (hg1 ▸ Heap.get?_push_size _ rfl)))
  have oD0 : g4.get? g1.objs.size = some (LCg.lst []) := k4 _ _ (k3 _ _ (hg2 ▸ Heap.get?_push_size _ rfl))
  have oC0 : g4.Ns g2.objs.size (fun _ => none) := (hg3 ▸ Heap.Ns.new g2 (.type "dict") : g3.Ns g2.objs.size fun _ => none).keeps k4
  have oK0 : g4.IsCell (g2.objs.size + 1) none := by
    have : g2.objs.size + 1 = g3.objs.size := by rw [z3, z2]
    rw [this]
    exact ⟨_, hg4 ▸ Heap.get?_push_size _ rfl, rfl⟩
  have hL : @LT.lt Nat _ env.locals h.objs.size := F.ns.lt
  have fresh₀ : ∀ a : Nat, h.objs.size ≤ a → h₀.get? a = none := fun a ha => by
    cases e : h₀.get? a with
    | none => rfl
    | some o' => exact absurd (Heap.lt_size (F.keep a o' e)) (Nat.not_lt.mpr ha)
  have lts : ∀ p ∈ news, @LT.lt Nat _ p.1 h.objs.size := fun p hp => Heap.lt_size (N p hp).1
  generalize hI : h.objs.size = I at *
  generalize hD : g1.objs.size = D at *
  generalize hC : g2.objs.size = C at *
  generalize hK : C + 1 = K at *
  have nI : h₀.get? I = none := fresh₀ I (Nat.le_refl _)
  have nD : h₀.get? D = none := fresh₀ D (by omega)
  have nC : h₀.get? C = none := fresh₀ C (by omega)
  have nK : h₀.get? K = none := fresh₀ K (by omega)
  have eIL : @Ne Nat I env.locals := by omega
  have eDL : @Ne Nat D env.locals := by omega
  have eCL : @Ne Nat C env.locals := by omega
  have eKL : @Ne Nat K env.locals := by omega
  have eKI : @Ne Nat K I := by omega
  have eKC : @Ne Nat K C := by omega
  have eKD : @Ne Nat K D := by omega
  have eIC : @Ne Nat I C := by omega
  have eID : @Ne Nat I D := by omega
  have eCD : @Ne Nat C D := by omega
  have hst : IsRangeIter g4 I (0 + ((0 : Nat) : Int) * 1) ((n : Int) - ((0 : Nat) : Int)) 1 := by
    show g4.get? I = some _
    rw [oI0, hsz]
    simp
  have off0 : Off4 K I C D news := fun p hp => by
    have q := lts p hp
    exact ⟨show @Ne Nat _ _ by omega, show @Ne Nat _ _ by omega, show @Ne Nat _ _ by omega, show @Ne Nat _ _ by omega⟩
  have W := LCg.range_walks (prog := prog) (w := w) (A := A) (I := I) hh 0 n
  have loop : ∀ tk₀, codeAny (model prog w) A (.compLoop (.ListComp elt [⟨.Name x px, iter, [], 0⟩] scope pos) 0 (.ref I) (.ref D) (compEnvC scope ((x, K) :: cl) C env))
      (compPost (model prog w) A E (some (assign (.Name y py) env)) (fun _ s' => Q .next s') (.ref D) C) { s with heap := g4, toks := tk₀ } := by
    intro tk₀
    refine codeAny_compLoop_tests
      (fun k s' => ∃ h' tk i ys nw m' v', s' = { s with heap := h', toks := tk } ∧ i ≤ n ∧ k = n + 1 - i ∧ ys.length = i ∧ IsRangeIter h' I (0 + ((i : Nat) : Int) * 1) ((n : Int) - ((i : Nat) : Int)) 1 ∧ Fr h₀ env.locals h' m ∧ h'.Ns C m' ∧ h'.IsCell K v' ∧ h'.get? D = some (LCg.lst ys) ∧ News h₀ env.locals h' nw ∧ Off4 K I C D nw ∧ J i ys nw) ?_ (n + 1)
      ⟨g4, _, 0, [], news, _, _, rfl, Nat.zero_le _, rfl, rfl, hst, F.keeps kk, oC0, oK0, oD0, N.grown kk, off0, hj⟩
    rintro k s' ⟨h', tk', i, ys, nw, m', v', rfl, hi, rfl, hyl, hst', F', hC', hK', hD', N', off', hJ⟩
    by_cases hlt : i < n
    · refine W.item i _ _ _ hlt hst' fun v h₂ tk₂ hPv hst₂ hk₂ => ?_
      obtain ⟨tv, rfl⟩ := hPv
      have kI : ∀ b o, @Ne Nat b I → h'.get? b = some o → h₂.get? b = some o := fun b o q e => hk₂ b o (fun q' => q (List.mem_singleton.mp q')) e
      obtain ⟨oK₁, eK₁, dK₁⟩ := hK'
      refine wpAny_assign_Name (wpAny_storeName_cell (c := K) (v₀ := v') (by simp [compEnvC, relabel, hkind]) hx (by simp [compEnvC, List.lookup_cons]) ⟨oK₁, kI _ _ eKI eK₁, dK₁⟩ fun h₃ hK₃ hs₃ => ?_)
      refine wpAny_tests_nil ?_
      simp only [if_true]
      obtain ⟨oK, eK, dK⟩ := hK₃
      have k3' : ∀ b o, @Ne Nat b I → @Ne Nat b K → h'.get? b = some o → h₃.get? b = some o := fun b o q1 q2 e => hs₃.extBut b o q2 (kI b o q1 e)
      have F₃ : Fr h₀ env.locals h₃ m := (LCg.fr_but F' hk₂ eIL.symm nI).change hs₃ eKL nK
      obtain ⟨oC, eC, hoC⟩ := LCg.ns_obj ((hC'.at' fun o e => kI C o eIC.symm e).sameBut hs₃ eKC.symm)
      obtain ⟨oI, eI, hIo⟩ : ∃ oI, h₃.get? I = some oI ∧ ∀ h'' : Heap, h''.get? I = some oI → IsRangeIter h'' I (0 + ((i + 1 : Nat) : Int) * 1) ((n : Int) - ((i + 1 : Nat) : Int)) 1 := ⟨_, hs₃.extBut I _ eKI.symm hst₂, fun _ e => e⟩
      have N₃ : News h₀ env.locals h₃ ((K, oK) :: (I, oI) :: (C, oC) :: (D, LCg.lst ys) :: nw) := by
        intro p hp
        rcases List.mem_cons.mp hp with rfl | hp
        · exact ⟨eK, eKL, nK⟩
        rcases List.mem_cons.mp hp with rfl | hp
        · exact ⟨eI, eIL, nI⟩
        rcases List.mem_cons.mp hp with rfl | hp
        · exact ⟨eC, eCL, nC⟩
        rcases List.mem_cons.mp hp with rfl | hp
        · exact ⟨k3' _ _ eID.symm eKD.symm hD', eDL, nD⟩
        · exact ⟨k3' _ _ (off' p hp).2.1 (off' p hp).1 (N' p hp).1, (N' p hp).2⟩
      refine wpAny_mono (turn i ys nw tv K I C D oK oI oC h₃ _ _ hlt hJ dK F₃ N₃ off' (by simp [eKI, eKC, eKD, eIC, eID, eCD])) (fun y s₄ h₄ => ?_) fun _ _ e => e
      obtain ⟨h₄, tk₄, nw₄, rfl, F₄, N₄, off₄, hJ₄⟩ := h₄
      have yK := (N₄ (K, oK) (.head _)).1
      have yI := (N₄ (I, oI) (.tail _ (.head _))).1
      have yC := (N₄ (C, oC) (.tail _ (.tail _ (.head _)))).1
      have yD := (N₄ (D, LCg.lst ys) (.tail _ (.tail _ (.tail _ (.head _))))).1
      have N₄' : News h₀ env.locals h₄ nw₄ := fun p hp => N₄ p (.tail _ (.tail _ (.tail _ (.tail _ hp))))
      refine append_at (hsz := by show ys.toArray.size ≤ sizeLine; rw [List.size_toArray, hyl]; exact Nat.le_trans hi hn) yD fun h₅ hs₅ hD₅ => ?_
      refine ⟨n + 1 - (i + 1), by omega, h₅, tk₄, i + 1, ys ++ [y], nw₄, _, _, rfl, hlt, rfl, by rw [List.length_append, List.length_singleton, hyl], hIo _ (hs₅.extBut I _ eID yI), F₄.change hs₅ eDL nD, (hoC.ns yC).sameBut hs₅ eCD, ⟨oK, hs₅.extBut K _ eKD yK, dK⟩, hD₅.trans (congrArg some (LCg.lst_snoc ys y)), news_same N₄' hs₅ fun p hp => (off₄ p hp).2.2.2, off₄, hJ₄⟩
    · obtain rfl : i = n := Nat.le_antisymm hi (Nat.not_lt.mp hlt)
      refine W.done _ _ _ hst' fun h₂ tk₂ hk₂ => ?_
      have kI : ∀ b o, @Ne Nat b I → h'.get? b = some o → h₂.get? b = some o := fun b o q e => hk₂ b o (fun q' => q (List.mem_singleton.mp q')) e
      have F₂ := LCg.fr_but F' hk₂ eIL.symm nI
      have hC₂ : h₂.Ns C m' := hC'.at' fun o e => kI C o eIC.symm e
      have hD₂ := kI _ _ eID.symm hD'
      have N₂ : News h₀ env.locals h₂ nw := fun p hp => ⟨kI _ _ (off' p hp).2.1 (N' p hp).1, (N' p hp).2⟩
      show wpAny _ A (assign (.Name y py) env (.ref D)) _ _ _
      refine wpAny_assign_Name (wpAny_storeName_local hy F₂.ns (fun h₃ hn₃ hs₃ => ?_) hp)
      have F₃ : Fr h₀ env.locals h₃ (fun z => if z = y then some (.ref D) else m z) := F₂.set hn₃ hs₃
      refine ⟨m', hC₂.sameBut hs₃ eCL, fun h₄ hs₄ => done ys nw D h₄ _ hJ (F₃.change hs₄ eCL nC) ?_ fun p hp => (off' p hp).2.2.2⟩
      intro p hp
      rcases List.mem_cons.mp hp with rfl | hp
      · exact ⟨hs₄.extBut _ _ eCD.symm (hs₃.extBut _ _ eDL hD₂), eDL, nD⟩
      · exact ⟨hs₄.extBut _ _ (off' p hp).2.2.1 (hs₃.extBut _ _ (N₂ p hp).2.1 (N₂ p hp).1), (N₂ p hp).2⟩
  exact codeAny_compStart_list (loop _) (W.self 0 _ _ _ hst (loop _))
end
end Mine

end

/-! TupC -/
section
open PySem PySem.W PySem.Spec PySem.Calls PySem.NumText PyProof.Rows
set_option maxRecDepth 100000
namespace Mine
noncomputable abbrev tupOf (its : Array Value) : Obj := { cls := .type "tuple", data := .seq its }
/-- a written tuple stands at the ledger's head -/
def TupAt (s : Shared) (g : Heap) (L : Addr) (m : Str → Option Value) (news : List (Addr × Obj)) (n : Nat) (P : Nat → Value → Prop) (v : Value) (s₂ : Shared) : Prop :=
  ∃ T its h tk, v = .ref T ∧ s₂ = { s with heap := h, toks := tk } ∧ Fr g L h m ∧ News g L h ((T, tupOf its) :: news) ∧ its.size = n ∧ ∀ i v, its[i]? = some v → P i v
section
variable {prog : Program} {w : World} {A : Around} {E : Value → Shared → Prop} {s : Shared} {h₀ : Heap} {L : Addr} {m : Str → Option Value} {env : Env}
theorem off1_mem {D : Addr} : ∀ {l : List (Addr × Obj)}, LCg.Off1 D l → ∀ p ∈ l, p.1 ≠ D
  | [], _, _, h => nomatch h
  | _ :: _, x, p, h => by
    rcases List.mem_cons.mp h with rfl | h
    · exact x.1
    · exact off1_mem x.2 p h
theorem tup_st {T I : Addr} {its : Array Value} : ∀ i (h h' : Heap) (o : Obj) (nw : List (Addr × Obj)), (h.IsTupleIter I T i ∧ h.IsTuple T its) → h.get? I = some o → h'.get? I = some o → (∀ b o, h₀.get? b = some o → h'.get? b = some o) → News h₀ L h' nw → (T, tupOf its) ∈ nw → (h'.IsTupleIter I T i ∧ h'.IsTuple T its) :=
  fun i h h' o nw st e e' k N S => ⟨by obtain ⟨o', q, r⟩ := st.1; rw [e] at q; cases q; exact ⟨o, e', r⟩, ⟨_, (N _ S).1, rfl, _, rfl⟩⟩
theorem comp_tup {elt iter : PySem.Expr} {x : Str} {px : Pos} {scope : Scope} {cl : List (Str × Addr)} {pos : Pos} {Q : Value → Shared → Prop} {news : List (Addr × Obj)} (n : Nat) (P : Nat → Value → Prop) (J : Nat → List Value → Prop)
    (hh : A.handled = none) (hn : n ≤ sizeLine)
    (hclos : closureFor scope env = pure cl) (hcell : ∀ y ∈ scope.names, y.2 ≠ .cell) (hkind : scope.kind = .function)
    (hnames : ∀ y ∈ scope.names, y.2 = .local → scope.names.lookup y.1 = some .local) (hx : scope.names.lookup x = some .local)
    (hiter : wpAny (model prog w) A (eval iter env) (Vx (TupAt s h₀ L m news n P)) E s) (hj : J 0 [])
    (turn : ∀ i ys v T o I oI C oC D m₂ h tk (E' : Value → Shared → Prop), i < n → J i ys → P i v → LCg.NsObj oC m₂ → m₂ x = some v → Fr h₀ L h m → News h₀ L h ((I, oI) :: (C, oC) :: (D, LCg.lst ys) :: (T, o) :: news) → LCg.Off3 I C D ((T, o) :: news) → ((@Ne Nat I C) ∧ (@Ne Nat I D) ∧ (@Ne Nat C D)) →
      wpAny (model prog w) A (eval elt (compEnvC scope cl C env)) (FEnd h₀ L m { s with heap := h, toks := tk } ((I, oI) :: (C, oC) :: (D, LCg.lst ys) :: (T, o) :: news) (fun y => J (i + 1) (ys ++ [y]))) E' { s with heap := h, toks := tk })
    (done : ∀ ys D h tk, J n ys → Fr h₀ L h m → News h₀ L h ((D, LCg.lst ys) :: news) → (∀ p ∈ news, p.1 ≠ D) → Q (.ref D) { s with heap := h, toks := tk })
    (hs : ∀ x, foldedSetIterable iter env x = pure x := by intro _; rfl) :
    wpAny (model prog w) A (eval (.ListComp elt [⟨.Name x px, iter, [], 0⟩] scope pos) env) Q E s := by
  rw [eval_ListComp]
  refine wpAny_comprehension_free (use := none) rfl hs hclos hkind hnames (wpAny_mono hiter (fun xv s₁ h₁ => ?_) fun _ _ e => e)
  obtain ⟨T, its, h, tk, rfl, rfl, F, N, rfl, hP⟩ := h₁
  have hl : h.IsTuple T its := ⟨_, (N _ (.head _)).1, rfl, _, rfl⟩
  have hlt : T < h.objs.size := Heap.lt_size (N _ (.head _)).1
  refine wpAny_pyIter_tuple hl ?_
  have up : ∀ b o, h.get? b = some o → (h.push { cls := .type "tuple_iterator", data := .fields #[.ref T, .int 0 0] }).get? b = some o := fun b o e => Heap.get?_push_of_some _ e
  refine LCg.block_U (S := fun nw => (T, tupOf its) ∈ nw) (news := (T, tupOf its) :: news) (Fin := fun ys nw => nw = (T, tupOf its) :: news ∧ J its.size ys) (Walks.tuple hh h.objs.size T (Nat.ne_of_lt hlt) its) hn (fun i h st => by obtain ⟨o, e, _⟩ := st.1; exact ⟨o, e⟩) tup_st hcell hkind hx ⟨⟨_, Heap.get?_push_size _ rfl, rfl, rfl⟩, hl.at fun o e => Heap.get?_push_of_some _ e⟩ (fun b hb => ?_)
    (F.keeps up) (N.grown up) (Nat.ne_of_lt F.ns.lt) (next_is_new F) (fun p hp => Nat.ne_of_lt (Heap.lt_size (N p hp).1)) (.head _) (rest_all J (.head _) hj (fun i ys v I oI C oC D m₂ h tk E' hi hJ hv => turn i ys v T _ I oI C oC D m₂ h tk E' hi hJ (hP i v hv)) fun ys hJ => ⟨rfl, hJ⟩) ?_
  · show b < (h.push _).objs.size
    rw [Heap.size_push]
    rcases List.mem_cons.mp hb with rfl | hb
    · exact Nat.lt_succ_self _
    · rw [List.mem_singleton.mp hb]; exact Nat.lt_succ_of_lt hlt
  · rintro D C h' tk' m' ys news' F' N' o1 hn' hC₀ hD₀ hCL hDL hCD offC ⟨rfl, hJ⟩
    refine ⟨m', hn', fun h'' hs'' => done ys D h'' tk' hJ (F'.change hs'' hCL hC₀) (fun p hp => ?_) fun p hp => ?_⟩
    · rcases List.mem_cons.mp hp with rfl | hp
      · exact ⟨hs''.extBut _ _ (Ne.symm hCD) (N' _ (.head _)).1, (N' _ (.head _)).2⟩
      · exact ⟨hs''.extBut _ _ (offC p (.tail _ hp)) (N' p (.tail _ (.tail _ hp))).1, (N' p (.tail _ (.tail _ hp))).2⟩
    · exact off1_mem o1.2 p hp
theorem assign_tup {elt iter : PySem.Expr} {x y : Str} {px py : Pos} {scope : Scope} {cl : List (Str × Addr)} {pos spos : Pos} {Q : Flow → Shared → Prop} {news : List (Addr × Obj)} (n : Nat) (P : Nat → Value → Prop) (J : Nat → List Value → Prop)
    (hLe : env.locals = L) (hh : A.handled = none) (hn : n ≤ sizeLine)
    (hsw : swapsWith (.ListComp elt [⟨.Name x px, iter, [], 0⟩] scope pos) (some (.Name y py)) spos.line env = pure true)
    (hclos : closureFor scope env = pure cl) (hcell : ∀ y ∈ scope.names, y.2 ≠ .cell) (hkind : scope.kind = .function)
    (hnames : ∀ y ∈ scope.names, y.2 = .local → scope.names.lookup y.1 = some .local) (hx : scope.names.lookup x = some .local)
    (hy : env.kindOf y = some .local) (hp : (env.scope.kind == .class || (env.scope.kind == .module && env.locals != env.globals)) = false)
    (hiter : wpAny (model prog w) A (eval iter env) (Vx (TupAt s h₀ L m news n P)) E s) (hj : J 0 [])
    (turn : ∀ i ys v T o I oI C oC D m₂ h tk (E' : Value → Shared → Prop), i < n → J i ys → P i v → LCg.NsObj oC m₂ → m₂ x = some v → Fr h₀ L h m → News h₀ L h ((I, oI) :: (C, oC) :: (D, LCg.lst ys) :: (T, o) :: news) → LCg.Off3 I C D ((T, o) :: news) → ((@Ne Nat I C) ∧ (@Ne Nat I D) ∧ (@Ne Nat C D)) →
      wpAny (model prog w) A (eval elt (compEnvC scope cl C env)) (FEnd h₀ L m { s with heap := h, toks := tk } ((I, oI) :: (C, oC) :: (D, LCg.lst ys) :: (T, o) :: news) (fun y => J (i + 1) (ys ++ [y]))) E' { s with heap := h, toks := tk })
    (done : ∀ ys D h tk, J n ys → Fr h₀ L h (fun z => if z = y then some (.ref D) else m z) → News h₀ L h ((D, LCg.lst ys) :: news) → (∀ p ∈ news, p.1 ≠ D) → Q .next { s with heap := h, toks := tk })
    (hs : ∀ x, foldedSetIterable iter env x = pure x := by intro _; rfl) :
    wpAny (model prog w) A (exec (.Assign [.Name y py] (.ListComp elt [⟨.Name x px, iter, [], 0⟩] scope pos) spos) env) Q E s := by
  subst hLe
  rw [exec_Assign_Name_used _ _ _ _ hsw]
  refine wpAny_bind (wpAny_standAt (wpAny_bind ?_))
  show wpAny _ A (do let _ ← comprehension (.ListComp elt [⟨.Name x px, iter, [], 0⟩] scope pos) scope env _ (newList []) false (eval iter env) (some (assign (.Name y py) env))) _ _ s
  refine wpAny_bind (wpAny_mono (wpAny_comprehension_free (use := some (assign (.Name y py) env)) (Q := fun _ s' => Q .next s') rfl hs hclos hkind hnames
    (wpAny_mono hiter (fun xv s₁ h₁ => ?_) fun _ _ e => e)) (fun _ s' hq => wpAny_pure (wpAny_pure hq)) fun _ _ e => e)
  obtain ⟨T, its, h, tk, rfl, rfl, F, N, rfl, hP⟩ := h₁
  have hl : h.IsTuple T its := ⟨_, (N _ (.head _)).1, rfl, _, rfl⟩
  have hlt : T < h.objs.size := Heap.lt_size (N _ (.head _)).1
  refine wpAny_pyIter_tuple hl ?_
  have up : ∀ b o, h.get? b = some o → (h.push { cls := .type "tuple_iterator", data := .fields #[.ref T, .int 0 0] }).get? b = some o := fun b o e => Heap.get?_push_of_some _ e
  refine LCg.block_U (S := fun nw => (T, tupOf its) ∈ nw) (news := (T, tupOf its) :: news) (Fin := fun ys nw => nw = (T, tupOf its) :: news ∧ J its.size ys) (Walks.tuple hh h.objs.size T (Nat.ne_of_lt hlt) its) hn (fun i h st => by obtain ⟨o, e, _⟩ := st.1; exact ⟨o, e⟩) tup_st hcell hkind hx ⟨⟨_, Heap.get?_push_size _ rfl, rfl, rfl⟩, hl.at fun o e => Heap.get?_push_of_some _ e⟩ (fun b hb => ?_)
    (F.keeps up) (N.grown up) (Nat.ne_of_lt F.ns.lt) (next_is_new F) (fun p hp => Nat.ne_of_lt (Heap.lt_size (N p hp).1)) (.head _) (rest_all J (.head _) hj (fun i ys v I oI C oC D m₂ h tk E' hi hJ hv => turn i ys v T _ I oI C oC D m₂ h tk E' hi hJ (hP i v hv)) fun ys hJ => ⟨rfl, hJ⟩) ?_
  · show b < (h.push _).objs.size
    rw [Heap.size_push]
    rcases List.mem_cons.mp hb with rfl | hb
    · exact Nat.lt_succ_self _
    · rw [List.mem_singleton.mp hb]; exact Nat.lt_succ_of_lt hlt
  · rintro D C h' tk' m' ys news' F' N' o1 hn' hC₀ hD₀ hCL hDL hCD offC ⟨rfl, hJ⟩
    show wpAny _ A (assign (.Name y py) env (.ref D)) _ _ _
    refine wpAny_assign_Name (wpAny_storeName_local hy F'.ns (fun h₂ hn₂ hs₂ => ?_) hp)
    have hL₀ : h₀.get? env.locals = none := Heap.get?_none_of_le F'.above
    have F₂ : Fr h₀ env.locals h₂ (fun z => if z = y then some (.ref D) else m z) := ⟨hn₂, fun b o e => hs₂.extBut b o (fun q => by rw [q, hL₀] at e; cases e) (F'.keep b o e), F'.above⟩
    have z : ∀ p ∈ (D, LCg.lst ys) :: (T, tupOf its) :: news, h₂.get? p.1 = some p.2 := fun p hp => hs₂.extBut _ _ (N' p hp).2.1 (N' p hp).1
    refine ⟨m', hn'.sameBut hs₂ hCL, fun h'' hs'' => done ys D h'' _ hJ (F₂.change hs'' hCL hC₀) (fun p hp => ?_) fun p hp => ?_⟩
    · rcases List.mem_cons.mp hp with rfl | hp
      · exact ⟨hs''.extBut _ _ (Ne.symm hCD) (z _ (.head _)), (N' _ (.head _)).2⟩
      · exact ⟨hs''.extBut _ _ (offC p (.tail _ hp)) (z p (.tail _ (.tail _ hp))), (N' p (.tail _ (.tail _ hp))).2⟩
    · exact off1_mem o1.2 p hp
end
end Mine

end

/-! ZipT -/
section
open PySem PySem.W PySem.Spec PySem.Calls PyProof.Rows
open Sem (wp)
set_option maxRecDepth 100000
namespace Mine
/-! zip of a tuple and a list -/
noncomputable abbrev zh1 (h : Heap) (a : Addr) : Heap := h.push { cls := .type "tuple_iterator", data := .fields #[.ref a, .int 0 0] }
noncomputable abbrev zh2 (h : Heap) (a b : Addr) : Heap := (zh1 h a).push { cls := .type "list_iterator", data := .fields #[.ref b, .int 0 0] }
noncomputable abbrev zh3 (h : Heap) (a b : Addr) : Heap := (zh2 h a b).push { cls := .type "tuple", data := .seq #[.ref h.objs.size, .ref (zh1 h a).objs.size] }
noncomputable abbrev zh4 (h : Heap) (a b : Addr) : Heap := (zh3 h a b).push { cls := .type "tuple", data := .seq #[.none, .none] }
noncomputable abbrev zh5 (h : Heap) (a b : Addr) : Heap := (zh4 h a b).push { cls := .type "zip", data := .fields #[.none, .bool false, .bool false, .ref (zh2 h a b).objs.size, .ref (zh3 h a b).objs.size] }
theorem meets_zip (a b : Addr) (xs ys : Array Value) :
    Meets (Builtin.«zip.__new__» ⟨[.type "zip", .ref a, .ref b], []⟩) (fun _ R s => s.heap.IsTuple a xs ∧ s.heap.IsList b ys ∧ R (.ok (.ret (.ref (zh4 s.heap a b).objs.size))) { s with heap := zh5 s.heap a b }) :=
  .of_wp fun prog w A R s h => by
    obtain ⟨hp, g, d, tk, os⟩ := s; obtain ⟨hl1, hl2, h⟩ := h
    have hsub := sub_zip
    have hL1 : Heap.IsTuple (Shared.heap ⟨hp, g, d, tk, os⟩) a xs := hl1
    have hL2 : Heap.IsList (Shared.heap ⟨hp.push { cls := .type "tuple_iterator", data := .fields #[.ref a, .int 0 0] }, g, d, tk, os⟩) b ys := Heap.IsList.push hl2 _
    wp_walk using wpAny_pyIter_tuple hL1, wpAny_pyIter_list hL2
    exact ⟨_, rfl, h⟩
section
variable {prog : Program} {w : World} {A : Around} {E : Value → Shared → Prop} {s : Shared}
theorem call_zip {a b : Addr} {xs ys : Array Value} {Q : Value → Shared → Prop} (hl1 : s.heap.IsTuple a xs) (hl2 : s.heap.IsList b ys) (h : Q (.ref (zh4 s.heap a b).objs.size) { s with heap := zh5 s.heap a b }) :
    wpAny (model prog w) A (call (.type "zip") [.ref a, .ref b]) Q E s := by
  refine callType_new F.called_zip (by decide) (F.typeCall_zip_2 _ _) (F.newCall_zip_2 _ _) (fun obj => F.args_object_init_3 obj _ _) F.entry_zip_new (meets_zip a b xs ys) ⟨hl1, hl2, ?_⟩
  exact ⟨⟨_, Heap.get?_push_size _ rfl, rfl⟩, h⟩
/-- what a zip of a tuple and a list holds, k turns in -/
structure ZSt (z TI TO i1 i2 l1 l2 : Addr) (xs ys : Array Value) (f : Value) (k : Nat) (h : Heap) : Prop where
  zip : IsZip h z TI TO f
  ins : IsPair h TI (.ref i1) (.ref i2)
  out : ∃ a b, IsPair h TO a b
  one : h.IsTupleIter i1 l1 k
  two : h.IsListIter i2 l2 k
  tup : h.IsTuple l1 xs
  lst : h.IsList l2 ys
def Kept (z TO i1 i2 : Addr) (h h' : Heap) : Prop := ∀ c o, c ≠ z → c ≠ TO → c ≠ i1 → c ≠ i2 → h.get? c = some o → h'.get? c = some o
theorem tupIter_at {h h' : Heap} {it l : Addr} {k : Nat} (x : h.IsTupleIter it l k) (e : ∀ o, h.get? it = some o → h'.get? it = some o) : h'.IsTupleIter it l k := by
  obtain ⟨o, ho, r⟩ := x
  exact ⟨o, e o ho, r⟩
theorem draw_item {z TI TO i1 i2 l1 l2 : Addr} {k : Nat} {xs ys : Array Value} {x y : Value} {Q : Value → Shared → Prop} (D : ZipApart z TI TO i1 i2 l1 l2) (Z : ZSt z TI TO i1 i2 l1 l2 xs ys .none k s.heap) (hx : xs[k]? = some x) (hy : ys[k]? = some y)
    (hQ : ∀ h', ZSt z TI TO i1 i2 l1 l2 xs ys (rawInt s.heap.objs.size) (k + 1) h' → IsPair h' s.heap.objs.size x y → Kept z TO i1 i2 s.heap h' → Q (.ref s.heap.objs.size) { s with heap := h' }) :
    wpAny (model prog w) A (Builtin.«zip.__next__» ⟨[.ref z], []⟩) (fun fin s' => ∃ v, fin = .done (.ret v) ∧ Q v s') E s := by
  obtain ⟨hz, hTI, ⟨a, b, hTO⟩, h1, h2, hl1, hl2⟩ := Z
  show wpAny _ _ (field (.ref z) 2 >>= _) _ _ _
  refine wpAny_bind (wpAny_field hz rfl (x := .bool false) rfl ?_)
  show wpAny _ _ (field (.ref z) 3 >>= _) _ _ _
  refine wpAny_bind (wpAny_field hz rfl (x := .ref TI) rfl (wpAny_bind (wpAny_seqItems hTI rfl ?_)))
  show wpAny _ _ (Builtin.SmallTypes.ownedTupleIsFree (.ref z) >>= _) _ _ _
  unfold Builtin.SmallTypes.ownedTupleIsFree
  refine wpAny_bind (wpAny_bind (wpAny_field hz rfl (x := .none) rfl (wpAny_pure ?_)))
  simp only [if_true]
  refine wpAny_bind (wpAny_rule (wpAny_bind (wpAny_field hz rfl (x := .ref TO) rfl (wpAny_bind (wpAny_setField_rec hz (by simp) fun g1 (z1 : IsZip g1 z TI TO .ellipsis) s1 => wpAny_bind ?_)))))
  simp only [List.zipIdx_cons, List.zipIdx_nil, List.forIn_cons, List.forIn_nil]
  refine wpAny_bind (wpAny_bind (wpAny_onRaise ?_))
  show wpAny _ _ (Builtin.SmallTypes.nextOf (.ref i1) >>= _) _ _ _
  have t1 : g1.IsTuple l1 xs := by obtain ⟨o, ho, r⟩ := hl1; exact ⟨o, s1.extBut _ _ D.l1z ho, r⟩
  refine wpAny_bind (nextOf_tup_item (tupIter_at h1 fun o e => s1.extBut _ o D.i1z e) t1 hx fun g2 j1 s2 => wpAny_pure ?_)
  have o2 : IsPair g2 TO a b := s2.extBut _ _ D.TOi1 (s1.extBut _ _ D.TOz hTO)
  refine wpAny_bind (wpAny_seqItems o2 rfl (wpAny_bind (wpAny_updateSeq_pair o2 fun g3 (o3 : IsPair g3 TO x b) s3 => wpAny_bind (wpAny_letGo (wpAny_pure ?_)))))
  refine wpAny_bind (wpAny_bind (wpAny_onRaise ?_))
  show wpAny _ _ (Builtin.SmallTypes.nextOf (.ref i2) >>= _) _ _ _
  have up3 : ∀ c o, c ≠ z → c ≠ i1 → c ≠ TO → s.heap.get? c = some o → g3.get? c = some o := fun c o c1 c2 c3 e => s3.extBut _ _ c3 (s2.extBut _ _ c2 (s1.extBut _ _ c1 e))
  refine wpAny_bind (wpAny_nextOf_list_item (h2.at fun o e => up3 _ o D.i2z D.i12.symm D.TOi2.symm e) (hl2.at fun o e => up3 _ o D.l2z D.l2i1 D.l2TO e) hy fun g4 j2 s4 => wpAny_pure ?_)
  have o4 : IsPair g4 TO x b := s4.extBut _ _ D.TOi2 o3
  refine wpAny_bind (wpAny_seqItems o4 rfl (wpAny_bind (wpAny_updateSeq_pair o4 fun g5 (o5 : IsPair g5 TO x y) s5 => wpAny_bind (wpAny_letGo (wpAny_pure (wpAny_pure ?_))))))
  refine wpAny_bind (wpAny_seqItems o5 rfl (wpAny_bind (wpAny_newTuple ?_)))
  have sz : g5.objs.size = s.heap.objs.size := by rw [s5.1, s4.1, s3.1, s2.1, s1.1]
  have z5 : IsZip g5 z TI TO .ellipsis := s5.extBut _ _ D.TOz.symm (s4.extBut _ _ D.i2z.symm (s3.extBut _ _ D.TOz.symm (s2.extBut _ _ D.i1z.symm z1)))
  show wpAny _ _ (Builtin.SmallTypes.ownedTupleHandOut (.ref z) (.ref g5.objs.size) >>= _) _ _ _
  refine wpAny_bind ?_
  unfold Builtin.SmallTypes.ownedTupleHandOut
  have z6 : IsZip (g5.push { cls := .type "tuple", data := .seq #[x, y] }) z TI TO .ellipsis := Heap.get?_push_of_some _ z5
  refine wpAny_bind (wpAny_setField_rec z6 (by simp) fun g7 (z7 : IsZip g7 z TI TO (rawInt g5.objs.size)) s7 => ?_)
  refine wpAny_setField_rec z7 (by simp) fun g8 (z8 : IsZip g8 z TI TO (rawInt g5.objs.size)) s8 => ?_
  have up8 : ∀ c o, c ≠ z → g5.get? c = some o → g8.get? c = some o := fun c o c1 e => s8.extBut _ _ c1 (s7.extBut _ _ c1 (Heap.get?_push_of_some _ e))
  have up5 : ∀ c o, c ≠ z → c ≠ TO → c ≠ i1 → c ≠ i2 → s.heap.get? c = some o → g5.get? c = some o := fun c o c1 c2 c3 c4 e => s5.extBut _ _ c2 (s4.extBut _ _ c4 (up3 c o c1 c3 c2 e))
  have zlt : g5.objs.size ≠ z := Nat.ne_of_gt (Heap.lt_size z5)
  have p8 : IsPair g8 g5.objs.size x y := s8.extBut _ _ zlt (s7.extBut _ _ zlt (Heap.get?_push_size _ rfl))
  have up : Kept z TO i1 i2 s.heap g8 := fun c o c1 c2 c3 c4 e => up8 c o c1 (up5 c o c1 c2 c3 c4 e)
  rw [sz] at z8 p8
  refine wpAny_pure ⟨_, rfl, ?_⟩
  show Q (.ref g5.objs.size) _
  rw [sz]
  refine hQ g8 ⟨z8, up _ _ D.TIz D.TITO D.TIi1 D.TIi2 hTI, ⟨x, y, up8 _ _ D.TOz o5⟩, ?_, ?_, ?_, hl2.at fun o e => up _ o D.l2z D.l2TO D.l2i1 D.l2i2 e⟩ p8 up
  · exact tupIter_at j1 fun o e => up8 _ o D.i1z (s5.extBut _ _ D.TOi1.symm (s4.extBut _ _ D.i12 (s3.extBut _ _ D.TOi1.symm e)))
  · exact j2.at fun o e => up8 _ o D.i2z (s5.extBut _ _ D.TOi2.symm e)
  · obtain ⟨o, ho, r⟩ := hl1; exact ⟨o, up _ _ D.l1z D.l1TO D.l1i1 D.l1i2 ho, r⟩
/-- the tuple is drawn out first -/
theorem draw_end {z TI TO i1 i2 l1 l2 : Addr} {k : Nat} {xs ys : Array Value} {Q : Fin → Shared → Prop} (hh : A.handled = none) (D : ZipApart z TI TO i1 i2 l1 l2) (Z : ZSt z TI TO i1 i2 l1 l2 xs ys .none k s.heap) (hx : xs[k]? = none)
    (hE : ∀ h' e, Kept z TO i1 i2 s.heap h' → (∃ o, h'.get? e = some o ∧ o.cls = .type "StopIteration") → E (.ref e) { s with heap := h' }) :
    wpAny (model prog w) A (Builtin.«zip.__next__» ⟨[.ref z], []⟩) Q E s := by
  obtain ⟨hz, hTI, ⟨a, b, hTO⟩, h1, h2, hl1, hl2⟩ := Z
  show wpAny _ _ (field (.ref z) 2 >>= _) _ _ _
  refine wpAny_bind (wpAny_field hz rfl (x := .bool false) rfl ?_)
  show wpAny _ _ (field (.ref z) 3 >>= _) _ _ _
  refine wpAny_bind (wpAny_field hz rfl (x := .ref TI) rfl (wpAny_bind (wpAny_seqItems hTI rfl ?_)))
  show wpAny _ _ (Builtin.SmallTypes.ownedTupleIsFree (.ref z) >>= _) _ _ _
  unfold Builtin.SmallTypes.ownedTupleIsFree
  refine wpAny_bind (wpAny_bind (wpAny_field hz rfl (x := .none) rfl (wpAny_pure ?_)))
  simp only [if_true]
  refine wpAny_bind (wpAny_rule (wpAny_bind (wpAny_field hz rfl (x := .ref TO) rfl (wpAny_bind (wpAny_setField_rec hz (by simp) fun g1 (z1 : IsZip g1 z TI TO .ellipsis) s1 => wpAny_bind ?_)))))
  simp only [List.zipIdx_cons, List.zipIdx_nil, List.forIn_cons, List.forIn_nil]
  refine wpAny_bind (wpAny_bind (wpAny_onRaise ?_))
  show wpAny _ _ (Builtin.SmallTypes.nextOf (.ref i1) >>= _) _ _ _
  have t1 : g1.IsTuple l1 xs := by obtain ⟨o, ho, r⟩ := hl1; exact ⟨o, s1.extBut _ _ D.l1z ho, r⟩
  refine wpAny_bind (nextOf_tup_end hh (tupIter_at h1 fun o e => s1.extBut _ o D.i1z e) t1 hx fun g2 e s2 he => ?_)
  obtain ⟨oe, hoe, hce⟩ := he
  have z2 : IsZip g2 z TI TO .ellipsis := s2 _ _ D.i1z.symm z1
  have hez : e ≠ z := fun q => by subst q; rw [z2] at hoe; cases hoe; simp at hce
  refine wpAny_setField_rec z2 (by simp) fun g3 _ s3 => hE g3 e (fun c o c1 _ c3 _ q => s3.extBut _ _ c1 (s2 _ _ c3 (s1.extBut _ _ c1 q))) ⟨oe, s3.extBut _ _ hez hoe, hce⟩
theorem ZSt.moved {z TI TO i1 i2 l1 l2 : Addr} {xs ys : Array Value} {f : Value} {k : Nat} {h h' : Heap} (Z : ZSt z TI TO i1 i2 l1 l2 xs ys f k h) (e : ∀ b ∈ [z, TI, TO, i1, i2, l1, l2], ∀ o, h.get? b = some o → h'.get? b = some o) : ZSt z TI TO i1 i2 l1 l2 xs ys f k h' := by
  obtain ⟨hz, hTI, ⟨a, b, hTO⟩, h1, h2, hl1, hl2⟩ := Z
  refine ⟨e z (by simp) _ hz, e TI (by simp) _ hTI, ⟨a, b, e TO (by simp) _ hTO⟩, tupIter_at h1 fun o q => e i1 (by simp) o q, h2.at fun o q => e i2 (by simp) o q, ?_, hl2.at fun o q => e l2 (by simp) o q⟩
  obtain ⟨o, ho, r⟩ := hl1; exact ⟨o, e l1 (by simp) _ ho, r⟩
theorem walks_zip (hh : A.handled = none) (z TI TO i1 i2 l1 l2 : Addr) (D : ZipApart z TI TO i1 i2 l1 l2) (xs ys : Array Value) (hle : xs.size ≤ ys.size) :
    WalksT prog w A z [z, TI, TO, i1, i2, l1, l2] [z, TI, TO, i1, i2] xs.size (fun i vals => ∃ x y, xs[i]? = some x ∧ ys[i]? = some y ∧ vals = #[x, y])
      (fun i h => ZSt z TI TO i1 i2 l1 l2 xs ys .none i h) (fun i T h => ZSt z TI TO i1 i2 l1 l2 xs ys (rawInt T) (i + 1) h ∧ T ≠ z ∧ T ≠ TI ∧ T ≠ TO ∧ T ≠ i1 ∧ T ≠ i2) where
  sub := fun c hc => by
    simp only [List.mem_cons, List.not_mem_nil, or_false] at hc ⊢
    rcases hc with rfl | rfl | rfl | rfl | rfl <;> simp
  frame := fun i h h' Z e => Z.moved e
  item := fun i s Q E hi Z hQ => by
    have hx : xs[i]? = some xs[i] := Array.getElem?_eq_getElem hi
    have hy : ys[i]? = some ys[i] := Array.getElem?_eq_getElem (Nat.lt_of_lt_of_le hi hle)
    have hT : s.TypeIs (.ref z) "zip" := ⟨_, Z.zip, rfl⟩
    have new : ∀ {c o}, s.heap.get? c = some o → s.heap.objs.size ≠ c := fun e => Nat.ne_of_gt (Heap.lt_size e)
    unfold pyNext
    refine wpAny_bind (wpAny_attempt (wpAny_callSpecial?_slot (name := Str.ofString "__next__") hT F.slot_zip_next (wpAny_call_entry F.slot_zip_next hT F.entry_zip_next (draw_item D Z hx hy fun h' Z' p' k' => wpAny_pure ?_) (F.args_zip_next_1 _))))
    obtain ⟨a, b, hTO⟩ := Z.out
    obtain ⟨q1, e1, _⟩ := Z.one
    obtain ⟨q2, e2, _⟩ := Z.two
    exact hQ s.heap.objs.size #[xs[i], ys[i]] h' s.toks ⟨_, _, hx, hy, rfl⟩ (Nat.le_refl _) ⟨_, p', rfl, _, rfl⟩ ⟨Z', new Z.zip, new Z.ins, new hTO, new e1, new e2⟩ fun c o hc e => k' c o (fun q => hc (by simp [q])) (fun q => hc (by simp [q])) (fun q => hc (by simp [q])) (fun q => hc (by simp [q])) e
  go := fun elts k pos i T s Q E hm hQ => by
    refine wpAny_letOwnedTupleGo_zip hm.1.zip fun h' z' s' => hQ h' ?_ fun c o hc e => s'.extBut _ _ (fun q => hc (by simp [q])) e
    obtain ⟨hz, hTI, ⟨a, b, hTO⟩, h1, h2, hl1, hl2⟩ := hm.1
    refine ⟨z', s'.extBut _ _ D.TIz hTI, ⟨a, b, s'.extBut _ _ D.TOz hTO⟩, tupIter_at h1 fun o q => s'.extBut _ o D.i1z q, h2.at fun o q => s'.extBut _ o D.i2z q, ?_, hl2.at fun o q => s'.extBut _ o D.l2z q⟩
    obtain ⟨o, ho, r⟩ := hl1; exact ⟨o, s'.extBut _ _ D.l1z ho, r⟩
  apart := fun i T h hm hT => by
    simp only [List.mem_cons, List.not_mem_nil, or_false] at hT
    rcases hT with q | q | q | q | q
    · exact hm.2.1 q
    · exact hm.2.2.1 q
    · exact hm.2.2.2.1 q
    · exact hm.2.2.2.2.1 q
    · exact hm.2.2.2.2.2 q
  done := fun s Q E Z hQ => by
    have hT : s.TypeIs (.ref z) "zip" := ⟨_, Z.zip, rfl⟩
    unfold pyNext
    refine wpAny_bind (wpAny_attempt (wpAny_callSpecial?_slot (name := Str.ofString "__next__") hT F.slot_zip_next (wpAny_call_entry F.slot_zip_next hT F.entry_zip_next (draw_end hh D Z (by simp) fun h' e hk he => ?_) (F.args_zip_next_1 _))))
    obtain ⟨o, ho, hc⟩ := he
    refine wpAny_bind (wpAny_isInstance (T := "StopIteration") (b := true) ⟨o, ho, hc⟩ isSubtype_stop ?_)
    exact wpAny_pure (hQ h' s.toks fun c o hc e => hk c o (fun q => hc (by simp [q])) (fun q => hc (by simp [q])) (fun q => hc (by simp [q])) (fun q => hc (by simp [q])) e)
  self := fun i s Q E Z hQ => wpAny_pyIter_zip Z.zip hQ
end
end Mine

end

/-! ZipF -/
section
open PySem PySem.W PySem.Spec PySem.Calls PySem.NumText PyProof.Rows
set_option maxRecDepth 100000
namespace Mine
/-- a turn's end where the loop owns the objects P -/
def EndP (h₀ : Heap) (L : Addr) (s₁ : Shared) (P : List (Addr × Obj)) (rest : (Str → Option Value) → List (Addr × Obj) → Prop) (s₂ : Shared) : Prop :=
  ∃ h' tk m' news', s₂ = { s₁ with heap := h', toks := tk } ∧ Fr h₀ L h' m' ∧ News h₀ L h' (P ++ news') ∧ (∀ r ∈ news', ∀ p ∈ P, r.1 ≠ p.1) ∧ rest m' news'
def PostP (h₀ : Heap) (L : Addr) (s₁ : Shared) (P : List (Addr × Obj)) (rest : (Str → Option Value) → List (Addr × Obj) → Prop) (Q : Flow → Shared → Prop) (f : Flow) (s₂ : Shared) : Prop :=
  match f with
  | .ret v => Q (.ret v) s₂
  | .brk => Q .next s₂
  | _ => EndP h₀ L s₁ P rest s₂
theorem PostP.next {h₀ : Heap} {L : Addr} {s₁ : Shared} {P : List (Addr × Obj)} {rest : (Str → Option Value) → List (Addr × Obj) → Prop} {Q : Flow → Shared → Prop} {h' : Heap} {tk : Nat} {m' : Str → Option Value} (news' : List (Addr × Obj)) (F : Fr h₀ L h' m') (N : News h₀ L h' (P ++ news')) (ho : ∀ r ∈ news', ∀ p ∈ P, r.1 ≠ p.1) (hr : rest m' news') :
    PostP h₀ L s₁ P rest Q .next { s₁ with heap := h', toks := tk } := ⟨h', tk, m', news', rfl, F, N, ho, hr⟩
section
variable {prog : Program} {w : World} {A : Around} {E : Value → Shared → Prop} {s : Shared} {env : Env} {h₀ : Heap} {body orelse : List Stmt} {Q : Flow → Shared → Prop}
theorem zip_apart {I l1 l2 : Nat} (h1 : l1 < I) (h2 : l2 < I) : ZipApart (I + 4) (I + 2) (I + 3) I (I + 1) l1 l2 where
  TIz := neN (by omega)
  TOz := neN (by omega)
  i1z := neN (by omega)
  i2z := neN (by omega)
  TITO := neN (by omega)
  TIi1 := neN (by omega)
  TIi2 := neN (by omega)
  TOi1 := neN (by omega)
  TOi2 := neN (by omega)
  i12 := neN (by omega)
  l1z := neN (by omega)
  l1TO := neN (by omega)
  l1i1 := neN (by omega)
  l1i2 := neN (by omega)
  l2z := neN (by omega)
  l2TO := neN (by omega)
  l2i1 := neN (by omega)
  l2i2 := neN (by omega)
theorem zst_new {h : Heap} {l1 l2 : Addr} {xs ys : Array Value} (hl1 : h.IsTuple l1 xs) (hl2 : h.IsList l2 ys) : ZSt (h.objs.size + 4) (h.objs.size + 2) (h.objs.size + 3) h.objs.size (h.objs.size + 1) l1 l2 xs ys .none 0 (zh5 h l1 l2) := by
  have e1 : (zh1 h l1).objs.size = h.objs.size + 1 := Heap.size_push ..
  have e2 : (zh2 h l1 l2).objs.size = h.objs.size + 2 := by rw [Heap.size_push, e1]
  have e3 : (zh3 h l1 l2).objs.size = h.objs.size + 3 := by rw [Heap.size_push, e2]
  have e4 : (zh4 h l1 l2).objs.size = h.objs.size + 4 := by rw [Heap.size_push, e3]
  have g5 : (zh5 h l1 l2).get? (zh4 h l1 l2).objs.size = some _ := Heap.get?_push_size _ rfl
  have g4 : (zh5 h l1 l2).get? (zh3 h l1 l2).objs.size = some _ := Heap.get?_push_of_some _ (Heap.get?_push_size _ rfl)
  have g3 : (zh5 h l1 l2).get? (zh2 h l1 l2).objs.size = some _ := Heap.get?_push_of_some _ (Heap.get?_push_of_some _ (Heap.get?_push_size _ rfl))
  have g2 : (zh5 h l1 l2).get? (zh1 h l1).objs.size = some _ := Heap.get?_push_of_some _ (Heap.get?_push_of_some _ (Heap.get?_push_of_some _ (Heap.get?_push_size _ rfl)))
  have g1 : (zh5 h l1 l2).get? h.objs.size = some _ := Heap.get?_push_of_some _ (Heap.get?_push_of_some _ (Heap.get?_push_of_some _ (Heap.get?_push_of_some _ (Heap.get?_push_size _ rfl))))
  have up : ∀ c o, h.get? c = some o → (zh5 h l1 l2).get? c = some o := fun c o q => Heap.get?_push_of_some _ (Heap.get?_push_of_some _ (Heap.get?_push_of_some _ (Heap.get?_push_of_some _ (Heap.get?_push_of_some _ q))))
  rw [e4, e3, e2] at g5
  rw [e3] at g4
  rw [e2, e1] at g3
  rw [e1] at g2
  refine ⟨g5, g3, ⟨_, _, g4⟩, ⟨_, g1, rfl, rfl⟩, ⟨_, g2, rfl, rfl⟩, ?_, hl2.at fun o q => up _ o q⟩
  obtain ⟨o, ho, r⟩ := hl1; exact ⟨o, up _ _ ho, r⟩
theorem for_zip {elts : List PySem.Expr} {kk : Nat} {tpos : Pos} {iter : PySem.Expr} {pos : Pos} {l1 l2 : Addr} {o1 o2 : Obj} {xs ys : Array Value} {m : Str → Option Value} {news : List (Addr × Obj)} (J : Nat → (Str → Option Value) → List (Addr × Obj) → Prop)
    (hh : A.handled = none) (F : Fr h₀ env.locals s.heap m) (N : News h₀ env.locals s.heap news) (h0 : J 0 m news) (hle : xs.size ≤ ys.size) (hm1 : (l1, o1) ∈ news) (hm2 : (l2, o2) ∈ news) (c1 : o1.cls = .type "tuple") (d1 : ∃ n, o1.data = .seq xs n) (c2 : o2.cls = .type "list") (d2 : ∃ n, o2.data = .seq ys n)
    (hJm : ∀ i m n, J i m n → (l1, o1) ∈ n ∧ (l2, o2) ∈ n)
    (hiter : ∀ Q' : Value → Shared → Prop, wpAny (model prog w) A (call (.type "zip") [.ref l1, .ref l2]) Q' E s → wpAny (model prog w) A (eval iter env) Q' E s)
    (step : ∀ i x y T m₁ news₁ h₁ tk₁ p1 p2 p3 p4 p5, xs[i]? = some x → ys[i]? = some y → J i m₁ news₁ → (∀ r ∈ news₁, ∀ p ∈ [p1, p2, p3, p4, p5], r.1 ≠ p.1) → IsTup h₁ T #[x, y] → Fr h₀ env.locals h₁ m₁ → News h₀ env.locals h₁ (p1 :: p2 :: p3 :: p4 :: p5 :: news₁) →
      wpAny (model prog w) A (assign (.Tuple elts kk tpos) env (.ref T)) (fun _ s₂ => wpAny (model prog w) A (execs body env) (PostP h₀ env.locals { s with heap := h₁, toks := tk₁ } [p1, p2, p3, p4, p5] (fun m' n' => J (i + 1) m' n') Q) E s₂) E { s with heap := h₁, toks := tk₁ })
    (done : ∀ h' tk m' news', Fr h₀ env.locals h' m' → News h₀ env.locals h' news' → J xs.size m' news' → wpAny (model prog w) A (execs orelse env) Q E { s with heap := h', toks := tk })
    (hs : ∀ x, foldedSetIterable iter env x = pure x := by intro _; rfl)
    (hE : PassesOwn (model prog w) A env E := by passes_own) :
    wpAny (model prog w) A (exec (.For (.Tuple elts kk tpos) iter body orelse pos) env) Q E s := by
  have hl1 : s.heap.IsTuple l1 xs := ⟨o1, (N _ hm1).1, c1, d1⟩
  have hl2 : s.heap.IsList l2 ys := ⟨o2, (N _ hm2).1, c2, d2⟩
  have lt1 : @LT.lt Nat _ l1 s.heap.objs.size := Heap.lt_size (N _ hm1).1
  have lt2 : @LT.lt Nat _ l2 s.heap.objs.size := Heap.lt_size (N _ hm2).1
  refine wpAny_For (hiter _ (call_zip hl1 hl2 ?_)) hs
  have Z := zst_new hl1 hl2
  have e4 : (zh4 s.heap l1 l2).objs.size = s.heap.objs.size + 4 := by rw [Heap.size_push, Heap.size_push, Heap.size_push, Heap.size_push]
  have up : ∀ c o, s.heap.get? c = some o → (zh5 s.heap l1 l2).get? c = some o := fun c o q => Heap.get?_push_of_some _ (Heap.get?_push_of_some _ (Heap.get?_push_of_some _ (Heap.get?_push_of_some _ (Heap.get?_push_of_some _ q))))
  rw [e4]
  generalize zh5 s.heap l1 l2 = h1 at *
  have F1 := Fr.keeps F up
  have N1 := News.grown N up
  have hNlt : ∀ r ∈ news, @LT.lt Nat _ r.1 s.heap.objs.size := fun r hr => Heap.lt_size (N r hr).1
  have hL : @LT.lt Nat _ env.locals s.heap.objs.size := F.ns.lt
  have hab : @LE.le Nat _ h₀.objs.size env.locals := F.above
  generalize hI : s.heap.objs.size = I at *
  have none₀ : ∀ b : Nat, I ≤ b → h₀.get? b = none := fun b hb => by
    cases q : h₀.get? b with
    | none => rfl
    | some o =>
      have q' : @LT.lt Nat _ b h₀.objs.size := Heap.lt_size q
      omega
  refine wpAny_pyIter_zip Z.zip ?_
  refine turns_else (h₀ := h₀) (s := { s with heap := h1 }) (KTurns.ofWalksU (walks_zip hh (I + 4) (I + 2) (I + 3) I (I + 1) l1 l2 (zip_apart lt1 lt2) xs ys hle).toU) hE ?_ ?_ ?_ Z F1 N1 J h0 ?_ done
  · intro hm
    simp only [List.mem_cons, List.not_mem_nil, or_false] at hm
    rcases hm with e | e | e | e | e | e | e
    · have e' : @Eq Nat env.locals (I + 4) := e
      omega
    · have e' : @Eq Nat env.locals (I + 2) := e
      omega
    · have e' : @Eq Nat env.locals (I + 3) := e
      omega
    · have e' : @Eq Nat env.locals I := e
      omega
    · have e' : @Eq Nat env.locals (I + 1) := e
      omega
    · exact (N _ hm1).2.1 e.symm
    · exact (N _ hm2).2.1 e.symm
  · intro b hb
    simp only [List.mem_cons, List.not_mem_nil, or_false] at hb
    have hb' : @Eq Nat b (I + 4) ∨ @Eq Nat b (I + 2) ∨ @Eq Nat b (I + 3) ∨ @Eq Nat b I ∨ @Eq Nat b (I + 1) := hb
    exact none₀ b (by omega)
  · intro r hr hb
    have := hNlt r hr
    simp only [List.mem_cons, List.not_mem_nil, or_false] at hb
    have hb' : @Eq Nat r.1 (I + 4) ∨ @Eq Nat r.1 (I + 2) ∨ @Eq Nat r.1 (I + 3) ∨ @Eq Nat r.1 I ∨ @Eq Nat r.1 (I + 1) := hb
    omega
  · rintro i v m₁ news₁ h₂ tk₁ own hi ⟨T, vals, rfl, ⟨x, y, hx, hy, rfl⟩, hTT⟩ hJ hoff hown hall hst F₂ N₂
    obtain ⟨hz, hTI, ⟨a, b, hTO⟩, ⟨q1, e1, _⟩, ⟨q2, e2, _⟩, _, _⟩ := hst
    obtain ⟨oz, ez⟩ : ∃ o, h₂.get? (I + 4) = some o := ⟨_, hz⟩
    obtain ⟨ot, et⟩ : ∃ o, h₂.get? (I + 2) = some o := ⟨_, hTI⟩
    obtain ⟨ou, eu⟩ : ∃ o, h₂.get? (I + 3) = some o := ⟨_, hTO⟩
    have M1 := hall (I + 4) (by simp) (none₀ _ (by omega)) _ ez
    have M2 := hall (I + 2) (by simp) (none₀ _ (by omega)) _ et
    have M3 := hall (I + 3) (by simp) (none₀ _ (by omega)) _ eu
    have M4 := hall I (by simp) (none₀ _ (by omega)) _ e1
    have M5 := hall (I + 1) (by simp) (none₀ _ (by omega)) _ e2
    have inn : ∀ {c : Addr} {o : Obj}, (c, o) ∈ own → (c, o) ∈ own ++ news₁ := fun q => List.mem_append_left _ q
    have same : ∀ {p : Addr × Obj} {c : Addr} {o : Obj}, p ∈ own → p.1 = c → h₂.get? c = some o → p = (c, o) := fun {p c o} hp e q => by
      have P1 := (N₂ p (List.mem_append_left _ hp)).1
      rw [e, q] at P1
      exact Prod.ext e (Option.some.inj P1).symm
    refine wpAny_mono (step i x y T m₁ news₁ h₂ tk₁ (I + 4, oz) (I + 2, ot) (I + 3, ou) (I, q1) (I + 1, q2) hx hy hJ (fun r hr p hp q => hoff r hr ?_) hTT F₂ (fun p hp => ?_)) (fun _ s₂ q => wpAny_mono q (fun f s₃ h₃ => ?_) fun _ _ e => e) fun _ _ e => e
    rotate_left
    · rcases List.mem_cons.mp hp with rfl | hp
      · exact N₂ _ (inn M1)
      rcases List.mem_cons.mp hp with rfl | hp
      · exact N₂ _ (inn M2)
      rcases List.mem_cons.mp hp with rfl | hp
      · exact N₂ _ (inn M3)
      rcases List.mem_cons.mp hp with rfl | hp
      · exact N₂ _ (inn M4)
      rcases List.mem_cons.mp hp with rfl | hp
      · exact N₂ _ (inn M5)
      · exact N₂ _ (List.mem_append_right _ hp)
    · have fin : EndP h₀ env.locals { s with heap := h₂, toks := tk₁ } [(I + 4, oz), (I + 2, ot), (I + 3, ou), (I, q1), (I + 1, q2)] (fun m' n' => J (i + 1) m' n') s₃ → LoopStepU h₀ env.locals [I + 4, I + 2, I + 3, I, I + 1] own (J (i + 1)) { s with heap := h₂, toks := tk₁ } .next s₃ := by
        rintro ⟨h', tk, m', news', e, F', N', ho, hJ'⟩
        refine ⟨rfl, h', tk, m', news', e, F', fun p hp => ?_, fun p hp hb => ?_, hJ'⟩
        · rcases List.mem_append.mp hp with hp | hp
          · have h1 := hown p hp
            simp only [List.mem_cons, List.not_mem_nil, or_false] at h1
            rcases h1 with h1 | h1 | h1 | h1 | h1 | h1 | h1
            · rw [same hp h1 ez]; exact N' _ (List.mem_append_left _ (by simp))
            · rw [same hp h1 et]; exact N' _ (List.mem_append_left _ (by simp))
            · rw [same hp h1 eu]; exact N' _ (List.mem_append_left _ (by simp))
            · rw [same hp h1 e1]; exact N' _ (List.mem_append_left _ (by simp))
            · rw [same hp h1 e2]; exact N' _ (List.mem_append_left _ (by simp))
            · rw [same hp h1 (N₂ _ (List.mem_append_right _ (hJm i _ _ hJ).1)).1]; exact N' _ (List.mem_append_right _ (hJm _ _ _ hJ').1)
            · rw [same hp h1 (N₂ _ (List.mem_append_right _ (hJm i _ _ hJ).2)).1]; exact N' _ (List.mem_append_right _ (hJm _ _ _ hJ').2)
          · exact N' _ (List.mem_append_right _ hp)
        · have := ho p hp
          simp only [List.mem_cons, List.not_mem_nil, or_false] at hb
          rcases hb with q | q | q | q | q
          · exact this _ (.head _) q
          · exact this _ (.tail _ (.head _)) q
          · exact this _ (.tail _ (.tail _ (.head _))) q
          · exact this _ (.tail _ (.tail _ (.tail _ (.head _)))) q
          · exact this _ (.tail _ (.tail _ (.tail _ (.tail _ (.head _))))) q
      cases f with
      | ret v => exact LoopStepV.ret h₃
      | brk => exact LoopStepV.brk h₃
      | next => exact LoopStepV.next (fin h₃)
      | cont => exact LoopStepV.cont (fin h₃)
    · simp only [List.mem_cons, List.not_mem_nil, or_false] at hp ⊢
      rcases hp with rfl | rfl | rfl | rfl | rfl
      · exact .inl q
      · exact .inr (.inl q)
      · exact .inr (.inr (.inl q))
      · exact .inr (.inr (.inr (.inl q)))
      · exact .inr (.inr (.inr (.inr q)))
end
end Mine

end

section
open PySem PySem.W PySem.Spec PySem.Calls PySem.NumText PyProof.Rows
namespace Mine
local macro_rules | `(tactic| walk_at $k:str) => `(tactic| k_extra $(Lean.Syntax.mkStrLit ("m:" ++ k.getString)))

/-! Calls -/
section
open PySem PySem.W PySem.Spec PySem.Calls PySem.NumText PyProof.Rows
set_option maxRecDepth 100000
set_option maxHeartbeats 4000000
/-- the words of this part; the walk is laid as in a fresh process -/
theorem calmCalls : True := by
  w_top off
  k_with_none
  k_with "m:call ref" => (k_here; (with_reducible show wpAny _ _ (call (Value.ref 35) [Value.int _ _]) _ _ _); k_dflt (refine' (ifmt_spec _ _ _ _ _ _).goV ?k1 ?k2 ?k3 ?k4 ?k5 ?kK ?kd ?ku ?_; walk_at "mine ask"); intro _ _ _ _ _; (try k_sweep))
  k_with "mine enter" => (
    (case k1 => k_is)
    (case k2 => k_is)
    (case k3 => intro s; exact BindsTo.of_eq rfl)
    (case k4 => exact locs rfl)
    (case k5 => exact rfl)
    (case k6 => exact rfl)
    (case k7 => exact rfl)
    (case k8 => decide))
  k_with "mine ask" => (
    (case k1 => k_asm)
    (case k2 => k_asm)
    (case k3 => k_asm)
    (case k4 => k_asm)
    (case k5 => k_asm)
    (case kK => first | exact rfl | assumption)
    (case kd => ktr_room)
    (case ku => ktr_units))
  trivial
theorem fill5 : Challenge.rw_mr0156_01 = Challenge.rw_mr0156_01 ∧ ∀ P, hd.heap_39 P = hd.heap_39 P := by k_fill; exact ⟨rfl, fun _ => rfl⟩
/-- a contract used where the frame, the ledger stand -/
theorem Spec.go {w : World} {mean : ExcName → Option Value} {mg mb : Str → Option Value} {f : Addr} {dep : Nat} {vs : List Value} {Pre : Heap → Prop} {Post : Heap → Value → Heap → Prop} (S : Spec w mean mg mb f dep vs Pre Post)
    {dp un : Nat} {gd : Option (List Code)} {cn : Str} {cs : Scope} {a : Addr} {ccd : Value} {cl : List (Str × Addr)} {outer : List Env} {A₀ : Around} {base h₀ : Heap} {L : Addr} {m : Str → Option Value} {s : Shared} {Q E : Value → Shared → Prop} {news : List (Addr × Obj)}
    (B : Below A₀ base outer h₀) (F : Fr h₀ L s.heap m) (N : News h₀ L s.heap news) (X : (hd.heap_39 w.params).In h₀) (T : Top hd.view_39 (looseW hd.view_39 [Str.ofString "_filemode_table"]) mean mg mb h₀) (hk : cs.kind = .function)
    (hd : dp + dep < recursionLimit) (hu : un + 8 * dep + 40 < cLine) (hpre : ∀ g, Ks s.heap g → Pre g)
    (hret : ∀ g v h' tk', Ks s.heap g → Ks g h' → Fr h₀ L h' m → News h₀ L h' news → Post g v h' → Q v { s with heap := h', toks := tk' }) :
    wpAny (model Challenge.rw_mr0156_01.row.prog w) (ktrTop dp un gd cn cs L a ccd cl outer) (call (.ref f) vs) Q E s :=
  S dp un gd cn cs a ccd cl outer A₀ base h₀ L m s Q E B F X T hk hd hu hpre fun g v h' tk' k1 k2 hp => hret g v h' tk' k1 k2 (Fr.keeps F (k1.trans k2)) (News.grown N (k1.trans k2)) hp

theorem Spec.goV {w : World} {mean : ExcName → Option Value} {mg mb : Str → Option Value} {f : Addr} {dep : Nat} {vs : List Value} {R : Tok → Value} (S : Spec w mean mg mb f dep vs (fun _ => True) (fun _ v _ => ∃ t, v = R t))
    {dp un : Nat} {gd : Option (List Code)} {cn : Str} {cs : Scope} {a : Addr} {ccd : Value} {cl : List (Str × Addr)} {outer : List Env} {A₀ : Around} {base h₀ : Heap} {L : Addr} {m : Str → Option Value} {s : Shared} {Q E : Value → Shared → Prop} {news : List (Addr × Obj)}
    (B : Below A₀ base outer h₀) (F : Fr h₀ L s.heap m) (N : News h₀ L s.heap news) (X : (hd.heap_39 w.params).In h₀) (T : Top hd.view_39 (looseW hd.view_39 [Str.ofString "_filemode_table"]) mean mg mb h₀) (hk : cs.kind = .function)
    (hd : dp + dep < recursionLimit) (hu : un + 8 * dep + 40 < cLine)
    (hret : ∀ t h' tk', Fr h₀ L h' m → News h₀ L h' news → Q (R t) { s with heap := h', toks := tk' }) :
    wpAny (model Challenge.rw_mr0156_01.row.prog w) (ktrTop dp un gd cn cs L a ccd cl outer) (call (.ref f) vs) Q E s :=
  S.go B F N X T hk hd hu (fun _ _ => trivial) fun _ _ h' tk' _ _ F' N' ⟨t, e⟩ => e ▸ hret t h' tk' F' N'

theorem ifmt_spec (w : World) (mean : ExcName → Option Value) (mg mb : Str → Option Value) (n : Int) (t : Tok) : Spec w mean mg mb 35 1 [.int n t] (fun _ => True) (fun _ v _ => ∃ t, v = .int (Builtin.bitAnd n 61440) t) := by
  refine' Spec.enter (binds := [(Str.ofString "mode", .int n t)]) ?k1 ?k2 ?k3 ?k4 ?k5 ?k6 ?k7 ?k8 ?_
  walk_at "mine enter"
  intro dp un gd cn cs L a ccd cl outer base g L' h₁ s tk R F N B X T hcs hd hu hpre
  (try k_fold)
  k_steps
  exact Back.intro (by assumption) ⟨_, rfl⟩
theorem imode_spec (w : World) (mean : ExcName → Option Value) (mg mb : Str → Option Value) (n : Int) (t : Tok) : Spec w mean mg mb 28 1 [.int n t] (fun _ => True) (fun _ v _ => ∃ t, v = .int (Builtin.bitAnd n 4095) t) := by
  refine' Spec.enter (binds := [(Str.ofString "mode", .int n t)]) ?k1 ?k2 ?k3 ?k4 ?k5 ?k6 ?k7 ?k8 ?_
  walk_at "mine enter"
  intro dp un gd cn cs L a ccd cl outer base g L' h₁ s tk R F N B X T hcs hd hu hpre
  (try k_fold)
  k_steps
  exact Back.intro (by assumption) ⟨_, rfl⟩

theorem isdir_spec (w : World) (mean : ExcName → Option Value) (mg mb : Str → Option Value) (n : Int) (t : Tok) : Spec w mean mg mb 42 2 [.int n t] (fun _ => True) (fun _ v _ => ∃ _t : Tok, v = .bool (Builtin.bitAnd n 61440 == 16384)) := by
  refine' Spec.enter (binds := [(Str.ofString "mode", .int n t)]) ?k1 ?k2 ?k3 ?k4 ?k5 ?k6 ?k7 ?k8 ?_
  walk_at "mine enter"
  intro dp un gd cn cs L a ccd cl outer base g L' h₁ s tk R F N B X T hcs hd hu hpre
  (try k_fold)
  k_steps
  exact Back.intro (by assumption) ⟨0, rfl⟩
theorem ischr_spec (w : World) (mean : ExcName → Option Value) (mg mb : Str → Option Value) (n : Int) (t : Tok) : Spec w mean mg mb 49 2 [.int n t] (fun _ => True) (fun _ v _ => ∃ _t : Tok, v = .bool (Builtin.bitAnd n 61440 == 8192)) := by
  refine' Spec.enter (binds := [(Str.ofString "mode", .int n t)]) ?k1 ?k2 ?k3 ?k4 ?k5 ?k6 ?k7 ?k8 ?_
  walk_at "mine enter"
  intro dp un gd cn cs L a ccd cl outer base g L' h₁ s tk R F N B X T hcs hd hu hpre
  (try k_fold)
  k_steps
  exact Back.intro (by assumption) ⟨0, rfl⟩
theorem isblk_spec (w : World) (mean : ExcName → Option Value) (mg mb : Str → Option Value) (n : Int) (t : Tok) : Spec w mean mg mb 56 2 [.int n t] (fun _ => True) (fun _ v _ => ∃ _t : Tok, v = .bool (Builtin.bitAnd n 61440 == 24576)) := by
  refine' Spec.enter (binds := [(Str.ofString "mode", .int n t)]) ?k1 ?k2 ?k3 ?k4 ?k5 ?k6 ?k7 ?k8 ?_
  walk_at "mine enter"
  intro dp un gd cn cs L a ccd cl outer base g L' h₁ s tk R F N B X T hcs hd hu hpre
  (try k_fold)
  k_steps
  exact Back.intro (by assumption) ⟨0, rfl⟩
theorem isreg_spec (w : World) (mean : ExcName → Option Value) (mg mb : Str → Option Value) (n : Int) (t : Tok) : Spec w mean mg mb 63 2 [.int n t] (fun _ => True) (fun _ v _ => ∃ _t : Tok, v = .bool (Builtin.bitAnd n 61440 == 32768)) := by
  refine' Spec.enter (binds := [(Str.ofString "mode", .int n t)]) ?k1 ?k2 ?k3 ?k4 ?k5 ?k6 ?k7 ?k8 ?_
  walk_at "mine enter"
  intro dp un gd cn cs L a ccd cl outer base g L' h₁ s tk R F N B X T hcs hd hu hpre
  (try k_fold)
  k_steps
  exact Back.intro (by assumption) ⟨0, rfl⟩
theorem isfifo_spec (w : World) (mean : ExcName → Option Value) (mg mb : Str → Option Value) (n : Int) (t : Tok) : Spec w mean mg mb 70 2 [.int n t] (fun _ => True) (fun _ v _ => ∃ _t : Tok, v = .bool (Builtin.bitAnd n 61440 == 4096)) := by
  refine' Spec.enter (binds := [(Str.ofString "mode", .int n t)]) ?k1 ?k2 ?k3 ?k4 ?k5 ?k6 ?k7 ?k8 ?_
  walk_at "mine enter"
  intro dp un gd cn cs L a ccd cl outer base g L' h₁ s tk R F N B X T hcs hd hu hpre
  (try k_fold)
  k_steps
  exact Back.intro (by assumption) ⟨0, rfl⟩
theorem islnk_spec (w : World) (mean : ExcName → Option Value) (mg mb : Str → Option Value) (n : Int) (t : Tok) : Spec w mean mg mb 77 2 [.int n t] (fun _ => True) (fun _ v _ => ∃ _t : Tok, v = .bool (Builtin.bitAnd n 61440 == 40960)) := by
  refine' Spec.enter (binds := [(Str.ofString "mode", .int n t)]) ?k1 ?k2 ?k3 ?k4 ?k5 ?k6 ?k7 ?k8 ?_
  walk_at "mine enter"
  intro dp un gd cn cs L a ccd cl outer base g L' h₁ s tk R F N B X T hcs hd hu hpre
  (try k_fold)
  k_steps
  exact Back.intro (by assumption) ⟨0, rfl⟩
theorem issock_spec (w : World) (mean : ExcName → Option Value) (mg mb : Str → Option Value) (n : Int) (t : Tok) : Spec w mean mg mb 84 2 [.int n t] (fun _ => True) (fun _ v _ => ∃ _t : Tok, v = .bool (Builtin.bitAnd n 61440 == 49152)) := by
  refine' Spec.enter (binds := [(Str.ofString "mode", .int n t)]) ?k1 ?k2 ?k3 ?k4 ?k5 ?k6 ?k7 ?k8 ?_
  walk_at "mine enter"
  intro dp un gd cn cs L a ccd cl outer base g L' h₁ s tk R F N B X T hcs hd hu hpre
  (try k_fold)
  k_steps
  exact Back.intro (by assumption) ⟨0, rfl⟩

end

/-! T1 -/
section
open PySem PySem.W PySem.Spec PySem.Calls PyProof.Rows
set_option maxRecDepth 100000
set_option maxHeartbeats 4000000
/-- the words of this part; the walk is laid as in a fresh process -/
theorem calmT1 : True := by
  w_top off
  k_with_none
  k_with "m:subscriptTail Name Slice ref ref" => (k_here; (with_reducible show wpAny _ _ (subscriptTail _ (PySem.Expr.Slice none none (some _) _) (Value.ref _) (Value.ref _)) _ _ _); k_dflt (refine' krv_lit (zs := List.reverse _) ?F ?N ?l ?k ?e ?_ ?s ?t ?z; (case F => k_asm); (case N => k_asm); (case l => kmk_list); (case k => exact IsPart.int _ _); (case e => rfl); (case s => with_unfolding_all rfl); (case t => kmk_pure); (case z => kmk_size)); intro _ _ _ _ _; (try k_lt l1); (try k_sweep))
  trivial
theorem fill0 : Challenge.rw_mr0156_01 = Challenge.rw_mr0156_01 ∧ ∀ P, hd.heap_39 P = hd.heap_39 P := by k_fill; exact ⟨rfl, fun _ => rfl⟩

local macro_rules | `(tactic| walk_at "exec For Name Subscript cons nil") => `(tactic| (k_here; (rename Fr _ _ _ _ => lF'); (with_unfolding_all refine' For_invVF lF' ?k1 ?k2 ?_; (case k1 => exact rfl); (case k2 => exact rfl); k_whole)))

theorem worth_spec (w : World) (mean : ExcName → Option Value) (mg mb : Str → Option Value) (mk : Str) (tm : Tok) (r : Addr) (vs : List Value) (ds : List Nat) (hF : Figs vs ds) (hn : ds.length ≤ 24) :
    Spec w mean mg mb 150 3 [.str mk tm, .ref r] (fun g => g.IsList r vs.toArray) (fun _ v _ => ∃ t, v = .int (if mk = Str.ofString "-" then - valOf ds else valOf ds) t) := by
  refine' Spec.enter (binds := [(Str.ofString "mark", .str mk tm), (Str.ofString "row", .ref r)]) ?k1 ?k2 ?k3 ?k4 ?k5 ?k6 ?k7 ?k8 ?_
  case k1 => k_is
  case k2 => k_is
  case k3 => intro s; exact BindsTo.of_eq rfl
  case k4 => exact locs rfl
  case k5 => exact rfl
  case k6 => exact rfl
  case k7 => exact rfl
  case k8 => decide
  intro dp un gd cn cs L a ccd cl outer base g L' h₁ s tk R F N B X T hcs hd hu hpre
  (try dsimp only)
  have hlen : vs.length = ds.length := by have := hF.1.length; simpa using this
  (try k_lift B)
  (try k_fold)
  k_steps
  rename_i D h2 F2 N2 _
  refine iter_listAcc (vs := vs.reverse) (y := Str.ofString "worth") (R := fun i a => ∃ t, a = Value.int ((ds.reverse.take i).foldl (fun (a : Int) (d : Nat) => a * 10 + (d : Int)) 0) t) rfl F2 N2 (List.Mem.head _) rfl rfl ⟨_, rfl⟩ rfl (by decide) ?_ ?_
  · rintro i v a' I it h3 tk3 hv ⟨t, rfl⟩ hne hit F3 N3
    obtain ⟨d, ty, rfl, hd1, hd2⟩ := hF.rev.item hv
    k_steps
    refine KIN.call_text (intText_fig hd2) (by rw [fig_len]; decide) ?_
    k_steps
    refine UnrEnd.intro (by assumption) (by assumption) [(D, listOf vs.reverse.toArray 0)] (fun p hp => by exact hp) (fun p hp => hne p (by exact hp)) ⟨rfl, ?_, ?_⟩
    · have e : (ds.reverse.take (i + 1)).foldl (fun (a : Int) (d : Nat) => a * 10 + (d : Int)) 0 = (ds.reverse.take i).foldl (fun (a : Int) (d : Nat) => a * 10 + (d : Int)) 0 * 10 + (d : Int) := by
        rw [List.take_add_one, hd1]; simp
      rw [e]
      exact ⟨_, ⟨_, rfl⟩, rfl⟩
    · intro z h1 h2; simp [h1, h2]
  · rintro a' u h3 tk3 ⟨t, rfl⟩ F3 N3
    have e : ds.reverse.take vs.reverse.length = ds.reverse := by rw [List.take_of_length_le]; simp [hF.length]
    rw [e] at F3
    dsimp only
    k_steps
    · rename_i hmk
      refine Back.intro (by assumption) ?_
      rw [if_pos (by simpa using hmk)]; exact ⟨_, rfl⟩
    · rename_i hmk
      refine Back.intro (by assumption) ?_
      rw [if_neg (by simpa using hmk)]; exact ⟨_, rfl⟩

end

/-! T2 -/
section
open PySem PySem.W PySem.Spec PySem.Calls PySem.NumText PyProof.Rows
set_option maxRecDepth 100000
set_option maxHeartbeats 4000000
/-- the words of this part; the walk is laid as in a fresh process -/
theorem calmT2 : True := by
  w_top off
  k_with_none
  k_with "m:subscriptTail Name Slice ref ref" => (k_here; (with_reducible show wpAny _ _ (subscriptTail _ (PySem.Expr.Slice none none (some _) _) (Value.ref _) (Value.ref _)) _ _ _); k_dflt (refine' krv_lit (zs := List.reverse _) ?F ?N ?l ?k ?e ?_ ?s ?t ?z; (case F => k_asm); (case N => k_asm); (case l => kmk_list); (case k => exact IsPart.int _ _); (case e => rfl); (case s => with_unfolding_all rfl); (case t => kmk_pure); (case z => kmk_size)); intro _ _ _ _ _; (try k_lt l1); (try k_sweep))
  k_with "m:call builtin:str.join" => (k_here; (with_reducible show wpAny _ _ (call (Value.builtin _) [Value.str _ _, Value.ref _]) _ _ _); k_dflt (refine' join_figs ?l ?f ?n ?_; (case l => first | (exact News.isList (by k_asm) (by k_mem)) | is_list); (case f => (first | exact Figs.rev (by assumption))); (case n => (simp only [List.length_reverse]; omega)); k_whole); intro _ _)
  k_with "m:binaryOp Add str str" => (k_here; (with_reducible show wpAny _ _ (binaryOp Operator.Add (Value.str _ _) (Value.str _ _)) _ _ _); (refine' PyProof.Rows.add_str ?_ ?z; (case z => (simp only [Str.length_append, figsText_len, List.length_reverse, dotLen, PySem.sizeLine_eq]; omega)); intro _ _))
  k_with "mine enter" => (
    (case k1 => k_is)
    (case k2 => k_is)
    (case k3 => intro s; exact BindsTo.of_eq rfl)
    (case k4 => exact locs rfl)
    (case k5 => exact rfl)
    (case k6 => exact rfl)
    (case k7 => exact rfl)
    (case k8 => decide))
  trivial
theorem fill1 : Challenge.rw_mr0156_01 = Challenge.rw_mr0156_01 ∧ ∀ P, hd.heap_39 P = hd.heap_39 P := by k_fill; exact ⟨rfl, fun _ => rfl⟩
theorem dotLen : (Str.ofString ".").length = 1 := by decide
theorem place_spec (w : World) (mean : ExcName → Option Value) (mg mb : Str → Option Value) (ma ra r0 r1 : Addr) (m0 m1 : Str) (t0 t1 : Tok) (v0 v1 : List Value) (d0 d1 : List Nat) (hF0 : Figs v0 d0) (hF1 : Figs v1 d1) (hn0 : d0.length ≤ 24) (hn1 : d1.length ≤ 24) (hm0 : m0.length ≤ 1) (hm1 : m1.length ≤ 1) :
    Spec w mean mg mb 138 3 [.ref ma, .ref ra] (fun g => g.IsList ma #[.str m0 t0, .str m1 t1] ∧ g.IsList ra #[.ref r0, .ref r1] ∧ g.IsList r0 v0.toArray ∧ g.IsList r1 v1.toArray) (fun _ v _ => ∃ t, v = .str (placeText m0 m1 d0 d1) t) := by
  refine' Spec.enter (binds := [(Str.ofString "marks", .ref ma), (Str.ofString "rows", .ref ra)]) ?k1 ?k2 ?k3 ?k4 ?k5 ?k6 ?k7 ?k8 ?_
  walk_at "mine enter"
  intro dp un gd cn cs L a ccd cl outer base g L' h₁ s tk R F N B X T hcs hd hu hpre
  obtain ⟨p1, p2, p3, p4⟩ := hpre
  have hl0 := hF0.length
  have hl1 := hF1.length
  (try k_lift B)
  (try k_fold)
  k_steps
  refine Back.intro (by assumption) ⟨_, rfl⟩

end

/-! T3 -/
section
open PySem PySem.W PySem.Spec PySem.Calls PySem.NumText PyProof.Rows
set_option maxRecDepth 100000
set_option maxHeartbeats 4000000
/-- the words of this part; the walk is laid as in a fresh process -/
theorem calmT3 : True := by
  w_top off
  k_with_none
  k_with "mine enter" => (
    (case k1 => k_is)
    (case k2 => k_is)
    (case k3 => intro s; exact BindsTo.of_eq rfl)
    (case k4 => exact locs rfl)
    (case k5 => exact rfl)
    (case k6 => exact rfl)
    (case k7 => exact rfl)
    (case k8 => decide))
  trivial
theorem fill2 : Challenge.rw_mr0156_01 = Challenge.rw_mr0156_01 ∧ ∀ P, hd.heap_39 P = hd.heap_39 P := by k_fill; exact ⟨rfl, fun _ => rfl⟩
theorem glc_spec (w : World) (mean : ExcName → Option Value) (mg mb : Str → Option Value) (x y z : Str) (t : Tok) (i j : Int) (hs : Txt.split z (Str.ofString ".") = [x, y]) (hx : PySem.intText? x = some i) (hy : PySem.intText? y = some j) (hlx : x.length ≤ 640) (hly : y.length ≤ 640) (hz : z.length ≤ 1000) :
    Spec w mean mg mb 21 3 [.str z t] (fun g => True) (fun g v h => ∃ q ti tj, v = .ref q ∧ g.get? q = none ∧ h.get? q = some { cls := .type "tuple", data := .seq #[.int i ti, .int j tj] }) := by
  refine' Spec.enter (binds := [(Str.ofString "index", .str z t)]) ?k1 ?k2 ?k3 ?k4 ?k5 ?k6 ?k7 ?k8 ?_
  walk_at "mine enter"
  intro dp un gd cn cs L a ccd cl outer base g L' h₁ s tk R F N B X T hcs hd hu hpre
  (try k_lift B)
  (try k_fold)
  k_steps
  rename_i l h1 k1 e a1 a2 hl0 F1 N1
  generalize hD : h₁.objs.size = D at *
  rw [hs] at e
  obtain ⟨tx, l', rfl, e2⟩ := KSpl.cons_of e
  obtain ⟨ty, l'', rfl, e3⟩ := KSpl.cons_of e2
  have e4 := KSpl.nil_of e3
  subst e4
  dsimp only [strValues, List.map_cons, List.map_nil] at N1
  have hl1 : h1.IsList D #[.str x tx, .str y ty] := News.isList N1 (List.Mem.head _)
  refine call_map hl1 ?_
  intro h2 hm2 ho2 hi2 kp2
  have F2 := Fr.keeps F1 kp2
  have N2 := News.grown N1 kp2
  have hl2 : h2.IsList D #[.str x tx, .str y ty] := hl1.at fun o e => kp2 D o e
  have hDlt : D < h1.objs.size := by obtain ⟨o, ho, _⟩ := hl1; exact Heap.lt_size ho
  have hnew : g.get? h1.objs.size = none := next_is_new F1
  have hLlt : L' < h1.objs.size := F1.ns.lt
  clear F1 N1
  rw [assign_Tuple]
  refine wpAny_bind (wpAny_standAt ?_)
  unfold unpack
  refine wpAny_bind (wpAny_holding (unpack_map_ints rfl hm2 ho2 hi2 hl2 (by show h1.objs.size + 2 ≠ h1.objs.size; omega) (by show h1.objs.size + 1 ≠ h1.objs.size; omega) (by show D ≠ h1.objs.size; omega) hx hy hlx hly ?_))
  intro h3 tk3 ti tj kp3
  have F3 : Fr g L' h3 _ := ⟨F2.ns.at' fun o e => kp3 L' o (Nat.ne_of_lt hLlt) e, fun b o e => kp3 b o (fun q => by rw [q] at e; rw [hnew] at e; cases e) (F2.keep b o e), F2.above⟩
  have N3 : News g L' h3 [] := News.nil
  clear F2 N2
  k_steps
  rename_i D4 h4 F4 N4 _
  exact Back.intro F4 ⟨D4, ti, tj, rfl, (N4 _ (List.Mem.head _)).2.2, (N4 _ (List.Mem.head _)).1⟩

end
section
local macro_rules | `(tactic| walk_at $k:str) => if ["eval BinOp", "eval Subscript", "eval Name", "eval Constant int", "eval Constant str"].contains k.getString then `(tactic| (k_here; (with_reducible show wpAny _ _ _ _ _ (Shared.mk _ _ _ (_ + _) _)); (rename Fr _ _ _ _ => kF); (with_unfolding_all refine tidy (s := by assumption) kF ?_ rfl); intro tk; walk_say "TIDY")) else Lean.Macro.throwUnsupported

/-! T5 -/
section
open PySem PySem.W PySem.Spec PySem.Calls PySem.NumText PyProof.Rows
set_option maxRecDepth 100000
set_option maxHeartbeats 4000000
/-- the words of this part; the walk is laid as in a fresh process -/
theorem calmT5 : True := by
  w_top off
  k_with_none
  k_with "m:call ref" => (k_here; (with_reducible show wpAny _ _ (call (Value.ref 35) [Value.int _ _]) _ _ _); k_dflt (refine' (ifmt_spec _ _ _ _ _ _).goV ?k1 ?k2 ?k3 ?k4 ?k5 ?kK ?kd ?ku ?_; walk_at "mine ask"); intro _ _ _ _ _; (try k_sweep))
  k_with "mine enter" => (
    (case k1 => k_is)
    (case k2 => k_is)
    (case k3 => intro s; exact BindsTo.of_eq rfl)
    (case k4 => exact locs rfl)
    (case k5 => exact rfl)
    (case k6 => exact rfl)
    (case k7 => exact rfl)
    (case k8 => decide))
  k_with "mine ask" => (
    (case k1 => k_asm)
    (case k2 => k_asm)
    (case k3 => k_asm)
    (case k4 => k_asm)
    (case k5 => k_asm)
    (case kK => first | exact rfl | assumption)
    (case kd => ktr_room)
    (case ku => ktr_units))
  trivial
theorem fill4 : Challenge.rw_mr0156_01 = Challenge.rw_mr0156_01 ∧ ∀ P, hd.heap_39 P = hd.heap_39 P := by k_fill; exact ⟨rfl, fun _ => rfl⟩
/-- a row of filemode's table: the pair's place, its bit, its sign -/
structure Row where
  pl : Addr
  bit : Int
  tb : Tok
  chr : Str
  tc : Tok
noncomputable def tabs : List (Addr × List Row) := [
  (92, [⟨85, 40960, 224, Str.ofString "l", 301⟩, ⟨86, 49152, 226, Str.ofString "s", 302⟩, ⟨87, 32768, 220, Str.ofString "-", 303⟩, ⟨88, 24576, 218, Str.ofString "b", 304⟩, ⟨89, 16384, 214, Str.ofString "d", 305⟩, ⟨90, 8192, 216, Str.ofString "c", 306⟩, ⟨91, 4096, 222, Str.ofString "p", 307⟩]),
  (94, [⟨93, 256, 283, Str.ofString "r", 308⟩]),
  (96, [⟨95, 128, 285, Str.ofString "w", 309⟩]),
  (100, [⟨97, 2112, 310, Str.ofString "s", 311⟩, ⟨98, 2048, 277, Str.ofString "S", 312⟩, ⟨99, 64, 287, Str.ofString "x", 313⟩]),
  (102, [⟨101, 32, 289, Str.ofString "r", 314⟩]),
  (104, [⟨103, 16, 291, Str.ofString "w", 315⟩]),
  (108, [⟨105, 1032, 316, Str.ofString "s", 317⟩, ⟨106, 1024, 279, Str.ofString "S", 318⟩, ⟨107, 8, 293, Str.ofString "x", 319⟩]),
  (110, [⟨109, 4, 295, Str.ofString "r", 320⟩]),
  (112, [⟨111, 2, 297, Str.ofString "w", 321⟩]),
  (116, [⟨113, 513, 322, Str.ofString "t", 323⟩, ⟨114, 512, 281, Str.ofString "T", 324⟩, ⟨115, 1, 299, Str.ofString "x", 325⟩])]
def tabIs (g : Heap) (p : Addr × List Row) : Prop := IsTup g p.1 (p.2.map fun r => Value.ref r.pl).toArray ∧ ∀ r ∈ p.2, IsTup g r.pl #[.int r.bit r.tb, .str r.chr r.tc]
set_option maxHeartbeats 4000000 in
theorem tabs_in {w : World} {g : Heap} (X : (hd.heap_39 w.params).In g) : ∀ p ∈ tabs, tabIs g p := by
  have one : ∀ (a : Addr) (o : Obj), (hd.heap_39 w.params).lookup a = some o → g.get? a = some o := fun a o e => X a o e
  unfold tabs tabIs
  simp only [List.forall_mem_cons, List.map_cons, List.map_nil]
  refine ⟨?_, ?_, ?_, ?_, ?_, ?_, ?_, ?_, ?_, ?_, List.forall_mem_nil _⟩
  all_goals refine ⟨⟨_, one _ _ (by k_is), rfl, _, rfl⟩, ?_⟩
  all_goals (repeat' (first | exact List.forall_mem_nil _ | refine And.intro ⟨_, one _ _ (by k_is), rfl, _, rfl⟩ ?_))

abbrev hit (i : Nat) (n b : Int) : Prop := (if i = 0 then Builtin.bitAnd n 61440 else Builtin.bitAnd n b) = b
noncomputable def chrAt (n : Int) (i : Nat) : List Row → Str
  | [] => if i = 0 then Str.ofString "?" else Str.ofString "-"
  | r :: rs => if hit i n r.bit then r.chr else chrAt n i rs
theorem chrAt_hit {n : Int} {i : Nat} : ∀ {ps : List Row} {j : Nat} {r : Row}, ps[j]? = some r → (∀ q ∈ ps.take j, ¬ hit i n q.bit) → hit i n r.bit → chrAt n i ps = r.chr
  | p :: ps, 0, r, hr, _, hh => by cases hr; unfold chrAt; rw [if_pos hh]
  | p :: ps, j + 1, r, hr, hno, hh => by
    unfold chrAt
    rw [if_neg (hno p (by simp)), chrAt_hit (ps := ps) (j := j) (by simpa using hr) (fun q hq => hno q (by simp [hq])) hh]
theorem chrAt_none {n : Int} {i : Nat} : ∀ {ps : List Row}, (∀ q ∈ ps, ¬ hit i n q.bit) → chrAt n i ps = if i = 0 then Str.ofString "?" else Str.ofString "-"
  | [], _ => rfl
  | p :: ps, hno => by
    unfold chrAt
    rw [if_neg (hno p (by simp)), chrAt_none fun q hq => hno q (by simp [hq])]
noncomputable def modeList (n : Int) : List Str := tabs.zipIdx.map fun q => chrAt n q.2 q.1.2
noncomputable def modeText (n : Int) : Str := Txt.join (Str.ofString "") (modeList n)
theorem chrAt_len {n : Int} {i : Nat} : ∀ {ps : List Row}, (∀ r ∈ ps, r.chr.length = 1) → (chrAt n i ps).length = 1
  | [], _ => by unfold chrAt; split <;> decide
  | p :: ps, h => by
    unfold chrAt
    split
    · exact h p (by simp)
    · exact chrAt_len fun r hr => h r (by simp [hr])
theorem ones_sum : ∀ l : List Str, (∀ x ∈ l, x.length = 1) → (l.map (·.length)).sum = l.length
  | [], _ => rfl
  | x :: r, h => by
    rw [List.map_cons, List.sum_cons, h x (by simp), ones_sum r fun y hy => h y (by simp [hy]), List.length_cons]; omega
theorem tabs_ones : ∀ p ∈ tabs, ∀ r ∈ p.2, r.chr.length = 1 := by decide
theorem modeList_sum (n : Int) : ((modeList n).map (·.length)).sum = (modeList n).length := by
  refine ones_sum _ fun x hx => ?_
  obtain ⟨⟨p, i⟩, hp, rfl⟩ := List.mem_map.mp hx
  have : p ∈ tabs := by
    have := List.mem_zipIdx hp
    obtain ⟨_, _, e⟩ := this
    rw [e]; exact List.getElem_mem _
  exact chrAt_len (tabs_ones p this)
theorem strs_next {n : Int} {i : Nat} {xs : List Value} {y : Addr × List Row} {c : Str} {tc : Tok} (hxs : StrsAre xs ((tabs.zipIdx.take i).map fun q => chrAt n q.2 q.1.2)) (hi : tabs[i]? = some y) (hc : c = chrAt n i y.2) :
    StrsAre (xs ++ [.str c tc]) ((tabs.zipIdx.take (i + 1)).map fun q => chrAt n q.2 q.1.2) := by
  have e : tabs.zipIdx[i]? = some (y, i) := by rw [List.getElem?_zipIdx, hi]; simp
  rw [List.take_add_one, e]
  simp only [Option.toList_some, List.map_append, List.map_cons, List.map_nil]
  rw [← hc]
  exact hxs.append' (.cons c tc .nil)
theorem filemode_spec (w : World) (mean : ExcName → Option Value) (mg mb : Str → Option Value) (n : Int) (t : Tok) (h0 : 0 ≤ n) (h1 : n < 4294967296) :
    Spec w mean mg mb 124 3 [.int n t] (fun _ => True) (fun _ v _ => ∃ t, v = .str (modeText n) t) := by
  refine' Spec.enter (binds := [(Str.ofString "mode", .int n t)]) ?k1 ?k2 ?k3 ?k4 ?k5 ?k6 ?k7 ?k8 ?_
  walk_at "mine enter"
  intro dp un gd cn cs L a ccd cl outer base g L' h₁ s tk R F N B X T hcs hd hu hpre
  (try k_lift B)
  (try k_fold)
  refine execs_cut ?_
  intro rest hrest
  k_steps
  rename_i P h2 _ h3 F3 N3
  subst hrest
  generalize tk + 1 = tk3
  refine wpAny_execs_cons ?_
  have hTabs := tabs_in X
  refine for_enum_tup (ax := 117) (items := (tabs.map fun p => Value.ref p.1).toArray) (fun i m₁ n₁ => (∃ xs k, n₁ = [(P, listOf (List.toArray xs) k)] ∧ StrsAre xs ((tabs.zipIdx.take i).map fun q => chrAt n q.2 q.1.2)) ∧
      ∀ z, z ≠ Str.ofString "index" → z ≠ Str.ofString "table" → z ≠ Str.ofString "bit" → z ≠ Str.ofString "char" → m₁ z = (fun y => if y = Str.ofString "perm" then some (Value.ref P) else List.lookup y [(Str.ofString "mode", Value.int n t)].reverse) z) rfl ?_ F3 N3 ⟨⟨[], 0, rfl, by simp only [List.take_zero, List.map_nil]; exact .nil⟩, fun _ _ _ _ _ => rfl⟩ ?_ ?_ ?_
  · exact ⟨_, X _ _ (by k_is), rfl, _, rfl⟩
  · intro Q' hq
    k_steps
    exact hq
  · rintro i x ti T' m₁ news₁ h₁ tk₁ p q hx ⟨⟨xs, k, rfl, hxs⟩, hm⟩ hoff hp hq hTT F4 N4
    obtain ⟨⟨ax, ps⟩, hi, rfl⟩ : ∃ y : Addr × List Row, tabs[i]? = some y ∧ x = Value.ref y.1 := by
      simp only [List.getElem?_toArray, List.getElem?_map, Option.map_eq_some_iff] at hx
      obtain ⟨y, hy, rfl⟩ := hx
      exact ⟨y, hy, rfl⟩
    have hTab := hTabs _ (List.mem_of_getElem? hi)
    have hil : i < 10 := by rw [List.getElem?_eq_some_iff] at hi; exact hi.1
    have e : m₁ = fun z => if z = Str.ofString "index" then m₁ z else if z = Str.ofString "table" then m₁ z else if z = Str.ofString "bit" then m₁ z else if z = Str.ofString "char" then m₁ z else if z = Str.ofString "perm" then some (Value.ref P) else List.lookup z [(Str.ofString "mode", Value.int n t)].reverse := by
      funext z
      by_cases h1 : z = Str.ofString "index"
      · simp only [h1, if_true]
      by_cases h2 : z = Str.ofString "table"
      · rw [if_neg h1, if_pos h2]
      by_cases h3 : z = Str.ofString "bit"
      · rw [if_neg h1, if_neg h2, if_pos h3]
      by_cases h4 : z = Str.ofString "char"
      · rw [if_neg h1, if_neg h2, if_neg h3, if_pos h4]
      rw [if_neg h1, if_neg h2, if_neg h3, if_neg h4]
      exact hm z h1 h2 h3 h4
    rw [e] at F4
    refine wpAny_mono (Q := fun _ s₂ => At s g L' (fun y => if y = Str.ofString "table" then some (Value.ref ax) else if y = Str.ofString "index" then some (Value.int i ti) else if y = Str.ofString "index" then m₁ y else if y = Str.ofString "table" then m₁ y else if y = Str.ofString "bit" then m₁ y else if y = Str.ofString "char" then m₁ y else if y = Str.ofString "perm" then some (Value.ref P) else List.lookup y [(Str.ofString "mode", Value.int n t)].reverse) [p, q, (P, listOf (List.toArray xs) k)] s₂) ?_ ?_ (fun _ _ e => e)
    · refine unpackN_ F4 N4 hTT rfl rfl rfl ?_
      intro h5 F5 N5
      k_steps
      exact At.intro (by assumption) (by assumption)
    rintro _ s₂ ⟨h5, tk5, rfl, F5, N5⟩
    refine wpAny_execs_cons ?_
    refine for_tup_else (ax := ax) (items := (ps.map fun r => Value.ref r.pl).toArray) (fun j m₂ n₂ => n₂ = [p, q, (P, listOf (List.toArray xs) k)] ∧ (∀ r ∈ ps.take j, ¬ hit i n r.bit) ∧ 
      ∀ z, z ≠ Str.ofString "bit" → z ≠ Str.ofString "char" → m₂ z = (fun y => if y = Str.ofString "table" then some (Value.ref ax) else if y = Str.ofString "index" then some (Value.int i ti) else if y = Str.ofString "perm" then some (Value.ref P) else List.lookup y [(Str.ofString "mode", Value.int n t)].reverse) z) rfl hTab.1 F5 N5 ?_ ?_ ?_ ?_
    · refine ⟨rfl, fun r hr => by simp at hr, fun z h1 h2 => ?_⟩
      by_cases q1 : z = Str.ofString "table" <;> by_cases q2 : z = Str.ofString "index" <;> simp [q1, q2, h1, h2]
    · intro Q' hq
      k_steps
      exact hq
    · rintro j v m₂ news₂ h6 tk6 I it hv ⟨rfl, hno, hm2⟩ hI hit F6 N6
      obtain ⟨r, hr, rfl⟩ : ∃ r : Row, ps[j]? = some r ∧ v = Value.ref r.pl := by
        simp only [List.getElem?_toArray, List.getElem?_map, Option.map_eq_some_iff] at hv
        obtain ⟨y, hy, rfl⟩ := hv
        exact ⟨y, hy, rfl⟩
      have hRow := hTab.2 r (List.mem_of_getElem? hr)
      have e2 : m₂ = fun z => if z = Str.ofString "bit" then m₂ z else if z = Str.ofString "char" then m₂ z else if z = Str.ofString "table" then some (Value.ref ax) else if z = Str.ofString "index" then some (Value.int i ti) else if z = Str.ofString "perm" then some (Value.ref P) else List.lookup z [(Str.ofString "mode", Value.int n t)].reverse := by
        funext z
        by_cases h1 : z = Str.ofString "bit"
        · rw [if_pos h1]
        by_cases h2 : z = Str.ofString "char"
        · rw [if_neg h1, if_pos h2]
        rw [if_neg h1, if_neg h2]
        exact hm2 z h1 h2
      rw [e2] at F6
      refine wpAny_mono (Q := fun _ s₂ => At s g L' (fun z => if z = Str.ofString "char" then some (Value.str r.chr r.tc) else if z = Str.ofString "bit" then some (Value.int r.bit r.tb) else if z = Str.ofString "bit" then m₂ z else if z = Str.ofString "char" then m₂ z else if z = Str.ofString "table" then some (Value.ref ax) else if z = Str.ofString "index" then some (Value.int i ti) else if z = Str.ofString "perm" then some (Value.ref P) else List.lookup z [(Str.ofString "mode", Value.int n t)].reverse) [(I, it), p, q, (P, listOf (List.toArray xs) k)] s₂) ?_ ?_ (fun _ _ e => e)
      · refine unpackN_ F6 N6 (IsTup.keeps hRow F6.keep) rfl rfl rfl ?_
        intro h7 F7 N7
        k_steps
        exact At.intro (by assumption) (by assumption)
      rintro _ s₂ ⟨h7, tk7, rfl, F7, N7⟩
      have hPI : @Ne Nat P I := hI (P, listOf (List.toArray xs) k) (by simp)
      have hpI : @Ne Nat p.1 I := hI p (by simp)
      have hqI : @Ne Nat q.1 I := hI q (by simp)
      have hPp : @Ne Nat P p.1 := (hoff (P, listOf (List.toArray xs) k) (by simp)).1
      have hPq : @Ne Nat P q.1 := (hoff (P, listOf (List.toArray xs) k) (by simp)).2
      (try k_fold)
      k_steps
      · rename_i hi0 hb h8 F8 N8
        refine TEnd.brk (wpAny_execs_nil ?_)
        refine Post2.next [(P, listOf (List.toArray (xs ++ [Value.str r.chr r.tc])) (k + 1))] F8 (fun z hz => N8 z (by simpa using Or.inr hz)) (fun z hz => by simp only [List.mem_singleton] at hz; subst hz; exact ⟨hPp, hPq⟩) ⟨⟨_, _, rfl, strs_next hxs hi (chrAt_hit hr hno (by unfold Mine.hit; rw [if_pos (by omega)]; exact hb)).symm⟩, ?_⟩
        intro z z1 z2 z3 z4
        simp [z1, z2, z3, z4]
      · rename_i hi0 h8 F8 N8 hb
        refine TEnd.next [p, q, (P, listOf (List.toArray xs) k)] F8 N8 (fun z hz => hI z hz) ⟨rfl, ?_, ?_⟩
        · intro z hz
          rw [List.take_add_one, hr] at hz
          simp only [Option.toList_some, List.mem_append, List.mem_singleton] at hz
          rcases hz with hz | rfl
          · exact hno z hz
          · unfold Mine.hit; rw [if_pos (by omega)]; exact hb
        · intro z z1 z2
          simp [z1, z2]
      · rename_i hi0 hb h8 F8 N8
        refine TEnd.brk (wpAny_execs_nil ?_)
        refine Post2.next [(P, listOf (List.toArray (xs ++ [Value.str r.chr r.tc])) (k + 1))] F8 (fun z hz => N8 z (by simpa using Or.inr hz)) (fun z hz => by simp only [List.mem_singleton] at hz; subst hz; exact ⟨hPp, hPq⟩) ⟨⟨_, _, rfl, strs_next hxs hi (chrAt_hit hr hno (by unfold Mine.hit; rw [if_neg (by omega)]; exact hb)).symm⟩, ?_⟩
        intro z z1 z2 z3 z4
        simp [z1, z2, z3, z4]
      · rename_i hi0 hb
        refine TEnd.next [p, q, (P, listOf (List.toArray xs) k)] (by assumption) (by assumption) (fun z hz => hI z hz) ⟨rfl, ?_, ?_⟩
        · intro z hz
          rw [List.take_add_one, hr] at hz
          simp only [Option.toList_some, List.mem_append, List.mem_singleton] at hz
          rcases hz with hz | rfl
          · exact hno z hz
          · unfold Mine.hit; rw [if_neg (by omega)]; exact hb
        · intro z z1 z2
          simp [z1, z2]
    · rintro h6 tk6 m₂ news₂ F6 N6 ⟨rfl, hno, hm2⟩
      have e2 : m₂ = fun z => if z = Str.ofString "bit" then m₂ z else if z = Str.ofString "char" then m₂ z else if z = Str.ofString "table" then some (Value.ref ax) else if z = Str.ofString "index" then some (Value.int i ti) else if z = Str.ofString "perm" then some (Value.ref P) else List.lookup z [(Str.ofString "mode", Value.int n t)].reverse := by
        funext z
        by_cases h1 : z = Str.ofString "bit"
        · rw [if_pos h1]
        by_cases h2 : z = Str.ofString "char"
        · rw [if_neg h1, if_pos h2]
        rw [if_neg h1, if_neg h2]
        exact hm2 z h1 h2
      rw [e2] at F6
      have hno' : ∀ r ∈ ps, ¬ Mine.hit i n r.bit := fun r hr => hno r (by simpa using hr)
      have hPp : @Ne Nat P p.1 := (hoff (P, listOf (List.toArray xs) k) (by simp)).1
      have hPq : @Ne Nat P q.1 := (hoff (P, listOf (List.toArray xs) k) (by simp)).2
      (try k_fold)
      k_steps
      · rename_i hi0 h8 F8 N8
        refine Post2.next [(P, listOf (List.toArray (xs ++ [Value.str (Str.ofString "?") _])) (k + 1))] F8 (fun z hz => N8 z (by simpa using hz)) (fun z hz => by simp only [List.mem_singleton] at hz; subst hz; exact ⟨hPp, hPq⟩) ⟨⟨_, _, rfl, strs_next hxs hi ((chrAt_none hno').trans (if_pos (by omega))).symm⟩, ?_⟩
        intro z z1 z2 z3 z4
        simp [z1, z2, z3, z4]
      · rename_i hi0 h8 F8 N8
        refine Post2.next [(P, listOf (List.toArray (xs ++ [Value.str (Str.ofString "-") _])) (k + 1))] F8 (fun z hz => N8 z (by simpa using hz)) (fun z hz => by simp only [List.mem_singleton] at hz; subst hz; exact ⟨hPp, hPq⟩) ⟨⟨_, _, rfl, strs_next hxs hi ((chrAt_none hno').trans (if_neg (by omega))).symm⟩, ?_⟩
        intro z z1 z2 z3 z4
        simp [z1, z2, z3, z4]
  · rintro h4 tk4 m₁ news₁ F4 N4 ⟨⟨xs, k, rfl, hxs⟩, hm⟩
    have e : m₁ = fun z => if z = Str.ofString "index" then m₁ z else if z = Str.ofString "table" then m₁ z else if z = Str.ofString "bit" then m₁ z else if z = Str.ofString "char" then m₁ z else if z = Str.ofString "perm" then some (Value.ref P) else List.lookup z [(Str.ofString "mode", Value.int n t)].reverse := by
      funext z
      by_cases h1 : z = Str.ofString "index"
      · simp only [h1, if_true]
      by_cases h2 : z = Str.ofString "table"
      · rw [if_neg h1, if_pos h2]
      by_cases h3 : z = Str.ofString "bit"
      · rw [if_neg h1, if_neg h2, if_pos h3]
      by_cases h4 : z = Str.ofString "char"
      · rw [if_neg h1, if_neg h2, if_neg h3, if_pos h4]
      rw [if_neg h1, if_neg h2, if_neg h3, if_neg h4]
      exact hm z h1 h2 h3 h4
    rw [e] at F4
    have hxs' : StrsAre xs (modeList n) := by
      have : tabs.zipIdx.take (List.map (fun p : Addr × List Row => Value.ref p.1) tabs).toArray.size = tabs.zipIdx := by rw [List.take_of_length_le]; simp
      rw [this] at hxs
      exact hxs
    refine wpAny_execs_nil ?_
    dsimp only
    (try k_fold)
    k_steps
    refine join_list (News.isList (by assumption) (List.Mem.head _)) hxs' ?_ ?_
    · rw [modeList_sum]; simp only [modeList, List.length_map]; decide
    · intro t' k'
      exact Back.intro (by assumption) ⟨_, rfl⟩

end

/-! T6 -/
section
open PySem PySem.W PySem.Spec PySem.Calls PySem.NumText PyProof.Rows
set_option maxRecDepth 100000
set_option maxHeartbeats 4000000
/-- the words of this part; the walk is laid as in a fresh process -/
theorem calmT6 : True := by
  w_top off
  k_with_none
  k_with "m:call ref" => (k_here; (with_reducible show wpAny _ _ (call (Value.ref 35) [Value.int _ _]) _ _ _); k_dflt (refine' (ifmt_spec _ _ _ _ _ _).goV ?k1 ?k2 ?k3 ?k4 ?k5 ?kK ?kd ?ku ?_; walk_at "mine ask"); intro _ _ _ _ _; (try k_sweep))
  k_with "m:call ref" => (k_here; (with_reducible show wpAny _ _ (call (Value.ref 28) [Value.int _ _]) _ _ _); k_dflt (refine' (imode_spec _ _ _ _ _ _).goV ?k1 ?k2 ?k3 ?k4 ?k5 ?kK ?kd ?ku ?_; walk_at "mine ask"); intro _ _ _ _ _; (try k_sweep))
  k_with "mine ne" => ((try dsimp only); first | with_reducible assumption | exact Ne.symm (by with_reducible assumption) | assumption | exact Ne.symm (by assumption))
  k_with "mine all" => first | exact List.forall_mem_nil _ | (refine' List.forall_mem_cons.mpr ⟨?zq4a, ?zq4b⟩; (case zq4a => walk_at "mine ne"); (case zq4b => walk_at "mine all"))
  k_with "mine upd" => first | (refine' Upd.head ?zq5a; (case zq5a => walk_at "mine all")) | (refine' Upd.tail ?zq5a ?zq5b; (case zq5a => walk_at "mine ne"); (case zq5b => walk_at "mine upd"))
  k_with "m:subscriptTail Name Name ref int" => (k_here; (with_reducible show wpAny _ _ (subscriptTail _ _ (Value.ref _) (Value.int (0 + Nat.cast _) _)) _ _ _); k_dflt (refine' item_litK ?zq6k1 ?zq6k2 ?zq6k3 ?zq6k4 ?_ ?zq6k6; (case zq6k1 => first | exact News.isList (by k_asm) (by k_mem) | exact Fr.lst (by k_asm) (by assumption)); (case zq6k2 => decide); (case zq6k3 => decide); (case zq6k4 => rfl); (case zq6k6 => with_unfolding_all rfl); k_whole))
  k_with "m:subscriptTail Name Name ref int" => (k_here; (with_reducible show wpAny _ _ (subscriptTail _ _ (Value.ref _) (Value.int (Nat.cast _) _)) _ _ _); k_dflt (refine' item_fig ?zq7N ?zq7m ?zq7F ?zq7k ?zq7z ?_ ?zq7s; (case zq7N => k_asm); (case zq7m => k_mem); (case zq7F => assumption); (case zq7k => omega); (case zq7z => omega); (case zq7s => with_unfolding_all rfl); k_whole); intro _ _ _ _)
  k_with "m:call type:int" => (k_here; (with_reducible show wpAny _ _ (call (Value.type "int") [Value.str (fig _) _]) _ _ _); (refine KIN.call_text (intText_fig (by assumption)) (by rw [fig_len]; decide) ?_))
  k_with "m:subscriptTail Constant str" => (k_here; (with_reducible show wpAny _ _ (subscriptTail _ _ (Value.str _ _) (Value.int (Nat.cast _) _)) _ _ _); (refine' item_pick ?zq9a ?zq9b ?zq9c ?_ ?zq9d; (case zq9a => omega); (case zq9b => (rw [swpLen]; omega)); (case zq9c => (rw [swpLen]; decide)); (case zq9d => with_unfolding_all rfl)); rw [pick_swp _ (by assumption)])
  k_with "m:setItem ref int" => (k_here; (with_reducible show wpAny _ _ (setItem (Value.ref _) (Value.int _ _) (Value.str _ _)) _ _ _); k_dflt (refine' set_any ?zq10k1 ?zq10k2 ?zq10k3 ?zq10k5 ?zq10k6 ?zq10k7 ?_; (case zq10k1 => k_asm); (case zq10k2 => k_asm); (case zq10k3 => walk_at "mine upd"); (case zq10k5 => omega); (case zq10k6 => omega); (case zq10k7 => omega); k_whole); intro _ _ _; (try k_sweep))
  k_with "mine enter" => (
    (case k1 => k_is)
    (case k2 => k_is)
    (case k3 => intro s; exact BindsTo.of_eq rfl)
    (case k4 => exact locs rfl)
    (case k5 => exact rfl)
    (case k6 => exact rfl)
    (case k7 => exact rfl)
    (case k8 => decide))
  k_with "mine ask" => (
    (case k1 => k_asm)
    (case k2 => k_asm)
    (case k3 => k_asm)
    (case k4 => k_asm)
    (case k5 => k_asm)
    (case kK => first | exact rfl | assumption)
    (case kd => ktr_room)
    (case ku => ktr_units))
  trivial
theorem fill6 : Challenge.rw_mr0156_01 = Challenge.rw_mr0156_01 ∧ ∀ P, hd.heap_39 P = hd.heap_39 P := by k_fill; exact ⟨rfl, fun _ => rfl⟩
theorem dialed_spec (w : World) (mean : ExcName → Option Value) (mg mb : Str → Option Value) (ma da wa a0 a1 : Addr) (m0 m1 : Str) (t0 t1 x0 x1 : Tok) (w0 w1 : Int) (v0 v1 : List Value) (d0 d1 : List Nat) (hF0 : Figs v0 d0) (hF1 : Figs v1 d1) (hn0 : d0.length ≤ 24) (hn1 : d1.length ≤ 24) (hl0 : 17 ≤ d0.length) (hl1 : 17 ≤ d1.length) (hM0 : Mark m0) (hM1 : Mark m1) (hw0 : 0 ≤ w0 ∧ w0 < 65536) (hw1 : 0 ≤ w1 ∧ w1 < 65536) :
    Spec w mean mg mb 143 8 [.ref ma, .ref da, .ref wa] (fun g => g.IsList ma #[.str m0 t0, .str m1 t1] ∧ g.IsList da #[.ref a0, .ref a1] ∧ g.IsList a0 v0.toArray ∧ g.IsList a1 v1.toArray ∧ g.IsList wa #[.int w0 x0, .int w1 x1]) (fun g v h => ∃ q r0 r1 c0 c1 u0 u1 e0 e1, v = .ref q ∧ Figs u0 e0 ∧ Figs u1 e1 ∧ e0.length = d0.length ∧ e1.length = d1.length ∧ Dial m0 w0 e0 16 ∧ Dial m1 w1 e1 16 ∧ @Ne Nat r0 q ∧ @Ne Nat r1 q ∧ @Ne Nat r0 r1 ∧ ∀ p ∈ [(q, listOf #[Value.ref r0, Value.ref r1] 2), (r1, listOf (List.toArray u1) c1), (r0, listOf (List.toArray u0) c0)], h.get? p.1 = some p.2 ∧ g.get? p.1 = none) := by
  refine' Spec.enter (binds := [(Str.ofString "marks", .ref ma), (Str.ofString "drawn", .ref da), (Str.ofString "wishes", .ref wa)]) ?k1 ?k2 ?k3 ?k4 ?k5 ?k6 ?k7 ?k8 ?_
  walk_at "mine enter"
  intro dp un gd cn cs L a ccd cl outer base g L' h₁ s tk R F N B X T hcs hd hu hpre
  obtain ⟨p1, p2, p3, p4, p5⟩ := hpre
  have hz0 := hF0.length
  have hz1 := hF1.length
  (try k_lift B)
  (try k_fold)
  refine exec_cut (fun s' => ∃ D r0 r1 c0 c1, @Ne Nat r0 r1 ∧ @Ne Nat r0 D ∧ @Ne Nat r1 D ∧ At s g L' (fun z => if z = Str.ofString "rows" then some (Value.ref D) else List.lookup z [(Str.ofString "marks", Value.ref ma), (Str.ofString "drawn", Value.ref da), (Str.ofString "wishes", Value.ref wa)].reverse) [(D, listOf #[Value.ref r0, Value.ref r1] 2), (r1, listOf v1.toArray c1), (r0, listOf v0.toArray c0)] s') ?_ ?_
  · k_steps
    rename_i r0 c0 _ hr _ _ _ _ _ _ _ _ _ _ _ _ _ _ _ r1 c1 _ _ _ hr1 D h2 tk2 F2 N2 hD
    refine ⟨rfl, D, r0, r1, c0, c1, ?_, hD.2, hD.1, At.intro F2 N2⟩
    have := hr1.2.2.2
    intro e
    exact absurd this (by rw [e]; exact Nat.lt_irrefl _)
  rintro s' ⟨D, r0, r1, c0, c1, hr01, hD0, hD1, h2, tk2, rfl, F2, N2⟩
  (try k_fold)
  refine exec_cut (fun s' => ∃ c0 c1 u0 u1 e0 e1 m', Figs u0 e0 ∧ Figs u1 e1 ∧ e0.length = d0.length ∧ e1.length = d1.length ∧ Dial m0 w0 e0 16 ∧ Dial m1 w1 e1 16 ∧ m' (Str.ofString "rows") = some (Value.ref D) ∧ At s g L' m' [(D, listOf #[Value.ref r0, Value.ref r1] 2), (r1, listOf (List.toArray u1) c1), (r0, listOf (List.toArray u0) c0)] s') ?_ ?_
  · refine For_invVF F2 rfl rfl (val_cut (RangeAt s g L' (fun z => if z = Str.ofString "rows" then some (Value.ref D) else List.lookup z [(Str.ofString "marks", Value.ref ma), (Str.ofString "drawn", Value.ref da), (Str.ofString "wishes", Value.ref wa)].reverse) [(D, listOf #[Value.ref r0, Value.ref r1] 2), (r1, listOf v1.toArray c1), (r0, listOf v0.toArray c0)] 0 16) ?_ ?_)
    · k_steps
      exact ⟨_, _, _, _, _, _, rfl, rfl, by assumption, by assumption, by assumption⟩
    · rintro v s' ⟨r, t, u, w', h3, tk3, rfl, rfl, hR, F3, N3⟩
      refine iter_rangeJ (n := 16) (fun k m₁ n₁ => ∃ c0 c1 u0 u1 e0 e1, n₁ = [(D, listOf #[Value.ref r0, Value.ref r1] 2), (r1, listOf (List.toArray u1) c1), (r0, listOf (List.toArray u0) c0)] ∧ Figs u0 e0 ∧ Figs u1 e1 ∧ e0.length = d0.length ∧ e1.length = d1.length ∧ Dial m0 w0 e0 k ∧ Dial m1 w1 e1 k ∧
        ∀ z, z ≠ Str.ofString "k" → z ≠ Str.ofString "lows" → z ≠ Str.ofString "side" → z ≠ Str.ofString "shown" → m₁ z = (fun z => if z = Str.ofString "rows" then some (Value.ref D) else List.lookup z [(Str.ofString "marks", Value.ref ma), (Str.ofString "drawn", Value.ref da), (Str.ofString "wishes", Value.ref wa)].reverse) z) rfl hR (by decide) (by decide) F3 N3 ⟨c0, c1, v0, v1, d0, d1, rfl, hF0, hF1, rfl, rfl, by simp [Dial, Int.emod_one], by simp [Dial, Int.emod_one], fun _ _ _ _ _ => rfl⟩ ?_ ?_
      · rintro k m₁ news₁ I it tt h tk hk ⟨c0, c1, u0, u1, e0, e1, rfl, hE0, hE1, he0, he1, hB0, hB1, hm⟩ hne hit F4 N4
        have hID : @Ne Nat D I := hne (D, listOf #[Value.ref r0, Value.ref r1] 2) (by simp)
        have hI0 : @Ne Nat r0 I := hne (r0, listOf (List.toArray u0) c0) (by simp)
        have hI1 : @Ne Nat r1 I := hne (r1, listOf (List.toArray u1) c1) (by simp)
        have e : (fun z => if z = Str.ofString "k" then some (Value.int (0 + (k : Int)) tt) else m₁ z) = fun z => if z = Str.ofString "k" then some (Value.int (k : Int) tt) else if z = Str.ofString "lows" then m₁ z else if z = Str.ofString "side" then m₁ z else if z = Str.ofString "shown" then m₁ z else if z = Str.ofString "rows" then some (Value.ref D) else List.lookup z [(Str.ofString "marks", Value.ref ma), (Str.ofString "drawn", Value.ref da), (Str.ofString "wishes", Value.ref wa)].reverse := by
          funext z
          by_cases h1 : z = Str.ofString "k"
          · rw [if_pos h1, if_pos h1, Int.zero_add]
          by_cases h2 : z = Str.ofString "lows"
          · rw [if_neg h1, if_neg h1, if_pos h2]
          by_cases h3 : z = Str.ofString "side"
          · rw [if_neg h1, if_neg h1, if_neg h2, if_pos h3]
          by_cases h4 : z = Str.ofString "shown"
          · rw [if_neg h1, if_neg h1, if_neg h2, if_neg h3, if_pos h4]
          rw [if_neg h1, if_neg h1, if_neg h2, if_neg h3, if_neg h4]
          exact hm z h1 h2 h3 h4
        rw [e] at F4
        have hzu0 := hE0.length
        have hzu1 := hE1.length
        (try k_fold)
        refine exec_cut (fun s' => ∃ lo t0 t1 c h tk, s' = { s with heap := h, toks := tk } ∧ Fr g L' h (fun z => if z = Str.ofString "lows" then some (Value.ref lo) else if z = Str.ofString "k" then some (Value.int (k : Int) tt) else if z = Str.ofString "side" then m₁ z else if z = Str.ofString "shown" then m₁ z else if z = Str.ofString "rows" then some (Value.ref D) else List.lookup z [(Str.ofString "marks", Value.ref ma), (Str.ofString "drawn", Value.ref da), (Str.ofString "wishes", Value.ref wa)].reverse) ∧ News g L' h [(lo, listOf #[Value.int ((numVal m0 e0).fmod 4294967296) t0, Value.int ((numVal m1 e1).fmod 4294967296) t1] c), (I, it), (D, listOf #[Value.ref r0, Value.ref r1] 2), (r1, listOf (List.toArray u1) c1), (r0, listOf (List.toArray u0) c0)] ∧ @Ne Nat lo I ∧ @Ne Nat lo D ∧ @Ne Nat lo r0 ∧ @Ne Nat lo r1) ?_ ?_
        · k_steps
          k_dflt (refine' (place_spec w mean mg mb ma D r0 r1 m0 m1 t0 t1 u0 u1 e0 e1 hE0 hE1 (by omega) (by omega) hM0.len hM1.len).go ?k1 ?k2 ?k3 ?k4 ?k5 ?kK ?kd ?ku ?kp ?_; walk_at "mine ask")
          case kp =>
            intro gg kk
            exact ⟨p1.at fun o q => kk _ _ (F4.keep _ _ q), (News.isList N4 (.tail _ (.head _))).at fun o q => kk _ _ q, (News.isList N4 (.tail _ (.tail _ (.tail _ (.head _))))).at fun o q => kk _ _ q, (News.isList N4 (.tail _ (.tail _ (.head _)))).at fun o q => kk _ _ q⟩
          intro gg v5 h5 tk5 kg5 kh5 F5 N5 hv5
          obtain ⟨t5, rfl⟩ := hv5
          clear F4 N4
          k_steps
          k_dflt (refine' (glc_spec w mean mg mb _ _ _ _ (numVal m0 e0) (numVal m1 e1) (place_split hM0 hM1 e0 e1) (num_text hM0 hE0.2 (by intro q; rw [q] at he0; simp at he0; omega) (by omega)) (num_text hM1 hE1.2 (by intro q; rw [q] at he1; simp at he1; omega) (by omega)) ?l0 ?l1 ?l2).go ?k1 ?k2 ?k3 ?k4 ?k5 ?kK ?kd ?ku ?kp ?_; walk_at "mine ask")
          case l0 => have := hM0.len; rw [Str.length_append, figsText_len, List.length_reverse]; omega
          case l1 => have := hM1.len; rw [Str.length_append, figsText_len, List.length_reverse]; omega
          case l2 => have q0 := hM0.len; have q1 := hM1.len; unfold placeText; simp only [Str.length_append, figsText_len, List.length_reverse, dotLen]; omega
          case kp => intro _ _; trivial
          intro g6 v6 h6 tk6 kg6 kh6 F6 N6 hv6
          obtain ⟨q6, ti, tj, rfl, hq6, ho6⟩ := hv6
          have hlt6 : @LT.lt Nat _ q6 h6.objs.size := Heap.lt_size ho6
          have hL6 : @LT.lt Nat _ L' h6.objs.size := F6.ns.lt
          have hT6 : h6.IsTuple q6 #[Value.int (numVal m0 e0) ti, Value.int (numVal m1 e1) tj] := ⟨_, ho6, rfl, _, rfl⟩
          refine wpAny_pyIter_tuple hT6 ?_
          refine ⟨fun _ => true, fun v y => ∃ n tn ty, v = Value.int n tn ∧ y = Value.int (n.fmod 4294967296) ty, h6.objs.size, [h6.objs.size, q6], [h6.objs.size], 2, _, _, _, rfl, Walks.tuple rfl h6.objs.size q6 (Nat.ne_of_lt hlt6) #[Value.int (numVal m0 e0) ti, Value.int (numVal m1 e1) tj], by decide, ⟨⟨_, Heap.get?_push_size _ rfl, rfl, rfl⟩, hT6.at fun o q => Heap.get?_push_of_some _ q⟩, ?_, ?_, (F6.push _).ns, ?_, ?_⟩
          · intro b hb
            simp only [List.mem_cons, List.not_mem_nil, or_false] at hb
            show @LT.lt Nat _ b (h6.push _).objs.size
            rw [Heap.size_push]
            have hb' : @Eq Nat b h6.objs.size ∨ @Eq Nat b q6 := hb
            omega
          · intro hm6
            have : @Eq Nat L' h6.objs.size := List.mem_singleton.mp hm6
            omega
          · refine ⟨fun C i v s₃ m₃ E' hP hns hx hk htk => wpAny_pure ⟨rfl, s₃.heap, s₃.toks, rfl, fun _ _ q => q⟩, ?_⟩
            intro C i v s₃ m₃ E' hP _ hns hx hk htk
            obtain ⟨n, tn, rfl⟩ : ∃ n tn, v = Value.int n tn := by
              rcases i with _ | _ | i
              · exact ⟨_, _, (Option.some.inj hP).symm⟩
              · exact ⟨_, _, (Option.some.inj hP).symm⟩
              · simp at hP
            clear F5 N5 F6 N6
            k_steps
            exact ⟨_, _, rfl, fun _ _ q => q⟩
          · intro D7 h7 tk7 ys vs hD7 hl7 hp7 hvs hP7 hpair hns7 hk7
            have hL7 : ∀ b o, h6.get? b = some o → b ≠ L' → h7.get? b = some o := fun b o hb hbL => hk7 b o hbL (fun q => by
              have q' : @Eq Nat b h6.objs.size := List.mem_singleton.mp q
              have : @LT.lt Nat _ b h6.objs.size := Heap.lt_size hb
              omega) (Heap.get?_push_of_some _ hb)
            have hD6 : h6.get? D7 = none := by
              cases q : h6.get? D7 with
              | none => rfl
              | some o =>
                have q2 : (h6.push { cls := Value.type "tuple_iterator", data := Data.fields #[Value.ref q6, Value.int 0 0] }).get? D7 = some o := Heap.get?_push_of_some _ q
                have q3 : (h6.push { cls := Value.type "tuple_iterator", data := Data.fields #[Value.ref q6, Value.int 0 0] }).get? D7 = none := hD7
                rw [q2] at q3; cases q3
            obtain ⟨c7, ho7⟩ := hp7
            obtain ⟨ya, yb, rfl⟩ : ∃ ta tb, ys = #[Value.int ((numVal m0 e0).fmod 4294967296) ta, Value.int ((numVal m1 e1).fmod 4294967296) tb] := by
              match vs, hvs, hP7, hpair with
              | [va, vb], _, hP, hp =>
                have ea : va = Value.int (numVal m0 e0) ti := (Option.some.inj (hP 0 va rfl)).symm
                have eb : vb = Value.int (numVal m1 e1) tj := (Option.some.inj (hP 1 vb rfl)).symm
                subst ea eb
                obtain ⟨l⟩ := ys
                simp only [List.filter_cons, List.filter_nil, if_true] at hp
                cases hp with
                | cons h1 h2 =>
                  cases h2 with
                  | cons h3 h4 =>
                    cases h4
                    obtain ⟨n, tn, ta, q1, rfl⟩ := h1
                    obtain ⟨n', tn', tb, q2, rfl⟩ := h3
                    cases q1; cases q2
                    exact ⟨ta, tb, rfl⟩
            have N7 : News g L' h7 [(I, it), (D, listOf #[Value.ref r0, Value.ref r1] 2), (r1, listOf (List.toArray u1) c1), (r0, listOf (List.toArray u0) c0)] := fun p hp => ⟨hL7 _ _ (N6 p hp).1 (N6 p hp).2.1, (N6 p hp).2⟩
            have hDL : D7 ≠ L' := fun q => by
              obtain ⟨o, _, _, hL, _⟩ := F6.ns
              rw [q, hL] at hD6; cases hD6
            have hoff7 : ∀ p ∈ [(I, it), (D, listOf #[Value.ref r0, Value.ref r1] 2), (r1, listOf (List.toArray u1) c1), (r0, listOf (List.toArray u0) c0)], D7 ≠ p.1 := fun p hp q => by
              have := (N6 p hp).1
              rw [← q, hD6] at this; cases this
            refine ⟨rfl, D7, ya, yb, c7, h7, tk7, rfl, ⟨?_, ?_, F6.above⟩, ?_, hoff7 (I, it) (by simp), hoff7 (D, listOf #[Value.ref r0, Value.ref r1] 2) (by simp), hoff7 (r0, listOf (List.toArray u0) c0) (by simp), hoff7 (r1, listOf (List.toArray u1) c1) (by simp)⟩
            · have em : (fun z => if z = Str.ofString "lows" then some (Value.ref D7) else if z = Str.ofString "k" then some (Value.int (k : Int) tt) else if z = Str.ofString "side" then m₁ z else if z = Str.ofString "shown" then m₁ z else if z = Str.ofString "rows" then some (Value.ref D) else List.lookup z [(Str.ofString "marks", Value.ref ma), (Str.ofString "drawn", Value.ref da), (Str.ofString "wishes", Value.ref wa)].reverse) = (fun z => if z = Str.ofString "lows" then some (Value.ref D7) else (fun z => if z = Str.ofString "k" then some (Value.int (k : Int) tt) else if z = Str.ofString "lows" then m₁ z else if z = Str.ofString "side" then m₁ z else if z = Str.ofString "shown" then m₁ z else if z = Str.ofString "rows" then some (Value.ref D) else List.lookup z [(Str.ofString "marks", Value.ref ma), (Str.ofString "drawn", Value.ref da), (Str.ofString "wishes", Value.ref wa)].reverse) z) := by
                funext z
                by_cases q1 : z = Str.ofString "lows"
                · rw [if_pos q1, if_pos q1]
                · simp only [if_neg q1]
              rw [em]
              exact hns7
            · exact fun b o hb => hL7 b o (F6.keep b o hb) (fun q => by
                have h1 : @LT.lt Nat _ b g.objs.size := Heap.lt_size hb
                have h2 : @LE.le Nat _ g.objs.size L' := F6.above
                have h3 : @Eq Nat b L' := q
                omega)
            · intro p hp
              rcases List.mem_cons.mp hp with rfl | hp
              · refine ⟨ho7, hDL, ?_⟩
                cases q : g.get? D7 with
                | none => rfl
                | some o => rw [F6.keep _ _ q] at hD6; cases hD6
              · exact N7 p hp
        · rintro s' ⟨lo, ta, tb, cl7, h7, tk7, rfl, F7, N7, hlI, hlD, hl0', hl1'⟩
          (try k_fold)
          refine exec_cut (fun s' => ∃ c0' c1' u0' u1' e0' e1' m', Figs u0' e0' ∧ Figs u1' e1' ∧ e0'.length = d0.length ∧ e1'.length = d1.length ∧ Dial m0 w0 e0' (k + 1) ∧ Dial m1 w1 e1' (k + 1) ∧ (∀ z, z ≠ Str.ofString "side" → z ≠ Str.ofString "shown" → m' z = (fun z => if z = Str.ofString "lows" then some (Value.ref lo) else if z = Str.ofString "k" then some (Value.int (k : Int) tt) else if z = Str.ofString "rows" then some (Value.ref D) else List.lookup z [(Str.ofString "marks", Value.ref ma), (Str.ofString "drawn", Value.ref da), (Str.ofString "wishes", Value.ref wa)].reverse) z) ∧ At s g L' m' [(lo, listOf #[Value.int ((numVal m0 e0).fmod 4294967296) ta, Value.int ((numVal m1 e1).fmod 4294967296) tb] cl7), (I, it), (D, listOf #[Value.ref r0, Value.ref r1] 2), (r1, listOf (List.toArray u1') c1'), (r0, listOf (List.toArray u0') c0')] s') ?_ ?_
          · refine For_invVF F7 rfl rfl (val_cut (RangeAt s g L' (fun z => if z = Str.ofString "lows" then some (Value.ref lo) else if z = Str.ofString "k" then some (Value.int (k : Int) tt) else if z = Str.ofString "side" then m₁ z else if z = Str.ofString "shown" then m₁ z else if z = Str.ofString "rows" then some (Value.ref D) else List.lookup z [(Str.ofString "marks", Value.ref ma), (Str.ofString "drawn", Value.ref da), (Str.ofString "wishes", Value.ref wa)].reverse) [(lo, listOf #[Value.int ((numVal m0 e0).fmod 4294967296) ta, Value.int ((numVal m1 e1).fmod 4294967296) tb] cl7), (I, it), (D, listOf #[Value.ref r0, Value.ref r1] 2), (r1, listOf (List.toArray u1) c1), (r0, listOf (List.toArray u0) c0)] 0 2) ?_ ?_)
            · k_steps
              exact ⟨_, _, _, _, _, _, rfl, rfl, by assumption, by assumption, by assumption⟩
            · rintro v s' ⟨rr, t8, u8, w8, h8, tk8, rfl, rfl, hR8, F8, N8⟩
              refine iter_rangeJ (n := 2) (fun j m' n' => ∃ c0' c1' u0' u1' e0' e1', n' = [(lo, listOf #[Value.int ((numVal m0 e0).fmod 4294967296) ta, Value.int ((numVal m1 e1).fmod 4294967296) tb] cl7), (I, it), (D, listOf #[Value.ref r0, Value.ref r1] 2), (r1, listOf (List.toArray u1') c1'), (r0, listOf (List.toArray u0') c0')] ∧ Figs u0' e0' ∧ Figs u1' e1' ∧ e0'.length = d0.length ∧ e1'.length = d1.length ∧ (if j = 0 then e0' = e0 else Dial m0 w0 e0' (k + 1)) ∧ (if j = 2 then Dial m1 w1 e1' (k + 1) else e1' = e1) ∧
                (∀ z, z ≠ Str.ofString "side" → z ≠ Str.ofString "shown" → m' z = (fun z => if z = Str.ofString "lows" then some (Value.ref lo) else if z = Str.ofString "k" then some (Value.int (k : Int) tt) else if z = Str.ofString "rows" then some (Value.ref D) else List.lookup z [(Str.ofString "marks", Value.ref ma), (Str.ofString "drawn", Value.ref da), (Str.ofString "wishes", Value.ref wa)].reverse) z)) rfl hR8 (by decide) (by decide) F8 N8 ⟨c0, c1, u0, u1, e0, e1, rfl, hE0, hE1, he0, he1, rfl, rfl, ?_⟩ ?_ ?_
              · intro z z1 z2
                simp only [z1, z2, if_false]
              · rintro j m' news' I2 it2 t9 h9 tk9 hj ⟨c0', c1', u0', u1', e0', e1', rfl, hE0', hE1', he0', he1', hj0, hj1, hm'⟩ hne2 hit2 F9 N9
                have hI20 : @Ne Nat r0 I2 := hne2 (r0, listOf (List.toArray u0') c0') (by simp)
                have hI21 : @Ne Nat r1 I2 := hne2 (r1, listOf (List.toArray u1') c1') (by simp)
                have hI2D : @Ne Nat D I2 := hne2 (D, listOf #[Value.ref r0, Value.ref r1] 2) (by simp)
                have hI2I : @Ne Nat I I2 := hne2 (I, it) (by simp)
                have hI2l : @Ne Nat lo I2 := hne2 (lo, listOf #[Value.int ((numVal m0 e0).fmod 4294967296) ta, Value.int ((numVal m1 e1).fmod 4294967296) tb] cl7) (by simp)
                have e9 : (fun z => if z = Str.ofString "side" then some (Value.int (0 + (j : Int)) t9) else m' z) = fun z => if z = Str.ofString "side" then some (Value.int (0 + (j : Int)) t9) else if z = Str.ofString "shown" then m' z else if z = Str.ofString "lows" then some (Value.ref lo) else if z = Str.ofString "k" then some (Value.int (k : Int) tt) else if z = Str.ofString "rows" then some (Value.ref D) else List.lookup z [(Str.ofString "marks", Value.ref ma), (Str.ofString "drawn", Value.ref da), (Str.ofString "wishes", Value.ref wa)].reverse := by
                  funext z
                  by_cases h1 : z = Str.ofString "side"
                  · rw [if_pos h1, if_pos h1]
                  by_cases h2 : z = Str.ofString "shown"
                  · rw [if_neg h1, if_neg h1, if_pos h2]
                  rw [if_neg h1, if_neg h1, if_neg h2]
                  exact hm' z h1 h2
                rw [e9] at F9
                have hz0' := hE0'.length
                have hz1' := hE1'.length
                rcases j with _ | _ | j
                · have q0 : e0' = e0 := by simpa using hj0
                  have q1 : e1' = e1 := by simpa using hj1
                  (try k_fold)
                  k_steps
                  · rename_i hb _ _ d' td' hd' hdl' tkv h10 F10 N10
                    subst q0
                    refine TEnd.next [(lo, listOf #[Value.int ((numVal m0 e0').fmod 4294967296) ta, Value.int ((numVal m1 e1).fmod 4294967296) tb] cl7), (I, it), (D, listOf #[Value.ref r0, Value.ref r1] 2), (r1, listOf (List.toArray u1') c1'), (r0, listOf (List.toArray (u0'.set (k : Int).toNat (Value.str (fig (swp d')) _))) c0')] F10 N10 (by intro r hr; simp only [List.mem_cons, List.not_mem_nil, or_false] at hr; rcases hr with rfl | rfl | rfl | rfl | rfl <;> assumption) ⟨c0', c1', _, u1', e0'.set k (swp d'), e1', rfl, hE0'.set _ (swp_lt hdl') _, hE1', by rw [List.length_set]; exact he0', he1', ?_, ?_, (by intro z z1 z2; simp only [z1, z2, if_false])⟩
                    · rw [if_neg (by decide)]; exact Dial.turn hk hB0 hb hd'
                    · rw [if_neg (by decide)]; exact q1
                  · rename_i hb
                    rename Fr _ _ _ _ => F10
                    rename News _ _ _ _ => N10
                    subst q0
                    refine TEnd.next [(lo, listOf #[Value.int ((numVal m0 e0').fmod 4294967296) ta, Value.int ((numVal m1 e1).fmod 4294967296) tb] cl7), (I, it), (D, listOf #[Value.ref r0, Value.ref r1] 2), (r1, listOf (List.toArray u1') c1'), (r0, listOf (List.toArray u0') c0')] F10 N10 (by intro r hr; simp only [List.mem_cons, List.not_mem_nil, or_false] at hr; rcases hr with rfl | rfl | rfl | rfl | rfl <;> assumption) ⟨c0', c1', u0', u1', e0', e1', rfl, hE0', hE1', he0', he1', ?_, ?_, (by intro z z1 z2; simp only [z1, z2, if_false])⟩
                    · rw [if_neg (by decide)]; exact Dial.keep hk hB0 hb
                    · rw [if_neg (by decide)]; exact q1
                · have q0 : Dial m0 w0 e0' (k + 1) := by simpa using hj0
                  have q1 : e1' = e1 := by simpa using hj1
                  (try k_fold)
                  k_steps
                  · rename_i hb _ _ d' td' hd' hdl' tkv h10 F10 N10
                    subst q1
                    refine TEnd.next [(lo, listOf #[Value.int ((numVal m0 e0).fmod 4294967296) ta, Value.int ((numVal m1 e1').fmod 4294967296) tb] cl7), (I, it), (D, listOf #[Value.ref r0, Value.ref r1] 2), (r1, listOf (List.toArray (u1'.set (k : Int).toNat (Value.str (fig (swp d')) _))) c1'), (r0, listOf (List.toArray u0') c0')] F10 N10 (by intro r hr; simp only [List.mem_cons, List.not_mem_nil, or_false] at hr; rcases hr with rfl | rfl | rfl | rfl | rfl <;> assumption) ⟨c0', c1', u0', _, e0', e1'.set k (swp d'), rfl, hE0', hE1'.set _ (swp_lt hdl') _, he0', by rw [List.length_set]; exact he1', ?_, ?_, (by intro z z1 z2; simp only [z1, z2, if_false])⟩
                    · rw [if_neg (by decide)]; exact q0
                    · rw [if_pos (by decide)]; exact Dial.turn hk hB1 hb hd'
                  · rename_i hb
                    rename Fr _ _ _ _ => F10
                    rename News _ _ _ _ => N10
                    subst q1
                    refine TEnd.next [(lo, listOf #[Value.int ((numVal m0 e0).fmod 4294967296) ta, Value.int ((numVal m1 e1').fmod 4294967296) tb] cl7), (I, it), (D, listOf #[Value.ref r0, Value.ref r1] 2), (r1, listOf (List.toArray u1') c1'), (r0, listOf (List.toArray u0') c0')] F10 N10 (by intro r hr; simp only [List.mem_cons, List.not_mem_nil, or_false] at hr; rcases hr with rfl | rfl | rfl | rfl | rfl <;> assumption) ⟨c0', c1', u0', u1', e0', e1', rfl, hE0', hE1', he0', he1', ?_, ?_, (by intro z z1 z2; simp only [z1, z2, if_false])⟩
                    · rw [if_neg (by decide)]; exact q0
                    · rw [if_pos (by decide)]; exact Dial.keep hk hB1 hb
                · omega
              · rintro m' news' h9 tk9 ⟨c0', c1', u0', u1', e0', e1', rfl, hE0', hE1', he0', he1', hj0, hj1, hm'⟩ F9 N9
                exact ⟨rfl, c0', c1', u0', u1', e0', e1', m', hE0', hE1', he0', he1', by simpa using hj0, by simpa using hj1, hm', At.intro F9 N9⟩
          · rintro s' ⟨c0', c1', u0', u1', e0', e1', m', hE0', hE1', he0', he1', hB0', hB1', hm', h10, tk10, rfl, F10, N10⟩
            refine wpAny_execs_nil ?_
            refine TEnd.next [(D, listOf #[Value.ref r0, Value.ref r1] 2), (r1, listOf (List.toArray u1') c1'), (r0, listOf (List.toArray u0') c0')] F10 (fun p hp => N10 p (.tail _ hp)) (by intro r hr; simp only [List.mem_cons, List.not_mem_nil, or_false] at hr; rcases hr with rfl | rfl | rfl <;> assumption) ⟨c0', c1', u0', u1', e0', e1', rfl, hE0', hE1', he0', he1', hB0', hB1', ?_⟩
            intro z z1 z2 z3 z4
            rw [hm' z z3 z4]
            simp only [z1, z2, if_false]
      · rintro m' news' h9 tk9 ⟨c0', c1', u0', u1', e0', e1', rfl, hE0', hE1', he0', he1', hB0', hB1', hm'⟩ F9 N9
        refine ⟨rfl, c0', c1', u0', u1', e0', e1', m', hE0', hE1', he0', he1', hB0', hB1', ?_, At.intro F9 N9⟩
        rw [hm' _ (by decide) (by decide) (by decide) (by decide)]
        exact if_pos rfl
  · rintro s' ⟨c0', c1', u0', u1', e0', e1', m', hE0', hE1', he0', he1', hB0', hB1', hm', h9, tk9, rfl, F9, N9⟩
    have e9 : m' = fun z => if z = Str.ofString "rows" then some (Value.ref D) else m' z := by
      funext z
      by_cases q : z = Str.ofString "rows"
      · rw [if_pos q, q, hm']
      · rw [if_neg q]
    rw [e9] at F9
    (try k_fold)
    k_steps
    exact Back.intro (by assumption) ⟨D, r0, r1, c0', c1', u0', u1', e0', e1', rfl, hE0', hE1', he0', he1', hB0', hB1', hD0, hD1, hr01, fun p hp => ⟨(N9 p hp).1, (N9 p hp).2.2⟩⟩

end

/-! T4 -/
section
open PySem PySem.W PySem.Spec PySem.Calls PySem.NumText PyProof.Rows
set_option maxRecDepth 100000
set_option maxHeartbeats 4000000
/-- the words of this part; the walk is laid as in a fresh process -/
theorem calmT4 : True := by
  w_top off
  k_with_none
  k_with "m:subscriptTail Name BinOp str int" => (k_here; (with_reducible show wpAny _ _ (subscriptTail _ _ (Value.str (List.getD _ _ _) _) (Value.int _ _)) _ _ _); (refine' item_pick ?h0 ?h1 ?hz ?_ ?hs; (case h0 => l_idx); (case h1 => (rw [last_len (by assumption)]; l_idx)); (case hz => (rw [last_len (by assumption)]; decide)); (case hs => with_unfolding_all rfl); k_whole))
  k_with "m:binaryOp FloorDiv int int" => (k_here; (with_reducible show wpAny _ _ (binaryOp Operator.FloorDiv (Value.int _ _) (Value.int (8 ^ _) _)) _ _ _); refine fdiv_pow 8 rfl (by decide) (by decide) (by omega) ?_)
  k_with "m:binaryOp FloorDiv int int" => (k_here; (with_reducible show wpAny _ _ (binaryOp Operator.FloorDiv (Value.int _ _) (Value.int (2 ^ _) _)) _ _ _); refine fdiv_pow 2 rfl (by decide) (by decide) (by omega) ?_)
  k_with "m:binaryOp Add str str" => (k_here; (with_reducible show wpAny _ _ (binaryOp Operator.Add (Value.str _ _) (Value.str _ _)) _ _ _); (refine' PyProof.Rows.add_str ?_ ?z; (case z => (simp only [Str.length_append, item_len1, pick_len, PySem.sizeLine_eq]; omega)); intro _ _))
  k_with "mine enter" => (
    (case k1 => k_is)
    (case k2 => k_is)
    (case k3 => intro s; exact BindsTo.of_eq rfl)
    (case k4 => exact locs rfl)
    (case k5 => exact rfl)
    (case k6 => exact rfl)
    (case k7 => exact rfl)
    (case k8 => decide))
  trivial
theorem fill3 : Challenge.rw_mr0156_01 = Challenge.rw_mr0156_01 ∧ ∀ P, hd.heap_39 P = hd.heap_39 P := by k_fill; exact ⟨rfl, fun _ => rfl⟩
theorem last_len : ∀ {i : Nat}, i < 1 + 1 + 1 + 1 → ([Str.ofString "-x", Str.ofString "Ss", Str.ofString "-x", Str.ofString "Tt"].getD i Str.empty).length = 2
  | 0, _ => by decide
  | 1, _ => by decide
  | 2, _ => by decide
  | 3, _ => by decide
  | n + 4, h => absurd h (by omega)
noncomputable def signsStep (x : Str) (n k : Int) : Str := x ++ Txt.item (Str.ofString "-r") (((n.fdiv (8 ^ (2 - k).toNat)).fmod 8).fdiv 4) ++ Txt.item (Str.ofString "-w") ((((n.fdiv (8 ^ (2 - k).toNat)).fmod 8).fdiv 2).fmod 2) ++
  pick ([Str.ofString "-x", Str.ofString "Ss", Str.ofString "-x", Str.ofString "Tt"].getD (k.fdiv 2 * 2 + (n.fdiv (2 ^ (11 - k).toNat)).fmod 2).toNat Str.empty) (((n.fdiv (8 ^ (2 - k).toNat)).fmod 8).fmod 2)
noncomputable def signsText (n : Int) : Str := signsStep (signsStep (signsStep (Txt.item (Str.ofString "?pc?d?b?-?l?s???") (n.fdiv 4096)) n 0) n 1) n 2
theorem item_len1 (x : Str) (k : Int) : (Txt.item x k).length = 1 := rfl
theorem pow_small {b e : Nat} (hb : 0 < b) (h8 : b ≤ 8) (he : e ≤ 11) : ((b : Int) ^ e).natAbs.log2 < 9000 := by
  rw [Int.natAbs_pow, Int.natAbs_natCast]
  have h1 : b ^ e ≤ 8 ^ 11 := Nat.le_trans (Nat.pow_le_pow_left h8 e) (Nat.pow_le_pow_right (by decide) he)
  exact Nat.lt_trans ((Nat.log2_lt (Nat.ne_of_gt (Nat.pow_pos hb))).mpr (Nat.lt_of_le_of_lt h1 (by decide : 8 ^ 11 < 2 ^ 34))) (by decide)
theorem fdiv_pow {prog : Program} {w : World} {A : Around} {E : Value → Shared → Prop} {s : Shared} {Q : Value → Shared → Prop} {n b : Int} {t u : Tok} (c : Nat) {e : Nat} (hc : b = (c : Int)) (hb : 0 < c) (h8 : c ≤ 8) (he : e ≤ 11)
    (h : Q (.int (n.fdiv (b ^ e)) s.toks) { s with toks := s.toks + 1 }) : wpAny (model prog w) A (binaryOp .FloorDiv (.int n t) (.int (b ^ e) u)) Q E s :=
  floordiv_int (Int.ne_of_gt (Int.pow_pos (by omega))) h (Or.inl (PyProof.noPylong_of_log2 (hc ▸ pow_small hb h8 he)))
noncomputable def signsAt (n : Int) : Nat → Str
  | 0 => Txt.item (Str.ofString "?pc?d?b?-?l?s???") (n.fdiv 4096)
  | k + 1 => signsStep (signsAt n k) n (k : Int)
theorem signsAt_succ (n : Int) (k : Nat) : signsAt n (k + 1) = signsStep (signsAt n k) n (k : Int) := rfl
theorem signsAt_3 (n : Int) : signsAt n 3 = signsText n := rfl
theorem signs_spec (w : World) (mean : ExcName → Option Value) (mg mb : Str → Option Value) (n : Int) (t : Tok) (h0 : 0 ≤ n) (h1 : n < 65536) :
    Spec w mean mg mb 131 3 [.int n t] (fun _ => True) (fun _ v _ => ∃ t, v = .str (signsText n) t) := by
  k_with "table" => skip
  refine' Spec.enter (binds := [(Str.ofString "mode", .int n t)]) ?k1 ?k2 ?k3 ?k4 ?k5 ?k6 ?k7 ?k8 ?_
  walk_at "mine enter"
  intro dp un gd cn cs L a ccd cl outer base g L' h₁ s tk R F N B X T hcs hd hu hpre
  (try k_lift B)
  (try k_fold)
  refine exec_cut (fun s' => ∃ tx, At s g L' (fun z => if z = Str.ofString "signs" then some (Value.str (Txt.item (Str.ofString "?pc?d?b?-?l?s???") (n.fdiv 4096)) tx) else List.lookup z [(Str.ofString "mode", Value.int n t)].reverse) [] s') ?_ ?_
  · k_steps
    exact ⟨rfl, _, At.intro (by assumption) (by assumption)⟩
  rintro s' ⟨tx, h2, tk2, rfl, F2, N2⟩
  clear F N
  (try k_fold)
  refine exec_cut (fun s' => ∃ tx m', m' (Str.ofString "signs") = some (Value.str (signsText n) tx) ∧ At s g L' m' [] s') ?_ ?_
  · refine For_invVF F2 rfl rfl (val_cut (RangeAt s g L' (fun z => if z = Str.ofString "signs" then some (Value.str (Txt.item (Str.ofString "?pc?d?b?-?l?s???") (n.fdiv 4096)) tx) else List.lookup z [(Str.ofString "mode", Value.int n t)].reverse) [] 0 3) ?_ ?_)
    · k_steps
      exact ⟨_, _, _, _, _, _, rfl, rfl, by assumption, by assumption, by assumption⟩
    · rintro v s' ⟨r, tr, u, w', h3, tk3, rfl, rfl, hR, F3, N3⟩
      refine iter_rangeJ (n := 3) (fun k m₁ n₁ => n₁ = [] ∧ (∃ x tx, m₁ (Str.ofString "signs") = some (Value.str x tx) ∧ x = signsAt n k ∧ x.length = 1 + 3 * k) ∧ ∀ z, z ≠ Str.ofString "k" → z ≠ Str.ofString "right" → z ≠ Str.ofString "above" → z ≠ Str.ofString "last" → z ≠ Str.ofString "signs" → m₁ z = List.lookup z [(Str.ofString "mode", Value.int n t)].reverse) rfl hR (by decide) (by decide) F3 N3 ⟨rfl, ⟨_, _, rfl, rfl, item_len1 _ _⟩, fun z _ _ _ _ h5 => if_neg h5⟩ ?_ ?_
      · rintro k m₁ news₁ I it tt h tk hk ⟨rfl, ⟨x, tx, hmx, rfl, hlx⟩, hm⟩ hne hit F4 N4
        have e : (fun z => if z = Str.ofString "k" then some (Value.int (0 + (k : Int)) tt) else m₁ z) = fun z => if z = Str.ofString "k" then some (Value.int (k : Int) tt) else if z = Str.ofString "right" then m₁ z else if z = Str.ofString "above" then m₁ z else if z = Str.ofString "last" then m₁ z else if z = Str.ofString "signs" then some (Value.str (signsAt n k) tx) else List.lookup z [(Str.ofString "mode", Value.int n t)].reverse := by
          funext z
          by_cases h1 : z = Str.ofString "k"
          · rw [if_pos h1, if_pos h1, Int.zero_add]
          by_cases h2 : z = Str.ofString "right"
          · rw [if_neg h1, if_neg h1, if_pos h2]
          by_cases h3 : z = Str.ofString "above"
          · rw [if_neg h1, if_neg h1, if_neg h2, if_pos h3]
          by_cases h4 : z = Str.ofString "last"
          · rw [if_neg h1, if_neg h1, if_neg h2, if_neg h3, if_pos h4]
          rw [if_neg h1, if_neg h1, if_neg h2, if_neg h3, if_neg h4]
          by_cases h5 : z = Str.ofString "signs"
          · rw [if_pos h5, h5, hmx]
          rw [if_neg h5]
          exact hm z h1 h2 h3 h4 h5
        rw [e] at F4
        clear F2 F3 N2 N3
        generalize hX : signsAt n k = X at *
        (try k_fold)
        k_steps
        rename_i F' N'
        refine TEnd.next [] F' (fun p hp => N' p (.tail _ hp)) (fun r hr => absurd hr List.not_mem_nil) ⟨rfl, ⟨_, _, if_pos rfl, ?_, ?_⟩, ?_⟩
        · rw [signsAt_succ, hX, signsStep]
        · simp only [Str.length_append, item_len1, pick_len]; omega
        · intro z z1 z2 z3 z4 z5
          exact (if_neg z5).trans ((if_neg z4).trans ((if_neg z3).trans ((if_neg z2).trans ((if_neg z1).trans ((if_neg z2).trans ((if_neg z3).trans ((if_neg z4).trans (if_neg z5))))))))
      · rintro m₁ news₁ h tk ⟨rfl, ⟨x, tx, hmx, rfl, _⟩, _⟩ F4 N4
        exact ⟨rfl, tx, m₁, hmx, At.intro F4 N4⟩
  rintro s' ⟨tx, m', hm', h3, tk3, rfl, F3, N3⟩
  clear F2 N2
  have e : m' = fun z => if z = Str.ofString "signs" then some (Value.str (signsText n) tx) else m' z := by
    funext z
    by_cases h : z = Str.ofString "signs"
    · rw [if_pos h, h, hm']
    · rw [if_neg h]
  rw [e] at F3
  (try k_fold)
  k_steps
  exact Back.intro (by assumption) ⟨_, rfl⟩

end

/-! Signs -/
section
open PySem PySem.W PySem.Spec PySem.Calls PySem.NumText PyProof.Rows
set_option maxRecDepth 100000
set_option maxHeartbeats 4000000
theorem join_one (x : Str) (r : List Str) : Txt.join (Str.ofString "") (x :: r) = x ++ Txt.join (Str.ofString "") r := by
  show Builtin.Str.glued _ _ = _ ++ Builtin.Str.glued _ _
  rw [StrLaws.glued_eq_join, StrLaws.glued_eq_join]
  exact PyProof.Rows.join_nil_cons x r
theorem add_empty (x : Str) : x ++ Txt.join (Str.ofString "") [] = x := by
  show x ++ Builtin.Str.glued _ _ = _
  rw [StrLaws.glued_eq_join]
  exact Str.append_empty x
/-- a bit of a number -/
noncomputable def bt (n : Nat) (k : Nat) : Nat := n / 2 ^ k % 2
theorem bt_lt (n k : Nat) : bt n k < 2 := Nat.mod_lt _ (by decide)
theorem and_bit (n k : Nat) : n &&& 2 ^ k = bt n k * 2 ^ k := by
  apply Nat.eq_of_testBit_eq
  intro i
  show (n &&& 2 ^ k).testBit i = (n / 2 ^ k % 2 ^ 1 * 2 ^ k).testBit i
  simp only [Nat.testBit_and, Nat.testBit_two_pow, Nat.testBit_mul_two_pow, Nat.testBit_mod_two_pow, Nat.testBit_div_two_pow]
  by_cases h : k = i
  · subst h; simp
  · by_cases h2 : k ≤ i
    · have : ¬ i - k < 1 := by omega
      simp [h, this]
    · simp [h, h2]
theorem hit_bit (n k i : Nat) (hi : i ≠ 0) (b : Int) (hb : b = ((2 ^ k : Nat) : Int)) : hit i (n : Int) b ↔ bt n k = 1 := by
  unfold hit
  rw [if_neg hi, hb, bitAnd_nat, and_bit, Int.ofNat_inj]
  have := bt_lt n k
  have hp : 0 < 2 ^ k := Nat.pow_pos (by decide)
  constructor
  · intro h
    rcases (by omega : bt n k = 0 ∨ bt n k = 1) with q | q
    · rw [q, Nat.zero_mul] at h; omega
    · exact q
  · intro h; rw [h, Nat.one_mul]
theorem hit_two (n j k i : Nat) (hi : i ≠ 0) (b : Int) (hb : b = ((2 ^ j ||| 2 ^ k : Nat) : Int)) (hjk : ∀ x, x < 2 → ∀ y, y < 2 → (x * 2 ^ j ||| y * 2 ^ k = 2 ^ j ||| 2 ^ k ↔ x = 1 ∧ y = 1)) : hit i (n : Int) b ↔ bt n j = 1 ∧ bt n k = 1 := by
  unfold hit
  rw [if_neg hi, hb, bitAnd_nat, Nat.and_or_distrib_left, and_bit, and_bit, Int.ofNat_inj]
  exact hjk _ (bt_lt n j) _ (bt_lt n k)
theorem one_row (n k i : Nat) (hi : i ≠ 0) (p : Addr) (b : Int) (tb : Tok) (ch : Str) (tc : Tok) (hb : b = ((2 ^ k : Nat) : Int)) : chrAt (n : Int) i [⟨p, b, tb, ch, tc⟩] = if bt n k = 1 then ch else Str.ofString "-" := by
  unfold chrAt chrAt
  by_cases h : bt n k = 1
  · rw [if_pos h, if_pos ((hit_bit n k i hi b hb).mpr h)]
  · rw [if_neg h, if_neg fun q => h ((hit_bit n k i hi b hb).mp q), if_neg hi]
theorem three_rows (n j k i : Nat) (hi : i ≠ 0) (p q r : Addr) (b1 b2 b3 : Int) (a1 a2 a3 c1 c2 c3 : Tok) (x y z : Str) (h1 : b1 = ((2 ^ j ||| 2 ^ k : Nat) : Int)) (hjk : ∀ x, x < 2 → ∀ y, y < 2 → (x * 2 ^ j ||| y * 2 ^ k = 2 ^ j ||| 2 ^ k ↔ x = 1 ∧ y = 1)) (h2 : b2 = ((2 ^ j : Nat) : Int)) (h3 : b3 = ((2 ^ k : Nat) : Int)) :
    chrAt (n : Int) i [⟨p, b1, a1, x, c1⟩, ⟨q, b2, a2, y, c2⟩, ⟨r, b3, a3, z, c3⟩] = if bt n j = 1 ∧ bt n k = 1 then x else if bt n j = 1 then y else if bt n k = 1 then z else Str.ofString "-" := by
  unfold chrAt
  rw [show chrAt (n : Int) i [⟨q, b2, a2, y, c2⟩, ⟨r, b3, a3, z, c3⟩] = if hit i (n : Int) b2 then y else chrAt (n : Int) i [⟨r, b3, a3, z, c3⟩] from rfl, one_row n k i hi r b3 a3 z c3 h3]
  simp only [hit_two n j k i hi b1 h1 hjk, hit_bit n j i hi b2 h2]
theorem kind_row (q : Nat) (h : q < 16) : (if ((q * 4096 : Nat) : Int) = 40960 then Str.ofString "l" else if ((q * 4096 : Nat) : Int) = 49152 then Str.ofString "s" else if ((q * 4096 : Nat) : Int) = 32768 then Str.ofString "-" else if ((q * 4096 : Nat) : Int) = 24576 then Str.ofString "b" else if ((q * 4096 : Nat) : Int) = 16384 then Str.ofString "d" else if ((q * 4096 : Nat) : Int) = 8192 then Str.ofString "c" else if ((q * 4096 : Nat) : Int) = 4096 then Str.ofString "p" else Str.ofString "?") = Txt.item (Str.ofString "?pc?d?b?-?l?s???") (q : Int) := by
  revert q; decide
theorem fdiv_nat (a b : Nat) : ((a : Nat) : Int).fdiv (b : Int) = ((a / b : Nat) : Int) := by rw [Int.fdiv_eq_ediv_of_nonneg _ (by omega)]; rfl
theorem fmod_nat (a b : Nat) : ((a : Nat) : Int).fmod (b : Int) = ((a % b : Nat) : Int) := by rw [Int.fmod_eq_emod_of_nonneg _ (by omega)]; rfl
theorem item_r : ∀ b : Nat, b < 2 → Txt.item (Str.ofString "-r") (b : Int) = if b = 1 then Str.ofString "r" else Str.ofString "-" := by decide
theorem item_w : ∀ b : Nat, b < 2 → Txt.item (Str.ofString "-w") (b : Int) = if b = 1 then Str.ofString "w" else Str.ofString "-" := by decide
theorem pick_s : ∀ a : Nat, a < 2 → ∀ b : Nat, b < 2 → pick ([Str.ofString "-x", Str.ofString "Ss", Str.ofString "-x", Str.ofString "Tt"].getD a Str.empty) (b : Int) = if a = 1 ∧ b = 1 then Str.ofString "s" else if a = 1 then Str.ofString "S" else if b = 1 then Str.ofString "x" else Str.ofString "-" := by decide
theorem pick_t : ∀ a : Nat, a < 2 → ∀ b : Nat, b < 2 → pick ([Str.ofString "-x", Str.ofString "Ss", Str.ofString "-x", Str.ofString "Tt"].getD (2 + a) Str.empty) (b : Int) = if a = 1 ∧ b = 1 then Str.ofString "t" else if a = 1 then Str.ofString "T" else if b = 1 then Str.ofString "x" else Str.ofString "-" := by decide
/-- one third of the signs, by bits -/
theorem step_bits (x : Str) (W : Nat) (k : Int) (e f r : Nat) (he : (8 : Int) ^ (2 - k).toNat = (e : Int)) (hf : (2 : Int) ^ (11 - k).toNat = (f : Int)) (hr : k.fdiv 2 * 2 = (r : Int)) : signsStep x (W : Int) k =
    x ++ Txt.item (Str.ofString "-r") ((W / e % 8 / 4 : Nat) : Int) ++ Txt.item (Str.ofString "-w") ((W / e % 8 / 2 % 2 : Nat) : Int) ++ pick ([Str.ofString "-x", Str.ofString "Ss", Str.ofString "-x", Str.ofString "Tt"].getD (r + W / f % 2) Str.empty) ((W / e % 8 % 2 : Nat) : Int) := by
  unfold signsStep
  rw [he, hf, hr]
  have q : ∀ a b : Nat, ((a : Nat) : Int).fdiv (b : Int) = ((a / b : Nat) : Int) := fdiv_nat
  have q' : ∀ a b : Nat, ((a : Nat) : Int).fmod (b : Int) = ((a % b : Nat) : Int) := fmod_nat
  have m8 : ∀ a : Nat, ((a : Nat) : Int).fmod 8 = ((a % 8 : Nat) : Int) := fun a => fmod_nat a 8
  have m2 : ∀ a : Nat, ((a : Nat) : Int).fmod 2 = ((a % 2 : Nat) : Int) := fun a => fmod_nat a 2
  have d4 : ∀ a : Nat, ((a : Nat) : Int).fdiv 4 = ((a / 4 : Nat) : Int) := fun a => fdiv_nat a 4
  have d2 : ∀ a : Nat, ((a : Nat) : Int).fdiv 2 = ((a / 2 : Nat) : Int) := fun a => fdiv_nat a 2
  rw [q, q, m8, d4, d2, m2, m2, m2]
  rw [show (((r : Nat) : Int) + ((W / f % 2 : Nat) : Int)).toNat = r + W / f % 2 by omega]
theorem oct (N q m : Nat) (h : 65536 = q * (8 * m)) : N % 65536 / q % 8 = N / q % 8 := by rw [h, Nat.mod_mul_right_div_self, Nat.mod_mul_right_mod]
theorem oct4 (N q m k : Nat) (h : 65536 = q * (8 * m)) (hk : 2 ^ k = q * 4) : N % 65536 / q % 8 / 4 = bt N k := by
  rw [oct N q m h, show N / q % 8 = N / q % (4 * 2) from rfl, Nat.mod_mul_right_div_self, Nat.div_div_eq_div_mul, ← hk]; rfl
theorem oct2 (N q m k : Nat) (h : 65536 = q * (8 * m)) (hk : 2 ^ k = q * 2) : N % 65536 / q % 8 / 2 % 2 = bt N k := by
  rw [oct N q m h, show N / q % 8 = N / q % (2 * (2 * 2)) from rfl, Nat.mod_mul_right_div_self, Nat.mod_mul_right_mod, Nat.div_div_eq_div_mul, ← hk]; rfl
theorem oct1 (N q m k : Nat) (h : 65536 = q * (8 * m)) (hk : 2 ^ k = q) : N % 65536 / q % 8 % 2 = bt N k := by
  rw [oct N q m h, show N / q % 8 = N / q % (2 * 4) from rfl, Nat.mod_mul_right_mod, ← hk]; rfl
theorem above (N q m k : Nat) (h : 65536 = q * (2 * m)) (hk : 2 ^ k = q) : N % 65536 / q % 2 = bt N k := by
  rw [h, Nat.mod_mul_right_div_self, Nat.mod_mul_right_mod, ← hk]; rfl
theorem signs_eq (N : Nat) : modeText (N : Int) = signsText ((N % 65536 : Nat) : Int) := by
  have w1 : N % 65536 / 64 % 8 / 4 = bt N 8 := oct4 N 64 128 8 (by decide) (by decide)
  have w2 : N % 65536 / 64 % 8 / 2 % 2 = bt N 7 := oct2 N 64 128 7 (by decide) (by decide)
  have w3 : N % 65536 / 64 % 8 % 2 = bt N 6 := oct1 N 64 128 6 (by decide) (by decide)
  have w4 : N % 65536 / 8 % 8 / 4 = bt N 5 := oct4 N 8 1024 5 (by decide) (by decide)
  have w5 : N % 65536 / 8 % 8 / 2 % 2 = bt N 4 := oct2 N 8 1024 4 (by decide) (by decide)
  have w6 : N % 65536 / 8 % 8 % 2 = bt N 3 := oct1 N 8 1024 3 (by decide) (by decide)
  have w7 : N % 65536 / 1 % 8 / 4 = bt N 2 := oct4 N 1 8192 2 (by decide) (by decide)
  have w8 : N % 65536 / 1 % 8 / 2 % 2 = bt N 1 := oct2 N 1 8192 1 (by decide) (by decide)
  have w9 : N % 65536 / 1 % 8 % 2 = bt N 0 := oct1 N 1 8192 0 (by decide) (by decide)
  have a1 : N % 65536 / 2048 % 2 = bt N 11 := above N 2048 16 11 (by decide) (by decide)
  have a2 : N % 65536 / 1024 % 2 = bt N 10 := above N 1024 32 10 (by decide) (by decide)
  have a3 : N % 65536 / 512 % 2 = bt N 9 := above N 512 64 9 (by decide) (by decide)
  have k0 : chrAt (N : Int) 0 [⟨85, 40960, 224, Str.ofString "l", 301⟩, ⟨86, 49152, 226, Str.ofString "s", 302⟩, ⟨87, 32768, 220, Str.ofString "-", 303⟩, ⟨88, 24576, 218, Str.ofString "b", 304⟩, ⟨89, 16384, 214, Str.ofString "d", 305⟩, ⟨90, 8192, 216, Str.ofString "c", 306⟩, ⟨91, 4096, 222, Str.ofString "p", 307⟩] = Txt.item (Str.ofString "?pc?d?b?-?l?s???") (((N % 65536 : Nat) : Int).fdiv 4096) := by
    have e1 : Builtin.bitAnd (N : Int) 61440 = ((N / 4096 % 16 * 4096 : Nat) : Int) := by rw [show (61440 : Int) = ((61440 : Nat) : Int) from rfl, bitAnd_nat, and_high]
    have e2 : ((N % 65536 : Nat) : Int).fdiv 4096 = ((N / 4096 % 16 : Nat) : Int) := by
      rw [show (4096 : Int) = ((4096 : Nat) : Int) from rfl, fdiv_nat]; congr 1; omega
    rw [e2, ← kind_row (N / 4096 % 16) (by omega)]
    simp only [chrAt, hit, if_true, e1]
  have s0 := fun x => step_bits x (N % 65536) 0 64 2048 0 (by decide) (by decide) (by decide)
  have s1 := fun x => step_bits x (N % 65536) 1 8 1024 0 (by decide) (by decide) (by decide)
  have s2 := fun x => step_bits x (N % 65536) 2 1 512 2 (by decide) (by decide) (by decide)
  unfold signsText
  rw [s0, s1, s2, w1, w2, w3, w4, w5, w6, w7, w8, w9, a1, a2, a3, ← k0, Nat.zero_add, Nat.zero_add]
  rw [item_r _ (bt_lt N 8), item_r _ (bt_lt N 5), item_r _ (bt_lt N 2), item_w _ (bt_lt N 7), item_w _ (bt_lt N 4), item_w _ (bt_lt N 1), pick_s _ (bt_lt N 11) _ (bt_lt N 6), pick_s _ (bt_lt N 10) _ (bt_lt N 3), pick_t _ (bt_lt N 9) _ (bt_lt N 0)]
  rw [← one_row N 8 1 (by decide) 93 256 283 (Str.ofString "r") 308 rfl, ← one_row N 7 2 (by decide) 95 128 285 (Str.ofString "w") 309 rfl, ← one_row N 5 4 (by decide) 101 32 289 (Str.ofString "r") 314 rfl, ← one_row N 4 5 (by decide) 103 16 291 (Str.ofString "w") 315 rfl, ← one_row N 2 7 (by decide) 109 4 295 (Str.ofString "r") 320 rfl, ← one_row N 1 8 (by decide) 111 2 297 (Str.ofString "w") 321 rfl]
  rw [← three_rows N 11 6 3 (by decide) 97 98 99 2112 2048 64 310 277 287 311 312 313 (Str.ofString "s") (Str.ofString "S") (Str.ofString "x") rfl (by decide) rfl rfl, ← three_rows N 10 3 6 (by decide) 105 106 107 1032 1024 8 316 279 293 317 318 319 (Str.ofString "s") (Str.ofString "S") (Str.ofString "x") rfl (by decide) rfl rfl, ← three_rows N 9 0 9 (by decide) 113 114 115 513 512 1 322 281 299 323 324 325 (Str.ofString "t") (Str.ofString "T") (Str.ofString "x") rfl (by decide) rfl rfl]
  show Txt.join (Str.ofString "") [_, _, _, _, _, _, _, _, _, _] = _
  simp only [join_one, add_empty, Str.append_assoc]

end

/-! Asks -/
section
open PySem PySem.W PySem.Spec PySem.Calls PySem.NumText PyProof.Rows
set_option maxRecDepth 100000
/-- the seven questions and the kinds that they ask for -/
noncomputable def asks : List (Addr × Int) := [(70, 1), (49, 2), (42, 4), (56, 6), (63, 8), (77, 10), (84, 12)]
theorem ask_spec (w : World) (mean : ExcName → Option Value) (mg mb : Str → Option Value) {f : Addr} {k : Int} (h : (f, k) ∈ asks) (n : Int) (t : Tok) : Spec w mean mg mb f 2 [.int n t] (fun _ => True) (fun _ v _ => ∃ _t : Tok, v = .bool (Builtin.bitAnd n 61440 == k * 4096)) := by
  simp only [asks, List.mem_cons, List.not_mem_nil, or_false, Prod.mk.injEq] at h
  rcases h with ⟨rfl, rfl⟩ | ⟨rfl, rfl⟩ | ⟨rfl, rfl⟩ | ⟨rfl, rfl⟩ | ⟨rfl, rfl⟩ | ⟨rfl, rfl⟩ | ⟨rfl, rfl⟩
  · exact isfifo_spec w mean mg mb n t
  · exact ischr_spec w mean mg mb n t
  · exact isdir_spec w mean mg mb n t
  · exact isblk_spec w mean mg mb n t
  · exact isreg_spec w mean mg mb n t
  · exact islnk_spec w mean mg mb n t
  · exact issock_spec w mean mg mb n t
theorem fill7 : Challenge.rw_mr0156_01 = Challenge.rw_mr0156_01 ∧ ∀ P, hd.heap_39 P = hd.heap_39 P := by k_fill; exact ⟨rfl, fun _ => rfl⟩
theorem ask_keep (w : World) {f : Addr} {k : Int} (h : (f, k) ∈ asks) : keepIn (hd.heap_39 w.params) (.ref f) = true := by
  simp only [asks, List.mem_cons, List.not_mem_nil, or_false, Prod.mk.injEq] at h
  rcases h with ⟨rfl, rfl⟩ | ⟨rfl, rfl⟩ | ⟨rfl, rfl⟩ | ⟨rfl, rfl⟩ | ⟨rfl, rfl⟩ | ⟨rfl, rfl⟩ | ⟨rfl, rfl⟩ <;> k_is
noncomputable def boolText (b : Bool) : Str := if b then Str.ofString "True" else Str.ofString "False"
/-- what is said of the first i kinds -/
noncomputable def said (w : Int) (i : Nat) : List Str := (asks.take i).map fun p => boolText (w.fdiv 4096 == p.2)
theorem said_next {w : Int} {i : Nat} {p : Addr × Int} (h : asks[i]? = some p) {ys : List Value} (hy : StrsAre ys (said w i)) {x : Str} {t : Tok} (hx : x = boolText (w.fdiv 4096 == p.2)) : StrsAre (ys ++ [.str x t]) (said w (i + 1)) := by
  have : said w (i + 1) = said w i ++ [boolText (w.fdiv 4096 == p.2)] := by
    unfold said
    rw [List.take_add_one, h, List.map_append]
    rfl
  rw [this, hx]
  exact hy.append' (.cons _ t .nil)
theorem low_nat (n : Int) : ∃ N : Nat, n.fmod 4294967296 = (N : Int) ∧ ((N % 65536 : Nat) : Int) = n % 65536 := by
  have h0 : 0 ≤ n.fmod 4294967296 := by rw [Int.fmod_eq_emod_of_nonneg _ (by decide)]; omega
  obtain ⟨N, hN⟩ := Int.eq_ofNat_of_zero_le h0
  refine ⟨N, hN, ?_⟩
  rw [Int.fmod_eq_emod_of_nonneg _ (by decide)] at hN
  omega
theorem low_high {n w : Int} (h : n % 65536 = w) : Builtin.bitAnd (n.fmod 4294967296) 61440 = w.fdiv 4096 * 4096 := by
  obtain ⟨N, hN, e⟩ := low_nat n
  have h1 : Builtin.bitAnd (N : Int) 61440 = ((N &&& 61440 : Nat) : Int) := bitAnd_nat N 61440
  rw [hN, h1, and_high, Int.fdiv_eq_ediv_of_nonneg _ (by decide)]
  omega
theorem low_rest {n w : Int} (h : n % 65536 = w) : Builtin.bitAnd (n.fmod 4294967296) 4095 = w.fmod 4096 := by
  obtain ⟨N, hN, e⟩ := low_nat n
  have h1 : Builtin.bitAnd (N : Int) 4095 = ((N &&& 4095 : Nat) : Int) := bitAnd_nat N 4095
  rw [hN, h1, and_low, Int.fmod_eq_emod_of_nonneg _ (by decide)]
  omega
theorem low_kind {n w : Int} (h : n % 65536 = w) (k : Int) : (Builtin.bitAnd (n.fmod 4294967296) 61440 == k * 4096) = (w.fdiv 4096 == k) := by
  rw [low_high h, Bool.eq_iff_iff, beq_iff_eq, beq_iff_eq]
  omega
theorem low_both {n w : Int} (h : n % 65536 = w) : (Builtin.bitAnd (n.fmod 4294967296) 61440 == w.fdiv 4096 * 4096 && Builtin.bitAnd (n.fmod 4294967296) 4095 == w.fmod 4096) = true := by
  rw [low_high h, low_rest h, beq_self_eq_true, beq_self_eq_true]; rfl
theorem asks_mem {i : Nat} {p : Addr × Int} (h : asks[i]? = some p) : p ∈ asks := List.mem_of_getElem? h
theorem asks_items : ∀ (i : Nat) (v : Value), #[Value.ref 70, Value.ref 49, Value.ref 42, Value.ref 56, Value.ref 63, Value.ref 77, Value.ref 84][i]? = some v → ∃ f k, asks[i]? = some (f, k) ∧ v = Value.ref f
  | 0, _, h => ⟨_, _, rfl, (Option.some.inj h).symm⟩
  | 1, _, h => ⟨_, _, rfl, (Option.some.inj h).symm⟩
  | 2, _, h => ⟨_, _, rfl, (Option.some.inj h).symm⟩
  | 3, _, h => ⟨_, _, rfl, (Option.some.inj h).symm⟩
  | 4, _, h => ⟨_, _, rfl, (Option.some.inj h).symm⟩
  | 5, _, h => ⟨_, _, rfl, (Option.some.inj h).symm⟩
  | 6, _, h => ⟨_, _, rfl, (Option.some.inj h).symm⟩
  | n + 7, _, h => by simp at h
theorem kinds_items {t1 t2 t3 t4 t5 t6 t7 : Tok} : ∀ (i : Nat) (v : Value), #[Value.int 1 t1, Value.int 2 t2, Value.int 4 t3, Value.int 6 t4, Value.int 8 t5, Value.int 10 t6, Value.int 12 t7][i]? = some v → ∃ f k t, asks[i]? = some (f, k) ∧ v = Value.int k t
  | 0, _, h => ⟨_, _, _, rfl, (Option.some.inj h).symm⟩
  | 1, _, h => ⟨_, _, _, rfl, (Option.some.inj h).symm⟩
  | 2, _, h => ⟨_, _, _, rfl, (Option.some.inj h).symm⟩
  | 3, _, h => ⟨_, _, _, rfl, (Option.some.inj h).symm⟩
  | 4, _, h => ⟨_, _, _, rfl, (Option.some.inj h).symm⟩
  | 5, _, h => ⟨_, _, _, rfl, (Option.some.inj h).symm⟩
  | 6, _, h => ⟨_, _, _, rfl, (Option.some.inj h).symm⟩
  | n + 7, _, h => by simp at h
theorem bool_ok (b : Bool) : PyData.canLay0 (.str (boolText b)) = true := by rw [PyData.canLay0]; cases b <;> decide +kernel
theorem texts_ok : ∀ bs : List Bool, PyData.canLayAll0 ((bs.map boolText).map PyData.str) = true
  | [] => rfl
  | b :: r => by simp only [List.map_cons, PyData.canLayAll0, bool_ok b, texts_ok r, Bool.and_self]
theorem texts_depth : ∀ ts : List Str, PyData.depthAll (ts.map PyData.str) = 0
  | [] => rfl
  | _ :: r => by simp [PyData.depthAll, PyData.depth, texts_depth r]
theorem said_shaped (w : Int) (i : Nat) : SeqAt.shaped (.list ((said w i).map PyData.str)) = true := by
  have e : said w i = ((asks.take i).map fun p => w.fdiv 4096 == p.2).map boolText := by rw [List.map_map]; rfl
  rw [SeqAt.shaped, PyData.depth, texts_depth, PyData.canLay0, e, texts_ok]
  decide
theorem ne_said {prog : Program} {w : World} {A : Around} {E : Value → Shared → Prop} {s : Shared} {a b : Addr} {xs ys : List Value} {n : Int} {i : Nat} {Q : Value → Shared → Prop}
    (ha : s.heap.IsList a xs.toArray) (hb : s.heap.IsList b ys.toArray) (hi : StrsAre xs (said n i)) (hj : StrsAre ys (said n i)) (hu : A.units + 64 < cLine) (h : Q (.bool false) s) :
    wpAny (model prog w) A (compareOp .NotEq (.ref a) (.ref b)) Q E s :=
  ne_dataH (reads_newData ha hi.carried) (reads_newData hb hj.carried) (said_shaped n i) (said_shaped n i) hu (by rw [SeqAt.eqv_refl _ (SeqAt.canLay_of_shaped (said_shaped n i))]; exact h)

end

/-! T8 -/
section
open PySem PySem.W PySem.Spec PySem.Calls PySem.NumText PyProof.Rows
set_option maxRecDepth 100000
set_option maxHeartbeats 4000000
/-- the words of this part; the walk is laid as in a fresh process -/
theorem calmT8 : True := by
  w_top off
  k_with_none
  k_with "m:binaryOp Pow int int" => (k_here; (with_reducible show wpAny _ _ (binaryOp Operator.Pow (Value.int _ _) (Value.int (Int.fdiv (0 + Nat.cast _) (Nat.cast _)) _)) _ _ _); refine pow_int_small (pow_bounds (by assumption) (by assumption)).1 (Int.le_trans (pow_bounds (by assumption) (by assumption)).2 (by decide)) (by decide) ?_)
  k_with "m:binaryOp FloorDiv int int" => (k_here; (with_reducible show wpAny _ _ (binaryOp Operator.FloorDiv (Value.int _ _) (Value.int (10 ^ _) _)) _ _ _); refine floordiv_int (ten_ne _) ?_ (Or.inl (PyProof.noPylong_of_log2 (ten_log (pow_bounds (by assumption) (by assumption)).2))))
  k_with "m:subscriptTail Name BinOp ref int" => (k_here; (with_reducible show wpAny _ _ (subscriptTail _ _ (Value.ref _) (Value.int (Int.fmod _ (Nat.cast (List.length _))) _)) _ _ _); k_dflt (refine' item_told ?N ?m ?I ?h1 ?h8 ?_ ?s; (case N => k_asm); (case m => k_mem); (case I => assumption); (case h1 => assumption); (case h8 => assumption); (case s => with_unfolding_all rfl); k_whole); intro _ _)
  k_with "m:callWith ref" => (k_here; (with_reducible show wpAny _ _ (callWith _ (Value.ref _) _ _ _) _ _ _); k_dflt (refine' callWith_K (K := hd.heap_39 _) ?k1 ?k2 ?_; (case k2 => assumption); (case k1 => k_asm); k_whole))
  k_with "m:call ref" => (k_here; with_reducible refine Halt.out ?_)
  k_with "m:eval ListComp" => (k_here; (with_reducible show wpAny _ _ (eval (Expr.ListComp (Expr.Call _ [Expr.Compare _ _ _ _] _ _) _ _ _) _) _ _ _); with_reducible refine Halt.out ?_)
  k_with "mine law" => (
    (case k1 => assumption)
    (case k2 => assumption)
    (case k3 => assumption)
    (case k4 => assumption)
    (case k5 => assumption)
    (case kK => exact rfl)
    (case kd => decide)
    (case ku => decide))
  trivial
theorem news_skip1 {h₀ h : Heap} {L : Addr} {a b : Addr × Obj} {r : List (Addr × Obj)} (N : News h₀ L h (a :: b :: r)) : News h₀ L h (a :: r) := fun p hp => N p (by
  rcases List.mem_cons.mp hp with rfl | hp
  · exact .head _
  · exact .tail _ (.tail _ hp))
theorem news_skip2 {h₀ h : Heap} {L : Addr} {a b c : Addr × Obj} {r : List (Addr × Obj)} (N : News h₀ L h (a :: b :: c :: r)) : News h₀ L h (a :: r) := news_skip1 (news_skip1 N)
theorem mark0 : ∀ i : Nat, Mark ([Str.ofString "", Str.ofString "+", Str.ofString "-"].getD i Str.empty)
  | 0 => by unfold Mark; decide
  | 1 => by unfold Mark; decide
  | 2 => by unfold Mark; decide
  | n + 3 => by show Mark Str.empty; unfold Mark; decide
theorem mark1 : ∀ i : Nat, Mark ([Str.ofString "", Str.ofString "-", Str.ofString "+"].getD i Str.empty)
  | 0 => by unfold Mark; decide
  | 1 => by unfold Mark; decide
  | 2 => by unfold Mark; decide
  | n + 3 => by show Mark Str.empty; unfold Mark; decide
theorem wish_ok (x : Int) : 0 ≤ x.fmod 65536 ∧ x.fmod 65536 < 65536 := by
  rw [Int.fmod_eq_emod_of_nonneg _ (by decide)]; omega
theorem range24 : ∀ n : Nat, n < 9 → Builtin.Range.small 0 (16 + (n : Int)) 1 = true ∧ Builtin.Range.rangeSize 0 (16 + (n : Int)) 1 = ((16 + n : Nat) : Int) := by decide
theorem digit_one : ∀ d : Nat, d < 10 → Str.ofString (toString (d : Int)) = fig d := by decide
theorem digit_text (X : Int) : ∃ d, d < 10 ∧ Str.ofString (toString (X.fmod 10)) = fig d := by
  rw [Int.fmod_eq_emod_of_nonneg _ (by decide)]
  have h0 : 0 ≤ X % 10 := by omega
  obtain ⟨d, hd⟩ := Int.eq_ofNat_of_zero_le h0
  have : d < 10 := by omega
  exact ⟨d, this, by rw [hd]; exact digit_one d this⟩
theorem Figs.snoc {ys : List Value} {ds : List Nat} (h : Figs ys ds) (X : Int) (t : Tok) {i : Nat} (hi : ds.length = i) : ∃ ds', Figs (ys ++ [Value.str (Str.ofString (toString (X.fmod 10))) t]) ds' ∧ ds'.length = i + 1 := by
  obtain ⟨d, hd, e⟩ := digit_text X
  refine ⟨ds ++ [d], ⟨?_, ?_⟩, by simp [hi]⟩
  · rw [List.map_append, e]; exact h.1.append' (.cons _ t .nil)
  · intro c hc
    rcases List.mem_append.mp hc with hc | hc
    · exact h.2 c hc
    · rw [List.mem_singleton.mp hc]; exact hd
theorem pow_bounds {i n : Nat} (hi : i < 16 + n) (h8 : n ≤ 8) : 0 ≤ (0 + (i : Int)).fdiv (n : Int) ∧ (0 + (i : Int)).fdiv (n : Int) ≤ 23 := by
  rw [Int.zero_add, Int.fdiv_eq_ediv_of_nonneg _ (by omega)]
  refine ⟨Int.ediv_nonneg (by omega) (by omega), Int.le_trans (Int.ediv_le_self _ (by omega)) (by omega)⟩
theorem ten_ne (k : Nat) : (10 : Int) ^ k ≠ 0 := Int.ne_of_gt (Int.pow_pos (by decide))
theorem ten_log {x : Int} (h : x ≤ 23) : ((10 : Int) ^ x.toNat).natAbs.log2 < 9000 := by
  rw [Int.natAbs_pow]
  have h1 : (Int.natAbs 10) ^ x.toNat ≤ 10 ^ 23 := Nat.pow_le_pow_right (by decide) (by omega)
  have h2 : (Int.natAbs 10) ^ x.toNat ≠ 0 := Nat.ne_of_gt (Nat.pow_pos (by decide))
  exact Nat.lt_trans ((Nat.log2_lt h2).mpr (Nat.lt_of_le_of_lt h1 (by decide : 10 ^ 23 < 2 ^ 80))) (by decide)
theorem news_rot4 {h₀ h : Heap} {L : Addr} {a b c d e : Addr × Obj} {r : List (Addr × Obj)} (N : News h₀ L h (a :: b :: c :: d :: e :: r)) : News h₀ L h (b :: c :: d :: e :: a :: r) := fun p hp => N p (by
  simp only [List.mem_cons] at hp ⊢
  rcases hp with h | h | h | h | h | h
  · exact .inr (.inl h)
  · exact .inr (.inr (.inl h))
  · exact .inr (.inr (.inr (.inl h)))
  · exact .inr (.inr (.inr (.inr (.inl h))))
  · exact .inl h
  · exact .inr (.inr (.inr (.inr (.inr h)))))
theorem Off4.cons {K I C D : Addr} {a : Addr × Obj} {r : List (Addr × Obj)} (h : Off4 K I C D r) (h1 : a.1 ≠ K) (h2 : a.1 ≠ I) (h3 : a.1 ≠ C) (h4 : a.1 ≠ D) : Off4 K I C D (a :: r) := fun p hp => by
  rcases List.mem_cons.mp hp with rfl | hp
  · exact ⟨h1, h2, h3, h4⟩
  · exact h p hp
theorem ints_item : ∀ {vs : List Value} {T : List Int}, IntsAre vs T → ∀ {k : Nat}, k < T.length → ∃ x t, vs[k]? = some (Value.int x t)
  | _, _, .nil, k, h => absurd h (Nat.not_lt_zero _)
  | _, _, .cons n t _, 0, _ => ⟨n, t, rfl⟩
  | _, _, .cons _ _ r, k + 1, h => by
    obtain ⟨x, t, e⟩ := ints_item r (k := k) (by simpa using h)
    exact ⟨x, t, by simpa using e⟩
theorem item_told {prog : Program} {w : World} {A : Around} {E : Value → Shared → Prop} {s : Shared} {h₀ : Heap} {L D : Addr} {news : List (Addr × Obj)} {vs : List Value} {T : List Int} {c : Nat} {X : Int} {u : Tok} {Q : Value → Shared → Prop} {value slice : PySem.Expr}
    (N : News h₀ L s.heap news) (hm : (D, listOf vs.toArray c) ∈ news) (hI : IntsAre vs T) (h1 : 1 ≤ T.length) (h8 : T.length ≤ 8) (h : ∀ x t, Q (.int x t) s)
    (hs : subscripted slice false (.ref D) (.int (X.fmod (T.length : Int)) u) = operate [.ref D, .int (X.fmod (T.length : Int)) u] (getItem (.ref D) (.int (X.fmod (T.length : Int)) u)) := by with_unfolding_all rfl) :
    wpAny (model prog w) A (subscriptTail value slice (.ref D) (.int (X.fmod (T.length : Int)) u)) Q E s := by
  have e : X.fmod (T.length : Int) = X % (T.length : Int) := Int.fmod_eq_emod_of_nonneg _ (by omega)
  have a0 : 0 ≤ X.fmod (T.length : Int) := by rw [e]; exact Int.emod_nonneg _ (by omega)
  have a1 : X.fmod (T.length : Int) < (T.length : Int) := by rw [e]; exact Int.emod_lt_of_pos _ (by omega)
  obtain ⟨x, t, hx⟩ := ints_item hI (k := (X.fmod (T.length : Int)).toNat) (by omega)
  exact item_litK (News.isList N hm) (by omega) (by omega) (v := Value.int x t) (by simpa using hx) (h x t) hs
theorem fresh_in {h₀ hs gg h' : Heap} {L q : Addr} {m : Str → Option Value} {o : Obj} {news : List (Addr × Obj)} (F : Fr h₀ L hs m) (kg : Ks hs gg) (hq : gg.get? q = none) (hq' : h'.get? q = some o) (N : News h₀ L h' news) : News h₀ L h' ((q, o) :: news) := by
  intro p hp
  rcases List.mem_cons.mp hp with rfl | hp
  · refine ⟨hq', ?_, ?_⟩
    · intro e
      have e' : q = L := e
      obtain ⟨o', _, _, hL, _⟩ := F.ns
      have := kg _ _ hL
      rw [← e', hq] at this; cases this
    · show h₀.get? q = none
      cases e : h₀.get? q with
      | none => rfl
      | some o' => have := kg _ _ (F.keep _ _ e); rw [hq] at this; cases this
  · exact N p hp
theorem fresh_ne {h₀ hs gg : Heap} {L q : Addr} {news : List (Addr × Obj)} (N : News h₀ L hs news) (kg : Ks hs gg) (hq : gg.get? q = none) : ∀ p ∈ news, p.1 ≠ q := fun p hp e => by
  have := kg _ _ (N p hp).1
  rw [e, hq] at this; cases this
/-- a halt of the walk: a contract goes here -/
def Halt (P : Prop) : Prop := P
theorem Halt.out {P : Prop} (h : Halt P) : P := h
theorem news_mid3 {h₀ h : Heap} {L : Addr} {a b c x y z : Addr × Obj} {r : List (Addr × Obj)} (N : News h₀ L h (a :: b :: c :: x :: y :: z :: r)) : News h₀ L h (a :: b :: c :: r) := fun p hp => N p (by
  simp only [List.mem_cons] at hp ⊢
  rcases hp with h | h | h | h
  · exact .inl h
  · exact .inr (.inl h)
  · exact .inr (.inr (.inl h))
  · exact .inr (.inr (.inr (.inr (.inr (.inr h))))))
theorem news_pick {h₀ h : Heap} {L : Addr} {z a x1 x2 x3 b x4 x5 c d : Addr × Obj} {r : List (Addr × Obj)} (N : News h₀ L h (z :: a :: x1 :: x2 :: x3 :: b :: x4 :: x5 :: c :: d :: r)) : News h₀ L h [a, b, c, d] := fun p hp => N p (by
  simp only [List.mem_cons, List.not_mem_nil, or_false] at hp ⊢
  rcases hp with h | h | h | h
  · exact .inr (.inl h)
  · exact .inr (.inr (.inr (.inr (.inr (.inl h)))))
  · exact .inr (.inr (.inr (.inr (.inr (.inr (.inr (.inr (.inl h))))))))
  · exact .inr (.inr (.inr (.inr (.inr (.inr (.inr (.inr (.inr (.inl h))))))))))
theorem pow18 : (10 : Int) ^ Int.toNat 18 = 1000000000000000000 := by decide
theorem told_all (xs : List Int) : ∀ x ∈ List.map (fun k' : Int => k'.fmod (10 ^ Int.toNat 18)) (List.take 8 xs), 0 ≤ x ∧ x < 1000000000000000000 := by
  intro x hx
  obtain ⟨k, _, rfl⟩ := List.mem_map.mp hx
  rw [pow18, Int.fmod_eq_emod_of_nonneg _ (by decide)]
  omega
/-- a place behind a step -/
def Ux {α : Type} (P : Shared → Prop) (_ : α) (s' : Shared) : Prop := P s'
theorem unit_cut {α : Type} {M : Model} {A : Around} {Q : α → Shared → Prop} {E : Value → Shared → Prop} {s : Shared} {T : Sem α} (P : Shared → Prop) (h1 : wpAny M A T (Ux P) E s) (h2 : ∀ v s', P s' → Q v s') : wpAny M A T Q E s :=
  wpAny_mono h1 (fun v s' h => h2 v s' h) fun _ _ e => e
theorem dial_wish {m : Str} {w : Int} {e : List Nat} (h : Dial m w e 16) (hw : 0 ≤ w ∧ w < 65536) : numVal m e % 65536 = w := by
  have h' : numVal m e % 65536 = w % 65536 := h
  omega
theorem zip_item {m0 m1 : Str} {w0 w1 : Int} {e0 e1 : List Nat} {ti tj x0 x1 : Tok} {i : Nat} {x y : Value} (h0 : Dial m0 w0 e0 16) (h1 : Dial m1 w1 e1 16) (hw0 : 0 ≤ w0 ∧ w0 < 65536) (hw1 : 0 ≤ w1 ∧ w1 < 65536)
    (hx : #[Value.int (numVal m0 e0) ti, Value.int (numVal m1 e1) tj][i]? = some x) (hy : #[Value.int w0 x0, Value.int w1 x1][i]? = some y) : ∃ nn tn ww tw, x = Value.int nn tn ∧ y = Value.int ww tw ∧ nn % 65536 = ww ∧ (0 ≤ ww ∧ ww < 65536) := by
  rcases i with _ | _ | i
  · exact ⟨_, _, _, _, (Option.some.inj hx).symm, (Option.some.inj hy).symm, dial_wish h0 hw0, hw0⟩
  · exact ⟨_, _, _, _, (Option.some.inj hx).symm, (Option.some.inj hy).symm, dial_wish h1 hw1, hw1⟩
  · simp at hx
theorem low_ok (n : Int) : 0 ≤ n.fmod 4294967296 ∧ n.fmod 4294967296 < 4294967296 := by
  rw [Int.fmod_eq_emod_of_nonneg _ (by decide)]; omega
theorem mode_wish {n w : Int} (h : n % 65536 = w) : modeText (n.fmod 4294967296) = signsText w := by
  obtain ⟨N, hN, e⟩ := low_nat n
  rw [hN, signs_eq, e, h]
theorem off_swap {A B : Addr × Obj} {x y : Addr} {o o' q q' : Obj} {P : List (Addr × Obj)} (h : ∀ r ∈ [A, B, (x, o), (y, o')], ∀ p ∈ P, r.1 ≠ p.1) : ∀ r ∈ [A, B, (x, q), (y, q')], ∀ p ∈ P, r.1 ≠ p.1 := by
  intro r hr p hp
  rcases List.mem_cons.mp hr with rfl | hr
  · exact h _ (.head _) p hp
  rcases List.mem_cons.mp hr with rfl | hr
  · exact h _ (.tail _ (.head _)) p hp
  rcases List.mem_cons.mp hr with rfl | hr
  · exact h (x, o) (.tail _ (.tail _ (.head _))) p hp
  rw [List.mem_singleton.mp hr]
  exact h (y, o') (.tail _ (.tail _ (.tail _ (.head _)))) p hp
theorem news_two {h₀ h : Heap} {L : Addr} {a b : Addr × Obj} {r : List (Addr × Obj)} (N : News h₀ L h (a :: b :: r)) : News h₀ L h r := fun p hp => N p (.tail _ (.tail _ hp))
theorem x : PySem.Challenge.rw_mr0156_01.Holds := hd (by 
  k_go0
  (all_goals try k_fold)
  k_with "table" => skip
  rename Shared => s₁
  rename_i F o4 o3 o2 o1 e4 e3 e2 e1 N0 hz
  refine exec_cut (fun s' => ∃ D vs T c o1' m', IntsAre vs T ∧ 1 ≤ T.length ∧ T.length ≤ 8 ∧ (∀ x ∈ T, 0 ≤ x ∧ x < 1000000000000000000) ∧ o1'.data = Data.cell (some (Value.ref D)) ∧ @Ne Nat D (s₁.heap.objs.size + 1) ∧ @Ne Nat D (s₁.heap.objs.size + 1 + 1) ∧ @Ne Nat D (s₁.heap.objs.size + 1 + 1 + 1) ∧ @Ne Nat D (s₁.heap.objs.size + 1 + 1 + 1 + 1) ∧ At s₁ s₁.heap s₁.heap.objs.size m' [(D, listOf (List.toArray vs) c), (s₁.heap.objs.size + 1 + 1 + 1 + 1, o4), (s₁.heap.objs.size + 1 + 1 + 1, o3), (s₁.heap.objs.size + 1 + 1, o2), (s₁.heap.objs.size + 1, o1')] s') ?_ ?_
  · k_steps
    · rename_i D1 ws' h2 hI' hC' hL' l1 hkl1 hkl g' hI8 hL8 D' h1' tk' o1' a h' o' F' N' d'
      exact ⟨rfl, D', ys, _, _, o', _, hI8, a, (by rw [List.length_map]; exact hC' ▸ Nat.min_le_left _ _), told_all _, d', o1'.2.2.2.2.symm, o1'.2.2.2.1.symm, o1'.2.2.1.symm, o1'.2.1.symm, At.intro F' (news_skip1 N')⟩
    · rename_i D1 ws' h3 hI' hC' hL' l1 hkl1 hkl g' hI8 hL8 D' h2' tk' o1' a l' h1' l1' h' o' F' N' d'
      exact ⟨rfl, l', [_], [0], 0, o', _, .cons _ _ .nil, by decide, by decide, by decide, d', Nat.ne_of_gt l1'.2.2.2.2.2, Nat.ne_of_gt l1'.2.2.2.2.1, Nat.ne_of_gt l1'.2.2.2.1, Nat.ne_of_gt l1'.2.2.1, At.intro F' (news_skip1 (news_skip1 N'))⟩
  rintro s' ⟨D, vs, T, c, o1', m', hvT, hT1, hT8, hTb, hd1, hD1, hD2, hD3, hD4, h2, tk2, rfl, F2, N2⟩
  clear F N0 hz e1
  obtain ⟨y4, q4⟩ : ∃ v, o4.data = .cell v := ⟨_, e4⟩
  obtain ⟨y3, q3⟩ : ∃ v, o3.data = .cell v := ⟨_, e3⟩
  obtain ⟨y2, q2⟩ : ∃ v, o2.data = .cell v := ⟨_, e2⟩
  clear e4 e3 e2
  (all_goals try k_fold)
  refine exec_cut (fun s' => ∃ o2' tc, o2'.data = Data.cell (some (Value.int (T.length : Int) tc)) ∧ At s₁ s₁.heap s₁.heap.objs.size m' [(D, listOf (List.toArray vs) c), (s₁.heap.objs.size + 1 + 1 + 1 + 1, o4), (s₁.heap.objs.size + 1 + 1 + 1, o3), (s₁.heap.objs.size + 1 + 1, o2'), (s₁.heap.objs.size + 1, o1')] s') ?_ ?_
  · k_steps
    exact ⟨rfl, _, _, by assumption, At.intro (by assumption) (by assumption)⟩
  rintro s' ⟨o2', tc, hd2, h3, tk3, rfl, F3, N3⟩
  clear F2 N2
  (all_goals try k_fold)
  refine exec_cut (fun s' => ∃ ma m0 m1 t0 t1, Mark m0 ∧ Mark m1 ∧ @Ne Nat ma (s₁.heap.objs.size + 1) ∧ @Ne Nat ma (s₁.heap.objs.size + 1 + 1) ∧ @Ne Nat ma (s₁.heap.objs.size + 1 + 1 + 1) ∧ @Ne Nat ma (s₁.heap.objs.size + 1 + 1 + 1 + 1) ∧ @Ne Nat ma D ∧ At s₁ s₁.heap s₁.heap.objs.size (fun y => if y = Str.ofString "marks" then some (Value.ref ma) else m' y) [(ma, listOf #[Value.str m0 t0, Value.str m1 t1] 0), (D, listOf (List.toArray vs) c), (s₁.heap.objs.size + 1 + 1 + 1 + 1, o4), (s₁.heap.objs.size + 1 + 1 + 1, o3), (s₁.heap.objs.size + 1 + 1, o2'), (s₁.heap.objs.size + 1, o1')] s') ?_ ?_
  · k_steps
    rename_i l1 h' F' N'
    exact ⟨rfl, _, _, _, _, _, mark0 _, mark1 _, Nat.ne_of_gt l1.2.2.2.2.2.2, Nat.ne_of_gt l1.2.2.2.2.2.1, Nat.ne_of_gt l1.2.2.2.2.1, Nat.ne_of_gt l1.2.2.2.1, Nat.ne_of_gt l1.2.2.1, At.intro F' (news_skip2 N')⟩
  rintro s' ⟨ma, m0, m1, t0, t1, hM0, hM1, hma1, hma2, hma3, hma4, hmaD, h4, tk4, rfl, F4, N4⟩
  clear F3 N3
  (all_goals try k_fold)
  refine exec_cut (fun s' => ∃ wa w0 w1 x0 x1, (0 ≤ w0 ∧ w0 < 65536) ∧ (0 ≤ w1 ∧ w1 < 65536) ∧ @Ne Nat wa (s₁.heap.objs.size + 1) ∧ @Ne Nat wa (s₁.heap.objs.size + 1 + 1) ∧ @Ne Nat wa (s₁.heap.objs.size + 1 + 1 + 1) ∧ @Ne Nat wa (s₁.heap.objs.size + 1 + 1 + 1 + 1) ∧ @Ne Nat wa D ∧ @Ne Nat wa ma ∧ At s₁ s₁.heap s₁.heap.objs.size (fun y => if y = Str.ofString "wishes" then some (Value.ref wa) else if y = Str.ofString "marks" then some (Value.ref ma) else m' y) [(wa, listOf #[Value.int w0 x0, Value.int w1 x1] 0), (ma, listOf #[Value.str m0 t0, Value.str m1 t1] 0), (D, listOf (List.toArray vs) c), (s₁.heap.objs.size + 1 + 1 + 1 + 1, o4), (s₁.heap.objs.size + 1 + 1 + 1, o3), (s₁.heap.objs.size + 1 + 1, o2'), (s₁.heap.objs.size + 1, o1')] s') ?_ ?_
  · k_steps
    rename_i l1 h' F' N'
    exact ⟨rfl, _, _, _, _, _, wish_ok _, wish_ok _, Nat.ne_of_gt l1.2.2.2.2.2, Nat.ne_of_gt l1.2.2.2.2.1, Nat.ne_of_gt l1.2.2.2.1, Nat.ne_of_gt l1.2.2.1, Nat.ne_of_gt l1.2.1, Nat.ne_of_gt l1.1, At.intro F' N'⟩
  rintro s' ⟨wa, w0, w1, x0, x1, hw0, hw1, hwa1, hwa2, hwa3, hwa4, hwaD, hwama, h5, tk5, rfl, F5, N5⟩
  clear F4 N4
  (all_goals try k_fold)
  refine exec_cut (fun s' => ∃ da r0 r1 u0 u1 d0 d1, Figs u0 d0 ∧ Figs u1 d1 ∧ d0.length = 16 + T.length ∧ d1.length = 16 + T.length ∧ At s₁ s₁.heap s₁.heap.objs.size (fun y => if y = Str.ofString "drawn" then some (Value.ref da) else if y = Str.ofString "wishes" then some (Value.ref wa) else if y = Str.ofString "marks" then some (Value.ref ma) else m' y) [(da, listOf #[Value.ref r0, Value.ref r1] 2), (r1, LCg.lst u1), (r0, LCg.lst u0), (wa, listOf #[Value.int w0 x0, Value.int w1 x1] 0), (ma, listOf #[Value.str m0 t0, Value.str m1 t1] 0), (D, listOf (List.toArray vs) c), (s₁.heap.objs.size + 1 + 1 + 1 + 1, o4), (s₁.heap.objs.size + 1 + 1 + 1, o3), (s₁.heap.objs.size + 1 + 1, o2'), (s₁.heap.objs.size + 1, o1')] s') ?_ ?_
  · refine' comp_cell (h₀ := s₁.heap) (L := s₁.heap.objs.size) (m := (fun y => if y = Str.ofString "wishes" then some (Value.ref wa) else if y = Str.ofString "marks" then some (Value.ref ma) else m' y)) (b := 2) (news := [(wa, listOf #[Value.int w0 x0, Value.int w1 x1] 0), (ma, listOf #[Value.str m0 t0, Value.str m1 t1] 0), (D, listOf (List.toArray vs) c), (s₁.heap.objs.size + 1 + 1 + 1 + 1, o4), (s₁.heap.objs.size + 1 + 1 + 1, o3), (s₁.heap.objs.size + 1 + 1, o2'), (s₁.heap.objs.size + 1, o1')]) 2 (fun i ys nw => match i with
      | 0 => ys = [] ∧ nw = [(wa, listOf #[Value.int w0 x0, Value.int w1 x1] 0), (ma, listOf #[Value.str m0 t0, Value.str m1 t1] 0), (D, listOf (List.toArray vs) c), (s₁.heap.objs.size + 1 + 1 + 1 + 1, o4), (s₁.heap.objs.size + 1 + 1 + 1, o3), (s₁.heap.objs.size + 1 + 1, o2'), (s₁.heap.objs.size + 1, o1')]
      | 1 => ∃ r0 u0 d0, ys = [Value.ref r0] ∧ Figs u0 d0 ∧ d0.length = 16 + T.length ∧ nw = (r0, LCg.lst u0) :: [(wa, listOf #[Value.int w0 x0, Value.int w1 x1] 0), (ma, listOf #[Value.str m0 t0, Value.str m1 t1] 0), (D, listOf (List.toArray vs) c), (s₁.heap.objs.size + 1 + 1 + 1 + 1, o4), (s₁.heap.objs.size + 1 + 1 + 1, o3), (s₁.heap.objs.size + 1 + 1, o2'), (s₁.heap.objs.size + 1, o1')]
      | _ => ∃ r0 u0 d0 r1 u1 d1, ys = [Value.ref r0, Value.ref r1] ∧ Figs u0 d0 ∧ d0.length = 16 + T.length ∧ Figs u1 d1 ∧ d1.length = 16 + T.length ∧ @Ne Nat r0 r1 ∧ nw = (r1, LCg.lst u1) :: (r0, LCg.lst u0) :: [(wa, listOf #[Value.int w0 x0, Value.int w1 x1] 0), (ma, listOf #[Value.str m0 t0, Value.str m1 t1] 0), (D, listOf (List.toArray vs) c), (s₁.heap.objs.size + 1 + 1 + 1 + 1, o4), (s₁.heap.objs.size + 1 + 1 + 1, o3), (s₁.heap.objs.size + 1 + 1, o2'), (s₁.heap.objs.size + 1, o1')]) ?a1 ?a2 ?a3 ?a4 ?a5 ?a6 ?a7 ?a8 ?a9 ?b1 ?b2 ?b3 ?b4 ?b5 ?b6 ?b7 ?b8 ?b9 ?c1
    case a1 => rfl
    case a2 => rfl
    case a3 => decide
    case a4 => decide
    case a5 => decide
    case a6 => with_unfolding_all rfl
    case a7 => with_unfolding_all rfl
    case a8 => intro _ _; rfl
    case a9 => intro _; rfl
    case b1 => rfl
    case b2 => decide
    case b3 => rfl
    case b4 => rfl
    case b5 => rfl
    case b6 =>
      k_steps
      exact ⟨_, _, _, _, _, _, rfl, rfl, by assumption, by assumption, by assumption⟩
    case b7 => exact ⟨rfl, rfl⟩
    case b8 =>
      intro i ys nw tv K I C D' oK oI oC h tk E' hi hJ hK F6 N6 off6 ne6
      rcases i with _ | _ | i
      · obtain ⟨rfl, rfl⟩ := hJ
        have hK' : oK.data = Data.cell (some (Value.int 0 tv)) := hK
        clear hK
        clear F5 N5
        refine LCg.ListComp_U (F₀ := F6) (by with_unfolding_all rfl) (by decide) (by rfl) (by decide) (by rfl) ?_
        refine val_cut (RangeAt s₁ s₁.heap s₁.heap.objs.size (fun y => if y = Str.ofString "wishes" then some (Value.ref wa) else if y = Str.ofString "marks" then some (Value.ref ma) else m' y) [(K, oK), (I, oI), (C, oC), (D', LCg.lst []), (wa, listOf #[Value.int w0 x0, Value.int w1 x1] 0), (ma, listOf #[Value.str m0 t0, Value.str m1 t1] 0), (D, listOf (List.toArray vs) c), (s₁.heap.objs.size + 1 + 1 + 1 + 1, o4), (s₁.heap.objs.size + 1 + 1 + 1, o3), (s₁.heap.objs.size + 1 + 1, o2'), (s₁.heap.objs.size + 1, o1')] 0 (16 + (T.length : Int))) ?_ ?_
        · k_steps
          exact ⟨_, _, _, _, _, _, rfl, rfl, by assumption, by assumption, by assumption⟩
        · rintro v s' ⟨r, t, u, w', h7, tk7, rfl, rfl, hR, F7, N7⟩
          clear F6 N6
          refine LCg.CompSrc.range rfl F7 N7 hR (range24 _ (by omega)).1 (range24 _ (by omega)).2 (Nat.le_trans (by omega : 16 + T.length ≤ 24) (by decide : 24 ≤ sizeLine)) fun g => rest_all (fun i ys => ∃ ds, Figs ys ds ∧ ds.length = i) trivial ⟨[], ⟨.nil, nofun⟩, rfl⟩ ?_ ?_
          · rintro i ys v I2 oI2 C2 oC2 D2 m₂ h8 tk8 E'' hi ⟨ds, hds, hdl⟩ ⟨tv2, rfl⟩ hC2 hx2 F8 N8 off8 ne8
            clear F7 N7
            (try k_fold)
            k_steps
            exact FEnd.intro (by assumption) (by assumption) (hds.snoc _ _ hdl)
          · rintro ys ⟨ds, hds, hdl⟩
            intro D2 h9 tk9 F9 N9 off9
            exact ⟨h9, tk9, _, rfl, F9, news_rot4 N9, off6.cons off9.1.symm off9.2.1.symm off9.2.2.1.symm off9.2.2.2.1.symm, ⟨D2, ys, ds, rfl, hds, hdl, rfl⟩⟩
      · obtain ⟨r0, u0, d0, rfl, hu0, hl0, rfl⟩ := hJ
        have hK' : oK.data = Data.cell (some (Value.int 1 tv)) := hK
        clear hK
        clear F5 N5
        refine LCg.ListComp_U (F₀ := F6) (by with_unfolding_all rfl) (by decide) (by rfl) (by decide) (by rfl) ?_
        refine val_cut (RangeAt s₁ s₁.heap s₁.heap.objs.size (fun y => if y = Str.ofString "wishes" then some (Value.ref wa) else if y = Str.ofString "marks" then some (Value.ref ma) else m' y) [(K, oK), (I, oI), (C, oC), (D', LCg.lst [Value.ref r0]), (r0, LCg.lst u0), (wa, listOf #[Value.int w0 x0, Value.int w1 x1] 0), (ma, listOf #[Value.str m0 t0, Value.str m1 t1] 0), (D, listOf (List.toArray vs) c), (s₁.heap.objs.size + 1 + 1 + 1 + 1, o4), (s₁.heap.objs.size + 1 + 1 + 1, o3), (s₁.heap.objs.size + 1 + 1, o2'), (s₁.heap.objs.size + 1, o1')] 0 (16 + (T.length : Int))) ?_ ?_
        · k_steps
          exact ⟨_, _, _, _, _, _, rfl, rfl, by assumption, by assumption, by assumption⟩
        · rintro v s' ⟨r, t, u, w', h7, tk7, rfl, rfl, hR, F7, N7⟩
          clear F6 N6
          refine LCg.CompSrc.range rfl F7 N7 hR (range24 _ (by omega)).1 (range24 _ (by omega)).2 (Nat.le_trans (by omega : 16 + T.length ≤ 24) (by decide : 24 ≤ sizeLine)) fun g => rest_all (fun i ys => ∃ ds, Figs ys ds ∧ ds.length = i) trivial ⟨[], ⟨.nil, nofun⟩, rfl⟩ ?_ ?_
          · rintro i ys v I2 oI2 C2 oC2 D2 m₂ h8 tk8 E'' hi ⟨ds, hds, hdl⟩ ⟨tv2, rfl⟩ hC2 hx2 F8 N8 off8 ne8
            clear F7 N7
            (try k_fold)
            k_steps
            exact FEnd.intro (by assumption) (by assumption) (hds.snoc _ _ hdl)
          · rintro ys ⟨ds, hds, hdl⟩
            intro D2 h9 tk9 F9 N9 off9
            exact ⟨h9, tk9, _, rfl, F9, news_rot4 N9, off6.cons off9.1.symm off9.2.1.symm off9.2.2.1.symm off9.2.2.2.1.symm, ⟨r0, u0, d0, D2, ys, ds, rfl, hu0, hl0, hds, hdl, off9.2.2.2.2.1, rfl⟩⟩
      · omega
    case b9 =>
      rintro ys nw D3 h tk ⟨r0, u0, d0, r1, u1, d1, rfl, hu0, hl0, hu1, hl1, hr01, rfl⟩ F6 N6 off6
      exact ⟨rfl, D3, r0, r1, u0, u1, d0, d1, hu0, hu1, hl0, hl1, At.intro F6 N6⟩
    case c1 => intro _; rfl
  rintro s' ⟨da, r0, r1, u0, u1, d0, d1, hu0, hu1, hl0, hl1, h6, tk6, rfl, F6, N6⟩
  clear F5 N5
  (all_goals try k_fold)
  refine exec_cut (fun s' => ∃ ra r0 r1 c0 c1 u0 u1 e0 e1, Figs u0 e0 ∧ Figs u1 e1 ∧ e0.length = 16 + T.length ∧ e1.length = 16 + T.length ∧ Dial m0 w0 e0 16 ∧ Dial m1 w1 e1 16 ∧ At s₁ s₁.heap s₁.heap.objs.size (fun y => if y = Str.ofString "rows" then some (Value.ref ra) else if y = Str.ofString "drawn" then some (Value.ref da) else if y = Str.ofString "wishes" then some (Value.ref wa) else if y = Str.ofString "marks" then some (Value.ref ma) else m' y) [(ra, listOf #[Value.ref r0, Value.ref r1] 2), (r1, listOf (List.toArray u1) c1), (r0, listOf (List.toArray u0) c0), (wa, listOf #[Value.int w0 x0, Value.int w1 x1] 0), (ma, listOf #[Value.str m0 t0, Value.str m1 t1] 0), (D, listOf (List.toArray vs) c), (s₁.heap.objs.size + 1 + 1 + 1 + 1, o4), (s₁.heap.objs.size + 1 + 1 + 1, o3), (s₁.heap.objs.size + 1 + 1, o2'), (s₁.heap.objs.size + 1, o1')] s') ?_ ?_
  · k_steps
    show wpAny _ _ _ _ _ _
    refine' (dialed_spec _ _ _ _ ma da wa r0 r1 m0 m1 t0 t1 x0 x1 w0 w1 u0 u1 d0 d1 hu0 hu1 (by omega) (by omega) (by omega) (by omega) hM0 hM1 hw0 hw1).go ?k1 ?k2 ?k3 ?k4 ?k5 ?kK ?kd ?ku ?kp ?_
    walk_at "mine law"
    case kp =>
      intro gg kk
      exact ⟨(News.isList N6 (.tail _ (.tail _ (.tail _ (.tail _ (.head _)))))).at fun o q => kk _ _ q, (News.isList N6 (.head _)).at fun o q => kk _ _ q, (News.isList N6 (.tail _ (.tail _ (.head _)))).at fun o q => kk _ _ q, (News.isList N6 (.tail _ (.head _))).at fun o q => kk _ _ q, (News.isList N6 (.tail _ (.tail _ (.tail _ (.head _))))).at fun o q => kk _ _ q⟩
    intro gg v7 h7 tk7 kg7 kh7 F7 N7 hv7
    obtain ⟨q7, a0, a1, c0, c1, v0, v1, e0, e1, rfl, hE0, hE1, he0, he1, hB0, hB1, n1, n2, n3, hobj⟩ := hv7
    have N8 := fresh_in F6 kg7 (hobj _ (.head _)).2 (hobj _ (.head _)).1 (fresh_in F6 kg7 (hobj _ (.tail _ (.head _))).2 (hobj _ (.tail _ (.head _))).1 (fresh_in F6 kg7 (hobj _ (.tail _ (.tail _ (.head _)))).2 (hobj _ (.tail _ (.tail _ (.head _)))).1 N7))
    clear N7 F6 N6
    k_steps
    exact ⟨rfl, q7, a0, a1, c0, c1, v0, v1, e0, e1, hE0, hE1, he0.trans hl0, he1.trans hl1, hB0, hB1, At.intro (by assumption) (news_mid3 (by assumption))⟩
  rintro s' ⟨ra, r0, r1, c0, c1, u0, u1, e0, e1, hE0, hE1, he0, he1, hB0, hB1, h7, tk7, rfl, F7, N7⟩
  clear F6 N6
  (all_goals try k_fold)
  refine exec_cut (fun s' => ∃ pa ti tj, @Ne Nat pa (s₁.heap.objs.size + 1) ∧ @Ne Nat pa (s₁.heap.objs.size + 1 + 1) ∧ @Ne Nat pa (s₁.heap.objs.size + 1 + 1 + 1) ∧ @Ne Nat pa (s₁.heap.objs.size + 1 + 1 + 1 + 1) ∧ @Ne Nat pa wa ∧ At s₁ s₁.heap s₁.heap.objs.size (fun y => if y = Str.ofString "pair" then some (Value.ref pa) else if y = Str.ofString "rows" then some (Value.ref ra) else if y = Str.ofString "drawn" then some (Value.ref da) else if y = Str.ofString "wishes" then some (Value.ref wa) else if y = Str.ofString "marks" then some (Value.ref ma) else m' y) [(pa, { cls := .type "tuple", data := .seq #[Value.int (numVal m0 e0) ti, Value.int (numVal m1 e1) tj] }), (ra, listOf #[Value.ref r0, Value.ref r1] 2), (r1, listOf (List.toArray u1) c1), (r0, listOf (List.toArray u0) c0), (wa, listOf #[Value.int w0 x0, Value.int w1 x1] 0), (ma, listOf #[Value.str m0 t0, Value.str m1 t1] 0), (D, listOf (List.toArray vs) c), (s₁.heap.objs.size + 1 + 1 + 1 + 1, o4), (s₁.heap.objs.size + 1 + 1 + 1, o3), (s₁.heap.objs.size + 1 + 1, o2'), (s₁.heap.objs.size + 1, o1')] s') ?_ ?_
  · k_steps
    show wpAny _ _ _ _ _ _
    refine' (place_spec _ _ _ _ ma ra r0 r1 m0 m1 t0 t1 u0 u1 e0 e1 hE0 hE1 (by omega) (by omega) hM0.len hM1.len).go ?k1 ?k2 ?k3 ?k4 ?k5 ?kK ?kd ?ku ?kp ?_
    walk_at "mine law"
    case kp =>
      intro gg kk
      exact ⟨(News.isList N7 (.tail _ (.tail _ (.tail _ (.tail _ (.head _)))))).at fun o q => kk _ _ q, (News.isList N7 (.head _)).at fun o q => kk _ _ q, (News.isList N7 (.tail _ (.tail _ (.head _)))).at fun o q => kk _ _ q, (News.isList N7 (.tail _ (.head _))).at fun o q => kk _ _ q⟩
    intro gg v8 h8 tk8 kg8 kh8 F8 N8 hv8
    obtain ⟨t8, rfl⟩ := hv8
    clear F7 N7
    k_steps
    show wpAny _ _ _ _ _ _
    refine' (glc_spec _ _ _ _ _ _ _ _ (numVal m0 e0) (numVal m1 e1) (place_split hM0 hM1 e0 e1) (num_text hM0 hE0.2 (by intro q; rw [q] at he0; simp at he0; omega) (by omega)) (num_text hM1 hE1.2 (by intro q; rw [q] at he1; simp at he1; omega) (by omega)) ?l0 ?l1 ?l2).go ?k1 ?k2 ?k3 ?k4 ?k5 ?kK ?kd ?ku ?kp ?_
    walk_at "mine law"
    case l0 => have := hM0.len; rw [Str.length_append, figsText_len, List.length_reverse]; omega
    case l1 => have := hM1.len; rw [Str.length_append, figsText_len, List.length_reverse]; omega
    case l2 => have q0 := hM0.len; have q1 := hM1.len; unfold placeText; simp only [Str.length_append, figsText_len, List.length_reverse, dotLen]; omega
    case kp => intro _ _; trivial
    intro g9 v9 h9 tk9 kg9 kh9 F9 N9 hv9
    obtain ⟨q9, ti, tj, rfl, hq9, ho9⟩ := hv9
    have N10 := fresh_in F8 kg9 hq9 ho9 N9
    have hne := fresh_ne N8 kg9 hq9
    have hn1 : @Ne Nat q9 (s₁.heap.objs.size + 1) := (hne (s₁.heap.objs.size + 1, o1') (by simp)).symm
    have hn2 : @Ne Nat q9 (s₁.heap.objs.size + 1 + 1) := (hne (s₁.heap.objs.size + 1 + 1, o2') (by simp)).symm
    have hn3 : @Ne Nat q9 (s₁.heap.objs.size + 1 + 1 + 1) := (hne (s₁.heap.objs.size + 1 + 1 + 1, o3) (by simp)).symm
    have hn4 : @Ne Nat q9 (s₁.heap.objs.size + 1 + 1 + 1 + 1) := (hne (s₁.heap.objs.size + 1 + 1 + 1 + 1, o4) (by simp)).symm
    have hn5 : @Ne Nat q9 wa := (hne (wa, listOf #[Value.int w0 x0, Value.int w1 x1] 0) (by simp)).symm
    clear N9 F8 N8 hne
    k_steps
    exact ⟨rfl, q9, ti, tj, hn1, hn2, hn3, hn4, hn5, At.intro (by assumption) (by assumption)⟩
  rintro s' ⟨pa, ti, tj, hpa1, hpa2, hpa3, hpa4, hpaw, h8, tk8, rfl, F8, N8⟩
  clear F7 N7
  (all_goals try k_fold)
  refine exec_cut (fun s' => At s₁ s₁.heap s₁.heap.objs.size (fun y => if y = Str.ofString "pair" then some (Value.ref pa) else if y = Str.ofString "rows" then some (Value.ref ra) else if y = Str.ofString "drawn" then some (Value.ref da) else if y = Str.ofString "wishes" then some (Value.ref wa) else if y = Str.ofString "marks" then some (Value.ref ma) else m' y) [(pa, { cls := .type "tuple", data := .seq #[Value.int (numVal m0 e0) ti, Value.int (numVal m1 e1) tj] }), (wa, listOf #[Value.int w0 x0, Value.int w1 x1] 0), (s₁.heap.objs.size + 1 + 1 + 1 + 1, o4), (s₁.heap.objs.size + 1 + 1 + 1, o3)] s') ?_ ?_
  · k_steps
    show wpAny _ _ _ _ _ _
    refine' (worth_spec _ _ _ _ m0 t0 r0 u0 e0 hE0 (by omega)).go ?k1 ?k2 ?k3 ?k4 ?k5 ?kK ?kd ?ku ?kp ?_
    walk_at "mine law"
    case kp =>
      intro gg kk
      exact (News.isList N8 (.tail _ (.tail _ (.tail _ (.head _))))).at fun o q => kk _ _ q
    intro gg v9 h9 tk9 kg9 kh9 F9 N9 hv9
    obtain ⟨t9, hv9⟩ := hv9
    have hv9 : v9 = Value.int (numVal m0 e0) t9 := hv9
    subst hv9
    clear N8
    k_steps
    show wpAny _ _ _ _ _ _
    refine' (worth_spec _ _ _ _ m1 t1 r1 u1 e1 hE1 (by omega)).go ?k1 ?k2 ?k3 ?k4 ?k5 ?kK ?kd ?ku ?kp ?_
    walk_at "mine law"
    case kp =>
      intro gg kk
      exact (News.isList N9 (.tail _ (.tail _ (.head _)))).at fun o q => kk _ _ q
    intro gg v10 h10 tk10 kg10 kh10 F10 N10 hv10
    obtain ⟨t10, hv10⟩ := hv10
    have hv10 : v10 = Value.int (numVal m1 e1) t10 := hv10
    subst hv10
    clear N9
    k_steps
    rename_i D' h' F' N' l1
    exact ⟨rfl, At.intro F' (news_pick N')⟩
  rintro s' ⟨h9, tk9, rfl, F9, N9⟩
  clear F8 N8
  (all_goals try k_fold)
  refine exec_cut (fun s' => ∃ h m, s' = { s₁ with heap := h, toks := s'.toks } ∧ Fr s₁.heap s₁.heap.objs.size h m) ?_ ?_
  · refine for_zip (l1 := pa) (l2 := wa) (xs := #[Value.int (numVal m0 e0) ti, Value.int (numVal m1 e1) tj]) (ys := #[Value.int w0 x0, Value.int w1 x1]) (fun i m n => ∃ o4 o3 y4 y3, o4.data = Data.cell y4 ∧ o3.data = Data.cell y3 ∧ n = [(pa, { cls := .type "tuple", data := .seq #[Value.int (numVal m0 e0) ti, Value.int (numVal m1 e1) tj] }), (wa, listOf #[Value.int w0 x0, Value.int w1 x1] 0), (s₁.heap.objs.size + 1 + 1 + 1 + 1, o4), (s₁.heap.objs.size + 1 + 1 + 1, o3)]) rfl F9 N9 ⟨o4, o3, y4, y3, q4, q3, rfl⟩ (Nat.le_refl 2) (.head _) (.tail _ (.head _)) rfl ⟨_, rfl⟩ rfl ⟨_, rfl⟩ ?_ ?_ ?_ ?_
    · rintro i m n ⟨_, _, _, _, _, _, rfl⟩
      exact ⟨.head _, .tail _ (.head _)⟩
    · intro Q' hq
      k_steps
      exact hq
    · rintro i x y T' m₁ news₁ h10 tk10 p1 p2 p3 p4 p5 hx hy ⟨o4, o3, y4, y3, q4, q3, rfl⟩ hoff hTT F10 N10
      clear F9 N9
      obtain ⟨nn, tn, ww, tw, rfl, rfl, hnw, hw⟩ := zip_item hB0 hB1 hw0 hw1 hx hy
      clear hx hy
      obtain ⟨a1, b1⟩ := p1
      obtain ⟨a2, b2⟩ := p2
      obtain ⟨a3, b3⟩ := p3
      obtain ⟨a4, b4⟩ := p4
      obtain ⟨a5, b5⟩ := p5
      have na1 : @Ne Nat a1 (s₁.heap.objs.size + 1 + 1 + 1 + 1) := fun q => hoff _ (.tail _ (.tail _ (.head _))) _ (.head _) q.symm
      have na2 : @Ne Nat a2 (s₁.heap.objs.size + 1 + 1 + 1 + 1) := fun q => hoff _ (.tail _ (.tail _ (.head _))) _ (.tail _ (.head _)) q.symm
      have na3 : @Ne Nat a3 (s₁.heap.objs.size + 1 + 1 + 1 + 1) := fun q => hoff _ (.tail _ (.tail _ (.head _))) _ (.tail _ (.tail _ (.head _))) q.symm
      have na4 : @Ne Nat a4 (s₁.heap.objs.size + 1 + 1 + 1 + 1) := fun q => hoff _ (.tail _ (.tail _ (.head _))) _ (.tail _ (.tail _ (.tail _ (.head _)))) q.symm
      have na5 : @Ne Nat a5 (s₁.heap.objs.size + 1 + 1 + 1 + 1) := fun q => hoff _ (.tail _ (.tail _ (.head _))) _ (.tail _ (.tail _ (.tail _ (.tail _ (.head _))))) q.symm
      have nb1 : @Ne Nat a1 (s₁.heap.objs.size + 1 + 1 + 1) := fun q => hoff _ (.tail _ (.tail _ (.tail _ (.head _)))) _ (.head _) q.symm
      have nb2 : @Ne Nat a2 (s₁.heap.objs.size + 1 + 1 + 1) := fun q => hoff _ (.tail _ (.tail _ (.tail _ (.head _)))) _ (.tail _ (.head _)) q.symm
      have nb3 : @Ne Nat a3 (s₁.heap.objs.size + 1 + 1 + 1) := fun q => hoff _ (.tail _ (.tail _ (.tail _ (.head _)))) _ (.tail _ (.tail _ (.head _))) q.symm
      have nb4 : @Ne Nat a4 (s₁.heap.objs.size + 1 + 1 + 1) := fun q => hoff _ (.tail _ (.tail _ (.tail _ (.head _)))) _ (.tail _ (.tail _ (.tail _ (.head _)))) q.symm
      have nb5 : @Ne Nat a5 (s₁.heap.objs.size + 1 + 1 + 1) := fun q => hoff _ (.tail _ (.tail _ (.tail _ (.head _)))) _ (.tail _ (.tail _ (.tail _ (.tail _ (.head _))))) q.symm
      (try k_fold)
      refine unit_cut (fun s' => ∃ o3', o3'.data = Data.cell (some (Value.int ww tw)) ∧ At s₁ s₁.heap s₁.heap.objs.size (fun y => if y = Str.ofString "number" then some (Value.int nn tn) else m₁ y) [(a1, b1), (a2, b2), (a3, b3), (a4, b4), (a5, b5), (pa, { cls := .type "tuple", data := .seq #[Value.int (numVal m0 e0) ti, Value.int (numVal m1 e1) tj] }), (wa, listOf #[Value.int w0 x0, Value.int w1 x1] 0), (s₁.heap.objs.size + 1 + 1 + 1 + 1, o4), (s₁.heap.objs.size + 1 + 1 + 1, o3')] s') ?_ ?_
      · k_steps
        exact ⟨_, by assumption, At.intro (by assumption) (by assumption)⟩
      rintro _ s' ⟨o3', hd3, h11, tk11, rfl, F11, N11⟩
      clear F10 N10
      (try k_fold)
      refine exec_cut (fun s' => ∃ o4' tl, o4'.data = Data.cell (some (Value.int (nn.fmod 4294967296) tl)) ∧ At s₁ s₁.heap s₁.heap.objs.size (fun y => if y = Str.ofString "number" then some (Value.int nn tn) else m₁ y) [(a1, b1), (a2, b2), (a3, b3), (a4, b4), (a5, b5), (pa, { cls := .type "tuple", data := .seq #[Value.int (numVal m0 e0) ti, Value.int (numVal m1 e1) tj] }), (wa, listOf #[Value.int w0 x0, Value.int w1 x1] 0), (s₁.heap.objs.size + 1 + 1 + 1 + 1, o4'), (s₁.heap.objs.size + 1 + 1 + 1, o3')] s') ?_ ?_
      · k_steps
        exact ⟨rfl, _, _, by assumption, At.intro (by assumption) (by assumption)⟩
      rintro s' ⟨o4', tl, hd4, h12, tk12, rfl, F12, N12⟩
      clear F11 N11
      (try k_fold)
      refine exec_cut (fun s' => At s₁ s₁.heap s₁.heap.objs.size (fun y => if y = Str.ofString "number" then some (Value.int nn tn) else m₁ y) [(a1, b1), (a2, b2), (a3, b3), (a4, b4), (a5, b5), (pa, { cls := .type "tuple", data := .seq #[Value.int (numVal m0 e0) ti, Value.int (numVal m1 e1) tj] }), (wa, listOf #[Value.int w0 x0, Value.int w1 x1] 0), (s₁.heap.objs.size + 1 + 1 + 1 + 1, o4'), (s₁.heap.objs.size + 1 + 1 + 1, o3')] s') ?_ ?_
      · k_steps
        show wpAny _ _ _ _ _ _
        refine' (filemode_spec _ _ _ _ _ _ (low_ok nn).1 (low_ok nn).2).goV ?k1 ?k2 ?k3 ?k4 ?k5 ?kK ?kd ?ku ?_
        walk_at "mine law"
        intro t13 h13 tk13 F13 N13
        clear F12 N12
        rw [mode_wish hnw]
        k_steps
        show wpAny _ _ _ _ _ _
        refine' (signs_spec _ _ _ _ _ _ hw.1 hw.2).goV ?k1 ?k2 ?k3 ?k4 ?k5 ?kK ?kd ?ku ?_
        walk_at "mine law"
        intro t14 h14 tk14 F14 N14
        clear F13 N13
        k_steps
        · rename_i hno
          exact absurd hno (by rw [bne_self_eq_false]; decide)
        · exact ⟨rfl, At.intro (by assumption) (by assumption)⟩
      rintro s' ⟨h13, tk13, rfl, F13, N13⟩
      clear F12 N12
      (try k_fold)
      refine exec_cut (fun s' => At s₁ s₁.heap s₁.heap.objs.size (fun y => if y = Str.ofString "number" then some (Value.int nn tn) else m₁ y) [(a1, b1), (a2, b2), (a3, b3), (a4, b4), (a5, b5), (pa, { cls := .type "tuple", data := .seq #[Value.int (numVal m0 e0) ti, Value.int (numVal m1 e1) tj] }), (wa, listOf #[Value.int w0 x0, Value.int w1 x1] 0), (s₁.heap.objs.size + 1 + 1 + 1 + 1, o4'), (s₁.heap.objs.size + 1 + 1 + 1, o3')] s') ?_ ?_
      · k_steps
        show wpAny _ _ _ _ _ _
        refine' (ifmt_spec _ _ _ _ _ _).goV ?k1 ?k2 ?k3 ?k4 ?k5 ?kK ?kd ?ku ?_
        walk_at "mine law"
        intro t14 h14 tk14 F14 N14
        clear F13 N13
        k_steps
        show wpAny _ _ _ _ _ _
        refine' (imode_spec _ _ _ _ _ _).goV ?k1 ?k2 ?k3 ?k4 ?k5 ?kK ?kd ?ku ?_
        walk_at "mine law"
        intro t15 h15 tk15 F15 N15
        clear F14 N14
        k_steps
        · rename_i F' N' l1 hyes
          exact ⟨rfl, At.intro F' (news_two N')⟩
        · rename_i hno
          exact absurd (low_both hnw) (by rw [hno]; decide)
      rintro s' ⟨h14, tk14, rfl, F14, N14⟩
      clear F13 N13
      (try k_fold)
      refine exec_cut (fun s' => ∃ sa ys, StrsAre ys (said ww 7) ∧ (∀ p ∈ [(a1, b1), (a2, b2), (a3, b3), (a4, b4), (a5, b5), (pa, { cls := .type "tuple", data := .seq #[Value.int (numVal m0 e0) ti, Value.int (numVal m1 e1) tj] }), (wa, listOf #[Value.int w0 x0, Value.int w1 x1] 0), (s₁.heap.objs.size + 1 + 1 + 1 + 1, o4'), (s₁.heap.objs.size + 1 + 1 + 1, o3')], p.1 ≠ sa) ∧ At s₁ s₁.heap s₁.heap.objs.size (fun y => if y = Str.ofString "said" then some (Value.ref sa) else if y = Str.ofString "number" then some (Value.int nn tn) else m₁ y) ((sa, LCg.lst ys) :: [(a1, b1), (a2, b2), (a3, b3), (a4, b4), (a5, b5), (pa, { cls := .type "tuple", data := .seq #[Value.int (numVal m0 e0) ti, Value.int (numVal m1 e1) tj] }), (wa, listOf #[Value.int w0 x0, Value.int w1 x1] 0), (s₁.heap.objs.size + 1 + 1 + 1 + 1, o4'), (s₁.heap.objs.size + 1 + 1 + 1, o3')]) s') ?_ ?_
      · refine' assign_tup (h₀ := s₁.heap) (L := s₁.heap.objs.size) (m := (fun y => if y = Str.ofString "number" then some (Value.int nn tn) else m₁ y)) (news := [(a1, b1), (a2, b2), (a3, b3), (a4, b4), (a5, b5), (pa, { cls := .type "tuple", data := .seq #[Value.int (numVal m0 e0) ti, Value.int (numVal m1 e1) tj] }), (wa, listOf #[Value.int w0 x0, Value.int w1 x1] 0), (s₁.heap.objs.size + 1 + 1 + 1 + 1, o4'), (s₁.heap.objs.size + 1 + 1 + 1, o3')]) 7 (fun i v => ∃ f k, asks[i]? = some (f, k) ∧ v = Value.ref f) (fun i ys => StrsAre ys (said ww i)) ?a1 ?a2 ?a3 ?a4 ?a5 ?a6 ?a7 ?a8 ?a9 ?b1 ?b2 ?b3 ?b4 ?b5 ?b6 ?b7
        case a1 => rfl
        case a2 => rfl
        case a3 => decide
        case a4 => with_unfolding_all rfl
        case a5 => with_unfolding_all rfl
        case a6 => decide
        case a7 => rfl
        case a8 => decide
        case a9 => rfl
        case b1 => rfl
        case b2 => rfl
        case b3 =>
          k_steps
          exact ⟨_, _, _, _, rfl, rfl, by assumption, by assumption, rfl, asks_items⟩
        case b4 => exact .nil
        case b5 =>
          rintro i ys v T' o I oI C oC D' m₂ h tk E' hi hJ ⟨f, k, hfk, rfl⟩ hC hx F15 N15 off ne
          clear F14 N14
          rename World => wX
          have hkp := ask_keep wX (asks_mem hfk)
          (try k_fold)
          k_steps
          show wpAny _ _ _ _ _ _
          refine' (ask_spec _ _ _ _ (asks_mem hfk) _ _).goV ?k1 ?k2 ?k3 ?k4 ?k5 ?kK ?kd ?ku ?_
          walk_at "mine law"
          intro t16 h16 tk16 F16 N16
          rw [low_kind hnw]
          clear F15 N15
          k_steps
          exact FEnd.intro (by assumption) (by assumption) (said_next hfk hJ rfl)
        case b6 =>
          intro ys D' h tk hJ F15 N15 ne
          exact ⟨rfl, D', ys, hJ, ne, At.intro F15 N15⟩
        case b7 => intro _; rfl
      rintro s' ⟨sa, ys, hys, nsa, h15, tk15, rfl, F15, N15⟩
      clear F14 N14
      (try k_fold)
      refine exec_cut (fun s' => ∃ m16, At s₁ s₁.heap s₁.heap.objs.size m16 [(a1, b1), (a2, b2), (a3, b3), (a4, b4), (a5, b5), (pa, { cls := .type "tuple", data := .seq #[Value.int (numVal m0 e0) ti, Value.int (numVal m1 e1) tj] }), (wa, listOf #[Value.int w0 x0, Value.int w1 x1] 0), (s₁.heap.objs.size + 1 + 1 + 1 + 1, o4'), (s₁.heap.objs.size + 1 + 1 + 1, o3')] s') ?_ ?_
      · k_steps
        show wpAny _ _ _ _ _ _
        refine' comp_tup (h₀ := s₁.heap) (L := s₁.heap.objs.size) (m := (fun y => if y = Str.ofString "said" then some (Value.ref sa) else if y = Str.ofString "number" then some (Value.int nn tn) else m₁ y)) (news := (sa, LCg.lst ys) :: [(a1, b1), (a2, b2), (a3, b3), (a4, b4), (a5, b5), (pa, { cls := .type "tuple", data := .seq #[Value.int (numVal m0 e0) ti, Value.int (numVal m1 e1) tj] }), (wa, listOf #[Value.int w0 x0, Value.int w1 x1] 0), (s₁.heap.objs.size + 1 + 1 + 1 + 1, o4'), (s₁.heap.objs.size + 1 + 1 + 1, o3')]) 7 (fun i v => ∃ f k t, asks[i]? = some (f, k) ∧ v = Value.int k t) (fun i ys => StrsAre ys (said ww i)) ?a1 ?a2 ?a3 ?a4 ?a5 ?a6 ?a7 ?a8 ?a9 ?b1 ?b2 ?b3
        case a1 => rfl
        case a2 => decide
        case a3 => with_unfolding_all rfl
        case a4 => decide
        case a5 => rfl
        case a6 => decide
        case a7 => rfl
        case a8 =>
          k_steps
          exact ⟨_, _, _, _, rfl, rfl, by assumption, by assumption, rfl, kinds_items⟩
        case a9 => exact .nil
        case b1 =>
          rintro i zs v T' o I oI C oC D' m₂ h tk E' hi hJ ⟨f, k, tq, hfk, rfl⟩ hC hx F16 N16 off ne
          clear F15 N15
          (try k_fold)
          k_steps
          exact FEnd.intro (by assumption) (by assumption) (said_next hfk hJ rfl)
        case b2 =>
          intro zs D' h tk hJ F16 N16 ne
          refine ne_said (News.isList N16 (.tail _ (.head _))) (News.isList N16 (.head _)) hys hJ (Nat.le_of_ble_eq_true rfl) ?_
          clear F15 N15
          k_steps
          exact ⟨rfl, _, At.intro F16 (news_two N16)⟩
        case b3 => intro _; rfl
      rintro s' ⟨m16, h16, tk16, rfl, F16, N16⟩
      clear F15 N15
      k_steps
      exact PostP.next _ F16 N16 (off_swap hoff) ⟨o4', o3', _, _, hd4, hd3, rfl⟩
    · rintro h' tk m' news' F10 N10 _
      clear F9 N9
      k_steps
      exact ⟨rfl, h', m', rfl, F10⟩
  · rintro s' ⟨h10, m10, e10, F10⟩
    rw [e10]
    clear F9 N9
    k_steps)

end
end
end Mine
end

theorem PySem.Challenge.cw_mr0156_01_holds : PySem.Challenge.rw_mr0156_01.Holds := by
  exact Mine.x
