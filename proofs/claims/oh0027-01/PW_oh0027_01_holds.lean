import PyProof.Rows.All
import Wide.All
import OpenK.AllK
import Wide.FinOn
import PySem.Challenge.RW_oh0027_01
set_option Elab.async false
set_option linter.unusedVariables false
section
open PySem PySem.W PyProof.Rows
set_option maxRecDepth 100000
set_option maxHeartbeats 8000000
namespace Mine
open_top hd for PySem.Challenge.rw_oh0027_01
end Mine
end
section
local macro_rules | `(tactic| walk_at $s:str) => `(tactic| k_extra $s)
section
open PySem PySem.W PySem.Calls PyProof.Rows
set_option maxRecDepth 100000
set_option maxHeartbeats 4000000
namespace Mine
/-- room enough -/
structure Amb (A : Around) (d : Nat) : Prop where
  depth : A.depth + d < recursionLimit
  units : A.units + 20 * d + 20 < cLine
  handled : A.handled = none
theorem Amb.deeper {A : Around} {d : Nat} {env : Env} (h : Amb A (d + 1)) : Amb (A.deeper env) d :=
  ⟨by have := h.depth; show A.depth + 1 + d < _; omega, by have := h.units; show A.units + 3 + 20 * d + 20 < _; omega, h.handled⟩
theorem Amb.mono {A : Around} {d e : Nat} (h : Amb A d) (hle : e ≤ d) : Amb A e :=
  ⟨by have := h.depth; omega, by have := h.units; omega, h.handled⟩
theorem Amb.in1 {A : Around} {d : Nat} (h : Amb A (d + 1)) : Amb A.in1 d :=
  ⟨by have := h.depth; show A.depth + d < _; omega, by have := h.units; show A.units + 1 + 20 * d + 20 < _; omega, h.handled⟩
/-- what the base heap holds of the top -/
structure Gnd (w : World) (p : Program) (loose : List Str) (mg mb : Str → Option Value) (h : Heap) : Prop where
  X : (hd.heap_39 w.params).In h
  T : TopRead p loose mg mb h
theorem Gnd.keeps {w : World} {p : Program} {loose : List Str} {mg mb : Str → Option Value} {h h' : Heap} (G : Gnd w p loose mg mb h) (hk : ∀ b o, h.get? b = some o → h'.get? b = some o) :
    Gnd w p loose mg mb h' := ⟨G.X.keeps hk, G.T.keeps hk⟩
theorem enter_pure {prog : Program} {w : World} {A : Around} {s : Shared} {K : Frag} {Q E : Value → Shared → Prop}
    {name qual : Str} {params : Arguments} {body : List Stmt} {scope : Scope} {dV kV doc pm cdv ct oc : Value} {an od : Option Addr} {osl : Array (Option Value)} {f : Addr} {args : List Value} {binds : List (Str × Value)}
    (X : K.In s.heap) (hlim : s.heap.NoLimit) (hroom : A.depth < recursionLimit)
    (ho : K.lookup f = some ⟨oc, od, .func (fnOf name qual params body scope dV kV doc pm an cdv ct), osl⟩) (hcd : codeIn K cdv qual = true)
    (hbind : BindsTo s (fnOf name qual params body scope dV kV doc pm an cdv ct) ⟨args, []⟩ binds) (hloc : ∀ y ∈ binds, scope.names.lookup y.1 = some .local)
    (hcell : ∀ x ∈ scope.names, x.2 ≠ .cell)
    (hco : scope.isCoroutine = false) (hgen : scope.isGenerator = false) (hk : scope.kind = .function)
    (h : ∀ h₁ L tk, L = s.heap.objs.size → binds.length ≤ tk → Fr s.heap L h₁ (fun y => binds.reverse.lookup y) → News s.heap L h₁ [] →
      wpAny (model prog w) (A.deeper (envOf qual scope L f cdv)) (execs body (envOf qual scope L f cdv))
        (fun fl s' => Q (match fl with | .ret v => v | _ => .none) s') (fun _ _ => False)
        { s with heap := h₁, toks := tk }) :
    wpAny (model prog w) A (call (.ref f) args) Q E s := by
  refine wpAny_call (codeAny_call_def (fd := fnOf name qual params body scope dV kV doc pm an cdv ct) (body := body) (binds := binds) hroom (X _ _ ho) rfl hlim (codeRec_of X hcd) rfl hbind hcell hloc (fun h₁ hns hk₁ => ?_) hco hgen hk)
  exact wpAny_mono (h h₁ _ _ rfl (Nat.le_add_left _ _) ⟨hns, hk₁, Nat.le_refl _⟩ News.nil) (fun fl s' hl => hl) fun _ _ x => x.elim
end Mine
end
section
open PySem PySem.W PySem.Calls PyProof.Rows
set_option maxRecDepth 100000
set_option maxHeartbeats 4000000
namespace Mine
theorem post_abs {α : Type} {M : Model} {A : Around} {u : Sem α} {P : α → Shared → Prop} {E : Value → Shared → Prop} {s : Shared} (h : ∀ G : α → Shared → Prop, (∀ f s', P f s' → G f s') → wpAny M A u G E s) : wpAny M A u P E s := h P fun _ _ x => x
theorem turn_abs {α : Type} {M : Model} {A : Around} {t : Sem Unit} {u : Sem α} {P : α → Shared → Prop} {E E' : Value → Shared → Prop} {s : Shared} (h : ∀ G : α → Shared → Prop, (∀ f s', P f s' → G f s') → wpAny M A t (fun _ s₂ => wpAny M A u G E s₂) E' s) : wpAny M A t (fun _ s₂ => wpAny M A u P E s₂) E' s := h P fun _ _ x => x
/-- a goal that the walk leaves alone -/
noncomputable def Hold (P : Prop) : Prop := P
theorem hold_in {P : Prop} (h : Hold P) : P := h
section
variable {prog : Program} {w : World} {A : Around} {E : Value → Shared → Prop} {s : Shared} {env : Env} {h₀ : Heap} {L : Addr} {Q : Flow → Shared → Prop}
/-- the end of a turn -/
noncomputable def TEnd (h₀ : Heap) (L : Addr) (I : Addr) (oI : Obj) (J : (Str → Option Value) → List (Addr × Obj) → Prop) (s : Shared) (Q : Flow → Shared → Prop) (f : Flow) (s₃ : Shared) : Prop :=
  match f with
  | .ret v => Q (.ret v) s₃
  | .brk => Q .next s₃
  | _ => ∃ h' tk m' news', s₃ = { s with heap := h', toks := tk } ∧ Fr h₀ L h' m' ∧ News h₀ L h' ((I, oI) :: news') ∧ (∀ p ∈ news', p.1 ≠ I) ∧ J m' news'
theorem TEnd.next {I : Addr} {oI : Obj} {J : (Str → Option Value) → List (Addr × Obj) → Prop} {h' : Heap} {tk : Nat} {m' : Str → Option Value} {news' : List (Addr × Obj)}
    (F : Fr h₀ L h' m') (N : News h₀ L h' ((I, oI) :: news')) (hn : ∀ p ∈ news', p.1 ≠ I) (hj : J m' news') : TEnd h₀ L I oI J s Q .next { s with heap := h', toks := tk } :=
  ⟨h', tk, m', news', rfl, F, N, hn, hj⟩
noncomputable def LInv (h₀ : Heap) (L : Addr) (s : Shared) (I l : Addr) (n : Nat) (J : Nat → (Str → Option Value) → List (Addr × Obj) → Prop) (k : Nat) (s' : Shared) : Prop :=
  ∃ h' tk m' news' i, s' = { s with heap := h', toks := tk } ∧ h'.IsListIter I l i ∧ Fr h₀ L h' m' ∧ News h₀ L h' news' ∧ (∀ p ∈ news', p.1 ≠ I) ∧ J i m' news' ∧ i ≤ n ∧ k = n + 1 - i
/-- a for over a list, by an invariant over the frame's map and the ledger -/
theorem loop_list {target : Expr} {body orelse : List Stmt} {l : Addr} {items : Array Value} {m : Str → Option Value} {news : List (Addr × Obj)}
    (J : Nat → (Str → Option Value) → List (Addr × Obj) → Prop)
    (hh : A.handled = none) (hgo : ∀ (v : Value) (I : Addr) (i : Nat) (s' : Shared) (Q' : Unit → Shared → Prop) (E' : Value → Shared → Prop), v ∈ items.toList → s'.heap.IsListIter I l i → Q' () s' → wpAny (model prog w) A (letOwnedTupleGo target (.ref I) v) Q' E' s')
    (hl : ∀ i h' m' news', J i m' news' → Fr h₀ L h' m' → News h₀ L h' news' → h'.IsList l items)
    (F : Fr h₀ L s.heap m) (N : News h₀ L s.heap news) (h0 : J 0 m news)
    (step : ∀ i v m₁ news₁ h₁ tk₁ I oI, items[i]? = some v → J i m₁ news₁ → Fr h₀ L h₁ m₁ → News h₀ L h₁ ((I, oI) :: news₁) → (∀ p ∈ news₁, p.1 ≠ I) →
      wpAny (model prog w) A (assign target env v) (fun _ s₂ => wpAny (model prog w) A (execs body env)
        (TEnd h₀ L I oI (J (i + 1)) s Q) (fun _ _ => False) s₂) (fun _ _ => False) { s with heap := h₁, toks := tk₁ })
    (done : ∀ h' tk m' news', J items.size m' news' → Fr h₀ L h' m' → News h₀ L h' news' →
      wpAny (model prog w) A (execs orelse env) (fun f s₃ => Q f s₃) (fun _ _ => False) { s with heap := h', toks := tk }) :
    wpAny (model prog w) A (pyIter (.ref l)) (fun it s₂ => codeAny (model prog w) A (.forLoop target it body orelse env) (fun r s' => match r with | .ok f => Q f s' | .error e => cameBackBy (model prog w) A env E e s') s₂) E s := by
  have hls := hl 0 _ _ _ h0 F N
  refine wpAny_pyIter_list hls ?_
  obtain ⟨ol, hol, _⟩ := id hls
  have hlI : l ≠ s.heap.objs.size := Nat.ne_of_lt (Heap.lt_size hol)
  have hLI : L ≠ s.heap.objs.size := Nat.ne_of_lt F.ns.lt
  have hI0 : h₀.get? s.heap.objs.size = none := next_is_new F
  generalize hI : s.heap.objs.size = I at *
  refine codeAny_forLoop_any
    (LInv h₀ L s I l items.size J) ?_ (items.size + 1)
    ⟨_, s.toks, m, news, 0, rfl, ⟨_, hI ▸ Heap.get?_push_size _ rfl, rfl, rfl⟩, F.push _, (fun p hp => ⟨Heap.get?_push_of_some _ (N p hp).1, (N p hp).2⟩), (fun p hp => hI ▸ Nat.ne_of_lt (Heap.lt_size (N p hp).1)), h0, Nat.zero_le _, rfl⟩
  rintro k s' ⟨h', tk, m', news', i, rfl, hit, F', N', hnI, hJ, hi, rfl⟩
  have hls' := hl i h' m' news' hJ F' N'
  by_cases hlt : i < items.size
  · have hx : items[i]? = some items[i] := Array.getElem?_eq_getElem hlt
    refine wpAny_pyNext_list_item hit hls' hx fun h₁ hit₁ hs₁ => ?_
    have F₁ : Fr h₀ L h₁ m' := ⟨F'.ns.at' fun o e => (hs₁.2 _ hLI).trans e, fun b o e => (hs₁.2 b fun q => by rw [q, hI0] at e; cases e).trans (F'.keep b o e), F'.above⟩
    obtain ⟨oI, hoI, hcI, hdI⟩ := id hit₁
    have N₁ : News h₀ L h₁ ((I, oI) :: news') := fun p hp => by
      rcases List.mem_cons.mp hp with rfl | hp
      · exact ⟨hoI, hLI.symm, hI0⟩
      · exact ⟨(hs₁.2 p.1 (hnI p hp)).trans (N' p hp).1, (N' p hp).2⟩
    refine hgo _ I (i + 1) _ _ _ (by simp) hit₁ ?_
    refine wpAny_mono (step i _ m' news' h₁ tk I oI hx hJ F₁ N₁ hnI) (fun _ s₂ h₂ => wpAny_mono h₂ (fun f s₃ h₃ => ?_) fun _ _ x => x.elim) fun _ _ x => x.elim
    have fin : (∃ h' tk m' news', s₃ = { s with heap := h', toks := tk } ∧ Fr h₀ L h' m' ∧ News h₀ L h' ((I, oI) :: news') ∧ (∀ p ∈ news', p.1 ≠ I) ∧ J (i + 1) m' news') →
        ∃ k', k' < items.size + 1 - i ∧ LInv h₀ L s I l items.size J k' s₃ := by
      rintro ⟨h₃', tk₃, m₃, news₃, rfl, F₃, N₃, hn₃, hJ₃⟩
      exact ⟨items.size + 1 - (i + 1), by omega, h₃', tk₃, m₃, news₃, i + 1, rfl, ⟨oI, (N₃ _ (.head _)).1, hcI, hdI⟩, F₃, fun p hp => N₃ p (.tail _ hp), hn₃, hJ₃, hlt, rfl⟩
    cases f with
    | ret v => exact h₃
    | brk => exact h₃
    | next => exact fin h₃
    | cont => exact fin h₃
  · have hin : i = items.size := by omega
    subst hin
    refine wpAny_pyNext_list_end hh hit hls' (by simp) fun h₁ he₁ => ?_
    refine wpAny_mono (done h₁ tk m' news' hJ ⟨F'.ns.at' fun o e => he₁ _ o hLI e, fun b o e => he₁ b o (fun q => by rw [q, hI0] at e; cases e) (F'.keep b o e), F'.above⟩ fun p hp => ⟨he₁ _ _ (hnI p hp) (N' p hp).1, (N' p hp).2⟩) (fun _ _ x => x) fun _ _ x => x.elim
theorem go_name {x : Str} {px : Pos} {l : Addr} {items : Array Value} : ∀ (v : Value) (I : Addr) (i : Nat) (s' : Shared) (Q' : Unit → Shared → Prop) (E' : Value → Shared → Prop), v ∈ items.toList → s'.heap.IsListIter I l i → Q' () s' → wpAny (model prog w) A (letOwnedTupleGo (.Name x px) (.ref I) v) Q' E' s' :=
  fun _ _ _ _ _ _ _ _ h => wpAny_pure h
theorem go_tuple {elts : List Expr} {k : Nat} {pos : Pos} {l : Addr} {items : Array Value} (hr : ∀ v ∈ items.toList, ∃ a, v = .ref a) : ∀ (v : Value) (I : Addr) (i : Nat) (s' : Shared) (Q' : Unit → Shared → Prop) (E' : Value → Shared → Prop), v ∈ items.toList → s'.heap.IsListIter I l i → Q' () s' → wpAny (model prog w) A (letOwnedTupleGo (.Tuple elts k pos) (.ref I) v) Q' E' s' :=
  fun v I i s' Q' E' hv hit h => by obtain ⟨a, rfl⟩ := hr v hv; exact wpAny_letOwnedTupleGo_listiter hit h
end
theorem append_my {prog : Program} {w : World} {A : Around} {E : Value → Shared → Prop} {s : Shared} {h₀ : Heap} {L D : Addr} {m : Str → Option Value} {news : List (Addr × Obj)} {its : Array Value} {n : Nat} {x : Value} {Q : Value → Shared → Prop}
    (news' : List (Addr × Obj)) (F : Fr h₀ L s.heap m) (N : News h₀ L s.heap news) (hD : (D, listOf its n) ∈ news) (hn : ∀ p ∈ news', p = (D, listOf (its.push x) (n + 1)) ∨ (p ∈ news ∧ p.1 ≠ D)) (hsz : its.size ≤ sizeLine)
    (h : ∀ h', Fr h₀ L h' m → News h₀ L h' news' → Q .none { s with heap := h' }) : wpAny (model prog w) A (call (.builtin "list.append") [.ref D, x]) Q E s := by
  have z := N _ hD
  refine append_at (hsz := hsz) z.1 fun h' hs ho' => h h' (F.change hs z.2.1 z.2.2) fun p hp => ?_
  rcases hn p hp with rfl | ⟨hp, hne⟩
  · exact ⟨ho', z.2⟩
  · exact ⟨(hs.2 p.1 hne).trans (N p hp).1, (N p hp).2⟩
theorem append_tup {prog : Program} {w : World} {A : Around} {E : Value → Shared → Prop} {s : Shared} {h₀ : Heap} {L D D' I : Addr} {oD oI : Obj} {m : Str → Option Value} {tl : List (Addr × Obj)} {its : Array Value} {n : Nat} {x : Value} {Q : Value → Shared → Prop}
    (F : Fr h₀ L s.heap m) (N : News h₀ L s.heap ((D', oD) :: (I, oI) :: (D, listOf its n) :: tl)) (h1 : D' ≠ D) (h2 : I ≠ D) (h3 : ∀ p ∈ tl, p.1 ≠ D) (hsz : its.size ≤ sizeLine)
    (h : ∀ h', Fr h₀ L h' m → News h₀ L h' ((I, oI) :: (D, listOf (its.push x) (n + 1)) :: (D', oD) :: tl) → Q .none { s with heap := h' }) : wpAny (model prog w) A (call (.builtin "list.append") [.ref D, x]) Q E s := by
  refine append_my _ F N (.tail _ (.tail _ (.head _))) (fun q hq => ?_) hsz h
  rcases List.mem_cons.mp hq with rfl | hq
  · exact .inr ⟨.tail _ (.head _), h2⟩
  rcases List.mem_cons.mp hq with rfl | hq
  · exact .inl rfl
  rcases List.mem_cons.mp hq with rfl | hq
  · exact .inr ⟨.head _, h1⟩
  · exact .inr ⟨.tail _ (.tail _ (.tail _ hq)), h3 q hq⟩
theorem join_next {M : Model} {A : Around} {E : Value → Shared → Prop} {s : Shared} {t : Sem Flow} {Q : Flow → Shared → Prop} (P : Shared → Prop)
    (h1 : wpAny M A t (fun f s' => f = .next ∧ P s') (fun _ _ => False) s) (h2 : ∀ s', P s' → Q .next s') : wpAny M A t Q E s :=
  wpAny_mono h1 (fun f s' h => by obtain ⟨rfl, h⟩ := h; exact h2 s' h) fun _ _ h => h.elim
/-- a map with some names' values written ahead -/
noncomputable def withs (m : Str → Option Value) : List (Str × Value) → Str → Option Value
  | [] => m
  | (x, v) :: r => fun y => if y = x then some v else withs m r y
noncomputable def Has (m : Str → Option Value) (ps : List (Str × Value)) : Prop := ∀ q ∈ ps, m q.1 = some q.2
theorem withs_eq {m : Str → Option Value} : ∀ {ps : List (Str × Value)}, Has m ps → withs m ps = m
  | [], _ => rfl
  | (x, v) :: r, h => by
    funext y
    have ih := withs_eq (ps := r) fun q hq => h q (.tail _ hq)
    show (if y = x then some v else withs m r y) = m y
    rw [ih]
    by_cases e : y = x
    · rw [if_pos e, e]; exact (h (x, v) (.head _)).symm
    · rw [if_neg e]
theorem fr_has {h₀ h : Heap} {L : Addr} {m : Str → Option Value} {ps : List (Str × Value)} (F : Fr h₀ L h m) (hm : Has m ps) : Fr h₀ L h (withs m ps) := by rw [withs_eq hm]; exact F
theorem Has.nil {m : Str → Option Value} : Has m [] := fun _ h => nomatch h
theorem Has.cons {m : Str → Option Value} {x : Str} {v : Value} {r : List (Str × Value)} (h : m x = some v) (hr : Has m r) : Has m ((x, v) :: r) := fun q hq => by
  rcases List.mem_cons.mp hq with rfl | hq
  · exact h
  · exact hr q hq
end Mine
end
section
open PySem PySem.W PySem.Calls PyProof.Rows
set_option maxRecDepth 100000
set_option maxHeartbeats 4000000
namespace Mine
abbrev S (l : List Nat) : Str := ⟨l.toArray⟩
theorem c_three {w : World} {p : Program} {loose : List Str} {mg mb : Str → Option Value} {A : Around} {s : Shared} {Q E : Value → Shared → Prop} {x y : Str} {tx ty : Tok}
    (hA : Amb A 1) (G : Gnd w p loose mg mb s.heap)
    (ret : ∀ t h' tk', s.heap.StaysIn h' → Q (.int (b2i (decide (y.cps.toList < x.cps.toList)) - b2i (decide (x.cps.toList < y.cps.toList))) t) { s with heap := h', toks := tk' }) :
    wpAny (model PySem.Challenge.rw_oh0027_01.row.prog w) A (call (.ref 28) [.str x tx, .str y ty]) Q E s := by
  k_with_none
  obtain ⟨X, T⟩ := G
  revert X; k_fill; intro X
  refine' enter_pure (binds := [(Str.ofString "x", .str x tx), (Str.ofString "y", .str y ty)]) X T.nolimit ?k1 ?k2 ?k3 ?k4 ?k5 ?c0 ?c1 ?c2 ?c3 ?_
  ( (case k1 => first | exact Nat.lt_of_le_of_lt (Nat.le_add_right _ _) (Amb.depth (by assumption)) | fail "room"); (case k2 => k_is); (case k3 => k_is); (case k4 => exact BindsTo.of_eq rfl); (case k5 => exact locs rfl); (case c0 => decide); (case c1 => exact rfl); (case c2 => exact rfl); (case c3 => exact rfl))
  intro h₁ L tk hL htk F N
  k_fold
  k_steps
  exact ret _ _ _ F.keep
theorem nat_of {x : Int} {n : Nat} (h0 : 0 ≤ x) (h1 : x < n) : ∃ k : Nat, k < n ∧ x = (k : Int) := ⟨x.toNat, by omega, by omega⟩
theorem item_tab : ∀ n : Nat, n < 16 → Txt.item (Str.ofString "&<>\"\x0d\n\t!#%'a;\x01q") (n : Int) = S [[38, 60, 62, 34, 13, 10, 9, 33, 35, 37, 39, 97, 59, 1, 113].getD n 0] ∨ n = 15 := by decide +kernel
theorem item_one {y : Int} : ∃ c, Txt.item (Str.ofString "&<>\"\x0d\n\t!#%'a;\x01q") (y.fmod 16) = S [c] ∨ y.fmod 16 = 15 := by
  obtain ⟨n, hn, e⟩ := nat_of (x := y.fmod 16) (n := 16) (Int.fmod_nonneg_of_pos y (by decide)) (Int.fmod_lt_of_pos y (by decide))
  rw [e]
  rcases item_tab n hn with h | h
  · exact ⟨_, .inl h⟩
  · exact ⟨0, .inr (by rw [h]; rfl)⟩
theorem c_sign {w : World} {p : Program} {loose : List Str} {mg mb : Str → Option Value} {A : Around} {s : Shared} {Q E : Value → Shared → Prop} {y : Int} {ty : Tok}
    (hA : Amb A 1) (G : Gnd w p loose mg mb s.heap)
    (ret : ∀ c t h' tk', s.heap.StaysIn h' → Q (.str (S [c]) t) { s with heap := h', toks := tk' }) :
    wpAny (model PySem.Challenge.rw_oh0027_01.row.prog w) A (call (.ref 96) [.int y ty]) Q E s := by
  k_with_none
  obtain ⟨X, T⟩ := G
  revert X; k_fill; intro X
  refine' enter_pure (binds := [(Str.ofString "y", .int y ty)]) X T.nolimit ?k1 ?k2 ?k3 ?k4 ?k5 ?c0 ?c1 ?c2 ?c3 ?_
  ( (case k1 => first | exact Nat.lt_of_le_of_lt (Nat.le_add_right _ _) (Amb.depth (by assumption)) | fail "room"); (case k2 => k_is); (case k3 => k_is); (case k4 => exact BindsTo.of_eq rfl); (case k5 => exact locs rfl); (case c0 => decide); (case c1 => exact rfl); (case c2 => exact rfl); (case c3 => exact rfl))
  intro h₁ L tk hL htk F N
  k_fold
  k_steps
  · exact ret _ _ _ _ F.keep
  · rename_i hne _
    obtain ⟨c, hc | hc⟩ := item_one (y := y)
    · rw [hc]; exact ret _ _ _ _ F.keep
    · exact absurd hc hne
section
variable {w : World} {p : Program} {loose : List Str} {mg mb : Str → Option Value} {A : Around} {s : Shared} {Q E : Value → Shared → Prop} {h₀ : Heap} {L : Addr} {m : Str → Option Value} {news : List (Addr × Obj)}
theorem c_signK {y : Int} {ty : Tok} (hA : Amb A 1) (X : (hd.heap_39 w.params).In h₀) (T : TopRead p loose mg mb h₀) (F : Fr h₀ L s.heap m) (N : News h₀ L s.heap news)
    (ret : ∀ c t h' tk', Fr h₀ L h' m → News h₀ L h' news → Q (.str (S [c]) t) { s with heap := h', toks := tk' }) :
    wpAny (model PySem.Challenge.rw_oh0027_01.row.prog w) A (call (.ref 96) [.int y ty]) Q E s :=
  c_sign hA ⟨X.keeps F.keep, T.keeps F.keep⟩ fun c t h' tk' k => ret c t h' tk' (F.kept k) (N.grown k)
end
abbrev FileD := List Nat × Int × Int
/-- the ledger bears a file's tuple -/
noncomputable def FileIn (led : List (Addr × Obj)) (v : Value) (f : FileD) : Prop :=
  ∃ a t1 t2 t3, v = .ref a ∧ (a, seqObj "tuple" #[.str (S f.1) t1, .int f.2.1 t2, .int f.2.2 t3] 0) ∈ led
noncomputable def FileOk (k : Nat) (f : FileD) : Prop := f.1.length ≤ k ∧ 0 ≤ f.2.1 ∧ f.2.1 < 65536
theorem S_append (a b : List Nat) : S a ++ S b = S (a ++ b) := by
  show (⟨a.toArray ++ b.toArray⟩ : Str) = ⟨(a ++ b).toArray⟩
  rw [List.append_toArray]
theorem FileIn.mono {led led' : List (Addr × Obj)} (hs : ∀ q ∈ led, q ∈ led') {v : Value} {f : FileD} (h : FileIn led v f) : FileIn led' v f := by
  obtain ⟨a, t1, t2, t3, e, hm⟩ := h
  exact ⟨a, t1, t2, t3, e, hs _ hm⟩
noncomputable def FilesJ (l' : Addr) (i : Nat) (m : Str → Option Value) (news : List (Addr × Obj)) : Prop :=
  ∃ nm t vs' n fs tl, Has m [(Str.ofString "name", .str (S nm) t), (Str.ofString "files", .ref l')] ∧ news = (l', listOf (List.toArray vs') n) :: tl ∧ (∀ p ∈ tl, p.1 ≠ l') ∧
    Paired (FileIn tl) vs' fs ∧ fs.length = i ∧ (∀ f ∈ fs, FileOk i f) ∧ nm.length ≤ i
theorem files_end {s : Shared} {Q : Flow → Shared → Prop} {h₀ h' : Heap} {L l' D' I : Addr} {oI : Obj} {m' : Str → Option Value} {nm : List Nat} {t t1 t2 t3 : Tok} {k j : Int} {vs' : List Value} {n i tk : Nat} {fs : List FileD} {tl : List (Addr × Obj)}
    (F' : Fr h₀ L h' m') (N' : News h₀ L h' ((I, oI) :: (l', listOf (vs'.toArray.push (.ref D')) n) :: (D', seqObj "tuple" #[.str (S nm) t1, .int (k.fmod 65536) t2, .int j t3] 0) :: tl))
    (hm : Has m' [(Str.ofString "name", .str (S nm) t), (Str.ofString "files", .ref l')]) (h1 : l' < D') (h2 : I < D') (h3 : l' ≠ I) (h4 : ∀ p ∈ tl, p.1 ≠ I) (htl : ∀ p ∈ tl, p.1 ≠ l')
    (hp : Paired (FileIn tl) vs' fs) (hf : fs.length = i) (hok : ∀ f ∈ fs, FileOk i f) (hnm : nm.length ≤ i + 1) :
    TEnd h₀ L I oI (FilesJ l' (i + 1)) s Q .next { s with heap := h', toks := tk } := by
  refine TEnd.next F' N' (fun q hq => ?_) ⟨nm, t, vs' ++ [.ref D'], n, fs ++ [(nm, k.fmod 65536, j)], (D', seqObj "tuple" #[.str (S nm) t1, .int (k.fmod 65536) t2, .int j t3] 0) :: tl, hm, by simp, fun q hq => ?_, ?_, by simp [hf], fun f hf' => ?_, hnm⟩
  · rcases List.mem_cons.mp hq with rfl | hq
    · exact h3
    rcases List.mem_cons.mp hq with rfl | hq
    · exact Nat.ne_of_gt h2
    · exact h4 q hq
  · rcases List.mem_cons.mp hq with rfl | hq
    · exact Nat.ne_of_gt h1
    · exact htl q hq
  · exact Paired.snoc (hp.mono fun _ _ h => h.mono fun q hq => .tail _ hq) ⟨D', t1, t2, t3, rfl, .head _⟩
  · rcases List.mem_append.mp hf' with h | h
    · have := hok f h
      exact ⟨Nat.le_succ_of_le this.1, this.2⟩
    · rw [List.mem_singleton.mp h]
      exact ⟨hnm, Int.fmod_nonneg_of_pos _ (by decide), Int.fmod_lt_of_pos _ (by decide)⟩
noncomputable def FileP (h₀ : Heap) (L : Addr) (s : Shared) (I : Addr) (oI : Obj) (l' : Addr) (lo : Obj) (tl : List (Addr × Obj)) (i : Nat) (k : Int) (t' : Tok) (s' : Shared) : Prop :=
  ∃ h' tk' nm' t m', s' = { s with heap := h', toks := tk' } ∧ nm'.length ≤ i + 1 ∧ Has m' [(Str.ofString "name", .str (S nm') t), (Str.ofString "files", .ref l'), (Str.ofString "x", .int k t')] ∧ Fr h₀ L h' m' ∧ News h₀ L h' ((I, oI) :: (l', lo) :: tl)
theorem FileP.mk {h₀ h' : Heap} {L I l' : Addr} {s : Shared} {oI lo : Obj} {tl : List (Addr × Obj)} {i tk' : Nat} {k : Int} {t t' : Tok} {nm' : List Nat} {m' : Str → Option Value} (F : Fr h₀ L h' m') (N : News h₀ L h' ((I, oI) :: (l', lo) :: tl)) (hl : nm'.length ≤ i + 1)
    (hm : Has m' [(Str.ofString "name", .str (S nm') t), (Str.ofString "files", .ref l'), (Str.ofString "x", .int k t')]) : FileP h₀ L s I oI l' lo tl i k t' { s with heap := h', toks := tk' } := ⟨h', tk', nm', t, m', rfl, hl, hm, F, N⟩
theorem c_files {w : World} {p : Program} {loose : List Str} {mg mb : Str → Option Value} {A : Around} {s : Shared} {Q E : Value → Shared → Prop} {l : Addr} {vs : List Value} {ns : List Int}
    (hA : Amb A 2) (G : Gnd w p loose mg mb s.heap) (hl : s.heap.IsList l vs.toArray) (hi : IntsAre vs ns) (hn : ns.length ≤ 8)
    (ret : ∀ a n vs' fs tl h' tk', s.heap.StaysIn h' → (∀ q ∈ (a, listOf vs' n) :: tl, h'.get? q.1 = some q.2 ∧ s.heap.get? q.1 = none) → Paired (FileIn tl) vs'.toList fs → fs.length = ns.length → (∀ f ∈ fs, FileOk 8 f) →
      Q (.ref a) { s with heap := h', toks := tk' }) :
    wpAny (model PySem.Challenge.rw_oh0027_01.row.prog w) A (call (.ref 103) [.ref l]) Q E s := by
  k_with_none
  k_with "exec For" => (refine hold_in ?_)
  k_with "exec For Name Name cons nil" => (refine hold_in ?_)
  k_with "exec If" => (((with_reducible show wpAny _ _ (exec (Stmt.If (Expr.Compare _ [CmpOp.Eq] [Expr.Constant (Const.int 0) _ _] _) _ _ _) _) _ _ _); (fail_if_success (with_reducible show wpAny _ _ _ (fun f s' => f = Flow.next ∧ _) _ _)); refine hold_in ?_))
  k_with "call ref" => (((with_reducible show wpAny _ _ (call (Value.ref 96) _) _ _ _); (refine c_signK (by first | assumption | exact Amb.deeper (by assumption)) (by assumption) (by assumption) (by k_asm) (by k_asm) ?_); intro _ _ _ _ _ _; (try k_sweep)))
  obtain ⟨X, T⟩ := G
  revert X; k_fill; intro X
  refine' enter_pure (binds := [(Str.ofString "numbers", .ref l)]) X T.nolimit ?k1 ?k2 ?k3 ?k4 ?k5 ?c0 ?c1 ?c2 ?c3 ?_
  ( (case k1 => first | exact Nat.lt_of_le_of_lt (Nat.le_add_right _ _) (Amb.depth (by assumption)) | fail "room"); (case k2 => k_is); (case k3 => k_is); (case k4 => exact BindsTo.of_eq rfl); (case k5 => exact locs rfl); (case c0 => decide); (case c1 => exact rfl); (case c2 => exact rfl); (case c3 => exact rfl))
  intro h₁ L tk hL htk F N
  k_fold
  k_steps
  unfold Hold
  rename_i l' _ _ _ _ F' N'
  refine wpAny_For ?_ (by intro _; rfl)
  refine ld F' rfl ?_
  refine loop_list (FilesJ l') hA.handled go_name (fun _ h' _ _ _ F _ => hl.at fun o e => F.keep _ o e) F' N'
    ⟨[], _, [], _, [], [], Has.cons rfl (Has.cons rfl Has.nil), rfl, (fun _ h => nomatch h), .nil, rfl, (fun _ h => nomatch h), Nat.le_refl _⟩ ?_ ?_
  · intro i v m₁ news₁ h₁ tk₁ I oI hx hJ F₁ N₁ hI
    refine turn_abs fun G hG => ?_
    obtain ⟨nm, t, vs', n, fs, tl, hm, rfl, htl, hp, hf, hok, hnm⟩ := hJ
    obtain ⟨k, t', rfl, hk⟩ := hi.at i v (by simpa using hx)
    replace F₁ := fr_has F₁ hm
    simp only [withs] at F₁
    clear F' N'
    have hi8 : i < 8 := by
      have := (List.getElem?_eq_some_iff.mp hk).1
      omega
    have hnl : (S nm).length ≤ 8 := by show nm.toArray.size ≤ 8; rw [List.size_toArray]; exact Nat.le_trans hnm (Nat.le_of_lt hi8)
    have hvl : vs'.length = i := by rw [hp.length, hf]
    have hsz : vs'.toArray.size ≤ sizeLine := by rw [List.size_toArray, hvl, sizeLine_eq]; exact Nat.le_trans (Nat.le_of_lt hi8) (by decide)
    try k_fold
    (repeat' (first | (k_unfold; (try dsimp only)) | (walk1; (all_goals try dsimp only)) | (dsimp only; walk1)))
    unfold Hold
    rename_i F' N'
    (try clear F₁); (try clear N₁)
    refine join_next (FileP s.heap L s I oI l' (listOf (List.toArray vs') n) tl i k t') ?_ ?_
    · (repeat' (first | (k_unfold; (try dsimp only)) | (walk1; (all_goals try dsimp only)) | (dsimp only; walk1)))
      · (with_reducible rename Fr _ _ _ _ => F₂); (with_reducible rename News _ _ _ _ => N₂)
        exact FileP.mk F₂ N₂ (Nat.le_add_left _ _) (Has.cons rfl (Has.cons rfl (Has.cons rfl Has.nil)))
      · (with_reducible rename Fr _ _ _ _ => F₂); (with_reducible rename News _ _ _ _ => N₂)
        rw [S_append] at F₂
        exact FileP.mk F₂ N₂ (by rw [List.length_append]; exact Nat.add_le_add_right hnm _) (Has.cons rfl (Has.cons rfl (Has.cons rfl Has.nil)))
      · (with_reducible rename Fr _ _ _ _ => F₂); (with_reducible rename News _ _ _ _ => N₂)
        exact FileP.mk F₂ N₂ (Nat.le_succ_of_le hnm) (Has.cons rfl (Has.cons rfl (Has.cons rfl Has.nil)))
    · clear F' N'
      rintro s' ⟨h₂, tk₂, nm', t₂, m₂, rfl, hnm', hm₂, F₂, N₂⟩
      replace F₂ := fr_has F₂ hm₂
      simp only [withs] at F₂
      clear hm hm₂
      show wpAny _ _ _ _ _ _
      (repeat' (first | (k_unfold; (try dsimp only)) | (walk1; (all_goals try dsimp only)) | (dsimp only; walk1)))
      rename_i D' _ F' N' l1
      refine append_tup F' N' (Nat.ne_of_gt l1.2.1) (fun e => hI _ (.head _) e.symm) htl hsz ?_
      clear F' N'; (try clear F₂); (try clear N₂)
      intro h' F' N'
      (repeat' (first | (k_unfold; (try dsimp only)) | (walk1; (all_goals try dsimp only)) | (dsimp only; walk1)))
      exact hG _ _ <| files_end F' N' (Has.cons rfl (Has.cons rfl Has.nil)) l1.2.1 l1.1 (hI _ (.head _)) (fun q hq => hI q (.tail _ hq)) htl hp hf hok hnm'
  · rintro h' tk m' news' ⟨nm, t, vs', n, fs, tl, hm, rfl, htl, hp, hf, hok, hnm⟩ F₁ N₁
    replace F₁ := fr_has F₁ hm
    simp only [withs] at F₁
    clear F' N'
    have hvl : vs.length = ns.length := hi.length
    (repeat' (first | (k_unfold; (try dsimp only)) | (walk1; (all_goals try dsimp only)) | (dsimp only; walk1)))
    refine ret l' n vs'.toArray fs tl _ _ F₁.keep (fun q hq => ⟨(N₁ q hq).1, (N₁ q hq).2.2⟩) (by simpa using hp) (by rw [hf]; simpa using hvl) fun f hf' => ?_
    have := hok f hf'
    exact ⟨Nat.le_trans this.1 (by simp; omega), this.2⟩
end Mine
end
section
open PySem PySem.W PySem.Calls PyProof.Rows
set_option maxRecDepth 100000
set_option maxHeartbeats 4000000
namespace Mine
/-- each c of a text replaced -/
noncomputable def repl (c : Nat) (r : List Nat) (l : List Nat) : List Nat := l.flatMap fun k => if k = c then r else [k]
theorem repl_free {c : Nat} {r : List Nat} : ∀ {l : List Nat}, c ∉ l → repl c r l = l
  | [], _ => rfl
  | k :: l, h => by
    have h1 : ¬ k = c := fun e => h (e ▸ List.mem_cons_self ..)
    have h2 : c ∉ l := fun m => h (List.mem_cons_of_mem _ m)
    show (if k = c then r else [k]) ++ repl c r l = _
    rw [if_neg h1, repl_free h2]; rfl
theorem repl_append (c : Nat) (r a b : List Nat) : repl c r (a ++ b) = repl c r a ++ repl c r b := by simp [repl]
theorem repl_join (c : Nat) (z : Str) : ∀ parts : List Str, (∀ p ∈ parts, c ∉ p.cps.toList) → repl c z.cps.toList (Str.join ⟨#[c]⟩ parts).cps.toList = (Str.join z parts).cps.toList
  | [], _ => rfl
  | [p], h => repl_free (h p (List.mem_singleton.mpr rfl))
  | p :: q :: r, h => by
    have ih := repl_join c z (q :: r) fun a ha => h a (List.mem_cons_of_mem _ ha)
    show repl c z.cps.toList (p ++ ⟨#[c]⟩ ++ Str.join ⟨#[c]⟩ (q :: r)).cps.toList = (p ++ z ++ Str.join z (q :: r)).cps.toList
    simp only [Str.cps_append, Array.toList_append]
    rw [repl_append, repl_append, ih, repl_free (h p (List.mem_cons_self ..))]
    show p.cps.toList ++ repl c z.cps.toList [c] ++ _ = _
    simp [repl]
theorem replace_is (l : List Nat) (c : Nat) (z : Str) : Txt.replace (S l) ⟨#[c]⟩ z = S (repl c z.cps.toList l) := by
  have h : (Txt.replace (S l) ⟨#[c]⟩ z).cps.toList = repl c z.cps.toList l := by
    rw [StrLaws.replace_one, ← repl_join c z _ (StrLaws.split_free (S l) c), StrLaws.join_split]
  show Txt.replace (S l) ⟨#[c]⟩ z = ⟨(repl c z.cps.toList l).toArray⟩
  rw [← h]
theorem occ_no {l : List Nat} {c : Nat} (h : (Builtin.Str.occurrences (S l) ⟨#[c]⟩ 0 (S l).length 1).isEmpty = true) : c ∉ l := by
  have := StrLaws.found_one (S l) c
  rw [h] at this
  simpa using this
theorem repl_length {c : Nat} {r : List Nat} (hr : r.length ≤ 6) : ∀ l : List Nat, (repl c r l).length ≤ 6 * l.length
  | [] => Nat.zero_le _
  | k :: l => by
    have ih := repl_length (c := c) hr l
    show ((if k = c then r else [k]) ++ repl c r l).length ≤ _
    rw [List.length_append, List.length_cons]
    split
    · omega
    · simp only [List.length_cons, List.length_nil]; omega
/-- the seven references, one behind the other -/
noncomputable def esc7 (l : List Nat) : List Nat :=
  repl 9 [38, 35, 48, 57, 59] (repl 10 [38, 35, 49, 48, 59] (repl 13 [38, 35, 49, 51, 59] (repl 34 [38, 113, 117, 111, 116, 59] (repl 62 [38, 103, 116, 59] (repl 60 [38, 108, 116, 59] (repl 38 [38, 97, 109, 112, 59] l))))))
/-- a sign as the row writes it -/
noncomputable def escC (c : Nat) : List Nat :=
  if c = 38 then [38, 97, 109, 112, 59] else if c = 60 then [38, 108, 116, 59] else if c = 62 then [38, 103, 116, 59] else if c = 34 then [38, 113, 117, 111, 116, 59]
  else if c = 13 then [38, 35, 49, 51, 59] else if c = 10 then [38, 35, 49, 48, 59] else if c = 9 then [38, 35, 48, 57, 59] else [c]
noncomputable def escF (l : List Nat) : List Nat := l.flatMap escC
theorem esc7_is (l : List Nat) : esc7 l = escF l := by
  induction l with
  | nil => rfl
  | cons k l ih =>
    have e : esc7 (k :: l) = esc7 [k] ++ esc7 l := by
      show esc7 ([k] ++ l) = _
      simp only [esc7, repl_append]
    rw [e, ih]
    show esc7 [k] ++ escF l = escC k ++ escF l
    congr 1
    unfold escC
    by_cases h1 : k = 38
    · subst h1; decide
    by_cases h2 : k = 60
    · subst h2; decide
    by_cases h3 : k = 62
    · subst h3; decide
    by_cases h4 : k = 34
    · subst h4; decide
    by_cases h5 : k = 13
    · subst h5; decide
    by_cases h6 : k = 10
    · subst h6; decide
    by_cases h7 : k = 9
    · subst h7; decide
    simp [esc7, repl, h1, h2, h3, h4, h5, h6, h7]
noncomputable def EscP (h₀ : Heap) (L : Addr) (s : Shared) (l : List Nat) (s' : Shared) : Prop :=
  ∃ t h' tk, s' = { s with heap := h', toks := tk } ∧ 1 ≤ tk ∧ Fr h₀ L h' (fun y => if y = Str.ofString "text" then some (.str (S l) t) else none)
theorem esc_keep {h₀ h : Heap} {L : Addr} {s s' : Shared} {l : List Nat} {t : Tok} {c tk : Nat} {r : List Nat} {C : Str} (hC : C = ⟨#[c]⟩) (F : Fr h₀ L h (fun y => if y = Str.ofString "text" then some (.str (S l) t) else none))
    (ho : (Builtin.Str.occurrences (S l) C 0 (S l).length 1).isEmpty = true) (hs : s' = { s with heap := h, toks := tk }) (htk : 1 ≤ tk) : EscP h₀ L s (repl c r l) s' := by
  subst hC
  rw [repl_free (occ_no ho)]
  exact ⟨t, h, tk, hs, htk, F⟩
theorem esc_turn {h₀ h : Heap} {L : Addr} {s s' : Shared} {l : List Nat} {t : Tok} {c tk : Nat} {C R : Str} {u : Option Value} {x : Str} (hC : C = ⟨#[c]⟩) (hx : x = Str.ofString "text") (F : Fr h₀ L h (fun y => if y = x then some (.str (Txt.replace (S l) C R) t) else if y = Str.ofString "text" then u else none))
    (hs : s' = { s with heap := h, toks := tk }) (htk : 1 ≤ tk) : EscP h₀ L s (repl c R.cps.toList l) s' := by
  subst hC
  subst hx
  refine ⟨t, h, tk, hs, htk, ?_⟩
  rw [replace_is] at F
  have e : (fun y => if y = Str.ofString "text" then some (Value.str (S (repl c R.cps.toList l)) t) else none) = fun y => if y = Str.ofString "text" then some (Value.str (S (repl c R.cps.toList l)) t) else if y = Str.ofString "text" then u else none := by
    funext y
    by_cases h1 : y = Str.ofString "text"
    · simp only [if_pos h1]
    · simp only [if_neg h1]
  rw [e]
  exact F
abbrev escScope : Scope := { kind := .function, names := [(Str.ofString "text", .local), (Str.ofString "TypeError", .globalImplicit), (Str.ofString "AttributeError", .globalImplicit), (Str.ofString "_raise_serialization_error", .globalImplicit)], isGenerator := false, isCoroutine := false }
/-- one reference: `if C in text: text = text.replace(C, R)` -/
theorem esc_if {w : World} {A : Around} {s : Shared} {Q : Flow → Shared → Prop} {E : Value → Shared → Prop} {h₀ : Heap} {L : Addr} {l : List Nat} {t : Tok} {c k1 k2 k3 : Nat} {C R : Str} {p1 p2 p3 p4 p5 p6 p7 p8 p9 p10 p11 : Pos} {pl : Sem Bool}
    (hC : C = ⟨#[c]⟩) (F : Fr h₀ L s.heap (fun y => if y = Str.ofString "text" then some (.str (S l) t) else none)) (htk : 1 ≤ s.toks) (hSl : (S l).length ≤ 1048576) (hCR : (C == R) = false) (hR : R.length ≤ 14)
    (he : eval (.Call (.Attribute (.Name (Str.ofString "text") p5) (Str.ofString "replace") p6) [.Constant (.str C) k2 p7, .Constant (.str R) k3 p8] [] p9) (envOf (Str.ofString "_escape_attrib") escScope L 89 (.ref 88)) = (do
      let ov ← eval (.Name (Str.ofString "text") p5) (envOf (Str.ofString "_escape_attrib") escScope L 89 (.ref 88))
      standAt p6.atName
      let (f, first) ← holding [ov] (getMethod ov (Str.ofString "replace") pl)
      callWith p9 f first (backTo p9 (starEach [.Constant (.str C) k2 p7, .Constant (.str R) k3 p8] (envOf (Str.ofString "_escape_attrib") escScope L 89 (.ref 88)))) []))
    (h : ∀ s', EscP h₀ L s (repl c R.cps.toList l) s' → Q .next s') :
    wpAny (model PySem.Challenge.rw_oh0027_01.row.prog w) (A.deeper (envOf (Str.ofString "_escape_attrib") escScope L 89 (.ref 88)))
      (exec (.If (.Compare (.Constant (.str C) k1 p1) [.In] [.Name (Str.ofString "text") p2] p3) [.Assign [.Name (Str.ofString "text") p4] (.Call (.Attribute (.Name (Str.ofString "text") p5) (Str.ofString "replace") p6) [.Constant (.str C) k2 p7, .Constant (.str R) k3 p8] [] p9) p10] [] p11)
        (envOf (Str.ofString "_escape_attrib") escScope L 89 (.ref 88))) Q E s := by
  k_with_none
  k_with "execs cons" => (refine wpAny_execs_cons ?_)
  k_with "execs nil" => (refine wpAny_execs_nil ?_)
  k_with "eval Call Attribute" => (refine hold_in ?_)
  have N : News h₀ L s.heap [] := News.nil
  refine join_next (EscP h₀ L s (repl c R.cps.toList l)) ?_ h
  refine wpAny_with_toks htk ?_
  show wpAny _ _ _ _ _ _
  k_steps
  · exact esc_keep hC F (by assumption) rfl (by assumption)
  · unfold Hold
    refine MethodCall_ ?_ he
    k_steps
    rename_i F' _ _
    exact esc_turn hC rfl F' rfl (by assumption)
theorem sl_of {l : List Nat} {k : Nat} (h : l.length ≤ k) (hk : k ≤ 1048576) : (S l).length ≤ 1048576 := by show (List.toArray _).size ≤ _; rw [List.size_toArray]; exact Nat.le_trans h hk
theorem c_esc {w : World} {p : Program} {loose : List Str} {mg mb : Str → Option Value} {A : Around} {s : Shared} {Q E : Value → Shared → Prop} {l : List Nat} {tx : Tok}
    (hA : Amb A 1) (G : Gnd w p loose mg mb s.heap) (hl : l.length ≤ 8)
    (ret : ∀ t h' tk', s.heap.StaysIn h' → Q (.str (S (escF l)) t) { s with heap := h', toks := tk' }) :
    wpAny (model PySem.Challenge.rw_oh0027_01.row.prog w) A (call (.ref 89) [.str (S l) tx]) Q E s := by
  k_with_none
  k_with "execs cons" => (refine wpAny_execs_cons ?_)
  k_with "execs nil" => (refine wpAny_execs_nil ?_)
  k_with "eval Call Attribute" => (refine hold_in ?_)
  k_with "exec If" => (refine hold_in ?_)
  obtain ⟨X, T⟩ := G
  revert X; k_fill; intro X
  refine' enter_pure (binds := [(Str.ofString "text", .str (S l) tx)]) X T.nolimit ?k1 ?k2 ?k3 ?k4 ?k5 ?c0 ?c1 ?c2 ?c3 ?_
  ( (case k1 => first | exact Nat.lt_of_le_of_lt (Nat.le_add_right _ _) (Amb.depth (by assumption)) | fail "room"); (case k2 => k_is); (case k3 => k_is); (case k4 => exact BindsTo.of_eq rfl); (case k5 => exact locs rfl); (case c0 => decide); (case c1 => exact rfl); (case c2 => exact rfl); (case c3 => exact rfl))
  intro h₁ L tk hL htk F N
  replace htk : 1 ≤ tk := htk
  replace F : Fr s.heap L h₁ (fun y => if y = Str.ofString "text" then some (.str (S l) tx) else none) := by
    have e : (fun y => if y = Str.ofString "text" then some (Value.str (S l) tx) else none) = fun y => List.lookup y [(Str.ofString "text", Value.str (S l) tx)].reverse := by
      funext y
      simp only [List.reverse_cons, List.reverse_nil, List.nil_append, List.lookup_cons, List.lookup_nil]
      by_cases h : y = Str.ofString "text"
      · rw [if_pos h, h, beq_self_eq_true]
      · rw [if_neg h, beq_eq_false_iff_ne.mpr h]
    rw [e]; exact F
  rw [← esc7_is] at ret
  have hSl : (S l).length ≤ 1048576 := by show l.toArray.size ≤ _; simp; omega
  show wpAny _ _ _ _ _ _
  k_fold
  k_steps
  unfold Hold
  refine esc_if (c := 38) rfl F htk hSl (by decide +kernel) (by decide +kernel) rfl ?_
  rintro s' ⟨t0, h0, tk0, rfl, htk, F⟩
  replace F : Fr s.heap L h0 (fun y => if y = Str.ofString "text" then some (.str (S (repl 38 [38, 97, 109, 112, 59] l)) t0) else none) := F
  replace N : News s.heap L h0 [] := News.nil
  have hn0 : (repl 38 [38, 97, 109, 112, 59] l).length ≤ 8 * 6 ^ 1 := Nat.le_trans (repl_length (by decide) _) (by rw [Nat.pow_succ, ← Nat.mul_assoc, Nat.mul_comm]; exact Nat.mul_le_mul_right _ hl)
  replace hSl : (S (repl 38 [38, 97, 109, 112, 59] l)).length ≤ 1048576 := sl_of hn0 (by decide)
  k_steps
  unfold Hold
  refine esc_if (c := 60) rfl F htk hSl (by decide +kernel) (by decide +kernel) rfl ?_
  rintro s' ⟨t1, h1, tk1, rfl, htk, F⟩
  replace F : Fr s.heap L h1 (fun y => if y = Str.ofString "text" then some (.str (S (repl 60 [38, 108, 116, 59] (repl 38 [38, 97, 109, 112, 59] l))) t1) else none) := F
  replace N : News s.heap L h1 [] := News.nil
  have hn1 : (repl 60 [38, 108, 116, 59] (repl 38 [38, 97, 109, 112, 59] l)).length ≤ 8 * 6 ^ 2 := Nat.le_trans (repl_length (by decide) _) (by rw [Nat.pow_succ, ← Nat.mul_assoc, Nat.mul_comm]; exact Nat.mul_le_mul_right _ hn0)
  replace hSl : (S (repl 60 [38, 108, 116, 59] (repl 38 [38, 97, 109, 112, 59] l))).length ≤ 1048576 := sl_of hn1 (by decide)
  k_steps
  unfold Hold
  refine esc_if (c := 62) rfl F htk hSl (by decide +kernel) (by decide +kernel) rfl ?_
  rintro s' ⟨t2, h2, tk2, rfl, htk, F⟩
  replace F : Fr s.heap L h2 (fun y => if y = Str.ofString "text" then some (.str (S (repl 62 [38, 103, 116, 59] (repl 60 [38, 108, 116, 59] (repl 38 [38, 97, 109, 112, 59] l)))) t2) else none) := F
  replace N : News s.heap L h2 [] := News.nil
  have hn2 : (repl 62 [38, 103, 116, 59] (repl 60 [38, 108, 116, 59] (repl 38 [38, 97, 109, 112, 59] l))).length ≤ 8 * 6 ^ 3 := Nat.le_trans (repl_length (by decide) _) (by rw [Nat.pow_succ, ← Nat.mul_assoc, Nat.mul_comm]; exact Nat.mul_le_mul_right _ hn1)
  replace hSl : (S (repl 62 [38, 103, 116, 59] (repl 60 [38, 108, 116, 59] (repl 38 [38, 97, 109, 112, 59] l)))).length ≤ 1048576 := sl_of hn2 (by decide)
  k_steps
  unfold Hold
  refine esc_if (c := 34) rfl F htk hSl (by decide +kernel) (by decide +kernel) rfl ?_
  rintro s' ⟨t3, h3, tk3, rfl, htk, F⟩
  replace F : Fr s.heap L h3 (fun y => if y = Str.ofString "text" then some (.str (S (repl 34 [38, 113, 117, 111, 116, 59] (repl 62 [38, 103, 116, 59] (repl 60 [38, 108, 116, 59] (repl 38 [38, 97, 109, 112, 59] l))))) t3) else none) := F
  replace N : News s.heap L h3 [] := News.nil
  have hn3 : (repl 34 [38, 113, 117, 111, 116, 59] (repl 62 [38, 103, 116, 59] (repl 60 [38, 108, 116, 59] (repl 38 [38, 97, 109, 112, 59] l)))).length ≤ 8 * 6 ^ 4 := Nat.le_trans (repl_length (by decide) _) (by rw [Nat.pow_succ, ← Nat.mul_assoc, Nat.mul_comm]; exact Nat.mul_le_mul_right _ hn2)
  replace hSl : (S (repl 34 [38, 113, 117, 111, 116, 59] (repl 62 [38, 103, 116, 59] (repl 60 [38, 108, 116, 59] (repl 38 [38, 97, 109, 112, 59] l))))).length ≤ 1048576 := sl_of hn3 (by decide)
  k_steps
  unfold Hold
  refine esc_if (c := 13) rfl F htk hSl (by decide +kernel) (by decide +kernel) rfl ?_
  rintro s' ⟨t4, h4, tk4, rfl, htk, F⟩
  replace F : Fr s.heap L h4 (fun y => if y = Str.ofString "text" then some (.str (S (repl 13 [38, 35, 49, 51, 59] (repl 34 [38, 113, 117, 111, 116, 59] (repl 62 [38, 103, 116, 59] (repl 60 [38, 108, 116, 59] (repl 38 [38, 97, 109, 112, 59] l)))))) t4) else none) := F
  replace N : News s.heap L h4 [] := News.nil
  have hn4 : (repl 13 [38, 35, 49, 51, 59] (repl 34 [38, 113, 117, 111, 116, 59] (repl 62 [38, 103, 116, 59] (repl 60 [38, 108, 116, 59] (repl 38 [38, 97, 109, 112, 59] l))))).length ≤ 8 * 6 ^ 5 := Nat.le_trans (repl_length (by decide) _) (by rw [Nat.pow_succ, ← Nat.mul_assoc, Nat.mul_comm]; exact Nat.mul_le_mul_right _ hn3)
  replace hSl : (S (repl 13 [38, 35, 49, 51, 59] (repl 34 [38, 113, 117, 111, 116, 59] (repl 62 [38, 103, 116, 59] (repl 60 [38, 108, 116, 59] (repl 38 [38, 97, 109, 112, 59] l)))))).length ≤ 1048576 := sl_of hn4 (by decide)
  k_steps
  unfold Hold
  refine esc_if (c := 10) rfl F htk hSl (by decide +kernel) (by decide +kernel) rfl ?_
  rintro s' ⟨t5, h5, tk5, rfl, htk, F⟩
  replace F : Fr s.heap L h5 (fun y => if y = Str.ofString "text" then some (.str (S (repl 10 [38, 35, 49, 48, 59] (repl 13 [38, 35, 49, 51, 59] (repl 34 [38, 113, 117, 111, 116, 59] (repl 62 [38, 103, 116, 59] (repl 60 [38, 108, 116, 59] (repl 38 [38, 97, 109, 112, 59] l))))))) t5) else none) := F
  replace N : News s.heap L h5 [] := News.nil
  have hn5 : (repl 10 [38, 35, 49, 48, 59] (repl 13 [38, 35, 49, 51, 59] (repl 34 [38, 113, 117, 111, 116, 59] (repl 62 [38, 103, 116, 59] (repl 60 [38, 108, 116, 59] (repl 38 [38, 97, 109, 112, 59] l)))))).length ≤ 8 * 6 ^ 6 := Nat.le_trans (repl_length (by decide) _) (by rw [Nat.pow_succ, ← Nat.mul_assoc, Nat.mul_comm]; exact Nat.mul_le_mul_right _ hn4)
  replace hSl : (S (repl 10 [38, 35, 49, 48, 59] (repl 13 [38, 35, 49, 51, 59] (repl 34 [38, 113, 117, 111, 116, 59] (repl 62 [38, 103, 116, 59] (repl 60 [38, 108, 116, 59] (repl 38 [38, 97, 109, 112, 59] l))))))).length ≤ 1048576 := sl_of hn5 (by decide)
  k_steps
  unfold Hold
  refine esc_if (c := 9) rfl F htk hSl (by decide +kernel) (by decide +kernel) rfl ?_
  rintro s' ⟨t6, h6, tk6, rfl, htk, F⟩
  replace F : Fr s.heap L h6 (fun y => if y = Str.ofString "text" then some (.str (S (repl 9 [38, 35, 48, 57, 59] (repl 10 [38, 35, 49, 48, 59] (repl 13 [38, 35, 49, 51, 59] (repl 34 [38, 113, 117, 111, 116, 59] (repl 62 [38, 103, 116, 59] (repl 60 [38, 108, 116, 59] (repl 38 [38, 97, 109, 112, 59] l)))))))) t6) else none) := F
  replace N : News s.heap L h6 [] := News.nil
  k_steps
  exact ret _ _ _ F.keep
end Mine
end
section
open PySem PySem.W PySem.Calls PyProof.Rows
set_option maxRecDepth 100000
set_option maxHeartbeats 4000000
namespace Mine
theorem c_ifmt {w : World} {p : Program} {loose : List Str} {mg mb : Str → Option Value} {A : Around} {s : Shared} {Q E : Value → Shared → Prop} {md : Int} {tx : Tok}
    (hA : Amb A 1) (G : Gnd w p loose mg mb s.heap)
    (ret : ∀ t h' tk', s.heap.StaysIn h' → Q (.int (Builtin.bitAnd md 61440) t) { s with heap := h', toks := tk' }) :
    wpAny (model PySem.Challenge.rw_oh0027_01.row.prog w) A (call (.ref 35) [.int md tx]) Q E s := by
  k_with_none
  obtain ⟨X, T⟩ := G
  revert X; k_fill; intro X
  refine' enter_pure (binds := [(Str.ofString "mode", .int md tx)]) X T.nolimit ?k1 ?k2 ?k3 ?k4 ?k5 ?c0 ?c1 ?c2 ?c3 ?_
  ( (case k1 => first | exact Nat.lt_of_le_of_lt (Nat.le_add_right _ _) (Amb.depth (by assumption)) | fail "room"); (case k2 => k_is); (case k3 => k_is); (case k4 => exact BindsTo.of_eq rfl); (case k5 => exact locs rfl); (case c0 => decide); (case c1 => exact rfl); (case c2 => exact rfl); (case c3 => exact rfl))
  intro h₁ L tk hL htk F N
  show wpAny _ _ _ _ _ _
  k_fold
  k_steps
  exact ret _ _ _ F.keep
theorem c_ifmtK {w : World} {p : Program} {loose : List Str} {mg mb : Str → Option Value} {A : Around} {s : Shared} {Q E : Value → Shared → Prop} {h₀ : Heap} {L : Addr} {m : Str → Option Value} {news : List (Addr × Obj)} {md : Int} {tx : Tok}
    (hA : Amb A 1) (X : (hd.heap_39 w.params).In h₀) (T : TopRead p loose mg mb h₀) (F : Fr h₀ L s.heap m) (N : News h₀ L s.heap news)
    (ret : ∀ t h' tk', Fr h₀ L h' m → News h₀ L h' news → Q (.int (Builtin.bitAnd md 61440) t) { s with heap := h', toks := tk' }) :
    wpAny (model PySem.Challenge.rw_oh0027_01.row.prog w) A (call (.ref 35) [.int md tx]) Q E s :=
  c_ifmt hA ⟨X.keeps F.keep, T.keeps F.keep⟩ fun t h' tk' k => ret t h' tk' (F.kept k) (N.grown k)
theorem paired_get {α β : Type} {R : α → β → Prop} {l : List α} {m : List β} (h : Paired R l m) (i : Nat) (v : α) (e : l[i]? = some v) : ∃ y, m[i]? = some y ∧ R v y := by
  induction h generalizing i with
  | nil => rw [List.getElem?_nil] at e; cases e
  | cons r _ ih =>
    cases i with
    | zero => cases e; exact ⟨_, rfl, r⟩
    | succ i => exact ih i e
/-- a generic for -/
noncomputable def TEndW (h₀ : Heap) (L : Addr) (own : List (Addr × Obj)) (wr : List Addr) (J : (Str → Option Value) → List (Addr × Obj) → Prop) (s : Shared) (Q : Flow → Shared → Prop) (f : Flow) (s₃ : Shared) : Prop :=
  match f with
  | .ret v => Q (.ret v) s₃
  | .brk => Q .next s₃
  | _ => ∃ h' tk m' news', s₃ = { s with heap := h', toks := tk } ∧ Fr h₀ L h' m' ∧ News h₀ L h' (news' ++ own) ∧ (∀ p ∈ news', p.1 ∉ wr) ∧ J m' news'
theorem TEndW.next {s : Shared} {Q : Flow → Shared → Prop} {h₀ : Heap} {L : Addr} {own : List (Addr × Obj)} {wr : List Addr} {J : (Str → Option Value) → List (Addr × Obj) → Prop} {h' : Heap} {tk : Nat} {m' : Str → Option Value} {news' : List (Addr × Obj)}
    (F : Fr h₀ L h' m') (N : News h₀ L h' (news' ++ own)) (hn : ∀ p ∈ news', p.1 ∉ wr) (hj : J m' news') : TEndW h₀ L own wr J s Q .next { s with heap := h', toks := tk } :=
  ⟨h', tk, m', news', rfl, F, N, hn, hj⟩
section
variable {prog : Program} {w : World} {A : Around} {E : Value → Shared → Prop} {s : Shared} {env : Env} {h₀ : Heap} {L : Addr} {Q : Flow → Shared → Prop}
noncomputable def TInv (h₀ : Heap) (L : Addr) (s : Shared) (wr : List Addr) (n : Nat) (St : Nat → Heap → Prop) (J : Nat → (Str → Option Value) → List (Addr × Obj) → Prop) (k : Nat) (s' : Shared) : Prop :=
  ∃ h' tk m' news' i, s' = { s with heap := h', toks := tk } ∧ St i h' ∧ Fr h₀ L h' m' ∧ News h₀ L h' news' ∧ (∀ p ∈ news', p.1 ∉ wr) ∧ J i m' news' ∧ i ≤ n ∧ k = n + 1 - i
theorem loop_turns {target : Expr} {body orelse : List Stmt} {I : Addr} {fp wr : List Addr} {n : Nat} {P Md : Nat → Value → Heap → Prop} {St : Nat → Heap → Prop} {m : Str → Option Value} {news : List (Addr × Obj)}
    (W : KTurns prog w A target I fp wr n P Md St) (J : Nat → (Str → Option Value) → List (Addr × Obj) → Prop)
    (hLf : L ∉ fp) (hwr : ∀ b ∈ wr, h₀.get? b = none) (hob : ∀ i h, St i h → ∀ b ∈ wr, ∃ o, h.get? b = some o) (hnw : ∀ p ∈ news, p.1 ∉ wr) (hst : St 0 s.heap)
    (F : Fr h₀ L s.heap m) (N : News h₀ L s.heap news) (h0 : J 0 m news)
    (step : ∀ i v m₁ news₁ h₁ tk₁ own, i < n → P i v h₁ → J i m₁ news₁ → Fr h₀ L h₁ m₁ → News h₀ L h₁ (news₁ ++ own) → (∀ p ∈ news₁, p.1 ∉ wr) → (∀ b ∈ wr, ∃ o, (b, o) ∈ own) → (∀ p ∈ own, p.1 ∈ fp) →
      wpAny (model prog w) A (assign target env v) (fun _ s₂ => wpAny (model prog w) A (execs body env)
        (TEndW h₀ L own wr (J (i + 1)) s Q) (fun _ _ => False) s₂) (fun _ _ => False) { s with heap := h₁, toks := tk₁ })
    (done : ∀ h' tk m' news', J n m' news' → Fr h₀ L h' m' → News h₀ L h' news' →
      wpAny (model prog w) A (execs orelse env) (fun f s₃ => Q f s₃) (fun _ _ => False) { s with heap := h', toks := tk }) :
    codeAny (model prog w) A (.forLoop target (.ref I) body orelse env) (fun r s' => match r with | .ok f => Q f s' | .error e => cameBackBy (model prog w) A env E e s') s := by
  have hLw : L ∉ wr := fun h => hLf (W.sub _ h)
  have old : ∀ b o, h₀.get? b = some o → b ∉ wr := fun b o e hb => by rw [hwr b hb] at e; cases e
  refine codeAny_forLoop_any
    (TInv h₀ L s wr n St J) ?_ (n + 1)
    ⟨s.heap, s.toks, m, news, 0, rfl, hst, F, N, hnw, h0, Nat.zero_le _, rfl⟩
  rintro k s' ⟨h', tk, m', news', i, rfl, hst', F', N', hnw', hJ, hi, rfl⟩
  have next : ∀ h₁ : Heap, (∀ b o, b ∉ wr → h'.get? b = some o → h₁.get? b = some o) → Fr h₀ L h₁ m' ∧ News h₀ L h₁ news' := fun h₁ hk₁ =>
    ⟨⟨F'.ns.at' fun o e => hk₁ _ o hLw e, fun b o e => hk₁ b o (old b o e) (F'.keep b o e), F'.above⟩, fun p hp => ⟨hk₁ _ _ (hnw' p hp) (N' p hp).1, (N' p hp).2⟩⟩
  by_cases hlt : i < n
  · refine W.item i _ _ _ hlt hst' fun v h₁ tk₁ hMd hk₁ => ?_
    refine W.go i v _ _ _ hMd fun h₂ hP hst₂ hk₂ => ?_
    obtain ⟨F₂, N₂⟩ := next h₂ fun b o hb x => hk₂ b o hb (hk₁ b o hb x)
    have Nown : News h₀ L h₂ (PyProof.Rows.ownOf h₀ fp h₂) := news_ownOf hLf
    have Nall : News h₀ L h₂ (news' ++ PyProof.Rows.ownOf h₀ fp h₂) := fun p hp => (List.mem_append.mp hp).elim (N₂ p) (Nown p)
    refine wpAny_mono (step i v m' news' h₂ tk₁ (PyProof.Rows.ownOf h₀ fp h₂) hlt hP hJ F₂ Nall hnw' (fun b hb => ?_) ownOf_sub) (fun _ s₂ h₂' => wpAny_mono h₂' (fun f s₃ h₃ => ?_) fun _ _ x => x.elim) fun _ _ x => x.elim
    · obtain ⟨o, ho⟩ := hob _ _ hst₂ b hb
      exact ⟨o, mem_ownOf (W.sub b hb) (hwr b hb) ho⟩
    have fin : (∃ h' tk m' news'', s₃ = { s with heap := h', toks := tk } ∧ Fr h₀ L h' m' ∧ News h₀ L h' (news'' ++ PyProof.Rows.ownOf h₀ fp h₂) ∧ (∀ p ∈ news'', p.1 ∉ wr) ∧ J (i + 1) m' news'') →
        ∃ k', k' < n + 1 - i ∧ TInv h₀ L s wr n St J k' s₃ := by
      rintro ⟨h₃', tk₃, m₃, news₃, rfl, F₃, N₃, hn₃, hJ₃⟩
      refine ⟨n + 1 - (i + 1), by omega, h₃', tk₃, m₃, news₃, i + 1, rfl, ?_, F₃, fun p hp => N₃ p (List.mem_append_left _ hp), hn₃, hJ₃, hlt, rfl⟩
      refine W.frame _ _ _ hst₂ fun b hb o e => ?_
      cases hn : h₀.get? b with
      | some o₀ =>
        have q := F₂.keep b o₀ hn
        rw [e] at q
        cases q
        exact F₃.keep b o hn
      | none => exact (N₃ _ (List.mem_append_right _ (mem_ownOf hb hn e))).1
    cases f with
    | ret v => exact h₃
    | brk => exact h₃
    | next => exact fin h₃
    | cont => exact fin h₃
  · have hin : i = n := by omega
    subst hin
    refine W.done _ _ _ hst' fun h₁ tk₁ hk₁ => ?_
    obtain ⟨F₁, N₁⟩ := next h₁ hk₁
    exact wpAny_mono (done h₁ tk₁ m' news' hJ F₁ N₁) (fun _ _ x => x) fun _ _ x => x.elim
theorem nextOf_tuple_item {it l : Addr} {i : Nat} {items} {x : Value} {Q : Value → Shared → Prop} (hit : s.heap.IsTupleIter it l i) (hl : s.heap.IsTuple l items) (hx : items[i]? = some x)
    (hQ : ∀ h', h'.IsTupleIter it l (i + 1) → Heap.SameBut it s.heap h' → Q x { s with heap := h' }) :
    wpAny (model prog w) A (Builtin.SmallTypes.nextOf (.ref it)) Q E s := by
  obtain ⟨o, ho, hc, hd⟩ := id hit
  obtain ⟨ol, hol, _, nl, hdl⟩ := hl
  unfold Builtin.SmallTypes.nextOf
  refine wpAny_bind (wpAny_callSpecial?_slot (name := Str.ofString "__next__") hit.typeIs F.slot_tuple_iterator_next
    (wpAny_call_entry F.slot_tuple_iterator_next hit.typeIs F.entry_tuple_iterator_next ?_ (F.args_tuple_iterator_next_1 _)))
  show wpAny _ _ (field (.ref it) 0 >>= _) _ _ s
  refine wpAny_bind (wpAny_field ho hd (x := .ref l) rfl ?_)
  show wpAny _ _ (if (Value.ref l == Value.none) = true then _ else _) _ _ s
  rw [if_neg (show ¬ ((Value.ref l == Value.none) = true) from Bool.false_ne_true)]
  show wpAny _ _ (field (.ref it) 1 >>= _) _ _ s
  refine wpAny_bind (wpAny_field ho hd (x := .int i 0) rfl ?_)
  show wpAny _ _ (seqItems? (.ref l) >>= _) _ _ s
  refine wpAny_bind (wpAny_seqItems hol hdl ?_)
  simp only [Int.toNat_natCast, hx]
  refine wpAny_bind (wpAny_setField ho hd (by simp) (wpAny_pure ⟨x, rfl, wpAny_pure (hQ _ ?_ (Heap.SameBut.update ..))⟩))
  exact ⟨_, Heap.get?_update_self _ ho (Obj.isFreed_of_fields (Obj.data_mapFields hd _)), (Obj.cls_mapFields ..).trans hc, by
    rw [Obj.data_mapFields hd]; simp [rawInt]⟩
theorem nextOf_tuple_end {it l : Addr} {i : Nat} {items} {Q : Value → Shared → Prop} (hh : A.handled = none)
    (hit : s.heap.IsTupleIter it l i) (hl : s.heap.IsTuple l items) (hx : items[i]? = none)
    (hE : ∀ h' e, Heap.ExtBut it s.heap h' → (∃ o, h'.get? e = some o ∧ o.cls = .type "StopIteration") → E (.ref e) { s with heap := h' }) :
    wpAny (model prog w) A (Builtin.SmallTypes.nextOf (.ref it)) Q E s := by
  obtain ⟨o, ho, hc, hd⟩ := id hit
  obtain ⟨ol, hol, _, nl, hdl⟩ := hl
  unfold Builtin.SmallTypes.nextOf
  refine wpAny_bind (wpAny_callSpecial?_slot (name := Str.ofString "__next__") hit.typeIs F.slot_tuple_iterator_next
    (wpAny_call_entry F.slot_tuple_iterator_next hit.typeIs F.entry_tuple_iterator_next ?_ (F.args_tuple_iterator_next_1 _)))
  show wpAny _ _ (field (.ref it) 0 >>= _) _ _ s
  refine wpAny_bind (wpAny_field ho hd (x := .ref l) rfl ?_)
  show wpAny _ _ (if (Value.ref l == Value.none) = true then _ else _) _ _ s
  rw [if_neg (show ¬ ((Value.ref l == Value.none) = true) from Bool.false_ne_true)]
  show wpAny _ _ (field (.ref it) 1 >>= _) _ _ s
  refine wpAny_bind (wpAny_field ho hd (x := .int i 0) rfl ?_)
  show wpAny _ _ (seqItems? (.ref l) >>= _) _ _ s
  refine wpAny_bind (wpAny_seqItems hol hdl ?_)
  simp only [Int.toNat_natCast, hx]
  refine wpAny_bind (wpAny_rule (wpAny_bind (wpAny_setField ho hd (by simp) ?_)))
  show wpAny _ _ (newExc (.type "StopIteration") [] >>= _) _ _ _
  refine wpAny_bind ?_
  simp only [newExc, newTuple]
  refine wpAny_bind (wpAny_newObj_type ?_ (by size_fits))
  refine wpAny_bind (m := firstArgMember _ _) (wpAny_of_eq (a := Value.none) (by first | rfl | (simp only [firstArgMember]; rfl)) ?_)
  refine wpAny_newObj_type ?_ (by size_fits)
  simp only [raiseNew]
  refine wpAny_bind (wpAny_handled ?_)
  first | rw [show A.in1.handled = none from hh] | rw [hh]
  refine wpAny_bind (wpAny_pure (wpAny_throw ?_))
  exact hE _ _ (((Heap.SameBut.update ..).extBut.push _).push _) ⟨_, Heap.get?_push_size _ rfl, rfl⟩
end
theorem draws_tuple {prog : Program} {w : World} {A : Around} (hh : A.handled = none) (it l : Addr) (hne : l ≠ it) (items : Array Value) :
    Draws prog w A it [it, l] items.size (fun i v => items[i]? = some v) (fun i h => h.IsTupleIter it l i ∧ h.IsTuple l items) where
  live := fun _ _ st => let ⟨o, ho, _⟩ := st.1; ⟨o, ho⟩
  frame := fun _ _ _ st hk => ⟨let ⟨o, ho, r⟩ := st.1; ⟨o, hk it (by simp) o ho, r⟩, let ⟨o, ho, r⟩ := st.2; ⟨o, hk l (by simp) o ho, r⟩⟩
  item := fun i s Q E hi st hQ => by
    refine nextOf_tuple_item st.1 st.2 (x := items[i]) (by simp [hi]) fun h' hit' hs' => ?_
    exact hQ _ h' s.toks (by simp [hi]) ⟨hit', st.2.extBut hs'.extBut hne⟩ hs'
  done := fun s Q E st hE => nextOf_tuple_end hh st.1 st.2 (by simp) hE
theorem pure_any {α : Type} {M : Model} {A : Around} {b : α} {Q : α → Shared → Prop} {E : Value → Shared → Prop} {s : Shared} (h : ∀ b, Q b s) : wpAny M A (pure b) Q E s := wpAny_pure (h b)
theorem meets_enum_tuple (l : Addr) (items : Array Value) (n : Nat) (dct : Option Addr) (sl : Array (Option Value)) :
    Meets (Builtin.«enumerate.__new__» ⟨[.type "enumerate", .ref l], []⟩) (fun _ R s => s.heap.get? l = some { cls := .type "tuple", dict := dct, data := .seq items n, slots := sl } ∧
      R (.ok (.ret (.ref (s.heap.push { cls := .type "tuple_iterator", data := .fields #[.ref l, .int 0 0] }).objs.size)))
        { s with heap := (s.heap.push { cls := .type "tuple_iterator", data := .fields #[.ref l, .int 0 0] }).push { cls := .type "enumerate", data := .fields #[.none, .bool false, .ref s.heap.objs.size, rawInt 0, .none, .none] } }) :=
  .of_wp fun prog w A R s h => by
    obtain ⟨hp, g, d, tk, os⟩ := s; obtain ⟨hl, h⟩ := h
    have hsub := PySem.sub_enumerate
    have hL : Heap.IsTuple (Shared.heap ⟨hp, g, d, tk, os⟩) l items := ⟨_, hl, rfl, n, rfl⟩
    wp_walk using AutoSeq1.wpAny_loadPart' hl
    refine wpAny_stack_any fun st => pure_any fun b => ?_
    cases b
    · wp_walk using AutoSeq1.wpAny_loadPart' hl, wpAny_pyIter_tuple hL
      exact ⟨_, rfl, h⟩
    · wp_walk using AutoSeq1.wpAny_loadPart' hl, wpAny_pyIter_tuple hL
      exact ⟨_, rfl, h⟩
section
variable {prog : Program} {w : World} {A : Around} {E : Value → Shared → Prop} {s : Shared}
theorem call_enum_tuple {l : Addr} {items : Array Value} {Q : Value → Shared → Prop} (hL : s.heap.IsTuple l items)
    (h : ∀ h', IsEnum h' (s.heap.objs.size + 1) s.heap.objs.size 0 .none → h'.IsTupleIter s.heap.objs.size l 0 → h'.objs.size = s.heap.objs.size + 2 →
      (∀ b o, s.heap.get? b = some o → h'.get? b = some o) → Q (.ref (s.heap.objs.size + 1)) { s with heap := h' }) :
    wpAny (model prog w) A (call (.type "enumerate") [.ref l]) Q E s := by
  obtain ⟨⟨c, dct, dt, sl⟩, hl, hc, n, hd⟩ := hL
  replace hc : c = .type "tuple" := hc
  replace hd : dt = .seq items n := hd
  subst hc hd
  refine callType_new F.called_enumerate (by decide) (F.typeCall_enumerate_1 _) (F.newCall_enumerate_1 _) (fun obj => F.args_object_init_2 obj _) F.entry_enumerate_new
    (meets_enum_tuple l items n dct sl) ⟨hl, ?_⟩
  have hz : (s.heap.push { cls := .type "tuple_iterator", data := .fields #[.ref l, .int 0 0] }).objs.size = s.heap.objs.size + 1 := Heap.size_push ..
  show _ ∧ _
  rw [hz]
  have he : IsEnum ((s.heap.push { cls := .type "tuple_iterator", data := .fields #[.ref l, .int 0 0] }).push
      { cls := .type "enumerate", data := .fields #[.none, .bool false, .ref s.heap.objs.size, rawInt 0, .none, .none] }) (s.heap.objs.size + 1) s.heap.objs.size 0 .none := by
    have := Heap.get?_push_size (s.heap.push { cls := .type "tuple_iterator", data := .fields #[.ref l, .int 0 0] })
      (o := { cls := .type "enumerate", data := .fields #[.none, .bool false, .ref s.heap.objs.size, rawInt 0, .none, .none] }) rfl
    rw [hz] at this; exact this
  refine ⟨⟨_, he, rfl⟩, h _ he ⟨_, Heap.get?_push_of_some _ (Heap.get?_push_size _ rfl), rfl, rfl⟩ (by rw [Heap.size_push, hz]) fun b o x => Heap.get?_push_of_some _ (Heap.get?_push_of_some _ x)⟩
end
section
variable {prog : Program} {w : World} {A : Around} {E : Value → Shared → Prop} {s : Shared} {h₀ : Heap} {L a : Addr} {cn : Str} {cs : Scope} {cd : Value} {m : Str → Option Value} {news : List (Addr × Obj)} {Q : Unit → Shared → Prop}
theorem news_extBut {h h' : Heap} (N : News h₀ L h news) (hs : Heap.ExtBut h.objs.size h h') : News h₀ L h' news := fun p hp => ⟨hs _ _ (Nat.ne_of_lt (Heap.lt_size (N p hp).1)) (N p hp).1, (N p hp).2⟩
theorem unpack2 {x1 x2 : Str} {p1 p2 pos : Pos} {k : Nat} {t : Addr} {v1 v2 : Value} (hh : A.handled = none) (ht : s.heap.IsTuple t #[v1, v2]) (F : Fr h₀ L s.heap m) (N : News h₀ L s.heap news)
    (h : ∀ h' tk, Fr h₀ L h' (fun y => if y = x2 then some v2 else if y = x1 then some v1 else m y) → News h₀ L h' news → Q () { s with heap := h', toks := tk })
    (hk : cs.kind = .function) (h1 : (envOf cn cs L a cd).kindOf x1 = some .local) (h2 : (envOf cn cs L a cd).kindOf x2 = some .local) :
    wpAny (model prog w) A (assign (.Tuple [.Name x1 p1, .Name x2 p2] k pos) (envOf cn cs L a cd) (.ref t)) Q E s := by
  refine wpAny_assign_Tuple hh ht rfl rfl fun h' he => ?_
  have F' := F.extBut he (Nat.le_refl _)
  have N' := news_extBut N he
  refine wpAny_assignInOrder_more (wpAny_assign_Name (stN F' N' (fun h₁ F₁ N₁ => ?_) hk h1))
  refine wpAny_assignInOrder_more (wpAny_assign_Name (stN F₁ N₁ (fun h₂ F₂ N₂ => ?_) hk h2))
  exact wpAny_assignInOrder_none (h _ _ F₂ N₂)
theorem unpack3 {x1 x2 x3 : Str} {p1 p2 p3 pos : Pos} {k : Nat} {t : Addr} {v1 v2 v3 : Value} (hh : A.handled = none) (ht : s.heap.IsTuple t #[v1, v2, v3]) (F : Fr h₀ L s.heap m) (N : News h₀ L s.heap news)
    (h : ∀ h' tk, Fr h₀ L h' (fun y => if y = x3 then some v3 else if y = x2 then some v2 else if y = x1 then some v1 else m y) → News h₀ L h' news → Q () { s with heap := h', toks := tk })
    (hk : cs.kind = .function) (h1 : (envOf cn cs L a cd).kindOf x1 = some .local) (h2 : (envOf cn cs L a cd).kindOf x2 = some .local) (h3 : (envOf cn cs L a cd).kindOf x3 = some .local) :
    wpAny (model prog w) A (assign (.Tuple [.Name x1 p1, .Name x2 p2, .Name x3 p3] k pos) (envOf cn cs L a cd) (.ref t)) Q E s := by
  refine wpAny_assign_Tuple hh ht rfl rfl fun h' he => ?_
  have F' := F.extBut he (Nat.le_refl _)
  have N' := news_extBut N he
  refine wpAny_assignInOrder_more (wpAny_assign_Name (stN F' N' (fun h₁ F₁ N₁ => ?_) hk h1))
  refine wpAny_assignInOrder_more (wpAny_assign_Name (stN F₁ N₁ (fun h₂ F₂ N₂ => ?_) hk h2))
  refine wpAny_assignInOrder_more (wpAny_assign_Name (stN F₂ N₂ (fun h₃ F₃ N₃ => ?_) hk h3))
  exact wpAny_assignInOrder_none (h _ _ F₃ N₃)
end
/-- a for over a tuple of the base: the iterator as turns -/
theorem turns_tuple {prog : Program} {w : World} {A : Around} {elts : List Expr} {k : Nat} {pos : Pos} (hh : A.handled = none) (I t : Addr) (hne : t ≠ I) (items : Array Value) :
    KTurns prog w A (.Tuple elts k pos) I [I, t] [I] items.size (fun i v _ => items[i]? = some v) (fun i v h => items[i]? = some v ∧ h.IsTupleIter I t (i + 1) ∧ h.IsTuple t items) (fun i h => h.IsTupleIter I t i ∧ h.IsTuple t items) where
  sub := fun b hb => by simp at hb; simp [hb]
  frame := fun _ _ _ st hk => ⟨let ⟨o, ho, r⟩ := st.1; ⟨o, hk I (by simp) o ho, r⟩, let ⟨o, ho, r⟩ := st.2; ⟨o, hk t (by simp) o ho, r⟩⟩
  item := fun i s Q E hi st hQ => by
    refine wpAny_pyNext_tuple_item st.1 st.2 (x := items[i]) (by simp [hi]) fun h' hit' hs' => ?_
    exact hQ _ h' s.toks ⟨by simp [hi], hit', st.2.extBut hs'.extBut hne⟩ fun b o hb e => hs'.extBut b o (fun h => hb (by simp [h])) e
  go := fun i v s Q E hm hQ => by
    cases v with
    | ref T =>
      obtain ⟨o, ho, hc, hd⟩ := hm.2.1
      unfold letOwnedTupleGo
      refine wpAny_bind (wpAny_load ho ?_)
      rw [hc, hd]
      show wpAny _ A (if (["enumerate", "zip", "dict_itemiterator", "dict_reverseitemiterator", "odict_iterator", "itertools.zip_longest", "itertools.pairwise"].contains "tuple_iterator" && _) = true then _ else _) Q E s
      rw [if_neg (by
        intro h
        rw [show (["enumerate", "zip", "dict_itemiterator", "dict_reverseitemiterator", "odict_iterator", "itertools.zip_longest", "itertools.pairwise"].contains "tuple_iterator") = false from by decide, Bool.false_and] at h
        cases h)]
      exact wpAny_pure (hQ s.heap hm.1 ⟨hm.2.1, hm.2.2⟩ fun _ _ _ e => e)
    | _ => exact wpAny_pure (hQ s.heap hm.1 ⟨hm.2.1, hm.2.2⟩ fun _ _ _ e => e)
  done := fun s Q E st hQ => wpAny_pyNext_tuple_end hh st.1 st.2 (by simp) fun h' he' => hQ h' s.toks fun b o hb e => he' b o (fun h => hb (by simp [h])) e
noncomputable def EnSt (e it t : Addr) (items : Array Value) (i : Nat) (h : Heap) : Prop := (∃ old, IsEnum h e it i old) ∧ h.IsTupleIter it t i ∧ h.IsTuple t items
noncomputable def EnP (items : Array Value) (i : Nat) (v : Value) (h : Heap) : Prop := ∃ T vals, v = .ref T ∧ (∃ u x, items[i]? = some x ∧ vals = #[Value.int i u, x]) ∧ h.IsTuple T vals
noncomputable def EnMd (e it t : Addr) (items : Array Value) (i : Nat) (v : Value) (h : Heap) : Prop := ∃ T vals, v = .ref T ∧ (∃ u x, items[i]? = some x ∧ vals = #[Value.int i u, x]) ∧ h.IsTuple T vals ∧ ((∃ x, IsEnumOut h e it ((i : Int) + 1) x T) ∧ (h.IsTupleIter it t (i + 1) ∧ h.IsTuple t items) ∧ T ≠ e ∧ T ≠ it)
theorem turns_enum {prog : Program} {w : World} {A : Around} {elts : List Expr} {k : Nat} {pos : Pos} (hh : A.handled = none) (e it t : Addr) (hei : e ≠ it) (het : e ≠ t) (hti : t ≠ it) (items : Array Value) :
    KTurns prog w A (.Tuple elts k pos) e [e, it, t] [e, it] items.size (EnP items) (EnMd e it t items) (EnSt e it t items) :=
  KTurns.ofWalksU (WalksT.enumerateD (draws_tuple (prog := prog) (w := w) (A := A.in1) hh it t hti items) e hei (by simp [hei, het]) (by simp)).toU
end Mine
end
section
open PySem PySem.W PySem.Calls PyProof.Rows
set_option maxRecDepth 100000
set_option maxHeartbeats 4000000
namespace Mine
/-- the table of filemode: bits and signs -/
noncomputable def fmTab : List (List (Int × Nat)) := [[(40960, 108), (49152, 115), (32768, 45), (24576, 98), (16384, 100), (8192, 99), (4096, 112)], [(256, 114)], [(128, 119)], [(2112, 115), (2048, 83), (64, 120)], [(32, 114)], [(16, 119)], [(1032, 115), (1024, 83), (8, 120)], [(4, 114)], [(2, 119)], [(513, 116), (512, 84), (1, 120)]]
noncomputable def matchB (idx : Nat) (md bit : Int) : Bool := if idx = 0 then decide (Builtin.bitAnd md 61440 = bit) else decide (Builtin.bitAnd md bit = bit)
noncomputable def pickC (idx : Nat) (md : Int) : List (Int × Nat) → Nat
  | [] => if idx = 0 then 63 else 45
  | (b, c) :: r => if matchB idx md b then c else pickC idx md r
noncomputable def fmChars (md : Int) (i : Nat) : List Nat := (List.range i).map fun k => pickC k md (fmTab.getD k [])
noncomputable def PairOk (h : Heap) (v : Value) (bc : Int × Nat) : Prop := ∃ a t t', v = .ref a ∧ h.IsTuple a #[.int bc.1 t, .str (S [bc.2]) t']
noncomputable def TabOk (h : Heap) (v : Value) (ps : List (Int × Nat)) : Prop := ∃ T, v = .ref T ∧ ∃ items, h.IsTuple T items ∧ Paired (PairOk h) items.toList ps
theorem tupK {K : Frag} {h : Heap} {a : Addr} {items : Array Value} {n : Nat} (X : K.In h) (e : K.lookup a = some ⟨.type "tuple", none, .seq items n, #[]⟩) : h.IsTuple a items := ⟨_, X _ _ e, rfl, n, rfl⟩
theorem tabs_ok {w : World} {h : Heap} (X : (hd.heap_39 w.params).In h) : Paired (TabOk h) [.ref 43, .ref 45, .ref 47, .ref 51, .ref 53, .ref 55, .ref 59, .ref 61, .ref 63, .ref 67] fmTab := by
  have dum : PySem.Challenge.rw_oh0027_01 = PySem.Challenge.rw_oh0027_01 := rfl
  revert X dum; k_fill; intro X _
  refine .cons ⟨43, rfl, _, tupK X (by k_is), .cons ⟨36, _, _, rfl, tupK X (by k_is)⟩ (.cons ⟨37, _, _, rfl, tupK X (by k_is)⟩ (.cons ⟨38, _, _, rfl, tupK X (by k_is)⟩ (.cons ⟨39, _, _, rfl, tupK X (by k_is)⟩ (.cons ⟨40, _, _, rfl, tupK X (by k_is)⟩ (.cons ⟨41, _, _, rfl, tupK X (by k_is)⟩ (.cons ⟨42, _, _, rfl, tupK X (by k_is)⟩ (.nil)))))))⟩ ?_
  refine .cons ⟨45, rfl, _, tupK X (by k_is), .cons ⟨44, _, _, rfl, tupK X (by k_is)⟩ (.nil)⟩ ?_
  refine .cons ⟨47, rfl, _, tupK X (by k_is), .cons ⟨46, _, _, rfl, tupK X (by k_is)⟩ (.nil)⟩ ?_
  refine .cons ⟨51, rfl, _, tupK X (by k_is), .cons ⟨48, _, _, rfl, tupK X (by k_is)⟩ (.cons ⟨49, _, _, rfl, tupK X (by k_is)⟩ (.cons ⟨50, _, _, rfl, tupK X (by k_is)⟩ (.nil)))⟩ ?_
  refine .cons ⟨53, rfl, _, tupK X (by k_is), .cons ⟨52, _, _, rfl, tupK X (by k_is)⟩ (.nil)⟩ ?_
  refine .cons ⟨55, rfl, _, tupK X (by k_is), .cons ⟨54, _, _, rfl, tupK X (by k_is)⟩ (.nil)⟩ ?_
  refine .cons ⟨59, rfl, _, tupK X (by k_is), .cons ⟨56, _, _, rfl, tupK X (by k_is)⟩ (.cons ⟨57, _, _, rfl, tupK X (by k_is)⟩ (.cons ⟨58, _, _, rfl, tupK X (by k_is)⟩ (.nil)))⟩ ?_
  refine .cons ⟨61, rfl, _, tupK X (by k_is), .cons ⟨60, _, _, rfl, tupK X (by k_is)⟩ (.nil)⟩ ?_
  refine .cons ⟨63, rfl, _, tupK X (by k_is), .cons ⟨62, _, _, rfl, tupK X (by k_is)⟩ (.nil)⟩ ?_
  refine .cons ⟨67, rfl, _, tupK X (by k_is), .cons ⟨64, _, _, rfl, tupK X (by k_is)⟩ (.cons ⟨65, _, _, rfl, tupK X (by k_is)⟩ (.cons ⟨66, _, _, rfl, tupK X (by k_is)⟩ (.nil)))⟩ ?_
  exact .nil
noncomputable def tabRefs : List Value := [.ref 43, .ref 45, .ref 47, .ref 51, .ref 53, .ref 55, .ref 59, .ref 61, .ref 63, .ref 67]
noncomputable def CharsAre (vs : List Value) (cs : List Nat) : Prop := Paired (fun v c => ∃ t, v = Value.str (S [c]) t) vs cs
theorem chars_are {vs : List Value} {cs : List Nat} (h : CharsAre vs cs) : PyProof.Rows.StrsAre vs (cs.map fun c => S [c]) := by
  unfold CharsAre at h
  induction h with
  | nil => exact .nil
  | cons h _ ih =>
    obtain ⟨t, rfl⟩ := h
    exact .cons _ t ih
theorem join_S (ls : List (List Nat)) : Txt.join (Str.ofString "") (ls.map S) = S ls.flatten := by
  unfold Txt.join
  rw [StrLaws.glued_eq_join]
  induction ls with
  | nil => rfl
  | cons l r ih =>
    cases r with
    | nil => show S l = S (l ++ []); rw [List.append_nil]
    | cons k r =>
      show S l ++ Str.ofString "" ++ Str.join (Str.ofString "") ((k :: r).map S) = _
      rw [ih]
      show S l ++ S [] ++ S (k :: r).flatten = _
      rw [S_append, S_append, List.append_nil]; rfl
theorem flat_ones (cs : List Nat) : (cs.map fun c => [c]).flatten = cs := by
  induction cs with
  | nil => rfl
  | cons c cs ih => rw [List.map_cons, List.flatten_cons, ih]; rfl
theorem join_chars (cs : List Nat) : Txt.join (Str.ofString "") (cs.map fun c => S [c]) = S cs := by
  have := join_S (cs.map fun c => [c])
  rw [List.map_map, flat_ones] at this
  exact this
theorem sum_ones (cs : List Nat) : ((cs.map fun c => S [c]).map (·.length)).sum = cs.length := by
  induction cs with
  | nil => rfl
  | cons c cs ih => simp only [List.map_cons, List.sum_cons, ih, List.length_cons]; show 1 + _ = _; omega
noncomputable def ModeJ (md : Int) (tx : Tok) (l' : Addr) (i : Nat) (m : Str → Option Value) (news : List (Addr × Obj)) : Prop :=
  Has m [(Str.ofString "mode", .int md tx), (Str.ofString "perm", .ref l')] ∧ ∃ vs n, news = [(l', listOf (List.toArray vs) n)] ∧ CharsAre vs (fmChars md i)
theorem mode_end {s : Shared} {Q : Flow → Shared → Prop} {h₀ h' : Heap} {L l' : Addr} {m' : Str → Option Value} {md : Int} {tx t : Tok} {vs : List Value} {n i tk c : Nat} {own : List (Addr × Obj)} {wr : List Addr} {ps : List (Int × Nat)} {x : Str}
    (F : Fr h₀ L h' m') (N : News h₀ L h' ((l', listOf ((List.toArray vs).push (.str x t)) n) :: own)) (hx : x = S [c]) (hm : Has m' [(Str.ofString "mode", .int md tx), (Str.ofString "perm", .ref l')]) (hw : l' ∉ wr)
    (hvs : CharsAre vs (fmChars md i)) (hps : fmTab[i]? = some ps) (hc : pickC i md ps = c) : TEndW h₀ L own wr (ModeJ md tx l' (i + 1)) s Q .next { s with heap := h', toks := tk } := by
  refine TEndW.next (news' := [(l', listOf (List.toArray (vs ++ [.str x t])) n)]) F (by simpa using N) (fun q hq => by rw [List.mem_singleton.mp hq]; exact hw) ⟨hm, _, _, rfl, ?_⟩
  have e : fmChars md (i + 1) = fmChars md i ++ [c] := by
    unfold fmChars
    rw [List.range_succ, List.map_append]
    simp [List.getD, hps, hc]
  rw [e]
  exact Paired.snoc hvs ⟨t, by rw [hx]⟩
theorem drop_at {α : Type} {l : List α} {j : Nat} {a : α} (h : l[j]? = some a) : l.drop j = a :: l.drop (j + 1) := by
  obtain ⟨hlt, rfl⟩ := List.getElem?_eq_some_iff.mp h
  exact List.drop_eq_getElem_cons hlt
theorem pick_hit {i : Nat} {md b : Int} {c j : Nat} {ps : List (Int × Nat)} (hbc : ps[j]? = some (b, c)) (hpk : pickC i md (ps.drop j) = pickC i md ps) (hm : matchB i md b = true) : pickC i md ps = c := by
  rw [← hpk, drop_at hbc]
  simp [pickC, hm]
theorem pick_miss {i : Nat} {md b : Int} {c j : Nat} {ps : List (Int × Nat)} (hbc : ps[j]? = some (b, c)) (hpk : pickC i md (ps.drop j) = pickC i md ps) (hm : matchB i md b = false) : pickC i md (ps.drop (j + 1)) = pickC i md ps := by
  rw [← hpk, drop_at hbc]
  simp [pickC, hm]
theorem c_mode {w : World} {p : Program} {loose : List Str} {mg mb : Str → Option Value} {A : Around} {s : Shared} {Q E : Value → Shared → Prop} {md : Int} {tx : Tok}
    (hA : Amb A 2) (G : Gnd w p loose mg mb s.heap)
    (ret : ∀ t h' tk', s.heap.StaysIn h' → Q (.str (S (fmChars md 10)) t) { s with heap := h', toks := tk' }) :
    wpAny (model PySem.Challenge.rw_oh0027_01.row.prog w) A (call (.ref 75) [.int md tx]) Q E s := by
  k_with_none
  k_with "call builtin:list.append" => (refine hold_in ?_)
  k_with "exec For Tuple Call cons nil" => (refine hold_in ?_)
  k_with "exec For Tuple Name" => (refine hold_in ?_)
  k_with "exec For Tuple Name cons cons" => (refine hold_in ?_)
  k_with "call ref" => (((with_reducible show wpAny _ _ (call (Value.ref 35) _) _ _ _); (refine c_ifmtK (by first | assumption | exact Amb.deeper (by assumption)) (by assumption) (by assumption) (by k_asm) (by k_asm) ?_); intro _ _ _ _ _; (try k_sweep)))
  obtain ⟨X, T⟩ := G
  revert X; k_fill; intro X
  refine' enter_pure (binds := [(Str.ofString "mode", .int md tx)]) X T.nolimit ?k1 ?k2 ?k3 ?k4 ?k5 ?c0 ?c1 ?c2 ?c3 ?_
  ( (case k1 => first | exact Nat.lt_of_le_of_lt (Nat.le_add_right _ _) (Amb.depth (by assumption)) | fail "room"); (case k2 => k_is); (case k3 => k_is); (case k4 => exact BindsTo.of_eq rfl); (case k5 => exact locs rfl); (case c0 => decide); (case c1 => exact rfl); (case c2 => exact rfl); (case c3 => exact rfl))
  intro h₁ L tk hL htk F N
  show wpAny _ _ _ _ _ _
  k_fold
  k_steps
  unfold Hold
  rename_i l' _ _ _ F' N'
  refine wpAny_For ?_ (by intro _; rfl)
  show wpAny _ _ _ _ _ _
  k_fold
  k_steps
  have hA' : Amb (A.deeper (envOf (Str.ofString "filemode") default L 75 (.ref 74))) 1 := hA.deeper
  have h68 : s.heap.IsTuple 68 tabRefs.toArray := tupK X (by k_is)
  have hS := h68
  obtain ⟨o68, ho68, _⟩ := id h68
  have h68' := (F'.keep _ _ ho68)
  refine call_enum_tuple (let ⟨o, ho, r⟩ := h68; ⟨o, F'.keep _ _ ho, r⟩) fun h₂ hE hI hz hk => ?_
  refine wpAny_pyIter_enum hE ?_
  have hlt : 68 < _ := Heap.lt_size h68'
  obtain ⟨oI, hoI, _⟩ := id hI
  have hl2 := Heap.lt_size hE
  have hLlt : L < _ := F'.ns.lt
  have hl'lt : l' < _ := Heap.lt_size (N' _ (.head _)).1
  refine loop_turns (L := L) (h₀ := s.heap) (turns_enum (by exact hA.handled) _ _ 68 (Nat.succ_ne_self _) (Nat.ne_of_gt (Nat.lt_succ_of_lt hlt)) (Nat.ne_of_lt hlt) tabRefs.toArray)
    (ModeJ md tx l')
    ?e2 ?e3 ?e4 ?e5 ⟨⟨_, hE⟩, hI, ?e6⟩ (F'.kept hk) (N'.grown hk) ⟨Has.cons rfl (Has.cons rfl Has.nil), [], 0, rfl, .nil⟩ ?_ ?_
  case e6 => exact let ⟨o, ho, r⟩ := h68; ⟨o, hk _ _ (F'.keep _ _ ho), r⟩
  case e5 =>
    intro q hq
    rw [List.mem_singleton.mp hq]
    simp only [List.mem_cons, List.mem_singleton, List.not_mem_nil, or_false, not_or]
    exact ⟨Nat.ne_of_lt (Nat.lt_succ_of_lt hl'lt), Nat.ne_of_lt hl'lt⟩
  case e4 =>
    rintro i h ⟨⟨old, he⟩, ⟨o, ho, _⟩, _⟩ b hb
    rcases List.mem_cons.mp hb with rfl | hb
    · exact ⟨_, he⟩
    · rw [List.mem_singleton.mp hb]; exact ⟨_, ho⟩
  case e3 =>
    intro b hb
    have hs : s.heap.objs.size ≤ L := F'.above
    rcases List.mem_cons.mp hb with rfl | hb
    · exact Heap.get?_none_of_le (by omega)
    · rw [List.mem_singleton.mp hb]; exact Heap.get?_none_of_le (by omega)
  case e2 =>
    simp only [List.mem_cons, List.not_mem_nil, or_false, not_or]
    refine ⟨Nat.ne_of_lt (Nat.lt_succ_of_lt hLlt), Nat.ne_of_lt hLlt, Nat.ne_of_gt ?_⟩
    exact Nat.lt_of_lt_of_le (Heap.lt_size ho68) F'.above
  · intro i v m₁ news₁ h₃ tk₃ own hi hP hJ F₃ N₃ hw₃ hown hof
    refine turn_abs fun G hG => ?_
    obtain ⟨T, vals, rfl, ⟨u, x, hx, rfl⟩, hT⟩ := hP
    obtain ⟨hm, vs, n, rfl, hvs⟩ := hJ
    replace F₃ := fr_has F₃ hm
    simp only [withs] at F₃
    refine unpack2 (by exact hA.handled) hT F₃ N₃ (fun h₄ tk₄ F₄ N₄ => ?_) rfl rfl rfl
    clear F₃ N₃ hT
    have hx2 : tabRefs[i]? = some x := by simpa using hx
    have hi10 : i < 10 := by simpa [tabRefs] using hi
    obtain ⟨ps, hps, T2, rfl, items2, hT2, hpairs⟩ : ∃ ps, fmTab[i]? = some ps ∧ TabOk s.heap x ps := by
      obtain ⟨ps, h1, h2⟩ := paired_get (tabs_ok X) i x hx2
      exact ⟨ps, h1, h2⟩
    have hlw : l' ∉ [_, _] := hw₃ _ (.head _)
    have hl68 : l' ≠ 68 := fun e => by have := (N₄ _ (.head _)).2.2; rw [e, ho68] at this; cases this
    have hol : ∀ q ∈ own, q.1 ≠ l' := fun q hq e => by
      have h9 := hof q hq
      rw [e] at h9
      simp only [List.mem_cons, List.not_mem_nil, or_false, not_or] at h9 hlw
      rcases h9 with h9 | h9 | h9
      · exact hlw.1 h9
      · exact hlw.2 h9
      · exact hl68 h9
    have hnew : ∀ {x : Value} {own₂ : List (Addr × Obj)}, ∀ q ∈ (l', listOf ((List.toArray vs).push x) (n + 1)) :: own, q = (l', listOf ((List.toArray vs).push x) (n + 1)) ∨ (q ∈ (l', listOf (List.toArray vs) n) :: own ++ own₂ ∧ q.1 ≠ l') := fun q hq => by
      rcases List.mem_cons.mp hq with rfl | hq
      · exact .inl rfl
      · exact .inr ⟨List.mem_append_left _ (.tail _ hq), hol q hq⟩
    have hsz : (List.toArray vs).size ≤ sizeLine := by
      have h9 := hvs.length
      simp only [fmChars, List.length_map, List.length_range] at h9
      rw [sizeLine_eq, List.size_toArray]; omega
    show wpAny _ _ _ _ _ _
    try k_fold
    k_steps
    unfold Hold
    refine wpAny_For ?_ (by intro _; rfl)
    refine ld F₄ rfl ?_
    have hT4 : h₄.IsTuple T2 items2 := let ⟨o, ho, r⟩ := hT2; ⟨o, F₄.keep _ _ ho, r⟩
    refine wpAny_pyIter_tuple hT4 ?_
    obtain ⟨o2, ho2, _⟩ := id hT2
    have hT2lt := Heap.lt_size (F₄.keep _ _ ho2)
    have hL4 : L < _ := F₄.ns.lt
    refine loop_turns (L := L) (h₀ := s.heap) (turns_tuple (by exact hA.handled) _ T2 (Nat.ne_of_lt hT2lt) items2)
      (fun j m news => Has m [(Str.ofString "mode", .int md tx), (Str.ofString "perm", .ref l'), (Str.ofString "index", .int i u)] ∧ news = (l', listOf (List.toArray vs) n) :: own ∧ pickC i md (ps.drop j) = pickC i md ps)
      ?e2 ?e3 ?e4 ?e5 ⟨⟨_, Heap.get?_push_size _ rfl, rfl, rfl⟩, hT4.push _⟩ (F₄.push _) (fun q hq => ⟨Heap.get?_push_of_some _ (N₄ q hq).1, (N₄ q hq).2⟩) ⟨Has.cons rfl (Has.cons rfl (Has.cons rfl Has.nil)), rfl, rfl⟩ ?_ ?_
    case e5 => exact fun q hq hq2 => Nat.ne_of_lt (Heap.lt_size (N₄ q hq).1) (List.mem_singleton.mp hq2)
    case e4 =>
      rintro j h ⟨⟨o, ho, _⟩, _⟩ b hb
      rw [List.mem_singleton.mp hb]; exact ⟨o, ho⟩
    case e3 =>
      intro b hb
      rw [List.mem_singleton.mp hb]; exact next_is_new F₄
    case e2 =>
      simp only [List.mem_cons, List.not_mem_nil, or_false, not_or]
      exact ⟨Nat.ne_of_lt hL4, Nat.ne_of_gt (Nat.lt_of_lt_of_le (Heap.lt_size ho2) F₄.above)⟩
    · intro j v m₂ news₂ h₅ tk₅ own₂ hj hv hJ F₅ N₅ hw₅ hown₅ hof₅
      refine turn_abs fun G₂ hG₂ => ?_
      obtain ⟨hm₂, rfl, hpk⟩ := hJ
      obtain ⟨⟨b, c⟩, hbc, a, t, t', rfl, hat⟩ := paired_get hpairs j v (by simpa using hv)
      replace F₅ := fr_has F₅ hm₂
      simp only [withs] at F₅
      clear F₄ N₄
      refine unpack2 (by exact hA.handled) (let ⟨o, ho, r⟩ := hat; ⟨o, F₅.keep _ _ ho, r⟩) F₅ N₅ (fun h₆ tk₆ F₆ N₆ => ?_) rfl rfl rfl
      clear F₅ N₅
      show wpAny _ _ _ _ _ _
      try k_fold
      (repeat' (first | (k_unfold; (try dsimp only)) | walk1 | (dsimp only; walk1)))
      · unfold Hold
        rename_i hi0 _ _ _ _ F₇ N₇ hmt
        refine append_my ((l', listOf ((List.toArray vs).push (.str (S [c]) t')) (n + 1)) :: own) F₇ N₇ (.head _) hnew hsz fun h' F' N' => ?_
        clear F₇ N₇
        (repeat' (first | (k_unfold; (try dsimp only)) | walk1 | (dsimp only; walk1)))
        refine hG₂ _ _ ?_
        dsimp only [TEndW]
        (repeat' (first | (k_unfold; (try dsimp only)) | walk1 | (dsimp only; walk1)))
        exact hG _ _ <| mode_end F' N' rfl (Has.cons rfl (Has.cons rfl Has.nil)) hlw hvs hps (pick_hit hbc hpk (by unfold matchB; rw [if_pos (by omega)]; simpa using hmt))
      · rename_i hi0 _ _ _ _ F₇ N₇ hmt
        refine hG₂ _ _ <| TEndW.next (news' := (l', listOf (List.toArray vs) n) :: own) F₇ N₇ hw₅ ⟨Has.cons rfl (Has.cons rfl (Has.cons rfl Has.nil)), rfl, pick_miss hbc hpk ?_⟩
        unfold matchB; rw [if_pos (by omega)]; simpa using hmt
      · unfold Hold
        rename_i hi0 _ hmt
        refine append_my ((l', listOf ((List.toArray vs).push (.str (S [c]) t')) (n + 1)) :: own) F₆ N₆ (.head _) hnew hsz fun h' F' N' => ?_
        clear F₆ N₆
        (repeat' (first | (k_unfold; (try dsimp only)) | walk1 | (dsimp only; walk1)))
        refine hG₂ _ _ ?_
        dsimp only [TEndW]
        (repeat' (first | (k_unfold; (try dsimp only)) | walk1 | (dsimp only; walk1)))
        exact hG _ _ <| mode_end F' N' rfl (Has.cons rfl (Has.cons rfl Has.nil)) hlw hvs hps (pick_hit hbc hpk (by unfold matchB; rw [if_neg (by omega)]; simpa using hmt))
      · rename_i hi0 _ hmt
        refine hG₂ _ _ <| TEndW.next (news' := (l', listOf (List.toArray vs) n) :: own) F₆ N₆ hw₅ ⟨Has.cons rfl (Has.cons rfl (Has.cons rfl Has.nil)), rfl, pick_miss hbc hpk ?_⟩
        unfold matchB; rw [if_neg (by omega)]; simpa using hmt
    · rintro h₅ tk₅ m₂ news₂ ⟨hm₂, rfl, hpk⟩ F₅ N₅
      replace F₅ := fr_has F₅ hm₂
      simp only [withs] at F₅
      have hdr : ps.drop items2.size = [] := by
        have h9 := hpairs.length
        rw [Array.length_toList] at h9
        rw [h9, List.drop_length]
      rw [hdr] at hpk
      clear F₄ N₄
      replace N₅ : News s.heap L h₅ ((l', listOf (List.toArray vs) n) :: own ++ []) := by rw [List.append_nil]; exact N₅
      show wpAny _ _ _ _ _ _
      try k_fold
      (repeat' (first | (k_unfold; (try dsimp only)) | walk1 | (dsimp only; walk1)))
      · unfold Hold
        rename_i hi0 _
        refine append_my ((l', listOf ((List.toArray vs).push _) (n + 1)) :: own) F₅ N₅ (.head _) hnew hsz fun h' F' N' => ?_
        clear F₅ N₅
        (repeat' (first | (k_unfold; (try dsimp only)) | walk1 | (dsimp only; walk1)))
        exact hG _ _ <| mode_end F' N' (c := 63) rfl (Has.cons rfl (Has.cons rfl Has.nil)) hlw hvs hps (by rw [← hpk]; unfold pickC; rw [if_pos (by omega)])
      · unfold Hold
        rename_i hi0 _
        refine append_my ((l', listOf ((List.toArray vs).push _) (n + 1)) :: own) F₅ N₅ (.head _) hnew hsz fun h' F' N' => ?_
        clear F₅ N₅
        (repeat' (first | (k_unfold; (try dsimp only)) | walk1 | (dsimp only; walk1)))
        exact hG _ _ <| mode_end F' N' (c := 45) rfl (Has.cons rfl (Has.cons rfl Has.nil)) hlw hvs hps (by rw [← hpk]; unfold pickC; rw [if_neg (by omega)])
  · rintro h₃ tk₃ m₁ news₁ ⟨hm, vs, n, rfl, hvs⟩ F₃ N₃
    replace F₃ := fr_has F₃ hm
    simp only [withs] at F₃
    clear F' N'
    show wpAny _ _ _ _ _ _
    (repeat' (first | (k_unfold; (try dsimp only)) | walk1 | (dsimp only; walk1)))
    have hlen : (fmChars md 10).length = 10 := by simp [fmChars]
    refine join_listC (News.isList N₃ (.head _)) (chars_are hvs) (by decide) ?_ fun t' k => ?_
    · show ((List.map _ (List.map _ (fmChars md 10))).sum + (List.map _ (fmChars md 10)).length * 64) ≤ _
      rw [sum_ones, List.length_map, hlen]; decide
    · rw [join_chars]
      exact ret _ _ _ F₃.keep
end Mine
end
section
open PySem PySem.W PySem.Calls PyProof.Rows
set_option maxRecDepth 100000
set_option maxHeartbeats 4000000
namespace Mine
section
variable {prog : Program} {w : World} {A : Around} {E : Value → Shared → Prop} {s : Shared} {env : Env} {h₀ : Heap} {L : Addr} {Q : Flow → Shared → Prop}
/-- a for over one iterator's own walk, one name as its target -/
theorem loop_walk {x : Str} {px : Pos} {body orelse : List Stmt} {I : Addr} {n : Nat} {P : Nat → Value → Prop} {St : Nat → Heap → Prop} {m : Str → Option Value} {news : List (Addr × Obj)}
    (W : Walks prog w A I [I] [I] n P St) (J : Nat → (Str → Option Value) → List (Addr × Obj) → Prop)
    (hLI : L ≠ I) (hI0 : h₀.get? I = none) (hob : ∀ i h, St i h → ∃ o, h.get? I = some o) (hnw : ∀ p ∈ news, p.1 ≠ I) (hst : St 0 s.heap)
    (F : Fr h₀ L s.heap m) (N : News h₀ L s.heap news) (h0 : J 0 m news)
    (step : ∀ i v m₁ news₁ h₁ tk₁ oI, i < n → P i v → J i m₁ news₁ → Fr h₀ L h₁ m₁ → News h₀ L h₁ ((I, oI) :: news₁) → (∀ p ∈ news₁, p.1 ≠ I) →
      wpAny (model prog w) A (assign (.Name x px) env v) (fun _ s₂ => wpAny (model prog w) A (execs body env)
        (TEnd h₀ L I oI (J (i + 1)) s Q) (fun _ _ => False) s₂) (fun _ _ => False) { s with heap := h₁, toks := tk₁ })
    (done : ∀ h' tk m' news', J n m' news' → Fr h₀ L h' m' → News h₀ L h' news' →
      wpAny (model prog w) A (execs orelse env) (fun f s₃ => Q f s₃) (fun _ _ => False) { s with heap := h', toks := tk }) :
    codeAny (model prog w) A (.forLoop (.Name x px) (.ref I) body orelse env) (fun r s' => match r with | .ok f => Q f s' | .error e => cameBackBy (model prog w) A env E e s') s := by
  refine loop_turns (KTurns.ofWalks (target := .Name x px) W fun _ _ _ _ _ _ hq => wpAny_pure hq) J (fun h => hLI (List.mem_singleton.mp h)) (fun b hb => by rw [List.mem_singleton.mp hb]; exact hI0) (fun i h hs b hb => by rw [List.mem_singleton.mp hb]; exact hob i h hs)
    (fun q hq hm => hnw q hq (List.mem_singleton.mp hm)) hst F N h0 ?_ done
  intro i v m₁ news₁ h₁ tk₁ own hi hP hJ F₁ N₁ hw hown hof
  obtain ⟨oI, hoI⟩ := hown I (.head _)
  have hoh := (N₁ _ (List.mem_append_right _ hoI)).1
  have N₂ : News h₀ L h₁ ((I, oI) :: news₁) := fun q hq => by
    rcases List.mem_cons.mp hq with rfl | hq
    · exact N₁ _ (List.mem_append_right _ hoI)
    · exact N₁ q (List.mem_append_left _ hq)
  refine wpAny_mono (step i v m₁ news₁ h₁ tk₁ oI hi hP hJ F₁ N₂ fun q hq e => hw q hq (List.mem_singleton.mpr e)) (fun _ s₂ h₂ => wpAny_mono h₂ (fun f s₃ h₃ => ?_) fun _ _ e => e) fun _ _ e => e
  have fin : (∃ h' tk m' news', s₃ = { s with heap := h', toks := tk } ∧ Fr h₀ L h' m' ∧ News h₀ L h' ((I, oI) :: news') ∧ (∀ p ∈ news', p.1 ≠ I) ∧ J (i + 1) m' news') →
      ∃ h' tk m' news', s₃ = { s with heap := h', toks := tk } ∧ Fr h₀ L h' m' ∧ News h₀ L h' (news' ++ own) ∧ (∀ p ∈ news', p.1 ∉ [I]) ∧ J (i + 1) m' news' := by
    rintro ⟨h', tk, m', news', e, F', N', hn, hj⟩
    refine ⟨h', tk, m', news', e, F', fun q hq => ?_, fun q hq hm => hn q hq (List.mem_singleton.mp hm), hj⟩
    rcases List.mem_append.mp hq with hq | hq
    · exact N' q (.tail _ hq)
    · have h1 : q.1 = I := List.mem_singleton.mp (hof q hq)
      have h2 := (N₁ q (List.mem_append_right _ hq)).1
      rw [h1, hoh] at h2
      have h3 : q = (I, oI) := Prod.ext h1 (Option.some.inj h2).symm
      rw [h3]; exact N' _ (.head _)
  cases f with
  | ret v => exact h₃
  | brk => exact h₃
  | next => exact fin h₃
  | cont => exact fin h₃
theorem loop_str {x : Str} {px : Pos} {body orelse : List Stmt} {l : List Nat} {t : Tok} {m : Str → Option Value} {news : List (Addr × Obj)}
    (J : Nat → (Str → Option Value) → List (Addr × Obj) → Prop) (hh : A.handled = none)
    (F : Fr h₀ L s.heap m) (N : News h₀ L s.heap news) (h0 : J 0 m news)
    (step : ∀ i c u m₁ news₁ h₁ tk₁ I oI, l[i]? = some c → J i m₁ news₁ → Fr h₀ L h₁ m₁ → News h₀ L h₁ ((I, oI) :: news₁) → (∀ p ∈ news₁, p.1 ≠ I) →
      wpAny (model prog w) A (assign (.Name x px) env (.str (S [c]) u)) (fun _ s₂ => wpAny (model prog w) A (execs body env)
        (TEnd h₀ L I oI (J (i + 1)) s Q) (fun _ _ => False) s₂) (fun _ _ => False) { s with heap := h₁, toks := tk₁ })
    (done : ∀ h' tk m' news', J l.length m' news' → Fr h₀ L h' m' → News h₀ L h' news' →
      wpAny (model prog w) A (execs orelse env) (fun f s₃ => Q f s₃) (fun _ _ => False) { s with heap := h', toks := tk }) :
    wpAny (model prog w) A (pyIter (.str (S l) t)) (fun it s₂ => codeAny (model prog w) A (.forLoop (.Name x px) it body orelse env) (fun r s' => match r with | .ok f => Q f s' | .error e => cameBackBy (model prog w) A env E e s') s₂) E s := by
  have hsz : (S l).cps.size = l.length := by show l.toArray.size = _; simp
  have hget : ∀ i c, (S l).cps[i]? = some c → l[i]? = some c := fun i c h => (List.getElem?_toArray ..).symm.trans h
  cases ha : (S l).cps.all (· < 128)
  · refine wpAny_pyIter_wide ha ?_
    have W := Walks.strWide (prog := prog) (w := w) hh s.heap.objs.size (S l) t
    rw [hsz] at W
    refine loop_walk W J (Nat.ne_of_lt F.ns.lt) (next_is_new F) (fun i h hs => let ⟨o, ho, _⟩ := hs; ⟨o, ho⟩) (fun q hq => Nat.ne_of_lt (Heap.lt_size (N q hq).1)) ⟨_, Heap.get?_push_size _ rfl, rfl, rfl⟩ (F.push _) (fun q hq => ⟨Heap.get?_push_of_some _ (N q hq).1, (N q hq).2⟩) h0 ?_ done
    rintro i v m₁ news₁ h₁ tk₁ oI hi ⟨c, u, hc, rfl⟩ hJ F₁ N₁ hn
    exact step i c u m₁ news₁ h₁ tk₁ _ oI (hget i c hc) hJ F₁ N₁ hn
  · refine wpAny_pyIter_ascii ha ?_
    have W := Walks.strAscii (prog := prog) (w := w) hh s.heap.objs.size (S l) t
    rw [hsz] at W
    refine loop_walk W J (Nat.ne_of_lt F.ns.lt) (next_is_new F) (fun i h hs => let ⟨o, ho, _⟩ := hs; ⟨o, ho⟩) (fun q hq => Nat.ne_of_lt (Heap.lt_size (N q hq).1)) ⟨_, Heap.get?_push_size _ rfl, rfl, rfl⟩ (F.push _) (fun q hq => ⟨Heap.get?_push_of_some _ (N q hq).1, (N q hq).2⟩) h0 ?_ done
    rintro i v m₁ news₁ h₁ tk₁ oI hi ⟨c, u, hc, rfl⟩ hJ F₁ N₁ hn
    exact step i c u m₁ news₁ h₁ tk₁ _ oI (hget i c hc) hJ F₁ N₁ hn
end
section
variable {prog : Program} {w : World} {A : Around} {E : Value → Shared → Prop} {s : Shared} {env : Env} {h₀ : Heap} {L : Addr} {Q : Flow → Shared → Prop}
theorem loop_range {x : Str} {px : Pos} {body orelse : List Stmt} {r : Addr} {b₀ : Int} {n : Nat} {t₀ u₀ v₀ : Tok} {m : Str → Option Value} {news : List (Addr × Obj)}
    (J : Nat → (Str → Option Value) → List (Addr × Obj) → Prop) (hh : A.handled = none) (hr : IsRange s.heap r 0 b₀ 1 t₀ u₀ v₀) (hb : b₀ = (n : Int)) (hsmall : n ≤ 1000)
    (F : Fr h₀ L s.heap m) (N : News h₀ L s.heap news) (h0 : J 0 m news)
    (step : ∀ (i : Nat) u m₁ news₁ h₁ tk₁ I oI, i < n → J i m₁ news₁ → Fr h₀ L h₁ m₁ → News h₀ L h₁ ((I, oI) :: news₁) → (∀ p ∈ news₁, p.1 ≠ I) →
      wpAny (model prog w) A (assign (.Name x px) env (.int (i : Int) u)) (fun _ s₂ => wpAny (model prog w) A (execs body env)
        (TEnd h₀ L I oI (J (i + 1)) s Q) (fun _ _ => False) s₂) (fun _ _ => False) { s with heap := h₁, toks := tk₁ })
    (done : ∀ h' tk m' news', J n m' news' → Fr h₀ L h' m' → News h₀ L h' news' →
      wpAny (model prog w) A (execs orelse env) (fun f s₃ => Q f s₃) (fun _ _ => False) { s with heap := h', toks := tk }) :
    wpAny (model prog w) A (pyIter (.ref r)) (fun it s₂ => codeAny (model prog w) A (.forLoop (.Name x px) it body orelse env) (fun r s' => match r with | .ok f => Q f s' | .error e => cameBackBy (model prog w) A env E e s') s₂) E s := by
  subst hb
  have hsz : Builtin.Range.rangeSize 0 (n : Int) 1 = (n : Int) := by
    unfold Builtin.Range.rangeSize
    rw [if_pos (by decide)]
    split <;> omega
  have hsm : Builtin.Range.small 0 (n : Int) 1 = true := by
    unfold Builtin.Range.small
    try rw [hsz]
    have hf : Builtin.Range.rangeFitsLong (n : Int) = true := by
      unfold Builtin.Range.rangeFitsLong
      simp
      omega
    have hz : ((n : Int) + (1 - 1)) = (n : Int) := by omega
    simp only [Bool.and_eq_true]
    refine ⟨⟨⟨⟨by decide, hf⟩, by decide⟩, hf⟩, ?_⟩
    rw [if_pos (by decide), hz, hf, Bool.or_true]
  refine wpAny_pyIter_range hr hsm ?_
  have W := Walks.range (prog := prog) (w := w) hh s.heap.objs.size 0 1 n
  refine loop_walk W J (Nat.ne_of_lt F.ns.lt) (next_is_new F) (fun i h hs => ⟨_, hs⟩) (fun q hq => Nat.ne_of_lt (Heap.lt_size (N q hq).1)) (by show IsRangeIter _ _ _ _ _; rw [hsz]; simpa using Heap.get?_push_size _ rfl) (F.push _) (fun q hq => ⟨Heap.get?_push_of_some _ (N q hq).1, (N q hq).2⟩) h0 ?_ done
  rintro i v m₁ news₁ h₁ tk₁ oI hi ⟨t, rfl⟩ hJ F₁ N₁ hn
  have e : (0 : Int) + (i : Int) * 1 = (i : Int) := by omega
  rw [e]
  exact step i t m₁ news₁ h₁ tk₁ _ oI hi hJ F₁ N₁ hn
end
theorem star_sub (v s : Expr) (p : Pos) (rest : List Expr) (env : Env) : starEach (.Subscript v s p :: rest) env = (false, eval (.Subscript v s p) env) :: starEach rest env := by rfl
theorem star_bin (v s : Expr) (o : Operator) (p : Pos) (rest : List Expr) (env : Env) : starEach (.BinOp v o s p :: rest) env = (false, eval (.BinOp v o s p) env) :: starEach rest env := by rfl
noncomputable def keyC (c : Nat) : Int :=
  if c = 9 then 304 else if c = 10 then 305 else if c = 13 then 306 else if c = 38 then 307 else if c = 62 then 308 else if c = 60 then 309 else if c = 34 then 310 else 8 * (c : Int)
theorem find_is (c : Nat) : Txt.find (Str.ofString "\t\n\r&><\"") (S [c]) = if c = 9 then 0 else if c = 10 then 1 else if c = 13 then 2 else if c = 38 then 3 else if c = 62 then 4 else if c = 60 then 5 else if c = 34 then 6 else -1 := by
  by_cases h1 : c = 9
  · subst h1; decide +kernel
  by_cases h2 : c = 10
  · subst h2; decide +kernel
  by_cases h3 : c = 13
  · subst h3; decide +kernel
  by_cases h4 : c = 38
  · subst h4; decide +kernel
  by_cases h5 : c = 62
  · subst h5; decide +kernel
  by_cases h6 : c = 60
  · subst h6; decide +kernel
  by_cases h7 : c = 34
  · subst h7; decide +kernel
  simp only [h1, h2, h3, h4, h5, h6, h7, if_false]
  have hno : c ∉ (Str.ofString "\t\n\r&><\"").cps.toList := by
    rw [show (Str.ofString "\t\n\r&><\"").cps.toList = [9, 10, 13, 38, 62, 60, 34] from by decide +kernel]
    simp [h1, h2, h3, h4, h5, h6, h7]
  have := StrLaws.found_one (Str.ofString "\t\n\r&><\"") c
  rw [decide_eq_false hno] at this
  unfold Txt.find
  cases he : Builtin.Str.occurrences (Str.ofString "\t\n\r&><\"") (S [c]) 0 (Str.ofString "\t\n\r&><\"").length 1 with
  | nil => rfl
  | cons i r =>
    rw [show (⟨#[c]⟩ : Str) = S [c] from rfl, he] at this
    simp at this
theorem key_hit {c : Nat} (h : ¬ Txt.find (Str.ofString "\t\n\r&><\"") (S [c]) < 0) : 304 + Txt.find (Str.ofString "\t\n\r&><\"") (S [c]) = keyC c := by
  rw [find_is] at h ⊢
  unfold keyC
  by_cases h1 : c = 9
  · simp [h1]
  by_cases h2 : c = 10
  · simp [h2]
  by_cases h3 : c = 13
  · simp [h3]
  by_cases h4 : c = 38
  · simp [h4]
  by_cases h5 : c = 62
  · simp [h5]
  by_cases h6 : c = 60
  · simp [h6]
  by_cases h7 : c = 34
  · simp [h7]
  simp [h1, h2, h3, h4, h5, h6, h7] at h
theorem key_miss {c : Nat} (h : Txt.find (Str.ofString "\t\n\r&><\"") (S [c]) < 0) : 8 * (c : Int) = keyC c := by
  rw [find_is] at h
  unfold keyC
  by_cases h1 : c = 9
  · simp [h1] at h
  by_cases h2 : c = 10
  · simp [h2] at h
  by_cases h3 : c = 13
  · simp [h3] at h
  by_cases h4 : c = 38
  · simp [h4] at h
  by_cases h5 : c = 62
  · simp [h5] at h
  by_cases h6 : c = 60
  · simp [h6] at h
  by_cases h7 : c = 34
  · simp [h7] at h
  simp [h1, h2, h3, h4, h5, h6, h7]
theorem append_sing {prog : Program} {w : World} {A : Around} {E : Value → Shared → Prop} {s : Shared} {h₀ : Heap} {L D : Addr} {m : Str → Option Value} {vs : List Value} {n : Nat} {x : Value} {Q : Value → Shared → Prop}
    (F : Fr h₀ L s.heap m) (N : News h₀ L s.heap [(D, listOf (List.toArray vs) n)]) (hsz : vs.length ≤ 1000)
    (h : ∀ h' n', Fr h₀ L h' m → News h₀ L h' [(D, listOf (List.toArray (vs ++ [x])) n')] → Q .none { s with heap := h' }) : wpAny (model prog w) A (call (.builtin "list.append") [.ref D, x]) Q E s := by
  refine append_my [(D, listOf (List.toArray (vs ++ [x])) (n + 1))] F N (.head _) (fun q hq => .inl ?_) (by rw [sizeLine_eq, List.size_toArray]; omega) fun h' => h h' _
  rw [List.mem_singleton.mp hq]; simp
theorem append_only {prog : Program} {w : World} {A : Around} {E : Value → Shared → Prop} {s : Shared} {h₀ : Heap} {L D : Addr} {m : Str → Option Value} {news : List (Addr × Obj)} {vs : List Value} {n : Nat} {x : Value} {Q : Value → Shared → Prop}
    (F : Fr h₀ L s.heap m) (N : News h₀ L s.heap news) (hD : (D, listOf (List.toArray vs) n) ∈ news) (hsz : vs.length ≤ 1000)
    (h : ∀ h' n', Fr h₀ L h' m → News h₀ L h' [(D, listOf (List.toArray (vs ++ [x])) n')] → Q .none { s with heap := h' }) : wpAny (model prog w) A (call (.builtin "list.append") [.ref D, x]) Q E s := by
  refine append_my [(D, listOf (List.toArray (vs ++ [x])) (n + 1))] F N hD (fun q hq => .inl ?_) (by rw [sizeLine_eq, List.size_toArray]; omega) fun h' => h h' _
  rw [List.mem_singleton.mp hq]; simp
theorem append_duo {prog : Program} {w : World} {A : Around} {E : Value → Shared → Prop} {s : Shared} {h₀ : Heap} {L D I : Addr} {oI : Obj} {m : Str → Option Value} {vs : List Value} {n : Nat} {x : Value} {Q : Value → Shared → Prop}
    (F : Fr h₀ L s.heap m) (N : News h₀ L s.heap [(I, oI), (D, listOf (List.toArray vs) n)]) (hI : I ≠ D) (hsz : vs.length ≤ 1000)
    (h : ∀ h' n', Fr h₀ L h' m → News h₀ L h' [(I, oI), (D, listOf (List.toArray (vs ++ [x])) n')] → Q .none { s with heap := h' }) : wpAny (model prog w) A (call (.builtin "list.append") [.ref D, x]) Q E s := by
  refine append_my [(I, oI), (D, listOf (List.toArray (vs ++ [x])) (n + 1))] F N (.tail _ (.head _)) (fun q hq => ?_) (by rw [sizeLine_eq, List.size_toArray]; omega) fun h' => h h' _
  rcases List.mem_cons.mp hq with rfl | hq
  · exact .inr ⟨.head _, hI⟩
  · rw [List.mem_singleton.mp hq]; exact .inl (by simp)
noncomputable def KeyJ (l : List Nat) (tx tm : Tok) (md : Int) (l' : Addr) (i : Nat) (m : Str → Option Value) (news : List (Addr × Obj)) : Prop :=
  Has m [(Str.ofString "name", .str (S l) tx), (Str.ofString "mode", .int md tm), (Str.ofString "key", .ref l')] ∧ ∃ vs n, news = [(l', listOf (List.toArray vs) n)] ∧ IntsAre vs ((l.take i).map keyC)
theorem ints_snoc {k : Int} {t : Tok} {vs : List Value} {ks : List Int} (h : IntsAre vs ks) : IntsAre (vs ++ [.int k t]) (ks ++ [k]) := ksk_snoc h
theorem key_end {l : List Nat} {tx tm t : Tok} {md k : Int} {l' I L : Addr} {oI : Obj} {h₀ h' : Heap} {s : Shared} {Q : Flow → Shared → Prop} {i n tk c : Nat} {m' : Str → Option Value} {vs : List Value}
    (F : Fr h₀ L h' m') (N : News h₀ L h' [(I, oI), (l', listOf (List.toArray (vs ++ [.int k t])) n)]) (hm : Has m' [(Str.ofString "name", .str (S l) tx), (Str.ofString "mode", .int md tm), (Str.ofString "key", .ref l')])
    (hI : l' ≠ I) (hks : IntsAre vs ((l.take i).map keyC)) (hx : l[i]? = some c) (hk : k = keyC c) : TEnd h₀ L I oI (KeyJ l tx tm md l' (i + 1)) s Q .next { s with heap := h', toks := tk } := by
  refine TEnd.next F N (fun q hq => by rw [List.mem_singleton.mp hq]; exact hI) ⟨hm, _, _, rfl, ?_⟩
  have e : (l.take (i + 1)).map keyC = (l.take i).map keyC ++ [k] := by rw [List.take_add_one, hx, hk]; simp
  rw [e]
  exact ints_snoc hks
end Mine
end
section
open PySem PySem.W PySem.Calls PyProof.Rows
set_option maxRecDepth 100000
set_option maxHeartbeats 4000000
namespace Mine
noncomputable def kindK (md : Int) : Int := [1, 6, 3, 1, 4, 1, 2, 1, 0, 1, 5, 1, 7, 1, 1, 1].getD (md.fdiv 4096).toNat 0
noncomputable def threeI (md : Int) (i : Nat) : Int := (md.fdiv (8 ^ (2 - (i : Int)).toNat)).fmod 8
noncomputable def aboveI (md : Int) (i : Nat) : Int := (md.fdiv (2 ^ (11 - (i : Int)).toNat)).fmod 2
noncomputable def partyK (md : Int) (i : Nat) : Int := (threeI md i).fdiv 2 * 4 + [0, 1, 3, 2].getD ((threeI md i).fmod 2 * 2 + aboveI md i).toNat 0
noncomputable def keyF (l : List Nat) (md : Int) (i : Nat) : List Int := l.map keyC ++ [272, kindK md] ++ (List.range i).map (partyK md)
theorem keyF_succ (l : List Nat) (md : Int) (i : Nat) : keyF l md (i + 1) = keyF l md i ++ [partyK md i] := by
  unfold keyF; rw [List.range_succ, List.map_append, List.append_assoc _ _ (List.map _ _)]; simp
noncomputable def KeyJ2 (md : Int) (tm : Tok) (l : List Nat) (l' : Addr) (i : Nat) (m : Str → Option Value) (news : List (Addr × Obj)) : Prop :=
  Has m [(Str.ofString "mode", .int md tm), (Str.ofString "key", .ref l')] ∧ ∃ vs n, news = [(l', listOf (List.toArray vs) n)] ∧ IntsAre vs (keyF l md i)
theorem append_trio {prog : Program} {w : World} {A : Around} {E : Value → Shared → Prop} {s : Shared} {h₀ : Heap} {L D I : Addr} {oI : Obj} {o : Addr × Obj} {m : Str → Option Value} {vs : List Value} {n : Nat} {x : Value} {Q : Value → Shared → Prop}
    (F : Fr h₀ L s.heap m) (N : News h₀ L s.heap [o, (I, oI), (D, listOf (List.toArray vs) n)]) (hI : I ≠ D) (hsz : vs.length ≤ 1000)
    (h : ∀ h' n', Fr h₀ L h' m → News h₀ L h' [(I, oI), (D, listOf (List.toArray (vs ++ [x])) n')] → Q .none { s with heap := h' }) : wpAny (model prog w) A (call (.builtin "list.append") [.ref D, x]) Q E s :=
  append_duo F (fun q hq => N q (.tail _ hq)) hI hsz h
theorem pow8_ok : ∀ i : Nat, i < 3 → ((8 : Int) ^ (2 - (i : Int)).toNat ≠ 0 ∧ ((8 : Int) ^ (2 - (i : Int)).toNat).natAbs.log2 < 9000) ∧ ((2 : Int) ^ (11 - (i : Int)).toNat ≠ 0 ∧ ((2 : Int) ^ (11 - (i : Int)).toNat).natAbs.log2 < 9000) := by decide +kernel
section
variable {prog : Program} {w : World} {A : Around} {E Q : Value → Shared → Prop} {s : Shared} {i : Nat} {a : Int} {t u : Tok}
theorem fdiv8 (hi : i < 3) (h : Q (.int (a.fdiv (8 ^ (2 - (i : Int)).toNat)) s.toks) { s with toks := s.toks + 1 }) : wpAny (model prog w) A (binaryOp .FloorDiv (.int a t) (.int (8 ^ (2 - (i : Int)).toNat) u)) Q E s :=
  floordiv_int (pow8_ok i hi).1.1 h (Or.inl (PyProof.noPylong_of_log2 (pow8_ok i hi).1.2))
theorem fdiv2 (hi : i < 3) (h : Q (.int (a.fdiv (2 ^ (11 - (i : Int)).toNat)) s.toks) { s with toks := s.toks + 1 }) : wpAny (model prog w) A (binaryOp .FloorDiv (.int a t) (.int (2 ^ (11 - (i : Int)).toNat) u)) Q E s :=
  floordiv_int (pow8_ok i hi).2.1 h (Or.inl (PyProof.noPylong_of_log2 (pow8_ok i hi).2.2))
end
theorem c_key {w : World} {p : Program} {loose : List Str} {mg mb : Str → Option Value} {A : Around} {s : Shared} {Q E : Value → Shared → Prop} {l : List Nat} {tx tm : Tok} {md : Int}
    (hA : Amb A 1) (G : Gnd w p loose mg mb s.heap) (hl : l.length ≤ 8) (h0 : 0 ≤ md) (h1 : md < 65536)
    (ret : ∀ a vs n h' tk', s.heap.StaysIn h' → h'.get? a = some (listOf (List.toArray vs) n) → s.heap.get? a = none → IntsAre vs (keyF l md 3) → Q (.ref a) { s with heap := h', toks := tk' }) :
    wpAny (model PySem.Challenge.rw_oh0027_01.row.prog w) A (call (.ref 110) [.str (S l) tx, .int md tm]) Q E s := by
  k_with_none
  k_with "call builtin:list.append" => (refine hold_in ?_)
  k_with "exec For Name Name cons nil" => (refine hold_in ?_)
  k_with "callWith" => ((dsimp only; first | refine callWith_method1 ?_ (star_sub _ _ _ _ _) rfl | refine callWith_method1 ?_ (star_bin _ _ _ _ _ _) rfl))
  k_with "spliced" => (first | refine spliced_more ?_ (star_sub _ _ _ _ _) | refine spliced_more ?_ (star_bin _ _ _ _ _ _))
  k_with "exec For Name Call cons nil" => (refine hold_in ?_)
  k_with "binaryOp FloorDiv int int" => (first | refine fdiv8 (by assumption) ?_ | refine fdiv2 (by assumption) ?_)
  obtain ⟨X, T⟩ := G
  revert X; k_fill; intro X
  refine' enter_pure (binds := [(Str.ofString "name", .str (S l) tx), (Str.ofString "mode", .int md tm)]) X T.nolimit ?k1 ?k2 ?k3 ?k4 ?k5 ?c0 ?c1 ?c2 ?c3 ?_
  ( (case k1 => first | exact Nat.lt_of_le_of_lt (Nat.le_add_right _ _) (Amb.depth (by assumption)) | fail "room"); (case k2 => k_is); (case k3 => k_is); (case k4 => exact BindsTo.of_eq rfl); (case k5 => exact locs rfl); (case c0 => decide); (case c1 => exact rfl); (case c2 => exact rfl); (case c3 => exact rfl))
  intro h₁ L tk hL htk F N
  show wpAny _ _ _ _ _ _
  k_fold
  (repeat' (first | (k_unfold; (try dsimp only)) | walk1 | (dsimp only; walk1)))
  unfold Hold
  rename_i l' _ _ _ F' N'
  refine wpAny_For ?_ (by intro _; rfl)
  refine ld F' rfl ?_
  refine loop_str (KeyJ l tx tm md l') hA.handled F' N' ⟨Has.cons rfl (Has.cons rfl (Has.cons rfl Has.nil)), [], 0, rfl, .nil⟩ ?_ ?_
  · rintro i c u m₁ news₁ h₁ tk₁ I oI hx ⟨hm, vs, n, rfl, hks⟩ F₁ N₁ hI
    replace F₁ := fr_has F₁ hm
    simp only [withs] at F₁
    clear F' N'
    have hlen := hks.length
    have hi8 : i < l.length := (List.getElem?_eq_some_iff.mp hx).1
    simp only [List.length_map, List.length_take] at hlen
    refine turn_abs fun G hG => ?_
    show wpAny _ _ _ _ _ _
    k_fold
    (repeat' (first | (k_unfold; (try dsimp only)) | walk1 | (dsimp only; walk1)))
    · unfold Hold
      rename_i F₂ N₂ _ hf
      refine append_duo F₂ N₂ (fun e => hI _ (.head _) e.symm) (by omega) fun h' n' F' N' => ?_
      clear F₂ N₂
      (repeat' (first | (k_unfold; (try dsimp only)) | walk1 | (dsimp only; walk1)))
      exact hG _ _ <| key_end F' N' (Has.cons rfl (Has.cons rfl (Has.cons rfl Has.nil))) (hI _ (.head _)) hks hx (key_miss hf)
    · unfold Hold
      rename_i F₂ N₂ _ hf
      refine append_duo F₂ N₂ (fun e => hI _ (.head _) e.symm) (by omega) fun h' n' F' N' => ?_
      clear F₂ N₂
      (repeat' (first | (k_unfold; (try dsimp only)) | walk1 | (dsimp only; walk1)))
      exact hG _ _ <| key_end F' N' (Has.cons rfl (Has.cons rfl (Has.cons rfl Has.nil))) (hI _ (.head _)) hks hx (key_hit hf)
  · rintro h₁ tk₁ m₁ news₁ ⟨hm, vs, n, rfl, hks⟩ F₁ N₁
    replace F₁ := fr_has F₁ hm
    simp only [withs] at F₁
    clear F' N'
    rw [List.take_length] at hks
    have hlen := hks.length
    rw [List.length_map] at hlen
    show wpAny _ _ _ _ _ _
    (repeat' (first | (k_unfold; (try dsimp only)) | walk1 | (dsimp only; walk1)))
    unfold Hold
    refine append_sing F₁ N₁ (by omega) fun h' n' F' N' => ?_
    clear F₁ N₁
    (repeat' (first | (k_unfold; (try dsimp only)) | walk1 | (dsimp only; walk1)))
    unfold Hold
    rename_i F₂ N₂ _ _
    refine append_only F₂ N₂ (.tail _ (.head _)) (by simp; omega) fun h' n' F' N' => ?_
    clear F₂ N₂
    (repeat' (first | (k_unfold; (try dsimp only)) | walk1 | (dsimp only; walk1)))
    unfold Hold
    refine wpAny_For ?_ (by intro _; rfl)
    show wpAny _ _ _ _ _ _
    (repeat' (first | (k_unfold; (try dsimp only)) | walk1 | (dsimp only; walk1)))
    rename_i hr F₃ N₃ _
    refine loop_range (n := 3) (KeyJ2 md tm l l') hA.handled hr rfl (by decide) F₃ N₃ ⟨Has.cons rfl (Has.cons rfl Has.nil), _, _, rfl, ?_⟩ ?_ ?_
    · have e : keyF l md 0 = l.map keyC ++ [272] ++ [kindK md] := by unfold keyF; simp
      rw [e]
      exact ints_snoc (ints_snoc hks)
    · rintro i u m₂ news₂ h₂ tk₂ I oI hi ⟨hm₂, vs₂, n₂, rfl, hks₂⟩ F₄ N₄ hI
      replace F₄ := fr_has F₄ hm₂
      simp only [withs] at F₄
      clear F₃ N₃ hr
      have hlen₂ := hks₂.length
      simp only [keyF, List.length_append, List.length_map, List.length_cons, List.length_nil, List.length_range] at hlen₂
      have hIl : l' ≠ I := hI _ (.head _)
      have hi0 : (0 : Int) ≤ (i : Int) := by omega
      have hi2 : (i : Int) < 3 := by omega
      refine turn_abs fun G hG => ?_
      show wpAny _ _ _ _ _ _
      k_fold
      (repeat' (first | (k_unfold; (try dsimp only)) | walk1 | (dsimp only; walk1)))
      unfold Hold
      rename_i F₅ N₅ _ _
      refine append_trio F₅ N₅ (fun e => hI _ (.head _) e.symm) (by omega) fun h' n' F' N' => ?_
      clear F₅ N₅
      (repeat' (first | (k_unfold; (try dsimp only)) | walk1 | (dsimp only; walk1)))
      refine hG _ _ <| TEnd.next F' N' (fun q hq => by rw [List.mem_singleton.mp hq]; exact hIl) ⟨Has.cons rfl (Has.cons rfl Has.nil), _, _, rfl, ?_⟩
      rw [keyF_succ]
      exact ints_snoc hks₂
    · rintro h₂ tk₂ m₂ news₂ ⟨hm₂, vs₂, n₂, rfl, hks₂⟩ F₄ N₄
      replace F₄ := fr_has F₄ hm₂
      simp only [withs] at F₄
      clear F₃ N₃ hr
      show wpAny _ _ _ _ _ _
      (repeat' (first | (k_unfold; (try dsimp only)) | walk1 | (dsimp only; walk1)))
      exact ret l' vs₂ n₂ _ _ F₄.keep (N₄ _ (.head _)).1 (N₄ _ (.head _)).2.2 hks₂
end Mine
end
section
open PySem PySem.W PySem.Calls PyProof.Rows
open PyProof.Rows.LCg (NsObj ns_obj fr_but news_but)
set_option maxRecDepth 100000
set_option maxHeartbeats 4000000
namespace Mine
/-- what a turn of a comprehension leaves -/
noncomputable def CEnd (h₀ : Heap) (L : Addr) (m : Str → Option Value) (s : Shared) (I : Addr) (oI : Obj) (C : Addr) (oC : Obj) (D : Addr) (oD : Obj) (J : List (Addr × Obj) → Prop) (s₂ : Shared) : Prop :=
  ∃ h' tk news', s₂ = { s with heap := h', toks := tk } ∧ Fr h₀ L h' m ∧ News h₀ L h' ((I, oI) :: (C, oC) :: (D, oD) :: news') ∧ (∀ p ∈ news', p.1 ≠ I ∧ p.1 ≠ C ∧ p.1 ≠ D) ∧ J news'
theorem CEnd.mk {h₀ h' : Heap} {L I C D : Addr} {m : Str → Option Value} {s : Shared} {oI oC oD : Obj} {J : List (Addr × Obj) → Prop} {tk : Nat} {news' : List (Addr × Obj)} (F : Fr h₀ L h' m) (N : News h₀ L h' ((I, oI) :: (C, oC) :: (D, oD) :: news'))
    (ho : ∀ p ∈ news', p.1 ≠ I ∧ p.1 ≠ C ∧ p.1 ≠ D) (hj : J news') : CEnd h₀ L m s I oI C oC D oD J { s with heap := h', toks := tk } := ⟨h', tk, news', rfl, F, N, ho, hj⟩
section
variable {prog : Program} {w : World} {A : Around} {E : Value → Shared → Prop} {s : Shared} {h₀ : Heap} {L : Addr} {m : Str → Option Value} {env : Env}
noncomputable def CInv (h₀ : Heap) (L : Addr) (m : Str → Option Value) (s₂ : Shared) (I C D : Addr) (n : Nat) (St : Nat → Heap → Prop) (J : Nat → List Value → List (Addr × Obj) → Prop) (k : Nat) (s' : Shared) : Prop :=
  ∃ h' tk i ys n' m' news', s' = { s₂ with heap := h', toks := tk } ∧ i ≤ n ∧ k = n + 1 - i ∧ St i h' ∧ Fr h₀ L h' m ∧ h'.Ns C m' ∧ News h₀ L h' ((D, listOf (List.toArray ys) n') :: news') ∧ (∀ q ∈ news', q.1 ≠ I ∧ q.1 ≠ C ∧ q.1 ≠ D) ∧ J i ys news'
theorem comp_blockU {elt iter : Expr} {x : Str} {px : Pos} {ifs : List Expr} {scope : Scope} {cl : List (Str × Addr)} {pos : Pos} {s₂ : Shared} {I : Addr} {fp : List Addr} {n : Nat} {P : Nat → Value → Prop} {St : Nat → Heap → Prop}
    {news : List (Addr × Obj)} {RR : Value → Addr → Result → Shared → Prop}
    (W : Walks prog w A I fp [I] n P St) (J : Nat → List Value → List (Addr × Obj) → Prop) (hn : n ≤ 1000) (hIo : ∀ i h, St i h → ∃ o, h.get? I = some o)
    (hSt : ∀ i ys h h' o nw, St i h → h.get? I = some o → h'.get? I = some o → Fr h₀ L h' m → News h₀ L h' nw → J i ys nw → St i h')
    (hJl : ∀ i ys nw, J i ys nw → ys.length ≤ i)
    (hcell : ∀ y ∈ scope.names, y.2 ≠ .cell) (hkind : scope.kind = .function) (hx : scope.names.lookup x = some .local) (hst : St 0 s₂.heap) (hfp : ∀ b ∈ fp, b < s₂.heap.objs.size)
    (F : Fr h₀ L s₂.heap m) (N : News h₀ L s₂.heap news) (hIL : L ≠ I) (hI0 : h₀.get? I = none) (hoff : ∀ p ∈ news, p.1 ≠ I) (h0 : J 0 [] news)
    (step : ∀ i v ys news₁ h tk C oC D k oI m₂, i < n → P i v → J i ys news₁ → NsObj oC m₂ → m₂ x = some v → Fr h₀ L h m → News h₀ L h ((I, oI) :: (C, oC) :: (D, listOf (List.toArray ys) k) :: news₁) →
      (∀ p ∈ news₁, p.1 ≠ I ∧ p.1 ≠ C ∧ p.1 ≠ D) → I ≠ C → I ≠ D → C ≠ D →
      wpAny (model prog w) A (forIn ifs true fun c r => if r = true then do let ok ← isTrue c (compEnvC scope cl C env) (eval c (compEnvC scope cl C env)); pure (ForInStep.yield ok) else pure (ForInStep.yield r))
        (fun ok s₃ => if ok = true then wpAny (model prog w) A (eval elt (compEnvC scope cl C env)) (fun y s₄ => CEnd h₀ L m s₂ I oI C oC D (listOf (List.toArray ys) k) (J (i + 1) (ys ++ [y])) s₄) (fun _ _ => False) s₃
          else CEnd h₀ L m s₂ I oI C oC D (listOf (List.toArray ys) k) (J (i + 1) ys) s₃) (fun _ _ => False) { s₂ with heap := h, toks := tk })
    (done : ∀ D C k h tk ys news₁ m', J n ys news₁ → Fr h₀ L h m → News h₀ L h ((D, listOf (List.toArray ys) k) :: news₁) → (∀ p ∈ news₁, p.1 ≠ D ∧ p.1 ≠ C) → h.Ns C m' → C ≠ L → C ≠ D → h₀.get? C = none → ∀ f, RR (.ref D) C (.ok f) { s₂ with heap := h, toks := tk }) :
    wpAny (model prog w) A (newList []) (fun acc s₃ => wpAny (model prog w) A (newFunctionEnv scope env.globals cl [] env.qual none .none (some env)) (fun cenv s₄ =>
      codeAny (model prog w) A (.compStart (.ListComp elt [⟨.Name x px, iter, ifs, 0⟩] scope pos) 0 (.ref I) acc { cenv with scope := relabel scope env }) (RR acc cenv.locals) s₄) E s₃) E s₂ := by
  refine wpAny_newObj_type (wpAny_newFunctionEnv hcell (by intro y hy; simp at hy) (fun h₁ hns₁ hsb₁ => ?_) hkind)
  dsimp only at hns₁ hsb₁ ⊢
  generalize hH2 : s₂.heap.push { cls := .type "list", dict := none, data := .seq ([] : List Value).toArray } = H2 at hns₁ hsb₁ ⊢
  have hC : H2.objs.size = s₂.heap.objs.size + 1 := by rw [← hH2, Heap.size_push]
  generalize hDd : s₂.heap.objs.size = D at *
  generalize hCd : H2.objs.size = C at *
  have hDC : D ≠ C := by omega
  have hDf : D ∉ fp := fun hm => Nat.lt_irrefl _ (hfp _ hm)
  have hCf : C ∉ fp := fun hm => by have h9 : @LT.lt Nat _ C D := hfp _ hm; omega
  have hIlt : @LT.lt Nat _ I D := hfp I (W.sub I (.head _))
  have hID : I ≠ D := Nat.ne_of_lt hIlt
  have hIC : @Ne Nat I C := by omega
  have old : ∀ b o, s₂.heap.get? b = some o → h₁.get? b = some o := fun b o e => by
    have hb : @LT.lt Nat _ b D := hDd ▸ Heap.lt_size e
    have hbC : @Ne Nat b C := by omega
    exact hsb₁.extBut b o hbC (Heap.get?_push_of_some _ (hH2 ▸ Heap.get?_push_of_some _ e))
  have hLlt : @LT.lt Nat _ L D := hDd ▸ F.ns.lt
  have habove : @LE.le Nat _ h₀.objs.size L := F.above
  have hle1 : @LE.le Nat _ h₀.objs.size D := by omega
  have hle2 : @LE.le Nat _ h₀.objs.size C := by omega
  have hD0 : h₀.get? D = none := Heap.get?_none_of_le hle1
  have hC0 : h₀.get? C = none := Heap.get?_none_of_le hle2
  have hDL : @Ne Nat D L := by omega
  have hCL : @Ne Nat C L := by omega
  have hacc : h₁.get? D = some (listOf (List.toArray []) 0) := hsb₁.extBut _ _ hDC (Heap.get?_push_of_some _ (by rw [← hH2, ← hDd]; exact Heap.get?_push_size _ rfl))
  have hst₁ : St 0 h₁ := W.frame _ _ _ hst fun b _ o e => old b o e
  have hnb : ∀ q ∈ news, q.1 ≠ I ∧ q.1 ≠ C ∧ q.1 ≠ D := fun q hq => by
    have hlt : @LT.lt Nat _ q.1 D := hDd ▸ Heap.lt_size (N q hq).1
    have h1 : @Ne Nat q.1 C := by omega
    have h2 : @Ne Nat q.1 D := by omega
    exact ⟨hoff q hq, h1, h2⟩
  have loop : ∀ s₃ : Shared, s₃ = { s₂ with heap := h₁, toks := s₂.toks + ([] : List (Str × Value)).length } →
      codeAny (model prog w) A (.compLoop (.ListComp elt [⟨.Name x px, iter, ifs, 0⟩] scope pos) 0 (.ref I) (.ref D) (compEnvC scope cl C env)) (RR (.ref D) C) s₃ := by
    rintro s₃ rfl
    refine codeAny_compLoop_tests
      (CInv h₀ L m s₂ I C D n St J) ?_ (n + 1)
      ⟨h₁, _, 0, [], 0, _, news, rfl, Nat.zero_le _, rfl, hst₁, F.keptAll old, hns₁, ?_, hnb, h0⟩
    · rintro k s' ⟨h', tk, i, ys, n', m', news', rfl, hi, rfl, hst', F', hn', N', off', hJ⟩
      by_cases hlt : i < n
      · refine W.item i _ _ _ hlt hst' fun v h₂ tk₂ hPv hst₂ hk₂ => ?_
        refine wpAny_assign_Name (wpAny_storeName_local (lookup_relabel_local hx) (hn'.at' fun o e => hk₂ _ o (by simpa using Ne.symm hIC) e) (fun h₃ hn₃ hs₃ => ?_) (by simp [compEnvC, relabel, hkind]))
        have hst₃ : St (i + 1) h₃ := W.frame _ _ _ hst₂ fun b hb o e => hs₃.extBut b o (fun q => hCf (by have q' : b = C := q; rw [← q']; exact hb)) e
        obtain ⟨oI, heI⟩ := hIo _ _ hst₃
        obtain ⟨oC, heC, hoC⟩ := ns_obj hn₃
        have F₃ : Fr h₀ L h₃ m := (fr_but F' hk₂ hIL hI0).change hs₃ hCL hC0
        have N₂ : News h₀ L h₂ ((D, listOf (List.toArray ys) n') :: news') := news_but N' hk₂ fun q hq => by
          rcases List.mem_cons.mp hq with rfl | hq
          · exact Ne.symm hID
          · exact (off' q hq).1
        have N₃ : News h₀ L h₃ ((I, oI) :: (C, oC) :: (D, listOf (List.toArray ys) n') :: news') := fun q hq => by
          rcases List.mem_cons.mp hq with rfl | hq
          · exact ⟨heI, Ne.symm hIL, hI0⟩
          · rcases List.mem_cons.mp hq with rfl | hq
            · exact ⟨heC, hCL, hC0⟩
            · have z := N₂ q hq
              refine ⟨hs₃.extBut _ _ ?_ z.1, z.2⟩
              rcases List.mem_cons.mp hq with rfl | hq
              · exact hDC
              · exact (off' q hq).2.1
        refine wpAny_mono (step i v ys news' h₃ _ C oC D n' oI _ hlt hPv hJ hoC (by simp) F₃ N₃ off' hIC hID (Ne.symm hDC)) (fun ok s₄ h₄ => ?_) fun _ _ e => e.elim
        have fin : ∀ s₅ : Shared, ∀ {J' : List (Addr × Obj) → Prop}, CEnd h₀ L m s₂ I oI C oC D (listOf (List.toArray ys) n') J' s₅ → ∃ h₅ tk₅ news₅ m₅, s₅ = { s₂ with heap := h₅, toks := tk₅ } ∧ Fr h₀ L h₅ m ∧ h₅.get? I = some oI ∧ h₅.Ns C m₅ ∧ h₅.get? D = some (listOf (List.toArray ys) n') ∧ News h₀ L h₅ news₅ ∧ (∀ q ∈ news₅, q.1 ≠ I ∧ q.1 ≠ C ∧ q.1 ≠ D) ∧ J' news₅ := by
          rintro s₅ J' ⟨h₅, tk₅, news₅, rfl, F₅, N₅, off₅, hJ₅⟩
          exact ⟨h₅, tk₅, news₅, _, rfl, F₅, (N₅ _ (.head _)).1, hoC.ns (N₅ _ (.tail _ (.head _))).1, (N₅ _ (.tail _ (.tail _ (.head _)))).1, fun q hq => N₅ q (.tail _ (.tail _ (.tail _ hq))), off₅, hJ₅⟩
        cases ok with
        | false =>
          simp only [Bool.false_eq_true, if_false] at h₄ ⊢
          obtain ⟨h₅, tk₅, news₅, m₅, rfl, F₅, zI, zC, zD, N₅, off₅, hJ₅⟩ := fin s₄ h₄
          exact ⟨n + 1 - (i + 1), by omega, h₅, tk₅, i + 1, ys, n', m₅, news₅, rfl, hlt, rfl, hSt _ _ _ _ _ _ hst₃ heI zI F₅ N₅ hJ₅, F₅, zC, fun q hq => by
            rcases List.mem_cons.mp hq with rfl | hq
            · exact ⟨zD, hDL, hD0⟩
            · exact N₅ q hq, off₅, hJ₅⟩
        | true =>
          simp only [if_true] at h₄ ⊢
          refine wpAny_mono h₄ (fun y s₅ h₅' => ?_) fun _ _ e => e.elim
          obtain ⟨h₅, tk₅, news₅, m₅, rfl, F₅, zI, zC, zD, N₅, off₅, hJ₅⟩ := fin s₅ h₅'
          have hst₅ : St (i + 1) h₅ := hSt _ _ _ _ _ _ hst₃ heI zI F₅ N₅ hJ₅
          have hyl := hJl _ _ _ hJ
          refine append_at (hsz := by show ys.toArray.size ≤ sizeLine; rw [List.size_toArray, sizeLine_eq]; omega) zD fun h₆ hs₆ hD₆ => ?_
          refine ⟨n + 1 - (i + 1), by omega, h₆, tk₅, i + 1, ys ++ [y], n' + 1, m₅, news₅, rfl, hlt, rfl, W.frame _ _ _ hst₅ fun b hb o e => hs₆.extBut b o (fun q => hDf (q ▸ hb)) e, F₅.change hs₆ hDL hD0, zC.sameBut hs₆ (Ne.symm hDC), fun q hq => ?_, off₅, hJ₅⟩
          rcases List.mem_cons.mp hq with rfl | hq
          · refine ⟨hD₆.trans ?_, hDL, hD0⟩
            simp
          · exact ⟨hs₆.extBut _ _ (off₅ q hq).2.2 (N₅ q hq).1, (N₅ q hq).2⟩
      · obtain rfl : i = n := Nat.le_antisymm hi (Nat.not_lt.mp hlt)
        refine W.done _ _ _ hst' fun h₂ tk₂ hk₂ => ?_
        have F₂ := fr_but F' hk₂ hIL hI0
        have N₂ := news_but N' hk₂ fun q hq => by
          rcases List.mem_cons.mp hq with rfl | hq
          · exact Ne.symm hID
          · exact (off' q hq).1
        exact done D C n' h₂ tk₂ ys news' _ hJ F₂ N₂ (fun q hq => ⟨(off' q hq).2.2, (off' q hq).2.1⟩) (hn'.at' fun o e => hk₂ _ o (by simpa using Ne.symm hIC) e) hCL (Ne.symm hDC) hC0 _
    · intro q hq
      rcases List.mem_cons.mp hq with rfl | hq
      · exact ⟨hacc, hDL, hD0⟩
      · exact ⟨old _ _ (N q hq).1, (N q hq).2⟩
  exact codeAny_compStart_list (loop _ rfl) (W.self 0 _ _ _ hst₁ (loop _ rfl))
theorem post_none {Q : Value → Shared → Prop} {D C : Addr} {k : Nat} {h : Heap} {tk : Nat} {ys : List Value} {news₁ : List (Addr × Obj)} {m' : Str → Option Value} {s₂ : Shared} {f : Flow}
    (F : Fr h₀ L h m) (N : News h₀ L h ((D, listOf (List.toArray ys) k) :: news₁)) (off : ∀ p ∈ news₁, p.1 ≠ D ∧ p.1 ≠ C) (hC : h.Ns C m') (hCL : C ≠ L) (hCD : C ≠ D) (hC0 : h₀.get? C = none)
    (done : ∀ h', Fr h₀ L h' m → News h₀ L h' ((D, listOf (List.toArray ys) k) :: news₁) → Q (.ref D) { s₂ with heap := h', toks := tk }) : compPost (model prog w) A E none Q (.ref D) C (.ok f) { s₂ with heap := h, toks := tk } := by
  refine ⟨_, hC, fun h'' hs'' => done h'' (F.change hs'' hCL hC0) fun q hq => ⟨hs''.extBut _ _ ?_ (N q hq).1, (N q hq).2⟩⟩
  rcases List.mem_cons.mp hq with rfl | hq
  · exact Ne.symm hCD
  · exact (off q hq).2
theorem post_name {Q : Flow → Shared → Prop} {y : Str} {py : Pos} {D C : Addr} {k : Nat} {h : Heap} {tk : Nat} {ys : List Value} {news₁ : List (Addr × Obj)} {m' : Str → Option Value} {s₂ : Shared} {f : Flow}
    (hy : env.kindOf y = some .local) (hp : (env.scope.kind == .class || (env.scope.kind == .module && env.locals != env.globals)) = false) (hL : env.locals = L)
    (F : Fr h₀ L h m) (N : News h₀ L h ((D, listOf (List.toArray ys) k) :: news₁)) (off : ∀ p ∈ news₁, p.1 ≠ D ∧ p.1 ≠ C) (hC : h.Ns C m') (hCL : C ≠ L) (hCD : C ≠ D) (hC0 : h₀.get? C = none)
    (done : ∀ h', Fr h₀ L h' (fun z => if z = y then some (.ref D) else m z) → News h₀ L h' ((D, listOf (List.toArray ys) k) :: news₁) → Q .next { s₂ with heap := h', toks := tk + 1 }) : compPost (model prog w) A E (some (assign (.Name y py) env)) (fun _ s' => Q .next s') (.ref D) C (.ok f) { s₂ with heap := h, toks := tk } := by
  subst hL
  show wpAny _ A (assign (.Name y py) env (.ref D)) _ _ _
  have hL0 : h₀.get? env.locals = none := Heap.get?_none_of_le F.above
  refine wpAny_assign_Name (wpAny_storeName_local hy F.ns (fun h₂ hn₂ hs₂ => ?_) hp)
  have F₂ : Fr h₀ env.locals h₂ (fun z => if z = y then some (.ref D) else m z) := ⟨hn₂, fun b o e => hs₂.extBut b o (fun q => by rw [q, hL0] at e; cases e) (F.keep b o e), F.above⟩
  have N₂ : News h₀ env.locals h₂ ((D, listOf (List.toArray ys) k) :: news₁) := fun q hq => ⟨hs₂.extBut _ _ (N q hq).2.1 (N q hq).1, (N q hq).2⟩
  refine ⟨m', hC.sameBut hs₂ hCL, fun h₃ hs₃ => done h₃ (F₂.change hs₃ hCL hC0) fun q hq => ⟨hs₃.extBut _ _ ?_ (N₂ q hq).1, (N₂ q hq).2⟩⟩
  rcases List.mem_cons.mp hq with rfl | hq
  · exact Ne.symm hCD
  · exact (off q hq).2
theorem comp_block {elt iter : Expr} {x : Str} {px : Pos} {ifs : List Expr} {scope : Scope} {cl : List (Str × Addr)} {pos : Pos} {s₂ : Shared} {I : Addr} {fp : List Addr} {n : Nat} {P : Nat → Value → Prop} {St : Nat → Heap → Prop}
    {news : List (Addr × Obj)} {Q : Value → Shared → Prop}
    (W : Walks prog w A I fp [I] n P St) (J : Nat → List Value → List (Addr × Obj) → Prop) (hn : n ≤ 1000) (hIo : ∀ i h, St i h → ∃ o, h.get? I = some o)
    (hSt : ∀ i ys h h' o nw, St i h → h.get? I = some o → h'.get? I = some o → Fr h₀ L h' m → News h₀ L h' nw → J i ys nw → St i h')
    (hJl : ∀ i ys nw, J i ys nw → ys.length ≤ i)
    (hcell : ∀ y ∈ scope.names, y.2 ≠ .cell) (hkind : scope.kind = .function) (hx : scope.names.lookup x = some .local) (hst : St 0 s₂.heap) (hfp : ∀ b ∈ fp, b < s₂.heap.objs.size)
    (F : Fr h₀ L s₂.heap m) (N : News h₀ L s₂.heap news) (hIL : L ≠ I) (hI0 : h₀.get? I = none) (hoff : ∀ p ∈ news, p.1 ≠ I) (h0 : J 0 [] news)
    (step : ∀ i v ys news₁ h tk C oC D k oI m₂, i < n → P i v → J i ys news₁ → NsObj oC m₂ → m₂ x = some v → Fr h₀ L h m → News h₀ L h ((I, oI) :: (C, oC) :: (D, listOf (List.toArray ys) k) :: news₁) →
      (∀ p ∈ news₁, p.1 ≠ I ∧ p.1 ≠ C ∧ p.1 ≠ D) → I ≠ C → I ≠ D → C ≠ D →
      wpAny (model prog w) A (forIn ifs true fun c r => if r = true then do let ok ← isTrue c (compEnvC scope cl C env) (eval c (compEnvC scope cl C env)); pure (ForInStep.yield ok) else pure (ForInStep.yield r))
        (fun ok s₃ => if ok = true then wpAny (model prog w) A (eval elt (compEnvC scope cl C env)) (fun y s₄ => CEnd h₀ L m s₂ I oI C oC D (listOf (List.toArray ys) k) (J (i + 1) (ys ++ [y])) s₄) (fun _ _ => False) s₃
          else CEnd h₀ L m s₂ I oI C oC D (listOf (List.toArray ys) k) (J (i + 1) ys) s₃) (fun _ _ => False) { s₂ with heap := h, toks := tk })
    (done : ∀ D k h tk ys news₁, J n ys news₁ → Fr h₀ L h m → News h₀ L h ((D, listOf (List.toArray ys) k) :: news₁) → (∀ p ∈ news₁, p.1 ≠ D) → Q (.ref D) { s₂ with heap := h, toks := tk }) :
    wpAny (model prog w) A (newList []) (fun acc s₃ => wpAny (model prog w) A (newFunctionEnv scope env.globals cl [] env.qual none .none (some env)) (fun cenv s₄ =>
      codeAny (model prog w) A (.compStart (.ListComp elt [⟨.Name x px, iter, ifs, 0⟩] scope pos) 0 (.ref I) acc { cenv with scope := relabel scope env }) (compPost (model prog w) A E none Q acc cenv.locals) s₄) E s₃) E s₂ :=
  comp_blockU (RR := fun acc C => compPost (model prog w) A E none Q acc C) W J hn hIo hSt hJl hcell hkind hx hst hfp F N hIL hI0 hoff h0 step fun D C k h tk ys news₁ m' hJ F' N' off hC hCL hCD hC0 f =>
    post_none F' N' off hC hCL hCD hC0 fun h' F'' N'' => done D k h' tk ys news₁ hJ F'' N'' fun q hq => (off q hq).1
end
end Mine
end
section
open PySem PySem.W PySem.Calls PyProof.Rows
open PyProof.Rows.LCg (NsObj ns_obj fr_but news_but)
set_option maxRecDepth 100000
set_option maxHeartbeats 4000000
namespace Mine
section
variable {prog : Program} {w : World} {A : Around} {E : Value → Shared → Prop} {s : Shared} {h₀ : Heap} {L : Addr} {m : Str → Option Value} {env : Env}
theorem comp_enter {elt iter : Expr} {x : Str} {px : Pos} {ifs : List Expr} {scope : Scope} {cl : List (Str × Addr)} {pos : Pos} {Q : Value → Shared → Prop}
    (hclos : closureFor scope env = pure cl) (hkind : scope.kind = .function) (hnames : ∀ y ∈ scope.names, y.2 = .local → scope.names.lookup y.1 = some .local) (hs : ∀ x, foldedSetIterable iter env x = pure x)
    (h : wpAny (model prog w) A (eval iter env) (fun xv s₁ => wpAny (model prog w) A (pyIter xv) (fun it s₂ => wpAny (model prog w) A (newList []) (fun acc s₃ =>
      wpAny (model prog w) A (newFunctionEnv scope env.globals cl [] env.qual none .none (some env)) (fun cenv s₄ =>
        codeAny (model prog w) A (.compStart (.ListComp elt [⟨.Name x px, iter, ifs, 0⟩] scope pos) 0 it acc { cenv with scope := relabel scope env }) (compPost (model prog w) A E none Q acc cenv.locals) s₄) E s₃) E s₂) E s₁) E s) :
    wpAny (model prog w) A (eval (.ListComp elt [⟨.Name x px, iter, ifs, 0⟩] scope pos) env) Q E s := by
  rw [eval_ListComp]
  exact wpAny_comprehension_free (use := none) rfl hs hclos hkind hnames h
theorem comp_list {elt iter : Expr} {x : Str} {px : Pos} {ifs : List Expr} {scope : Scope} {cl : List (Str × Addr)} {pos : Pos} {ax : Addr} {its : List Value} {news : List (Addr × Obj)} {Q : Value → Shared → Prop}
    (J : Nat → List Value → List (Addr × Obj) → Prop) (hn : its.length ≤ 1000) (hh : A.handled = none)
    (hl : ∀ i ys h' nw, Fr h₀ L h' m → News h₀ L h' nw → J i ys nw → h'.IsList ax its.toArray) (hJl : ∀ i ys nw, J i ys nw → ys.length ≤ i)
    (hcell : ∀ y ∈ scope.names, y.2 ≠ .cell) (hkind : scope.kind = .function) (hx : scope.names.lookup x = some .local)
    (F : Fr h₀ L s.heap m) (N : News h₀ L s.heap news) (h0 : J 0 [] news)
    (step : ∀ i v ys news₁ h tk C oC D k I oI m₂, its[i]? = some v → J i ys news₁ → NsObj oC m₂ → m₂ x = some v → Fr h₀ L h m → News h₀ L h ((I, oI) :: (C, oC) :: (D, listOf (List.toArray ys) k) :: news₁) →
      (∀ p ∈ news₁, p.1 ≠ I ∧ p.1 ≠ C ∧ p.1 ≠ D) → I ≠ C → I ≠ D → C ≠ D →
      wpAny (model prog w) A (forIn ifs true fun c r => if r = true then do let ok ← isTrue c (compEnvC scope cl C env) (eval c (compEnvC scope cl C env)); pure (ForInStep.yield ok) else pure (ForInStep.yield r))
        (fun ok s₃ => if ok = true then wpAny (model prog w) A (eval elt (compEnvC scope cl C env)) (fun y s₄ => CEnd h₀ L m s I oI C oC D (listOf (List.toArray ys) k) (J (i + 1) (ys ++ [y])) s₄) (fun _ _ => False) s₃
          else CEnd h₀ L m s I oI C oC D (listOf (List.toArray ys) k) (J (i + 1) ys) s₃) (fun _ _ => False) { s with heap := h, toks := tk })
    (done : ∀ D k h tk ys news₁, J its.length ys news₁ → Fr h₀ L h m → News h₀ L h ((D, listOf (List.toArray ys) k) :: news₁) → (∀ p ∈ news₁, p.1 ≠ D) → Q (.ref D) { s with heap := h, toks := tk }) :
    wpAny (model prog w) A (pyIter (.ref ax)) (fun it s₂ => wpAny (model prog w) A (newList []) (fun acc s₃ => wpAny (model prog w) A (newFunctionEnv scope env.globals cl [] env.qual none .none (some env)) (fun cenv s₄ =>
      codeAny (model prog w) A (.compStart (.ListComp elt [⟨.Name x px, iter, ifs, 0⟩] scope pos) 0 it acc { cenv with scope := relabel scope env }) (compPost (model prog w) A E none Q acc cenv.locals) s₄) E s₃) E s₂) E s := by
  have hls := hl 0 [] _ _ F N h0
  obtain ⟨ol, hol, _⟩ := id hls
  have hlt : ax < s.heap.objs.size := Heap.lt_size hol
  refine wpAny_pyIter_list hls ?_
  have W := Walks.list (prog := prog) (w := w) hh s.heap.objs.size ax (Nat.ne_of_lt hlt) its.toArray
  have hsz : its.toArray.size = its.length := by simp
  rw [hsz] at W
  have up : ∀ b o, s.heap.get? b = some o → (s.heap.push { cls := .type "list_iterator", data := .fields #[.ref ax, .int 0 0] }).get? b = some o := fun b o e => Heap.get?_push_of_some _ e
  refine comp_block (s₂ := { s with heap := s.heap.push { cls := .type "list_iterator", data := .fields #[.ref ax, .int 0 0] } }) W J hn (fun i h st => let ⟨o, ho, _⟩ := st.1; ⟨o, ho⟩) (fun i ys h h' o nw st e e' F' N' hj => ⟨?_, hl i ys h' nw F' N' hj⟩) hJl hcell hkind hx
    ⟨⟨_, Heap.get?_push_size _ rfl, rfl, rfl⟩, hls.at fun o e => up _ o e⟩ (fun b hb => ?_) (F.keptAll up) (N.grown up) (Nat.ne_of_lt F.ns.lt) (next_is_new F) (fun q hq => Nat.ne_of_lt (Heap.lt_size (N q hq).1)) h0 ?_ done
  · obtain ⟨o', q, r⟩ := st.1
    rw [e] at q; cases q
    exact ⟨o, e', r⟩
  · show b < (s.heap.push _).objs.size
    rw [Heap.size_push]
    rcases List.mem_cons.mp hb with rfl | hb
    · exact Nat.lt_succ_self _
    · rw [List.mem_singleton.mp hb]; exact Nat.lt_succ_of_lt hlt
  · intro i v ys news₁ h tk C oC D k oI m₂ hi hP hJ hoC hm₂ F₁ N₁ off h1 h2 h3
    exact step i v ys news₁ h tk C oC D k _ oI m₂ (by simpa using hP) hJ hoC hm₂ F₁ N₁ off h1 h2 h3
theorem comp_str {elt iter : Expr} {x : Str} {px : Pos} {ifs : List Expr} {scope : Scope} {cl : List (Str × Addr)} {pos : Pos} {l : List Nat} {t : Tok} {news : List (Addr × Obj)} {Q : Value → Shared → Prop}
    (J : Nat → List Value → List (Addr × Obj) → Prop) (hn : l.length ≤ 1000) (hh : A.handled = none) (hJl : ∀ i ys nw, J i ys nw → ys.length ≤ i)
    (hcell : ∀ y ∈ scope.names, y.2 ≠ .cell) (hkind : scope.kind = .function) (hx : scope.names.lookup x = some .local)
    (F : Fr h₀ L s.heap m) (N : News h₀ L s.heap news) (h0 : J 0 [] news)
    (step : ∀ i c u ys news₁ h tk C oC D k I oI m₂, l[i]? = some c → J i ys news₁ → NsObj oC m₂ → m₂ x = some (.str (S [c]) u) → Fr h₀ L h m → News h₀ L h ((I, oI) :: (C, oC) :: (D, listOf (List.toArray ys) k) :: news₁) →
      (∀ p ∈ news₁, p.1 ≠ I ∧ p.1 ≠ C ∧ p.1 ≠ D) → I ≠ C → I ≠ D → C ≠ D →
      wpAny (model prog w) A (forIn ifs true fun c r => if r = true then do let ok ← isTrue c (compEnvC scope cl C env) (eval c (compEnvC scope cl C env)); pure (ForInStep.yield ok) else pure (ForInStep.yield r))
        (fun ok s₃ => if ok = true then wpAny (model prog w) A (eval elt (compEnvC scope cl C env)) (fun y s₄ => CEnd h₀ L m s I oI C oC D (listOf (List.toArray ys) k) (J (i + 1) (ys ++ [y])) s₄) (fun _ _ => False) s₃
          else CEnd h₀ L m s I oI C oC D (listOf (List.toArray ys) k) (J (i + 1) ys) s₃) (fun _ _ => False) { s with heap := h, toks := tk })
    (done : ∀ D k h tk ys news₁, J l.length ys news₁ → Fr h₀ L h m → News h₀ L h ((D, listOf (List.toArray ys) k) :: news₁) → (∀ p ∈ news₁, p.1 ≠ D) → Q (.ref D) { s with heap := h, toks := tk }) :
    wpAny (model prog w) A (pyIter (.str (S l) t)) (fun it s₂ => wpAny (model prog w) A (newList []) (fun acc s₃ => wpAny (model prog w) A (newFunctionEnv scope env.globals cl [] env.qual none .none (some env)) (fun cenv s₄ =>
      codeAny (model prog w) A (.compStart (.ListComp elt [⟨.Name x px, iter, ifs, 0⟩] scope pos) 0 it acc { cenv with scope := relabel scope env }) (compPost (model prog w) A E none Q acc cenv.locals) s₄) E s₃) E s₂) E s := by
  have hsz : (S l).cps.size = l.length := by show l.toArray.size = _; simp
  have hget : ∀ i c, (S l).cps[i]? = some c → l[i]? = some c := fun i c h => (List.getElem?_toArray ..).symm.trans h
  have go : ∀ (ty : String), (Walks prog w A s.heap.objs.size [s.heap.objs.size] [s.heap.objs.size] (S l).cps.size (fun i v => ∃ c u, (S l).cps[i]? = some c ∧ v = .str ⟨#[c]⟩ u) (fun i h => h.IsStrIter s.heap.objs.size ty (S l) t i)) →
      wpAny (model prog w) A (newList []) (fun acc s₃ => wpAny (model prog w) A (newFunctionEnv scope env.globals cl [] env.qual none .none (some env)) (fun cenv s₄ =>
        codeAny (model prog w) A (.compStart (.ListComp elt [⟨.Name x px, iter, ifs, 0⟩] scope pos) 0 (.ref s.heap.objs.size) acc { cenv with scope := relabel scope env }) (compPost (model prog w) A E none Q acc cenv.locals) s₄) E s₃) E { s with heap := s.heap.push { cls := .type ty, data := .fields #[.str (S l) t, .int 0 0] } } := by
    intro ty W
    rw [hsz] at W
    have up : ∀ b o, s.heap.get? b = some o → (s.heap.push { cls := .type ty, data := .fields #[.str (S l) t, .int 0 0] }).get? b = some o := fun b o e => Heap.get?_push_of_some _ e
    refine comp_block (s₂ := { s with heap := s.heap.push { cls := .type ty, data := .fields #[.str (S l) t, .int 0 0] } }) W J hn (fun i h st => let ⟨o, ho, _⟩ := st; ⟨o, ho⟩) (fun i ys h h' o nw st e e' F' N' hj => ?_) hJl hcell hkind hx
      ⟨_, Heap.get?_push_size _ rfl, rfl, rfl⟩ (fun b hb => ?_) (F.keptAll up) (N.grown up) (Nat.ne_of_lt F.ns.lt) (next_is_new F) (fun q hq => Nat.ne_of_lt (Heap.lt_size (N q hq).1)) h0 ?_ done
    · obtain ⟨o', q, r⟩ := st
      rw [e] at q; cases q
      exact ⟨o, e', r⟩
    · show b < (s.heap.push _).objs.size
      rw [Heap.size_push, List.mem_singleton.mp hb]
      exact Nat.lt_succ_self _
    · rintro i v ys news₁ h tk C oC D k oI m₂ hi ⟨c, u, hc, rfl⟩ hJ hoC hm₂ F₁ N₁ off h1 h2 h3
      exact step i c u ys news₁ h tk C oC D k _ oI m₂ (hget i c hc) hJ hoC hm₂ F₁ N₁ off h1 h2 h3
  cases ha : (S l).cps.all (· < 128)
  · exact wpAny_pyIter_wide ha (go _ (Walks.strWide (prog := prog) (w := w) hh s.heap.objs.size (S l) t))
  · exact wpAny_pyIter_ascii ha (go _ (Walks.strAscii (prog := prog) (w := w) hh s.heap.objs.size (S l) t))
end
theorem enter_pureC {prog : Program} {w : World} {A : Around} {s : Shared} {K : Frag} {Q E : Value → Shared → Prop}
    {name qual : Str} {params : Arguments} {body : List Stmt} {scope : Scope} {dV kV doc pm cdv ct oc : Value} {an od : Option Addr} {osl : Array (Option Value)} {f : Addr} {args : List Value} {binds : List (Str × Value)}
    (X : K.In s.heap) (hlim : s.heap.NoLimit) (hroom : A.depth < recursionLimit)
    (ho : K.lookup f = some ⟨oc, od, .func (fnOf name qual params body scope dV kV doc pm an cdv ct), osl⟩) (hcd : codeIn K cdv qual = true)
    (hbind : BindsTo s (fnOf name qual params body scope dV kV doc pm an cdv ct) ⟨args, []⟩ binds) (hkind : (binds.all fun y => scope.names.lookup y.1 == some .local || scope.names.lookup y.1 == some .cell) = true)
    (hnd : ((cellsFrom 0 scope.names []).map (·.1)).Nodup)
    (hco : scope.isCoroutine = false) (hgen : scope.isGenerator = false) (hk : scope.kind = .function)
    (h : ∀ h₁ L tk cells, L = s.heap.objs.size → Fr s.heap L h₁ (bindL (envOfC qual scope L f cdv).kindOf binds fun _ => none) → News s.heap L h₁ cells →
      CellsAre (bindC (envOfC qual scope L f cdv).kindOf binds fun _ => none) (cellsFrom (L + 1) scope.names []) cells →
      wpAny (model prog w) (A.deeper (envOfC qual scope L f cdv)) (execs body (envOfC qual scope L f cdv))
        (fun fl s' => Q (match fl with | .ret v => v | _ => .none) s') (fun _ _ => False)
        { s with heap := h₁, toks := tk }) :
    wpAny (model prog w) A (call (.ref f) args) Q E s := by
  refine wpAny_call (codeAny_call_function (fd := fnOf name qual params body scope dV kV doc pm an cdv ct) hroom (X _ _ ho) rfl hco hgen rfl (codeRec_of X hcd) (hbind _ _ _ _ ?_))
  refine wpAny_newFunctionEnv_cells hk (kindsX hkind _) fun env' he s' x => ?_
  subst he
  refine ⟨hlim.keeps x.toInCall.keep, codeAny_func ?_⟩
  obtain ⟨h₁, tk, rfl, _⟩ := x.done
  have hk₁ := x.toInCall.keep
  obtain ⟨cells, NC, Y⟩ := Cl.news (h₀ := s.heap) (Nat.le_refl _) fun n c hm => ⟨x.cell n c (lookup_of_mem_nodup (cellsFrom_names scope.names 0 (s.heap.objs.size + 1) [] [] rfl ▸ hnd) hm), x.above n c hm⟩
  exact wpAny_mono (h h₁ _ tk cells rfl ⟨x.toInCall.ns, hk₁, Nat.le_refl _⟩ NC Y) (fun fl s' hl => hl) fun _ _ x => x.elim
end Mine
end
section
open PySem PySem.W PySem.Calls PyProof.Rows
open PyProof.Rows.LCg (NsObj ns_obj fr_but news_but)
open PyProof.V
set_option maxRecDepth 100000
set_option maxHeartbeats 4000000
namespace Mine
noncomputable def escD : List (PyData × PyData) := [(.str (S [38]), .str (S [38, 97, 109, 112, 59])), (.str (S [60]), .str (S [38, 108, 116, 59])), (.str (S [62]), .str (S [38, 103, 116, 59])), (.str (S [34]), .str (S [38, 113, 117, 111, 116, 59])),
  (.str (S [13]), .str (S [38, 35, 49, 51, 59])), (.str (S [10]), .str (S [38, 35, 49, 48, 59])), (.str (S [9]), .str (S [38, 35, 48, 57, 59]))]
theorem strs_snoc {x : Str} {t : Tok} {vs : List Value} {xs : List Str} (h : PyProof.Rows.StrsAre vs xs) : PyProof.Rows.StrsAre (vs ++ [.str x t]) (xs ++ [x]) := PyProof.Rows.StrsAre.append' h (.cons _ _ .nil)
theorem strs_len {vs : List Value} {xs : List Str} (h : PyProof.Rows.StrsAre vs xs) : vs.length = xs.length := PyProof.Rows.StrsAre.length h
theorem esc_look (c : Nat) : (PySem.Spec.lookup (.str (S [c])) escD).getD (.str (S [c])) = .str (S (escC c)) := by
  by_cases h1 : c = 38
  · subst h1; rfl
  by_cases h2 : c = 60
  · subst h2; rfl
  by_cases h3 : c = 62
  · subst h3; rfl
  by_cases h4 : c = 34
  · subst h4; rfl
  by_cases h5 : c = 13
  · subst h5; rfl
  by_cases h6 : c = 10
  · subst h6; rfl
  by_cases h7 : c = 9
  · subst h7; rfl
  have e : escC c = [c] := by simp [escC, h1, h2, h3, h4, h5, h6, h7]
  rw [e]
  have hne : ∀ d, c ≠ d → (S [d] : Str) ≠ S [c] := fun d h e => by
    have : ([d] : List Nat).toArray = [c].toArray := congrArg Str.cps e
    simp at this; exact h this.symm
  have hs : ∀ d, c ≠ d → PySem.Spec.same (.str (S [d])) (.str (S [c])) = false := fun d h => by
    show (S [d] == S [c]) = false
    exact beq_eq_false_iff_ne.mpr (hne d h)
  simp [escD, PySem.Spec.lookup, hs 38 h1, hs 60 h2, hs 62 h3, hs 34 h4, hs 13 h5, hs 10 h6, hs 9 h7]
theorem escC_len (c : Nat) : (escC c).length ≤ 6 := by
  unfold escC
  repeat' split
  all_goals first | decide | exact Nat.le_of_ble_eq_true rfl | simp
theorem esc_sum (l : List Nat) : (((l.map escC).map S).map (·.length)).sum ≤ 6 * l.length := by
  induction l with
  | nil => exact Nat.zero_le _
  | cons c l ih =>
    have h1 : (S (escC c)).length ≤ 6 := by show (List.toArray _).size ≤ 6; rw [List.size_toArray]; exact escC_len c
    simp only [List.map_cons, List.sum_cons, List.length_cons]
    omega
theorem esc_len {l : List Nat} (hl : l.length ≤ 8) : (l.map escC).flatten.length ≤ 48 := by
  have : ∀ l : List Nat, (l.map escC).flatten.length ≤ 6 * l.length := fun l => by
    induction l with
    | nil => exact Nat.zero_le _
    | cons c l ih =>
      have h1 := escC_len c
      simp only [List.map_cons, List.flatten_cons, List.length_append, List.length_cons]
      omega
  have := this l
  omega
noncomputable def kindC (md : Int) : Nat := [63, 112, 99, 63, 100, 63, 98, 63, 45, 63, 108, 63, 115, 63, 63, 63].getD (md.fdiv 4096).toNat 0
theorem kind_tab : ∀ n : Nat, n < 16 → Txt.item (Str.ofString "?pc?d?b?-?l?s???") (n : Int) = S [[63, 112, 99, 63, 100, 63, 98, 63, 45, 63, 108, 63, 115, 63, 63, 63].getD n 0] := by decide +kernel
theorem kind_item {md : Int} (h0 : 0 ≤ md) (h1 : md < 65536) : Txt.item (Str.ofString "?pc?d?b?-?l?s???") (md.fdiv 4096) = S [kindC md] := by
  obtain ⟨n, hn, e⟩ := nat_of (x := md.fdiv 4096) (n := 16) (by rw [Int.fdiv_eq_ediv_of_nonneg _ (by decide)]; omega) (by rw [Int.fdiv_eq_ediv_of_nonneg _ (by decide)]; omega)
  unfold kindC
  rw [e]
  exact kind_tab n hn
/-- the three signs of a party -/
noncomputable def partyS (md : Int) (i : Nat) : List Nat :=
  [if (threeI md i).fdiv 4 = 0 then 45 else 114, if ((threeI md i).fdiv 2).fmod 2 = 0 then 45 else 119,
    [45, 120, [83, 83, 84].getD i 0, [115, 115, 116].getD i 0].getD ((threeI md i).fmod 2 + 2 * aboveI md i).toNat 0]
noncomputable def rowF (l : List Nat) (md : Int) (i : Nat) : List Nat := (l.map escC).flatten ++ [34] ++ [kindC md] ++ ((List.range i).map (partyS md)).flatten
theorem rowF_succ (l : List Nat) (md : Int) (i : Nat) : rowF l md (i + 1) = rowF l md i ++ partyS md i := by
  unfold rowF; rw [List.range_succ, List.map_append, List.flatten_append]; simp
theorem rowF_len {l : List Nat} {md : Int} {i : Nat} (hl : l.length ≤ 8) (hi : i < 3) : (rowF l md i).length ≤ 80 := by
  have h1 := esc_len hl
  obtain rfl | rfl | rfl : i = 0 ∨ i = 1 ∨ i = 2 := by omega
  all_goals
    simp only [rowF, List.length_append, List.length_cons, List.length_nil]
    simp [List.range_succ, partyS]
    simp at h1
    omega
theorem item_rt : ∀ n : Nat, n < 8 → Txt.item (Str.ofString "-r") ((n : Int).fdiv 4) = S [if (n : Int).fdiv 4 = 0 then 45 else 114] ∧ Txt.item (Str.ofString "-w") (((n : Int).fdiv 2).fmod 2) = S [if ((n : Int).fdiv 2).fmod 2 = 0 then 45 else 119] := by decide +kernel
theorem item_r {t : Int} (h0 : 0 ≤ t) (h1 : t < 8) : Txt.item (Str.ofString "-r") (t.fdiv 4) = S [if t.fdiv 4 = 0 then 45 else 114] := by
  obtain ⟨n, hn, rfl⟩ := nat_of (n := 8) h0 h1
  exact (item_rt n hn).1
theorem item_w {t : Int} (h0 : 0 ≤ t) (h1 : t < 8) : Txt.item (Str.ofString "-w") ((t.fdiv 2).fmod 2) = S [if (t.fdiv 2).fmod 2 = 0 then 45 else 119] := by
  obtain ⟨n, hn, rfl⟩ := nat_of (n := 8) h0 h1
  exact (item_rt n hn).2
theorem item_st : ∀ n : Nat, n < 3 → Txt.item (Str.ofString "SST") (n : Int) = S [[83, 83, 84].getD n 0] ∧ Txt.item (Str.ofString "sst") (n : Int) = S [[115, 115, 116].getD n 0] := by decide +kernel
theorem three_lo (md : Int) (i : Nat) : 0 ≤ threeI md i := Int.fmod_nonneg_of_pos _ (by decide)
theorem three_hi (md : Int) (i : Nat) : threeI md i < 8 := Int.fmod_lt_of_pos _ (by decide)
theorem row_fin {l : List Nat} {md : Int} {i c : Nat} {x : Str} (hx : x = S [c]) (hc : [45, 120, [83, 83, 84].getD i 0, [115, 115, 116].getD i 0].getD ((threeI md i).fmod 2 + 2 * aboveI md i).toNat 0 = c) :
    S (rowF l md i) ++ (Txt.item (Str.ofString "-r") ((threeI md i).fdiv 4) ++ Txt.item (Str.ofString "-w") (((threeI md i).fdiv 2).fmod 2) ++ x) = S (rowF l md (i + 1)) := by
  rw [item_r (three_lo md i) (three_hi md i), item_w (three_lo md i) (three_hi md i), hx, S_append [_] [_], S_append _ [c], S_append (rowF l md i) _, rowF_succ]
  unfold partyS
  rw [hc]
  rfl
noncomputable def lastC (md : Int) (i : Nat) : Nat := [45, 120, [83, 83, 84].getD i 0, [115, 115, 116].getD i 0].getD ((threeI md i).fmod 2 + 2 * aboveI md i).toNat 0
noncomputable def StrP (h₀ : Heap) (L : Addr) (s : Shared) (m : Str → Option Value) (led : List (Addr × Obj)) (c : Str) (v : Value) (s' : Shared) : Prop :=
  ∃ p h' tk' t, v = .str c t ∧ s' = { s with heap := h', toks := tk' } ∧ Fr h₀ L h' m ∧ News h₀ L h' (p :: led)
theorem StrP.mk {h₀ h' : Heap} {L : Addr} {s : Shared} {m : Str → Option Value} {led : List (Addr × Obj)} {p : Addr × Obj} {tk' : Nat} {t : Tok} {c x : Str} (F : Fr h₀ L h' m) (N : News h₀ L h' (p :: led)) (hx : x = c) : StrP h₀ L s m led c (.str x t) { s with heap := h', toks := tk' } := ⟨p, h', tk', t, by rw [hx], rfl, F, N⟩
theorem join_str {M : Model} {A : Around} {E : Value → Shared → Prop} {s : Shared} {t : Sem Value} {Q : Value → Shared → Prop} {h₀ : Heap} {L : Addr} {m : Str → Option Value} {led : List (Addr × Obj)} (c : Str) (F : Fr h₀ L s.heap m) (N : News h₀ L s.heap led)
    (h1 : wpAny M A t (StrP h₀ L s m led c) (fun _ _ => False) s) (h2 : ∀ p h' tk' t, Fr h₀ L h' m → News h₀ L h' (p :: led) → Q (.str c t) { s with heap := h', toks := tk' }) : wpAny M A t Q E s :=
  wpAny_mono h1 (fun v s' h => by obtain ⟨p, h', tk', t, rfl, rfl, F', N'⟩ := h; exact h2 p h' tk' t F' N') fun _ _ h => h.elim
noncomputable def RowJ (l : List Nat) (md : Int) (tm : Tok) (i : Nat) (m : Str → Option Value) (news : List (Addr × Obj)) : Prop :=
  ∃ t, Has m [(Str.ofString "mode", .int md tm), (Str.ofString "row", .str (S (rowF l md i)) t)] ∧ news = []
theorem row_end {l : List Nat} {md : Int} {tm t : Tok} {I L : Addr} {oI : Obj} {p : Addr × Obj} {h₀ h' : Heap} {s : Shared} {Q : Flow → Shared → Prop} {i tk : Nat} {m' : Str → Option Value} {x : Str}
    (F : Fr h₀ L h' m') (N : News h₀ L h' [p, (I, oI)]) (hm : Has m' [(Str.ofString "mode", .int md tm), (Str.ofString "row", .str x t)]) (hx : x = S (rowF l md (i + 1))) :
    TEnd h₀ L I oI (RowJ l md tm (i + 1)) s Q .next { s with heap := h', toks := tk } :=
  TEnd.next (news' := []) F (fun q hq => N q (.tail _ hq)) (fun _ h => nomatch h) ⟨t, by rw [← hx]; exact hm, rfl⟩
theorem c_row {w : World} {p : Program} {loose : List Str} {mg mb : Str → Option Value} {A : Around} {s : Shared} {Q E : Value → Shared → Prop} {l : List Nat} {tx tm : Tok} {md : Int}
    (hA : Amb A 1) (G : Gnd w p loose mg mb s.heap) (hl : l.length ≤ 8) (h0 : 0 ≤ md) (h1 : md < 65536)
    (ret : ∀ t h' tk', s.heap.StaysIn h' → Q (.str (S (rowF l md 3)) t) { s with heap := h', toks := tk' }) :
    wpAny (model PySem.Challenge.rw_oh0027_01.row.prog w) A (call (.ref 115) [.str (S l) tx, .int md tm]) Q E s := by
  k_with_none
  k_with "eval ListComp" => (refine hold_in ?_)
  k_with "eval Subscript" => (((with_reducible show wpAny _ _ (eval (Expr.Subscript (Expr.List _ _) _ _) _) _ _ _); (fail_if_success (with_reducible show wpAny _ _ _ (StrP _ _ _ _ _ _) _ _)); refine hold_in ?_))
  k_with "exec For Name Call cons nil" => (refine hold_in ?_)
  k_with "call builtin:str.join" => (refine hold_in ?_)
  k_with "call builtin:dict.get" => (refine hold_in ?_)
  k_with "binaryOp FloorDiv int int" => (first | refine fdiv8 (by assumption) ?_ | refine fdiv2 (by assumption) ?_)
  k_with "eval Dict" => (k_dflt (refine' kdn_str ?q ?F ?N ?b ?a ?l ?e ?n ?_; (case q => rfl); (case F => k_asm); (case N => k_asm); (case b => exact TopRead.nolimit (by assumption)); (case a => rfl); (case l => rfl); (case e => exact List.cons_ne_nil _ _); (case n => exact Nat.le_of_ble_eq_true rfl)); intro _ _ _ _ _ l1 _ _; (try k_lt l1))
  obtain ⟨X, T⟩ := G
  revert X; k_fill; intro X
  refine' enter_pureC (binds := [(Str.ofString "name", .str (S l) tx), (Str.ofString "mode", .int md tm)]) X T.nolimit ?k1 ?k2 ?k3 ?k4 ?k5 ?c0 ?c1 ?c2 ?c3 ?_
  case k1 => exact Nat.lt_of_le_of_lt (Nat.le_add_right _ _) hA.depth
  case k2 => k_is
  case k3 => k_is
  case k4 => exact BindsTo.of_eq rfl
  case k5 => exact rfl
  case c0 => decide +kernel
  case c1 => exact rfl
  case c2 => exact rfl
  case c3 => exact rfl
  intro h₁ L tk cells hL F N Y
  k_cells Y
  show wpAny _ _ _ _ _ _
  k_fold
  (repeat' (first | (k_unfold; (try dsimp only)) | (walk1; (all_goals try dsimp only)) | (dsimp only; walk1)))
  unfold Hold
  rename_i d₁ _ _ hlo _ _ o₁ hds hfl h₂ o₂ F' N' hcell
  obtain ⟨kvs, hd, hf⟩ : ∃ kvs, o₁.IsDictOf (PySem.strKind PySem.Challenge.rw_oh0027_01.row.prog w) kvs ∧ FlatPairs PyData.str kvs escD := ⟨_, hds, hfl⟩
  clear hds hfl
  refine comp_enter rfl rfl (by decide) (by intro _; rfl) ?_
  show wpAny _ _ _ _ _ _
  (repeat' (first | (k_unfold; (try dsimp only)) | (walk1; (all_goals try dsimp only)) | (dsimp only; walk1)))
  refine comp_str (fun i ys nw => nw = [(d₁, o₁), (L + 1, o₂)] ∧ PyProof.Rows.StrsAre ys ((l.take i).map fun c => S (escC c))) (by omega) (by exact hA.handled) (fun i ys nw h => ?_) (by decide) rfl rfl F' N' ⟨rfl, .nil⟩ ?_ ?_
  · have := strs_len h.2
    rw [this, List.length_map, List.length_take]; omega
  · rintro i c u ys nw h tk C oC D k I oI m₂ hc ⟨rfl, hys⟩ hoC hm₂ F₁ N₁ off hIC hID hCD
    refine wpAny_tests_nil ?_
    simp only [if_true]
    clear F' N'
    show wpAny _ _ _ _ _ _
    (repeat' (first | (k_unfold; (try dsimp only)) | (walk1; (all_goals try dsimp only)) | (dsimp only; walk1)))
    unfold Hold
    refine call_get2_strTab (TabAt.ofNews N₁ (.tail _ (.tail _ (.tail _ (.head _)))) hlo hd hf) (Flat.str _ _) fun v hv => ?_
    rw [esc_look] at hv
    obtain ⟨tv, rfl⟩ := hv.str_inv
    refine CEnd.mk F₁ N₁ off ⟨rfl, ?_⟩
    have e : ((l.take (i + 1)).map fun c => S (escC c)) = ((l.take i).map fun c => S (escC c)) ++ [S (escC c)] := by rw [List.take_add_one, hc]; simp
    rw [e]
    exact strs_snoc hys
  · rintro D k h tk ys nw ⟨rfl, hys⟩ F₁ N₁ off
    rw [List.take_length] at hys
    clear F' N'
    (repeat' (first | (k_unfold; (try dsimp only)) | (walk1; (all_goals try dsimp only)) | (dsimp only; walk1)))
    unfold Hold
    have hys' : PyProof.Rows.StrsAre ys ((l.map escC).map S) := by rw [List.map_map]; exact hys
    refine join_listC (ys := (l.map escC).map S) (News.isList N₁ (.head _)) (by show PyProof.Rows.StrsAre ys.toArray.toList _; rw [List.toList_toArray]; exact hys') (by decide) ?_ fun t' k' => ?_
    · have h2 := esc_sum l
      rw [List.length_map, List.length_map]
      omega
    rw [join_S]
    replace N₁ : News s.heap L h [(d₁, o₁), (L + 1, o₂)] := fun q hq => N₁ q (.tail _ hq)
    have hel : (S (l.map escC).flatten).length ≤ 48 := by show (List.toArray _).size ≤ _; rw [List.size_toArray]; exact esc_len hl
    (repeat' (first | (k_unfold; (try dsimp only)) | (walk1; (all_goals try dsimp only)) | (dsimp only; walk1)))
    unfold Hold
    rename_i F₂ N₂
    rw [kind_item h0 h1, show Str.ofString "\"" = S [34] from rfl, S_append (l.map escC).flatten [34], S_append ((l.map escC).flatten ++ [34]) [kindC md], show (l.map escC).flatten ++ [34] ++ [kindC md] = rowF l md 0 from by simp [rowF]] at F₂
    refine wpAny_For ?_ (by intro _; rfl)
    show wpAny _ _ _ _ _ _
    (repeat' (first | (k_unfold; (try dsimp only)) | (walk1; (all_goals try dsimp only)) | (dsimp only; walk1)))
    rename_i hr F₃ N₃ _
    refine loop_range (n := 3) (RowJ l md tm) hA.handled hr rfl (by decide) F₃ (news := []) News.nil ⟨_, Has.cons rfl (Has.cons rfl Has.nil), rfl⟩ ?_ ?_
    · intro i u m₂ news₂ h₂ tk₂ I oI hi hJ F₄ N₄ hI
      refine turn_abs fun G hG => ?_
      obtain ⟨t₂, hm₂, rfl⟩ := hJ
      replace F₄ := fr_has F₄ hm₂
      simp only [withs] at F₄
      clear F₃ N₃ hr
      have hrl : (S (rowF l md i)).length ≤ 80 := by show (List.toArray _).size ≤ _; rw [List.size_toArray]; exact rowF_len hl hi
      have hi0 : (0 : Int) ≤ (i : Int) := by omega
      have hi2 : (i : Int) < 3 := by omega
      show wpAny _ _ _ _ _ _
      k_fold
      (repeat' (first | (k_unfold; (try dsimp only)) | (walk1; (all_goals try dsimp only)) | (dsimp only; walk1)))
      unfold Hold
      (with_reducible rename Fr _ _ _ _ => F₅); (with_reducible rename News _ _ _ _ => N₅)
      refine join_str (S [lastC md i]) F₅ N₅ ?_ ?_
      · (repeat' (first | (k_unfold; (try dsimp only)) | (walk1; (all_goals try dsimp only)) | (dsimp only; walk1)))
        · (with_reducible rename _ = (0 : Int) => hidx); (with_reducible rename Fr _ _ _ _ => F₆); (with_reducible rename News _ _ _ _ => N₆)
          exact StrP.mk F₆ N₆ (by unfold lastC; rw [show (threeI md i).fmod 2 + 2 * aboveI md i = 0 from hidx]; rfl)
        · (with_reducible rename _ = (1 : Int) => hidx); (with_reducible rename Fr _ _ _ _ => F₆); (with_reducible rename News _ _ _ _ => N₆)
          exact StrP.mk F₆ N₆ (by unfold lastC; rw [show (threeI md i).fmod 2 + 2 * aboveI md i = 1 from hidx]; rfl)
        · (with_reducible rename _ = (2 : Int) => hidx); (with_reducible rename Fr _ _ _ _ => F₆); (with_reducible rename News _ _ _ _ => N₆)
          exact StrP.mk F₆ N₆ ((item_st i hi).1.trans (by unfold lastC; rw [show (threeI md i).fmod 2 + 2 * aboveI md i = 2 from hidx]; rfl))
        · (with_reducible rename _ = (3 : Int) => hidx); (with_reducible rename Fr _ _ _ _ => F₆); (with_reducible rename News _ _ _ _ => N₆)
          exact StrP.mk F₆ N₆ ((item_st i hi).2.trans (by unfold lastC; rw [show (threeI md i).fmod 2 + 2 * aboveI md i = 3 from hidx]; rfl))
      · clear F₅ N₅
        intro p₅ h₅ tk₅ t₅ F₅ N₅
        have hc1 : (S [lastC md i]).length ≤ 1 := Nat.le_refl _
        show wpAny _ _ _ _ _ _
        (repeat' (first | (k_unfold; (try dsimp only)) | (walk1; (all_goals try dsimp only)) | (dsimp only; walk1)))
        (try clear F₅); (try clear N₅)
        (with_reducible rename Fr _ _ _ _ => F₆); (with_reducible rename News _ _ _ _ => N₆)
        exact hG _ _ <| row_end F₆ N₆ (Has.cons rfl (Has.cons rfl Has.nil)) (row_fin (i := i) (c := lastC md i) rfl rfl)
    · rintro h₂ tk₂ m₂ news₂ ⟨t₂, hm₂, rfl⟩ F₄ N₄
      replace F₄ := fr_has F₄ hm₂
      simp only [withs] at F₄
      clear F₃ N₃ hr
      show wpAny _ _ _ _ _ _
      (repeat' (first | (k_unfold; (try dsimp only)) | (walk1; (all_goals try dsimp only)) | (dsimp only; walk1)))
      exact ret _ _ _ F₄.keep
end Mine
end
section
open PySem PySem.W PySem.Calls PyProof.Rows
open PySem.SeqAt PySem.MeetsSeq PySem.MeetsSeq2 PySem.MeetsSeq3 PySem.SeqRoads2
open AutoSeq1 (wpAny_loadPart')
set_option maxRecDepth 100000
set_option maxHeartbeats 4000000
namespace Mine
theorem cmp_Gt_of {M : Model} {A : Around} {E : Value → Shared → Prop} {s : Shared} {a b : Value} {Q : Value → Shared → Prop} (h : wpAny M A (compareOp .Gt a b) Q E s) : wpAny M A (richCompare .Gt a b) Q E s := h
theorem ints_at {vs : List Value} {ns : List Int} (i : Nat) (h : IntsAre vs ns) : IntsAre (vs.drop i) (ns.drop i) := IntsAre.drop h i
theorem drop_head {α} {l : List α} {i : Nat} {x : α} {r : List α} (h : l.drop i = x :: r) : l[i]? = some x ∧ l.drop (i + 1) = r ∧ i < l.length := by
  have hlt : i < l.length := by
    rcases Nat.lt_or_ge i l.length with h' | h'
    · exact h'
    · rw [List.drop_of_length_le h'] at h; cases h
  rw [List.drop_eq_getElem_cons hlt] at h
  injection h with h1 h2
  exact ⟨by rw [List.getElem?_eq_getElem hlt, h1], h2, hlt⟩
theorem lt_loop (l b : Addr) (items items2 : Array Value) (n n2 : Nat) (dd dd2 : Option Addr) (sl sl2 : Array (Option Value)) (xs : List Int) :
    ∀ (ys : List Int) (i : Nat), i ≤ items.size → i ≤ items2.size → IntsAre (items.toList.drop i) xs → IntsAre (items2.toList.drop i) ys →
     Meets (Builtin.«list.__eq__.loop» ⟨[.ref l, .ref b, rawInt i, rawInt 0], []⟩)
      (fun _ R s => s.heap.get? l = some { cls := .type "list", dict := dd, data := .seq items n, slots := sl } ∧ s.heap.get? b = some { cls := .type "list", dict := dd2, data := .seq items2 n2, slots := sl2 } ∧
        R (.ok (.ret (.bool (decide (xs < ys))))) s) := by
  induction xs with
  | nil =>
    intro ys i hi hi' hx hy prog w A R s h
    obtain ⟨hp, g, d, tk, os⟩ := s; obtain ⟨hl, hb, h⟩ := h
    wp_walk using wpAny_loadPart' hl, wpAny_loadPart' hb
    generalize hz : items.toList.drop i = z at hx
    cases hx
    have hsz : items.size = i := by have := List.drop_eq_nil_iff.1 hz; simp at this; omega
    have hi1 : items[((i : Nat) : Int).toNat]? = none := by simp; omega
    rw [hi1]
    wp_walk using wpAny_loadPart' hl, wpAny_loadPart' hb
    show R (.ok (.ret (.bool (decide (items.size < items2.size))))) _
    generalize hz2 : items2.toList.drop i = z2 at hy
    cases hy with
    | nil =>
      have hsz2 : items2.size = i := by have := List.drop_eq_nil_iff.1 hz2; simp at this; omega
      rw [hsz, hsz2]
      simpa using h
    | cons a t r =>
      have := (drop_head hz2).2.2
      simp at this
      rw [hsz]
      simpa [this] using h
  | cons x xs ih =>
    intro ys i hi hi' hx hy prog w A R s h
    obtain ⟨hp, g, d, tk, os⟩ := s; obtain ⟨hl, hb, h⟩ := h
    wp_walk using wpAny_loadPart' hl, wpAny_loadPart' hb
    generalize hz : items.toList.drop i = z at hx
    cases hx with
    | cons _ t hx =>
    obtain ⟨e1, e2, e3⟩ := drop_head hz
    have hi1 : items[((i : Nat) : Int).toNat]? = some (.int x t) := by simpa using e1
    generalize hz2 : items2.toList.drop i = z2 at hy
    cases hy with
    | nil =>
      have hsz2 : items2.size = i := by have := List.drop_eq_nil_iff.1 hz2; simp at this; omega
      have hi2 : items2[((i : Nat) : Int).toNat]? = none := by simp; omega
      rw [hi1, hi2]
      wp_walk using wpAny_loadPart' hl, wpAny_loadPart' hb
      show R (.ok (.ret (.bool (decide (items.size < items2.size))))) _
      have h0 : decide (x :: xs < ([] : List Int)) = false := by simp
      rw [h0] at h
      have h1 : decide (items.size < items2.size) = false := by simp; simp at e3; omega
      rw [h1]; exact h
    | @cons y u vs ys hy =>
      obtain ⟨f1, f2, f3⟩ := drop_head hz2
      have hi2 : items2[((i : Nat) : Int).toNat]? = some (.int y u) := by simpa using f1
      have hc : ((i : Int) + 1) = ((i + 1 : Nat) : Int) := by push_cast; rfl
      rw [hi1, hi2]
      refine wpAny_bind (EqGives.int x y t u prog w _ _ _ _ ?_)
      by_cases hxy : x = y
      · subst hxy
        rw [beq_self_eq_true]
        wp_walk
        rw [hc]
        exact ⟨plainId_quiet plain_eq_loop _, codeAny_builtin entry_eq_loop (by
          rw [Around.under_plainId plain_eq_loop _]
          exact ih _ (i + 1) (by simp at e3; omega) (by simp at f3; omega) (by rw [e2]; exact hx) (by rw [f2]; exact hy) prog w A R _ ⟨hl, hb, by
            have : decide (x :: xs < x :: ys) = decide (xs < ys) := by simp [List.cons_lt_cons_iff]
            rw [this] at h; exact h⟩)⟩
      · have hb' : (x == y) = false := by simpa using hxy
        rw [hb']
        wp_walk using wpAny_loadPart' hl, wpAny_loadPart' hb
        rw [hi1, hi2]
        have : decide (x :: xs < y :: ys) = decide (x < y) := by simp [List.cons_lt_cons_iff, hxy]
        rw [this] at h
        refine wpAny_bind (wpAny_lt_int ?_)
        wp_walk
        exact h
theorem gt_loop (l b : Addr) (items items2 : Array Value) (n n2 : Nat) (dd dd2 : Option Addr) (sl sl2 : Array (Option Value)) (xs : List Int) :
    ∀ (ys : List Int) (i : Nat), i ≤ items.size → i ≤ items2.size → IntsAre (items.toList.drop i) xs → IntsAre (items2.toList.drop i) ys →
     Meets (Builtin.«list.__eq__.loop» ⟨[.ref l, .ref b, rawInt i, rawInt 4], []⟩)
      (fun _ R s => s.heap.get? l = some { cls := .type "list", dict := dd, data := .seq items n, slots := sl } ∧ s.heap.get? b = some { cls := .type "list", dict := dd2, data := .seq items2 n2, slots := sl2 } ∧
        R (.ok (.ret (.bool (decide (ys < xs))))) s) := by
  induction xs with
  | nil =>
    intro ys i hi hi' hx hy prog w A R s h
    obtain ⟨hp, g, d, tk, os⟩ := s; obtain ⟨hl, hb, h⟩ := h
    wp_walk using wpAny_loadPart' hl, wpAny_loadPart' hb
    generalize hz : items.toList.drop i = z at hx
    cases hx
    have hsz : items.size = i := by have := List.drop_eq_nil_iff.1 hz; simp at this; omega
    have hi1 : items[((i : Nat) : Int).toNat]? = none := by simp; omega
    rw [hi1]
    wp_walk using wpAny_loadPart' hl, wpAny_loadPart' hb
    show R (.ok (.ret (.bool (decide (items2.size < items.size))))) _
    generalize hz2 : items2.toList.drop i = z2 at hy
    cases hy with
    | nil =>
      have hsz2 : items2.size = i := by have := List.drop_eq_nil_iff.1 hz2; simp at this; omega
      rw [hsz, hsz2]
      simpa using h
    | cons a t r =>
      have := (drop_head hz2).2.2
      simp at this
      rw [hsz]
      have h1 : decide (items2.size < i) = false := by simp; omega
      rw [h1]
      simpa using h
  | cons x xs ih =>
    intro ys i hi hi' hx hy prog w A R s h
    obtain ⟨hp, g, d, tk, os⟩ := s; obtain ⟨hl, hb, h⟩ := h
    wp_walk using wpAny_loadPart' hl, wpAny_loadPart' hb
    generalize hz : items.toList.drop i = z at hx
    cases hx with
    | cons _ t hx =>
    obtain ⟨e1, e2, e3⟩ := drop_head hz
    have hi1 : items[((i : Nat) : Int).toNat]? = some (.int x t) := by simpa using e1
    generalize hz2 : items2.toList.drop i = z2 at hy
    cases hy with
    | nil =>
      have hsz2 : items2.size = i := by have := List.drop_eq_nil_iff.1 hz2; simp at this; omega
      have hi2 : items2[((i : Nat) : Int).toNat]? = none := by simp; omega
      rw [hi1, hi2]
      wp_walk using wpAny_loadPart' hl, wpAny_loadPart' hb
      show R (.ok (.ret (.bool (decide (items2.size < items.size))))) _
      have h0 : decide (([] : List Int) < x :: xs) = true := by simp
      rw [h0] at h
      have h1 : decide (items2.size < items.size) = true := by simp; simp at e3; omega
      rw [h1]; exact h
    | @cons y u vs ys hy =>
      obtain ⟨f1, f2, f3⟩ := drop_head hz2
      have hi2 : items2[((i : Nat) : Int).toNat]? = some (.int y u) := by simpa using f1
      have hc : ((i : Int) + 1) = ((i + 1 : Nat) : Int) := by push_cast; rfl
      rw [hi1, hi2]
      refine wpAny_bind (EqGives.int x y t u prog w _ _ _ _ ?_)
      by_cases hxy : x = y
      · subst hxy
        rw [beq_self_eq_true]
        wp_walk
        rw [hc]
        exact ⟨plainId_quiet plain_eq_loop _, codeAny_builtin entry_eq_loop (by
          rw [Around.under_plainId plain_eq_loop _]
          exact ih _ (i + 1) (by simp at e3; omega) (by simp at f3; omega) (by rw [e2]; exact hx) (by rw [f2]; exact hy) prog w A R _ ⟨hl, hb, by
            have : decide (x :: ys < x :: xs) = decide (ys < xs) := by simp [List.cons_lt_cons_iff]
            rw [this] at h; exact h⟩)⟩
      · have hb' : (x == y) = false := by simpa using hxy
        rw [hb']
        wp_walk using wpAny_loadPart' hl, wpAny_loadPart' hb
        rw [hi1, hi2]
        have : decide (y :: ys < x :: xs) = decide (y < x) := by simp [List.cons_lt_cons_iff, Ne.symm hxy]
        rw [this] at h
        refine wpAny_bind (cmp_Gt_of (PyProof.Rows.gt_int ?_))
        wp_walk
        exact h
theorem list_lt (l b : Addr) (items items2 : Array Value) (n n2 : Nat) (dd dd2 : Option Addr) (sl sl2 : Array (Option Value)) (xs ys : List Int) (hx : IntsAre items.toList xs) (hy : IntsAre items2.toList ys) :
    Meets (Builtin.«list.__lt__» ⟨[.ref l, .ref b], []⟩)
      (fun _ R s => s.heap.get? l = some { cls := .type "list", dict := dd, data := .seq items n, slots := sl } ∧ s.heap.get? b = some { cls := .type "list", dict := dd2, data := .seq items2 n2, slots := sl2 } ∧
        R (.ok (.ret (.bool (decide (xs < ys))))) s) := by
  intro prog w A R s h
  obtain ⟨hp, g, d, tk, os⟩ := s; obtain ⟨hl, hb, h⟩ := h
  have f3 := AutoSeq1.sub_list_list
  wp_walk using wpAny_loadPart' hl, wpAny_loadPart' hb
  exact ⟨plainId_quiet plain_eq_loop _, codeAny_builtin entry_eq_loop (by
    rw [Around.under_plainId plain_eq_loop _]
    exact lt_loop l b items items2 n n2 dd dd2 sl sl2 xs ys 0 (Nat.zero_le _) (Nat.zero_le _) hx hy prog w A R _ ⟨hl, hb, h⟩)⟩
theorem list_gt (l b : Addr) (items items2 : Array Value) (n n2 : Nat) (dd dd2 : Option Addr) (sl sl2 : Array (Option Value)) (xs ys : List Int) (hx : IntsAre items.toList xs) (hy : IntsAre items2.toList ys) :
    Meets (Builtin.«list.__gt__» ⟨[.ref l, .ref b], []⟩)
      (fun _ R s => s.heap.get? l = some { cls := .type "list", dict := dd, data := .seq items n, slots := sl } ∧ s.heap.get? b = some { cls := .type "list", dict := dd2, data := .seq items2 n2, slots := sl2 } ∧
        R (.ok (.ret (.bool (decide (ys < xs))))) s) := by
  intro prog w A R s h
  obtain ⟨hp, g, d, tk, os⟩ := s; obtain ⟨hl, hb, h⟩ := h
  have f3 := AutoSeq1.sub_list_list
  wp_walk using wpAny_loadPart' hl, wpAny_loadPart' hb
  exact ⟨plainId_quiet plain_eq_loop _, codeAny_builtin entry_eq_loop (by
    rw [Around.under_plainId plain_eq_loop _]
    exact gt_loop l b items items2 n n2 dd dd2 sl sl2 xs ys 0 (Nat.zero_le _) (Nat.zero_le _) hx hy prog w A R _ ⟨hl, hb, h⟩)⟩
/-- the value is a list of these ints -/
noncomputable def IntsAt (h : Heap) (l : Addr) (xs : List Int) : Prop := ∃ vs, h.IsList l vs ∧ IntsAre vs.toList xs
theorem IntsAt.keeps {h h' : Heap} {l : Addr} {xs : List Int} (H : IntsAt h l xs) (hk : ∀ b o, h.get? b = some o → h'.get? b = some o) : IntsAt h' l xs := by
  obtain ⟨vs, ⟨o, ho, hc⟩, hi⟩ := H
  exact ⟨vs, ⟨o, hk _ _ ho, hc⟩, hi⟩
theorem ints_len {vs : List Value} {xs : List Int} (h : IntsAre vs xs) : vs.length = xs.length := IntsAre.length h
theorem ints_get {vs : List Value} {xs : List Int} (h : IntsAre vs xs) (j : Nat) (hj : j < vs.length) : ∃ t, vs[j]? = some (.int (xs.getD j 0) t) := by
  obtain ⟨t, e⟩ := IntsAre.int_at h j vs[j] (List.getElem?_eq_getElem hj)
  exact ⟨t, by rw [List.getElem?_eq_getElem hj, e]⟩
section
variable {prog : Program} {w : World} {A : Around} {E Q : Value → Shared → Prop} {s : Shared} {l b : Addr} {xs ys : List Int}
theorem rc_lt (hl : IntsAt s.heap l xs) (hb : IntsAt s.heap b ys) (hu : A.units < cLine) (h : Q (.bool (decide (xs < ys))) s) : wpAny (model prog w) A (richCompare .Lt (.ref l) (.ref b)) Q E s := by
  obtain ⟨items, ⟨⟨cls, dd, data, sl⟩, ho, hc, n, hd⟩, hi⟩ := hl
  obtain ⟨items2, ⟨⟨cls2, dd2, data2, sl2⟩, ho2, hc2, n2, hd2⟩, hi2⟩ := hb
  simp only at hc hd hc2 hd2
  subst hc hd hc2 hd2
  exact richCompare_meets_room (op := .Lt) ⟨_, ho, rfl⟩ ⟨_, ho2, rfl⟩ F.slot_list_lt F.entry_list_lt (F.args_list_lt_2 _ _) (list_lt l b items items2 n n2 dd dd2 sl sl2 xs ys hi hi2)
    ⟨ho, ho2, show Value.bool (decide (xs < ys)) ≠ Value.notImplemented ∧ Q (.bool (decide (xs < ys))) s from ⟨(fun x => nomatch x), h⟩⟩ hu
theorem rc_gt (hl : IntsAt s.heap l xs) (hb : IntsAt s.heap b ys) (hu : A.units < cLine) (h : Q (.bool (decide (ys < xs))) s) : wpAny (model prog w) A (richCompare .Gt (.ref l) (.ref b)) Q E s := by
  obtain ⟨items, ⟨⟨cls, dd, data, sl⟩, ho, hc, n, hd⟩, hi⟩ := hl
  obtain ⟨items2, ⟨⟨cls2, dd2, data2, sl2⟩, ho2, hc2, n2, hd2⟩, hi2⟩ := hb
  simp only at hc hd hc2 hd2
  subst hc hd hc2 hd2
  exact richCompare_meets_room (op := .Gt) ⟨_, ho, rfl⟩ ⟨_, ho2, rfl⟩ F.slot_list_gt F.entry_list_gt (F.args_list_gt_2 _ _) (list_gt l b items items2 n n2 dd dd2 sl sl2 xs ys hi hi2)
    ⟨ho, ho2, show Value.bool (decide (ys < xs)) ≠ Value.notImplemented ∧ Q (.bool (decide (ys < xs))) s from ⟨(fun x => nomatch x), h⟩⟩ hu
end
theorem all_eq {xs ys : List Int} (h : xs.length = ys.length) : ((List.range xs.length).all fun j => xs.getD j 0 == ys.getD j 0) = decide (xs = ys) := by
  rw [Bool.eq_iff_iff]
  simp only [List.all_eq_true, List.mem_range, beq_iff_eq, decide_eq_true_eq]
  constructor
  · intro hh
    apply List.ext_getElem h
    intro i h1 h2
    have := hh i h1
    simpa [List.getD_eq_getElem?_getD, h1, h2] using this
  · rintro rfl _ _; rfl
theorem rcAt_ints {A : Around} {s : Shared} {l b : Addr} {xs ys : List Int} (hl : IntsAt s.heap l xs) (hb : IntsAt s.heap b ys) (hu : A.units < cLine) : RcAt A s (.ref l) (.ref b) (decide (xs = ys)) := by
  obtain ⟨vs, hl, hi⟩ := hl
  obtain ⟨us, hb, hj⟩ := hb
  have e1 := ints_len hi
  have e2 := ints_len hj
  simp only [Array.length_toList] at e1 e2
  by_cases hsz : vs.size = us.size
  · rw [← all_eq (by omega), ← e1]
    refine RcAt.lists hl hb hsz hu fun j h1 h2 => ?_
    obtain ⟨t, ht⟩ := ints_get hi j (by simpa using h1)
    obtain ⟨u, hu⟩ := ints_get hj j (by simpa using h2)
    have g1 : vs[j] = .int (xs.getD j 0) t := by simpa [h1] using ht
    have g2 : us[j] = .int (ys.getD j 0) u := by simpa [h2] using hu
    rw [g1, g2]
    exact (EqGives.int _ _ _ _).at _ _
  · have : decide (xs = ys) = false := by
      rw [decide_eq_false_iff_not]; rintro rfl; omega
    rw [this]
    exact RcAt.lists_lengths hl hb (by simpa using hsz) hu
theorem eqAt_ints {A : Around} {s : Shared} {l b : Addr} {xs ys : List Int} (hl : IntsAt s.heap l xs) (hb : IntsAt s.heap b ys) (hu : A.units < cLine) : EqAt A s (.ref l) (.ref b) (decide (xs = ys)) := by
  by_cases h : l = b
  · subst h
    obtain ⟨vs, ⟨o, ho, hc, n, hd⟩, hi⟩ := hl
    obtain ⟨us, ⟨o', ho', hc', n', hd'⟩, hj⟩ := hb
    rw [ho] at ho'
    injection ho' with ho'
    subst ho'
    rw [hd] at hd'
    injection hd' with hd'
    subst hd'
    have : xs = ys := by
      clear hc ho hd hc'
      generalize vs.toList = z at hi hj
      induction hi generalizing ys with
      | nil => cases hj; rfl
      | cons n t r ih => cases hj with | cons _ _ r' => rw [ih r']
    subst this
    simpa using EqAt.same (A := A) (s := s) (.ref l)
  · exact EqAt.of_refs h (rcAt_ints hl hb hu)
theorem rcNe_ints {A : Around} {s : Shared} {l b : Addr} {xs ys : List Int} (hl : IntsAt s.heap l xs) (hb : IntsAt s.heap b ys) (hu : A.units < cLine) : RcNeAt A s (.ref l) (.ref b) (!decide (xs = ys)) := by
  obtain ⟨vs, hl, hi⟩ := hl
  obtain ⟨us, hb, hj⟩ := hb
  have e1 := ints_len hi
  have e2 := ints_len hj
  simp only [Array.length_toList] at e1 e2
  by_cases hsz : vs.size = us.size
  · rw [← all_eq (by omega), ← e1]
    refine RcNeAt.lists hl hb hsz hu fun j h1 h2 => ?_
    obtain ⟨t, ht⟩ := ints_get hi j (by simpa using h1)
    obtain ⟨u, hu⟩ := ints_get hj j (by simpa using h2)
    have g1 : vs[j] = .int (xs.getD j 0) t := by simpa [h1] using ht
    have g2 : us[j] = .int (ys.getD j 0) u := by simpa [h2] using hu
    rw [g1, g2]
    exact (EqGives.int _ _ _ _).at _ _
  · have : decide (xs = ys) = false := by
      rw [decide_eq_false_iff_not]; rintro rfl; omega
    rw [this]
    exact RcNeAt.lists_lengths hl hb (by simpa using hsz) hu
end Mine
end
section
open PySem PySem.W PySem.Calls PyProof.Rows
set_option maxRecDepth 100000
set_option maxHeartbeats 4000000
namespace Mine
section
variable {prog : Program} {w : World} {A : Around} {R : Result → Shared → Prop} {I : Addr} {fp wr : List Addr} {n : Nat} {P : Nat → Value → Prop} {St : Nat → Heap → Prop} {hb : Heap}
noncomputable def CmpIn (prog : Program) (w : World) (A : Around) (hb : Heap) (P : Nat → Value → Prop) (bt : Nat → Nat → Bool) : Prop :=
  ∀ i j vi vj (s : Shared) (Q : Value → Shared → Prop) (E : Value → Shared → Prop), (∀ b o, hb.get? b = some o → s.heap.get? b = some o) → P i vi → P j vj → Q (.bool (bt i j)) s → wpAny (model prog w) A (richCompare .Gt vi vj) Q E s
theorem max_loop (W : Walks prog w A.in1 I fp wr n P St) (bt : Nat → Nat → Bool) (hcmp : CmpIn prog w A.in1 hb P bt) (S : Addr) (hSf : S ∉ fp) (hbS : hb.get? S = none) (hbw : ∀ b ∈ wr, hb.get? b = none) :
    ∀ (k j : Nat) (s : Shared) (vb : Value) (c : Nat), n - (j + 1) = k → j + 1 ≤ n → St (j + 1) s.heap → P (argBest bt j) vb → (∀ b o, hb.get? b = some o → s.heap.get? b = some o) →
    s.heap.get? S = some { cls := .type "list", dict := none, data := .seq #[vb, vb] c, slots := #[] } →
    (∀ v h' tk, P (argBest bt (n - 1)) v → (∀ b o, hb.get? b = some o → h'.get? b = some o) → R (.ok (.ret v)) { s with heap := h', toks := tk }) →
    codeAny (model prog w) A (.builtin "max.loop" ⟨[.ref I, .none, .ref S], []⟩) R s := by
  have hSw : S ∉ wr := fun h => hSf (W.sub _ h)
  have hname : (toString "max" ++ toString ".loop" : String) = "max.loop" := by decide
  have up : ∀ (h h' : Heap), (∀ b o, hb.get? b = some o → h.get? b = some o) → (∀ b o, b ∉ wr → h.get? b = some o → h'.get? b = some o) → ∀ b o, hb.get? b = some o → h'.get? b = some o :=
    fun h h' k1 k2 b o e => k2 b o (fun hm => by rw [hbw b hm] at e; cases e) (k1 b o e)
  have us : ∀ (h : Heap) (f : Obj → Obj), (∀ b o, hb.get? b = some o → h.get? b = some o) → ∀ b o, hb.get? b = some o → (h.update S f).get? b = some o :=
    fun h f k1 b o e => (Heap.get?_update_other _ _ (fun hm => by rw [← hm, hbS] at e; cases e)).trans (k1 b o e)
  intro k
  induction k with
  | zero =>
    intro j s vb c hk hj hst hPb hkb hS hR
    have hin : j + 1 = n := by omega
    refine codeAny_builtin F.entry_max_loop ?_
    rw [Around.under_plainId F.plain_max_loop _]
    show wpAny _ A.in1 (seqItems? (.ref S) >>= _) _ _ s
    refine wpAny_bind (wpAny_seqItems hS rfl ?_)
    show wpAny _ A.in1 (tryCatch (pyNext (.ref I)) _ >>= _) _ _ s
    refine wpAny_bind (wpAny_tryCatch (W.done s _ _ (hin ▸ hst) fun h' tk hk' => ?_))
    have hS' := hk' S _ hSw hS
    show wpAny _ A.in1 (updateSeq S (fun _ => #[]) >>= _) _ _ _
    refine wpAny_bind ?_
    refine wpAny_updateSeq hS' rfl (wpAny_bind (wpAny_letGo (wpAny_pure ?_)))
    exact hR vb _ tk (by rw [← hin]; exact hPb) (us _ _ (up _ _ hkb hk'))
  | succ k ih =>
    intro j s vb c hk hj hst hPb hkb hS hR
    have hlt : j + 1 < n := by omega
    refine codeAny_builtin F.entry_max_loop ?_
    rw [Around.under_plainId F.plain_max_loop _]
    show wpAny _ A.in1 (seqItems? (.ref S) >>= _) _ _ s
    refine wpAny_bind (wpAny_seqItems hS rfl ?_)
    show wpAny _ A.in1 (tryCatch (pyNext (.ref I)) _ >>= _) _ _ s
    refine wpAny_bind (wpAny_tryCatch (W.item (j + 1) s _ _ hlt hst fun v h' tk hP hst' hk' => ?_))
    have hS' := hk' S _ hSw hS
    have hk2 := up _ _ hkb hk'
    show wpAny _ A.in1 (tryCatch (holding [v, v] (richCompare .Gt v vb >>= _)) _ >>= _) _ _ _
    refine wpAny_bind (wpAny_tryCatch (wpAny_holding (wpAny_bind (hcmp (j + 1) (argBest bt j) v vb _ _ _ hk2 hP hPb ?_))))
    refine wpAny_bind (wpAny_holding (wpAny_truthy_bool ?_))
    refine wpAny_bind (wpAny_letGo (wpAny_pure ?_))
    cases hb : bt (j + 1) (argBest bt j) with
    | true =>
      simp only [if_true]
      refine wpAny_bind ?_
      refine wpAny_updateSeq hS' rfl (wpAny_bind (wpAny_letGo ?_))
      rw [hname]
      refine wpAny_pure ⟨plainId_quiet F.plain_max_loop _, ih (j + 1) _ v _ (by omega) hlt (W.frame _ _ _ hst' fun b hbf o e => ?_) (by simp only [argBest, hb, if_true]; exact hP) (us _ _ hk2) (Heap.get?_update_self _ hS' rfl)
        fun v' h'' tk'' hP' hk'' => ?_⟩
      · exact (Heap.get?_update_other _ _ (fun h : S = b => hSf (by rw [h]; exact hbf))).trans e
      · exact hR v' h'' tk'' hP' hk''
    | false =>
      simp only [Bool.false_eq_true, if_false]
      refine wpAny_bind (wpAny_letGo ?_)
      rw [hname]
      refine wpAny_pure ⟨plainId_quiet F.plain_max_loop _, ih (j + 1) _ vb c (by omega) hlt hst' (by simp only [argBest, hb, Bool.false_eq_true, if_false]; exact hPb) hk2 hS' fun v' h'' tk'' hP' hk'' => ?_⟩
      exact hR v' h'' tk'' hP' hk''
theorem max_loop_first (W : Walks prog w A.in1 I fp wr n P St) (bt : Nat → Nat → Bool) (hcmp : CmpIn prog w A.in1 hb P bt) (S : Addr) (hSf : S ∉ fp) (hbS : hb.get? S = none) (hbw : ∀ b ∈ wr, hb.get? b = none) (hn : 0 < n) {s : Shared} {c : Nat} (hst : St 0 s.heap)
    (hkb : ∀ b o, hb.get? b = some o → s.heap.get? b = some o) (hS : s.heap.get? S = some { cls := .type "list", dict := none, data := .seq #[] c, slots := #[] })
    (hR : ∀ v h' tk, P (argBest bt (n - 1)) v → (∀ b o, hb.get? b = some o → h'.get? b = some o) → R (.ok (.ret v)) { s with heap := h', toks := tk }) :
    codeAny (model prog w) A (.builtin "max.loop" ⟨[.ref I, .none, .ref S], []⟩) R s := by
  have hSw : S ∉ wr := fun h => hSf (W.sub _ h)
  have hname : (toString "max" ++ toString ".loop" : String) = "max.loop" := by decide
  refine codeAny_builtin F.entry_max_loop ?_
  rw [Around.under_plainId F.plain_max_loop _]
  show wpAny _ A.in1 (seqItems? (.ref S) >>= _) _ _ s
  refine wpAny_bind (wpAny_seqItems hS rfl ?_)
  show wpAny _ A.in1 (tryCatch (pyNext (.ref I)) _ >>= _) _ _ s
  refine wpAny_bind (wpAny_tryCatch (W.item 0 s _ _ hn hst fun v h' tk hP hst' hk' => ?_))
  have hS' := hk' S _ hSw hS
  show wpAny _ A.in1 (updateSeq S (fun _ => #[v, v]) >>= _) _ _ _
  refine wpAny_bind ?_
  refine wpAny_updateSeq hS' rfl ?_
  rw [hname]
  refine wpAny_pure ⟨plainId_quiet F.plain_max_loop _, max_loop W bt hcmp S hSf hbS hbw _ 0 _ v _ rfl hn (W.frame _ _ _ hst' fun b hbf o e => ?_) hP (fun b o e => ?_) (Heap.get?_update_self _ hS' rfl) fun v' h'' tk'' hP' hk'' => ?_⟩
  · exact (Heap.get?_update_other _ _ (fun h : S = b => hSf (by rw [h]; exact hbf))).trans e
  · exact (Heap.get?_update_other _ _ (fun hm => by rw [← hm, hbS] at e; cases e)).trans (hk' b o (fun hm => by rw [hbw b hm] at e; cases e) (hkb b o e))
  · exact hR v' h'' tk'' hP' hk''
end
theorem best_of (x : Nat → List Int) : ∀ k, argBest (fun i j => decide (x j < x i)) k ≤ k ∧ ∀ j, j ≤ k → ¬ x (argBest (fun i j => decide (x j < x i)) k) < x j
  | 0 => ⟨Nat.le_refl _, fun j hj => by cases Nat.le_zero.mp hj; exact List.lt_irrefl _⟩
  | k + 1 => by
    obtain ⟨h1, h2⟩ := best_of x k
    simp only [argBest]
    split
    · rename_i c
      have c := of_decide_eq_true c
      refine ⟨Nat.le_refl _, fun j hj hlt => ?_⟩
      rcases Nat.lt_or_eq_of_le hj with h | h
      · exact h2 j (by omega) (List.lt_trans c hlt)
      · subst h; exact List.lt_irrefl _ hlt
    · rename_i c
      refine ⟨by omega, fun j hj hlt => ?_⟩
      rcases Nat.lt_or_eq_of_le hj with h | h
      · exact h2 j (by omega) hlt
      · subst h; exact c (decide_eq_true hlt)
theorem paired_len {α β : Type} {R : α → β → Prop} {l : List α} {m : List β} (h : Paired R l m) : l.length = m.length := Paired.length h
section
variable {prog : Program} {w : World} {A : Around} {E Q : Value → Shared → Prop} {s : Shared} {l : Addr} {vs : List Value} {xss : List (List Int)}
noncomputable def KeyIs (h : Heap) (v : Value) (xs : List Int) : Prop := ∃ a, v = .ref a ∧ IntsAt h a xs
theorem my_max (hh : A.handled = none) (hu : A.units + 20 < cLine) (hl : s.heap.IsList l vs.toArray) (hp : Paired (KeyIs s.heap) vs xss) (hne : 0 < vs.length)
    (h : ∀ i a h' tk', vs[i]? = some (.ref a) → i < xss.length → IntsAt s.heap a (xss.getD i []) → (∀ j, j < xss.length → ¬ xss.getD i [] < xss.getD j []) → (∀ b o, s.heap.get? b = some o → h'.get? b = some o) →
      Q (.ref a) { s with heap := h', toks := tk' }) : wpAny (model prog w) A (call (.builtin "max") [.ref l]) Q E s := by
  have hname : (toString "max" ++ toString ".loop" : String) = "max.loop" := by decide
  have hlt : l < s.heap.objs.size := by obtain ⟨_, e, _⟩ := hl; exact Heap.lt_size e
  have hsz : vs.toArray.size = vs.length := List.size_toArray ..
  have hlen := paired_len hp
  refine call_function_tree F.kind_max F.plain_max F.entry_max (F.args_max1 _) ?_
  show wpAny _ A.in1 (Builtin.Builtins.bindParams "max" ["key", "default"] 0 ⟨[], []⟩ >>= _) _ _ s
  refine wpAny_bind (wpAny_of_eq (show Builtin.Builtins.bindParams "max" ["key", "default"] 0 ⟨[], []⟩ = pure [none, none] from rfl) ?_)
  refine wpAny_bind (wpAny_pure ?_)
  refine wpAny_bind (wpAny_pyIter_list hl ?_)
  refine wpAny_bind (wpAny_newObj_type ?_)
  rw [hname]
  have W := Walks.list (prog := prog) (w := w) (A := A.in1) hh s.heap.objs.size l (Nat.ne_of_lt hlt) vs.toArray
  refine wpAny_pure ⟨plainId_quiet F.plain_max_loop _, max_loop_first (hb := s.heap) W (fun i j => decide (xss.getD j [] < xss.getD i [])) ?_ _ ?_ ?_ ?_ (by rw [hsz]; exact hne) ⟨⟨_, Heap.get?_push_of_some _ (Heap.get?_push_size _ rfl), rfl, rfl⟩, (hl.push _).push _⟩
    (fun b o e => Heap.get?_push_of_some _ (Heap.get?_push_of_some _ e)) (Heap.get?_push_size _ rfl) fun v h' tk hP hk => ?_⟩
  · intro i j vi vj s' Q' E' hk hi hj hq
    obtain ⟨x, e1, a, rfl, ha⟩ := paired_get hp i vi (by simpa using hi)
    obtain ⟨y, e2, b, rfl, hb⟩ := paired_get hp j vj (by simpa using hj)
    simp only [List.getD_eq_getElem?_getD, e1, e2, Option.getD_some] at hq
    exact rc_gt (ha.keeps hk) (hb.keeps hk) (show A.units + 1 < cLine by omega) hq
  · intro hm
    rw [Heap.size_push] at hm
    simp only [List.mem_cons, List.not_mem_nil, or_false] at hm
    rcases hm with h | h
    · exact absurd h (Nat.succ_ne_self _)
    · rw [← h] at hlt; exact absurd hlt (Nat.not_lt.2 (Nat.le_succ _))
  · rw [Heap.size_push]
    cases hq : s.heap.get? (s.heap.objs.size + 1) with
    | none => rfl
    | some o => exact absurd (Heap.lt_size hq) (Nat.not_lt.2 (Nat.le_succ _))
  · intro b hb
    rw [List.mem_singleton.mp hb]
    cases hq : s.heap.get? s.heap.objs.size with
    | none => rfl
    | some o => exact absurd (Heap.lt_size hq) (Nat.lt_irrefl _)
  · obtain ⟨b1, b2⟩ := best_of (fun i => xss.getD i []) (vs.toArray.size - 1)
    obtain ⟨x, e1, a, rfl, ha⟩ := paired_get hp (argBest (fun i j => decide (xss.getD j [] < xss.getD i [])) (vs.toArray.size - 1)) v ((List.getElem?_toArray).symm.trans hP)
    have hx : xss.getD (argBest (fun i j => decide (xss.getD j [] < xss.getD i [])) (vs.toArray.size - 1)) [] = x := by rw [List.getD_eq_getElem?_getD, e1]; rfl
    refine h _ a h' tk ((List.getElem?_toArray).symm.trans hP) ?_ (by rw [hx]; exact ha) (fun j hj => b2 j (by omega)) hk
    have := b1; omega
end
end Mine
end
section
open PySem PySem.W PySem.Calls PyProof.Rows
open PyProof.Rows.LCg (NsObj ns_obj fr_but news_but)
set_option maxRecDepth 100000
set_option maxHeartbeats 4000000
namespace Mine
section
variable {prog : Program} {w : World} {A : Around} {E : Value → Shared → Prop} {s : Shared} {h₀ : Heap} {L : Addr} {m : Str → Option Value} {env : Env}
theorem comp_enterA {elt iter : Expr} {x y : Str} {px py : Pos} {ifs : List Expr} {scope : Scope} {cl : List (Str × Addr)} {pos spos : Pos} {Q : Flow → Shared → Prop}
    (hsw : swapsWith (.ListComp elt [⟨.Name x px, iter, ifs, 0⟩] scope pos) (some (.Name y py)) spos.line env = pure true)
    (hclos : closureFor scope env = pure cl) (hkind : scope.kind = .function) (hnames : ∀ y ∈ scope.names, y.2 = .local → scope.names.lookup y.1 = some .local) (hs : ∀ x, foldedSetIterable iter env x = pure x)
    (h : wpAny (model prog w) A (eval iter env) (fun xv s₁ => wpAny (model prog w) A (pyIter xv) (fun it s₂ => wpAny (model prog w) A (newList []) (fun acc s₃ =>
      wpAny (model prog w) A (newFunctionEnv scope env.globals cl [] env.qual none .none (some env)) (fun cenv s₄ =>
        codeAny (model prog w) A (.compStart (.ListComp elt [⟨.Name x px, iter, ifs, 0⟩] scope pos) 0 it acc { cenv with scope := relabel scope env }) (compPost (model prog w) A E (some (assign (.Name y py) env)) (fun _ s' => Q .next s') acc cenv.locals) s₄) E s₃) E s₂) E s₁) E s) :
    wpAny (model prog w) A (exec (.Assign [.Name y py] (.ListComp elt [⟨.Name x px, iter, ifs, 0⟩] scope pos) spos) env) Q E s := by
  rw [exec_Assign_Name_used _ _ _ _ hsw]
  refine wpAny_bind (wpAny_standAt (wpAny_bind ?_))
  show wpAny _ A (do let _ ← comprehension (.ListComp elt [⟨.Name x px, iter, ifs, 0⟩] scope pos) scope env _ (newList []) false (eval iter env) (some (assign (.Name y py) env))) _ _ s
  exact wpAny_bind (wpAny_mono (wpAny_comprehension_free (use := some (assign (.Name y py) env)) (Q := fun _ s' => Q .next s') rfl hs hclos hkind hnames h) (fun _ s' hq => wpAny_pure (wpAny_pure hq)) fun _ _ e => e)
theorem comp_listA {elt iter : Expr} {x : Str} {px : Pos} {ifs : List Expr} {scope : Scope} {cl : List (Str × Addr)} {pos : Pos} {ax : Addr} {its : List Value} {news : List (Addr × Obj)} {y : Str} {py : Pos} {Q : Shared → Prop}
    (J : Nat → List Value → List (Addr × Obj) → Prop) (hn : its.length ≤ 1000) (hh : A.handled = none)
    (hl : ∀ i ys h' nw, Fr h₀ L h' m → News h₀ L h' nw → J i ys nw → h'.IsList ax its.toArray) (hJl : ∀ i ys nw, J i ys nw → ys.length ≤ i)
    (hy : env.kindOf y = some .local) (hp : (env.scope.kind == .class || (env.scope.kind == .module && env.locals != env.globals)) = false) (hL : env.locals = L)
    (hcell : ∀ y ∈ scope.names, y.2 ≠ .cell) (hkind : scope.kind = .function) (hx : scope.names.lookup x = some .local)
    (F : Fr h₀ L s.heap m) (N : News h₀ L s.heap news) (h0 : J 0 [] news)
    (step : ∀ i v ys news₁ h tk C oC D k I oI m₂, its[i]? = some v → J i ys news₁ → NsObj oC m₂ → m₂ x = some v → Fr h₀ L h m → News h₀ L h ((I, oI) :: (C, oC) :: (D, listOf (List.toArray ys) k) :: news₁) →
      (∀ p ∈ news₁, p.1 ≠ I ∧ p.1 ≠ C ∧ p.1 ≠ D) → I ≠ C → I ≠ D → C ≠ D →
      wpAny (model prog w) A (forIn ifs true fun c r => if r = true then do let ok ← isTrue c (compEnvC scope cl C env) (eval c (compEnvC scope cl C env)); pure (ForInStep.yield ok) else pure (ForInStep.yield r))
        (fun ok s₃ => if ok = true then wpAny (model prog w) A (eval elt (compEnvC scope cl C env)) (fun y s₄ => CEnd h₀ L m s I oI C oC D (listOf (List.toArray ys) k) (J (i + 1) (ys ++ [y])) s₄) (fun _ _ => False) s₃
          else CEnd h₀ L m s I oI C oC D (listOf (List.toArray ys) k) (J (i + 1) ys) s₃) (fun _ _ => False) { s with heap := h, toks := tk })
    (done : ∀ D k h tk ys news₁, J its.length ys news₁ → Fr h₀ L h (fun z => if z = y then some (.ref D) else m z) → News h₀ L h ((D, listOf (List.toArray ys) k) :: news₁) → (∀ p ∈ news₁, p.1 ≠ D) → Q { s with heap := h, toks := tk }) :
    wpAny (model prog w) A (pyIter (.ref ax)) (fun it s₂ => wpAny (model prog w) A (newList []) (fun acc s₃ => wpAny (model prog w) A (newFunctionEnv scope env.globals cl [] env.qual none .none (some env)) (fun cenv s₄ =>
      codeAny (model prog w) A (.compStart (.ListComp elt [⟨.Name x px, iter, ifs, 0⟩] scope pos) 0 it acc { cenv with scope := relabel scope env }) (compPost (model prog w) A E (some (assign (.Name y py) env)) (fun _ s' => Q s') acc cenv.locals) s₄) E s₃) E s₂) E s := by
  have hls := hl 0 [] _ _ F N h0
  obtain ⟨ol, hol, _⟩ := id hls
  have hlt : ax < s.heap.objs.size := Heap.lt_size hol
  refine wpAny_pyIter_list hls ?_
  have W := Walks.list (prog := prog) (w := w) hh s.heap.objs.size ax (Nat.ne_of_lt hlt) its.toArray
  have hsz : its.toArray.size = its.length := by simp
  rw [hsz] at W
  have up : ∀ b o, s.heap.get? b = some o → (s.heap.push { cls := .type "list_iterator", data := .fields #[.ref ax, .int 0 0] }).get? b = some o := fun b o e => Heap.get?_push_of_some _ e
  refine comp_blockU (RR := fun acc C => compPost (model prog w) A E (some (assign (.Name y py) env)) (fun _ s' => Q s') acc C) (s₂ := { s with heap := s.heap.push { cls := .type "list_iterator", data := .fields #[.ref ax, .int 0 0] } }) W J hn (fun i h st => let ⟨o, ho, _⟩ := st.1; ⟨o, ho⟩) (fun i ys h h' o nw st e e' F' N' hj => ⟨?_, hl i ys h' nw F' N' hj⟩) hJl hcell hkind hx
    ⟨⟨_, Heap.get?_push_size _ rfl, rfl, rfl⟩, hls.at fun o e => up _ o e⟩ (fun b hb => ?_) (F.keptAll up) (N.grown up) (Nat.ne_of_lt F.ns.lt) (next_is_new F) (fun q hq => Nat.ne_of_lt (Heap.lt_size (N q hq).1)) h0 ?_ (fun D C k h tk ys news₁ m' hJ F' N' off hC hCL hCD hC0 f =>
    post_name (Q := fun _ => Q) hy hp hL F' N' off hC hCL hCD hC0 fun h' F'' N'' => done D k h' _ ys news₁ hJ F'' N'' fun q hq => (off q hq).1)
  · obtain ⟨o', q, r⟩ := st.1
    rw [e] at q; cases q
    exact ⟨o, e', r⟩
  · show b < (s.heap.push _).objs.size
    rw [Heap.size_push]
    rcases List.mem_cons.mp hb with rfl | hb
    · exact Nat.lt_succ_self _
    · rw [List.mem_singleton.mp hb]; exact Nat.lt_succ_of_lt hlt
  · intro i v ys news₁ h tk C oC D k oI m₂ hi hP hJ hoC hm₂ F₁ N₁ off h1 h2 h3
    exact step i v ys news₁ h tk C oC D k _ oI m₂ (by simpa using hP) hJ hoC hm₂ F₁ N₁ off h1 h2 h3
end
end Mine
end
section
open PySem PySem.W PySem.Calls PyProof.Rows
open PyProof.Rows.LCg (NsObj ns_obj fr_but news_but)
set_option maxRecDepth 100000
set_option maxHeartbeats 4000000
namespace Mine
noncomputable def PairAt (h : Heap) (v : Value) (e : List Int × List Nat) : Prop := ∃ a kr t, v = .ref a ∧ h.IsTuple a #[.ref kr, .str (S e.2) t] ∧ IntsAt h kr e.1
theorem PairAt.keeps {h h' : Heap} {v : Value} {e : List Int × List Nat} (H : PairAt h v e) (hk : ∀ b o, h.get? b = some o → h'.get? b = some o) : PairAt h' v e := by
  obtain ⟨a, kr, t, rfl, ⟨o, ho, hc⟩, hi⟩ := H
  exact ⟨a, kr, t, rfl, ⟨o, hk _ _ ho, hc⟩, hi.keeps hk⟩
theorem paired_mono {α β : Type} {R R' : α → β → Prop} (hr : ∀ a b, R a b → R' a b) {l : List α} {m : List β} (h : Paired R l m) : Paired R' l m := Paired.mono hr h
theorem paired_snoc {α β : Type} {R : α → β → Prop} {a : α} {b : β} (h : R a b) {l : List α} {m : List β} (h' : Paired R l m) : Paired R (l ++ [a]) (m ++ [b]) := Paired.snoc h' h
theorem IntsAt.uniq {h : Heap} {l : Addr} {xs ys : List Int} (hl : IntsAt h l xs) (hb : IntsAt h l ys) : xs = ys := by
  obtain ⟨vs, ⟨o, ho, hc, n, hd⟩, hi⟩ := hl
  obtain ⟨us, ⟨o', ho', hc', n', hd'⟩, hj⟩ := hb
  rw [ho] at ho'
  injection ho' with ho'
  subst ho'
  rw [hd] at hd'
  injection hd' with hd'
  subst hd'
  clear hc ho hd hc'
  generalize vs.toList = z at hi hj
  induction hi generalizing ys with
  | nil => cases hj; rfl
  | cons n t r ih => cases hj with | cons _ _ r' => rw [ih r']
open Classical in
theorem any_keys {h : Heap} {x : List Int} {ys : List Value} {xss : List (List Int)} (hp : Paired (KeyIs h) ys xss) : (ys.any fun y => decide (KeyIs h y x)) = xss.contains x := by
  induction hp with
  | nil => rfl
  | cons r _ ih =>
    rw [List.any_cons, ih, List.contains_cons]
    congr 1
    rw [Bool.eq_iff_iff, decide_eq_true_eq, beq_iff_eq]
    obtain ⟨a, rfl, ha⟩ := r
    constructor
    · rintro ⟨b, e, hb⟩
      injection e with e
      subst e
      exact hb.uniq ha
    · rintro rfl
      exact ⟨a, rfl, ha⟩
open Classical in
theorem notIn_keys {prog : Program} {w : World} {A : Around} {E Q : Value → Shared → Prop} {s : Shared} {l b : Addr} {ys : List Value} {xss : List (List Int)} {x : List Int}
    (hl : s.heap.IsList l ys.toArray) (hp : Paired (KeyIs s.heap) ys xss) (hx : IntsAt s.heap b x) (hu : A.units + 20 < cLine) (h : Q (.bool (!xss.contains x)) s) :
    wpAny (model prog w) A (compareOp .NotIn (.ref b) (.ref l)) Q E s := by
  refine PySem.SeqAt.notIn_listAt (fun y => decide (KeyIs s.heap y x)) hl (fun y hy => ?_) ?_
  · obtain ⟨i, hi, e⟩ := List.mem_iff_getElem.mp (by simpa using hy)
    obtain ⟨z, _, a, rfl, ha⟩ := paired_get hp i y (by rw [List.getElem?_eq_getElem hi, e])
    have := eqAt_ints (A := A.in1) (s := s) ha hx (show A.units + 1 < cLine by omega)
    have e : decide (z = x) = decide (KeyIs s.heap (.ref a) x) := by
      rw [decide_eq_decide]
      constructor
      · rintro rfl; exact ⟨a, rfl, ha⟩
      · rintro ⟨c, e, hc⟩
        injection e with e
        subst e
        exact ha.uniq hc
    rw [← e]; exact this
  · rw [List.any_toArray, any_keys hp]; exact h
noncomputable def beyondB (es1 es2 : List (List Int × List Nat)) (k : Nat) : Bool :=
  !((es2.map (·.1)).contains (es1.getD k ([], [])).1) && ((([] :: es2.map (·.1)).all fun y => decide (y < (es1.getD k ([], [])).1)) || decide (k = 0) || !decide ((es1.getD (k - 1) ([], [])).1 = (es1.getD k ([], [])).1))
noncomputable def beyondF (es1 es2 : List (List Int × List Nat)) : List (List Nat) := ((List.range es1.length).filter (beyondB es1 es2)).map fun k => (es1.getD k ([], [])).2
noncomputable def BeyJ (es1 es2 : List (List Int × List Nat)) (l1 D kt lb le : Addr) (k : Nat) (ys : List Value) (i : Nat) (m : Str → Option Value) (news : List (Addr × Obj)) : Prop :=
  Has m [(Str.ofString "mine", .ref l1), (Str.ofString "keys", .ref D), (Str.ofString "top", .ref kt), (Str.ofString "beyond", .ref lb)] ∧
    ∃ vs n, news = [(lb, listOf (List.toArray vs) n), (le, listOf #[] 0), (D, listOf ys.toArray k)] ∧ PyProof.Rows.StrsAre vs (((List.range i).filter (beyondB es1 es2)).map fun k => S (es1.getD k ([], [])).2)
theorem bey_app {prog : Program} {w : World} {A : Around} {E : Value → Shared → Prop} {s : Shared} {h₀ : Heap} {L I lb le D : Addr} {oI oe oD : Obj} {m : Str → Option Value} {vs : List Value} {n : Nat} {x : Value} {Q : Value → Shared → Prop}
    (F : Fr h₀ L s.heap m) (N : News h₀ L s.heap [(I, oI), (lb, listOf (List.toArray vs) n), (le, oe), (D, oD)]) (hI : I ≠ lb) (h1 : le ≠ lb) (h2 : D ≠ lb) (hsz : vs.length ≤ 1000)
    (h : ∀ h', Fr h₀ L h' m → News h₀ L h' [(I, oI), (lb, listOf (List.toArray (vs ++ [x])) (n + 1)), (le, oe), (D, oD)] → Q .none { s with heap := h' }) : wpAny (model prog w) A (call (.builtin "list.append") [.ref lb, x]) Q E s := by
  refine append_my _ F N (.tail _ (.head _)) (fun q hq => ?_) (by rw [sizeLine_eq, List.size_toArray]; omega) h
  rcases List.mem_cons.mp hq with rfl | hq
  · exact .inr ⟨.head _, hI⟩
  rcases List.mem_cons.mp hq with rfl | hq
  · exact .inl (by simp)
  rcases List.mem_cons.mp hq with rfl | hq
  · exact .inr ⟨.tail _ (.tail _ (.head _)), h1⟩
  · rw [List.mem_singleton.mp hq]; exact .inr ⟨.tail _ (.tail _ (.tail _ (.head _))), h2⟩
theorem bey_end {es1 es2 : List (List Int × List Nat)} {h₀ h' : Heap} {L I l1 D kt lb le : Addr} {oI : Obj} {k n i tk : Nat} {ys vs : List Value} {m' : Str → Option Value} {s : Shared} {Q : Flow → Shared → Prop}
    (F : Fr h₀ L h' m') (N : News h₀ L h' [(I, oI), (lb, listOf (List.toArray vs) n), (le, listOf #[] 0), (D, listOf ys.toArray k)]) (hI : lb ≠ I) (h1 : le ≠ I) (h2 : D ≠ I)
    (hm : Has m' [(Str.ofString "mine", .ref l1), (Str.ofString "keys", .ref D), (Str.ofString "top", .ref kt), (Str.ofString "beyond", .ref lb)])
    (hvs : PyProof.Rows.StrsAre vs (((List.range (i + 1)).filter (beyondB es1 es2)).map fun k => S (es1.getD k ([], [])).2)) :
    TEnd h₀ L I oI (BeyJ es1 es2 l1 D kt lb le k ys (i + 1)) s Q .next { s with heap := h', toks := tk } := by
  refine TEnd.next F N (fun q hq => ?_) ⟨hm, vs, n, rfl, hvs⟩
  rcases List.mem_cons.mp hq with rfl | hq
  · exact hI
  rcases List.mem_cons.mp hq with rfl | hq
  · exact h1
  · rw [List.mem_singleton.mp hq]; exact h2
theorem bey_yes {es1 es2 : List (List Int × List Nat)} {i : Nat} {vs : List Value} {e : List Int × List Nat} {t : Tok} (he : es1[i]? = some e) (hb : beyondB es1 es2 i = true)
    (hvs : PyProof.Rows.StrsAre vs (((List.range i).filter (beyondB es1 es2)).map fun k => S (es1.getD k ([], [])).2)) :
    PyProof.Rows.StrsAre (vs ++ [.str (S e.2) t]) (((List.range (i + 1)).filter (beyondB es1 es2)).map fun k => S (es1.getD k ([], [])).2) := by
  rw [List.range_succ, List.filter_append, List.map_append]
  have h1 : es1.getD i ([], []) = e := by rw [List.getD_eq_getElem?_getD, he]; rfl
  have h2 : ([i].filter (beyondB es1 es2)).map (fun k => S (es1.getD k ([], [])).2) = [S e.2] := by simp [hb, he]
  rw [h2]
  exact strs_snoc hvs
theorem bey_no {es1 es2 : List (List Int × List Nat)} {i : Nat} {vs : List Value} (hb : beyondB es1 es2 i = false)
    (hvs : PyProof.Rows.StrsAre vs (((List.range i).filter (beyondB es1 es2)).map fun k => S (es1.getD k ([], [])).2)) :
    PyProof.Rows.StrsAre vs (((List.range (i + 1)).filter (beyondB es1 es2)).map fun k => S (es1.getD k ([], [])).2) := by
  rw [List.range_succ, List.filter_append, List.map_append]
  have h2 : ([i].filter (beyondB es1 es2)).map (fun k => S (es1.getD k ([], [])).2) = [] := by simp [hb]
  rw [h2, List.append_nil]
  exact hvs
/-- above the top = above all -/
theorem top_all {kss : List (List Int)} {i0 : Nat} {x xt : List Int} (hi0 : i0 < kss.length) (hxt : kss.getD i0 [] = xt) (hmax : ∀ j, j < kss.length → ¬ xt < kss.getD j []) :
    decide (xt < x) = kss.all fun y => decide (y < x) := by
  rw [Bool.eq_iff_iff]
  simp only [List.all_eq_true, decide_eq_true_eq]
  constructor
  · intro h y hy
    obtain ⟨j, hj, rfl⟩ := List.mem_iff_getElem.mp hy
    have h1 := hmax j hj
    rw [List.getD_eq_getElem?_getD, List.getElem?_eq_getElem hj] at h1
    exact List.lt_of_le_of_lt (List.not_lt.mp h1) h
  · intro h
    refine h xt ?_
    rw [← hxt, List.getD_eq_getElem?_getD, List.getElem?_eq_getElem hi0]
    exact List.getElem_mem hi0
theorem beyondB_is {es1 es2 : List (List Int × List Nat)} {i : Nat} {e e' : List Int × List Nat} (he : es1[i]? = some e) (he' : es1[i - 1]? = some e') :
    beyondB es1 es2 i = (!((es2.map (·.1)).contains e.1) && ((([] :: es2.map (·.1)).all fun y => decide (y < e.1)) || decide (i = 0) || !decide (e'.1 = e.1))) := by
  unfold beyondB
  rw [show es1.getD i ([], []) = e from by rw [List.getD_eq_getElem?_getD, he]; rfl, show es1.getD (i - 1) ([], []) = e' from by rw [List.getD_eq_getElem?_getD, he']; rfl]
noncomputable def BoolP (h₀ : Heap) (L : Addr) (s : Shared) (m : Str → Option Value) (led : List (Addr × Obj)) (b : Bool) (r : Bool) (s' : Shared) : Prop :=
  ∃ h' tk', r = b ∧ s' = { s with heap := h', toks := tk' } ∧ Fr h₀ L h' m ∧ News h₀ L h' led
theorem BoolP.mk {h₀ h' : Heap} {L : Addr} {s : Shared} {m : Str → Option Value} {led : List (Addr × Obj)} {tk' : Nat} {b r : Bool} (F : Fr h₀ L h' m) (N : News h₀ L h' led) (hr : r = b) : BoolP h₀ L s m led b r { s with heap := h', toks := tk' } := ⟨h', tk', hr, rfl, F, N⟩
theorem join_bool {M : Model} {A : Around} {E : Value → Shared → Prop} {s : Shared} {t : Sem Bool} {Q : Bool → Shared → Prop} {h₀ : Heap} {L : Addr} {m : Str → Option Value} {led : List (Addr × Obj)} (b : Bool) (_ : Fr h₀ L s.heap m) (_ : News h₀ L s.heap led)
    (h1 : wpAny M A t (BoolP h₀ L s m led b) (fun _ _ => False) s) (h2 : ∀ h' tk', Fr h₀ L h' m → News h₀ L h' led → Q b { s with heap := h', toks := tk' }) : wpAny M A t Q E s :=
  wpAny_mono h1 (fun v s' h => by obtain ⟨h', tk', rfl, rfl, F', N'⟩ := h; exact h2 h' tk' F' N') fun _ _ h => h.elim
theorem Amb.room23 {A : Around} (h : Amb A 1) : A.units + 3 + 20 < cLine := by have := h.units; omega
theorem Amb.room3 {A : Around} (h : Amb A 1) : A.units + 3 < cLine := by have := h.units; omega
theorem lt62 {n : Nat} (h : n ≤ 8) : n < 2 ^ 62 := by omega
theorem lt63 {i n : Nat} (h : i < n) (hn : n ≤ 8) : (i : Int) < 2 ^ 63 := by omega
theorem c_beyond {w : World} {p : Program} {loose : List Str} {mg mb : Str → Option Value} {A : Around} {s : Shared} {Q E : Value → Shared → Prop} {l1 l2 : Addr} {vs1 vs2 : List Value} {es1 es2 : List (List Int × List Nat)}
    (hA : Amb A 1) (G : Gnd w p loose mg mb s.heap) (hl1 : s.heap.IsList l1 vs1.toArray) (hl2 : s.heap.IsList l2 vs2.toArray) (hp1 : Paired (PairAt s.heap) vs1 es1) (hp2 : Paired (PairAt s.heap) vs2 es2)
    (hz1 : es1.length ≤ 8) (hz2 : es2.length ≤ 8)
    (ret : ∀ a vs n h' tk', s.heap.StaysIn h' → h'.get? a = some (listOf (List.toArray vs) n) → s.heap.get? a = none → PyProof.Rows.StrsAre vs ((beyondF es1 es2).map S) → Q (.ref a) { s with heap := h', toks := tk' }) :
    wpAny (model PySem.Challenge.rw_oh0027_01.row.prog w) A (call (.ref 120) [.ref l1, .ref l2]) Q E s := by
  k_with_none
  k_with "eval ListComp" => (refine hold_in ?_)
  k_with "exec Assign cons ListComp" => (refine hold_in ?_)
  k_with "binaryOp Add ref ref" => (refine hold_in ?_)
  k_with "call builtin:max" => (refine hold_in ?_)
  k_with "exec For Name Call cons nil" => (refine hold_in ?_)
  k_with "call builtin:len" => (refine hold_in ?_)
  k_with "call builtin:list.append" => (refine hold_in ?_)
  k_with "compareOp NotIn ref ref" => (refine hold_in ?_)
  k_with "compareOp NotEq ref ref" => (refine hold_in ?_)
  k_with "compareOp Gt ref ref" => (refine hold_in ?_)
  k_with "subscriptTail" => (((with_reducible show wpAny _ _ (subscriptTail _ _ (Value.ref _) (Value.int _ _)) _ _ _); refine item_listL (Fr.lst (by assumption) (by assumption)) (by first | assumption | omega) (by first | assumption | omega) (by assumption) ?_))
  k_with "isTrue BoolOp" => (((fail_if_success (with_reducible show wpAny _ _ _ (BoolP _ _ _ _ _ _) _ _)); refine hold_in ?_))
  k_with "subscriptTail Name Name ref int" => (((with_reducible show wpAny _ _ (subscriptTail _ _ (Value.ref _) (Value.int _ _)) _ _ _); refine item_listL (Fr.lst (by assumption) (by assumption)) (by first | assumption | omega) (by first | assumption | omega) (by assumption) ?_))
  k_with "subscriptTail Name BinOp ref int" => (((with_reducible show wpAny _ _ (subscriptTail _ _ (Value.ref _) (Value.int _ _)) _ _ _); refine item_listL (Fr.lst (by assumption) (by assumption)) (by first | assumption | omega) (by first | assumption | omega) (by assumption) ?_))
  obtain ⟨X, T⟩ := G
  revert X; k_fill; intro X
  refine' enter_pure (binds := [(Str.ofString "mine", .ref l1), (Str.ofString "theirs", .ref l2)]) X T.nolimit ?k1 ?k2 ?k3 ?k4 ?k5 ?c0 ?c1 ?c2 ?c3 ?_
  case k1 => exact Nat.lt_of_le_of_lt (Nat.le_add_right _ _) hA.depth
  case k2 => k_is
  case k3 => k_is
  case k4 => exact BindsTo.of_eq rfl
  case k5 => exact locs rfl
  case c0 => decide
  case c1 => exact rfl
  case c2 => exact rfl
  case c3 => exact rfl
  intro h₁ L tk hL htk F N
  show wpAny _ _ _ _ _ _
  k_fold
  (repeat' (first | (k_unfold; (try dsimp only)) | (walk1; (all_goals try dsimp only)) | (dsimp only; walk1)))
  unfold Hold
  refine comp_enterA (by with_unfolding_all rfl) rfl rfl (by decide) (by intro _; rfl) ?_
  show wpAny _ _ _ _ _ _
  (repeat' (first | (k_unfold; (try dsimp only)) | (walk1; (all_goals try dsimp only)) | (dsimp only; walk1)))
  refine comp_listA (its := vs2) (fun i ys nw => nw = [] ∧ Paired (KeyIs s.heap) ys ((es2.take i).map (·.1))) (by have := paired_len hp2; omega) (by exact hA.handled) (fun i ys h' nw F' N' hJ => hl2.at fun o e => F'.keep _ o e) (fun i ys nw h => ?_) rfl rfl rfl (by decide) rfl rfl F N ⟨rfl, .nil⟩ ?_ ?_
  · have := paired_len h.2
    rw [this, List.length_map, List.length_take]; omega
  · rintro i v ys nw h tk C oC D k I oI m₂ hv ⟨rfl, hys⟩ hoC hm₂ F₁ N₁ off hIC hID hCD
    obtain ⟨e, he, a, kr, t, rfl, hT, hK⟩ := paired_get hp2 i v hv
    refine wpAny_tests_nil ?_
    simp only [if_true]
    show wpAny _ _ _ _ _ _
    (repeat' (first | (k_unfold; (try dsimp only)) | (walk1; (all_goals try dsimp only)) | (dsimp only; walk1)))
    refine CEnd.mk F₁ N₁ off ⟨rfl, ?_⟩
    rw [List.take_add_one, he, List.map_append]
    exact paired_snoc ⟨kr, rfl, hK⟩ hys
  · rintro D k h tk ys nw ⟨rfl, hys⟩ F₁ N₁ off
    rw [paired_len hp2, List.take_length] at hys
    clear F N
    replace F₁ : Fr s.heap L h _ := F₁
    replace N₁ : News s.heap L h _ := N₁
    show wpAny _ _ _ _ _ _
    (repeat' (first | (k_unfold; (try dsimp only)) | (walk1; (all_goals try dsimp only)) | (dsimp only; walk1)))
    unfold Hold
    rename_i le hx lt1 ll hx2 F₂ N₂ lt2
    have hyl : ys.length ≤ 8 := by have := paired_len hys; rw [List.length_map] at this; omega
    refine add_lists (vs := [.ref le]) F₂ N₂ (News.isList N₂ (.head _)) (News.isList N₂ (.tail _ (.tail _ (.head _)))) (fun h₃ F₃ N₃ => ?_) (by rw [sizeLine_eq]; simp only [List.length_cons, List.length_nil]; omega)
    (repeat' (first | (k_unfold; (try dsimp only)) | (walk1; (all_goals try dsimp only)) | (dsimp only; walk1)))
    unfold Hold
    refine my_max (xss := [] :: es2.map (·.1)) (l := hx2.objs.size) (vs := .ref le :: ys) (by exact hA.handled) (by exact hA.room23) (News.isList N₃ (.head _))
      (.cons ⟨le, rfl, #[], News.isList N₃ (.tail _ (.tail _ (.head _))), .nil⟩ (paired_mono (fun a b ⟨x, e, hi⟩ => ⟨x, e, hi.keeps F₃.keep⟩) hys)) (Nat.succ_pos _) ?_
    intro i0 kt h₄ tk₄ hv0 hi0 hkt hmax hk₄
    generalize hxt : ([] :: es2.map (·.1)).getD i0 [] = xt at hkt hmax
    have htop : ∀ h', (∀ b o, s.heap.get? b = some o → h'.get? b = some o) → h'.get? le = some (listOf #[] 0) → IntsAt h' kt xt := by
      intro h' hk hle
      cases i0 with
      | zero =>
        injection hv0 with hv0; injection hv0 with hv0
        subst hv0
        rw [← hxt]
        exact ⟨#[], ⟨_, hle, rfl, _, rfl⟩, .nil⟩
      | succ j =>
        obtain ⟨y, e1, a, e2, e3⟩ := paired_get hys j (.ref kt) hv0
        injection e2 with e2
        subst e2
        have : xt = y := by rw [← hxt, List.getD_cons_succ, List.getD_eq_getElem?_getD, e1]; rfl
        rw [this]
        exact e3.keeps hk
    replace F₃ := F₃.kept hk₄
    replace N₃ := N₃.grown hk₄
    clear hkt hv0
    replace N₃ : News s.heap L h₄ [(le, listOf #[] 0), (D, listOf ys.toArray k)] := fun q hq => by
      rcases List.mem_cons.mp hq with rfl | hq
      · exact N₃ _ (.tail _ (.tail _ (.head _)))
      · rw [List.mem_singleton.mp hq]; exact N₃ _ (.tail _ (.tail _ (.tail _ (.head _))))
    (repeat' (first | (k_unfold; (try dsimp only)) | (walk1; (all_goals try dsimp only)) | (dsimp only; walk1)))
    unfold Hold
    rename_i _ lb _ lt₅ _ F₆ N₆
    refine wpAny_For ?_ (by intro _; rfl)
    show wpAny _ _ _ _ _ _
    (repeat' (first | (k_unfold; (try dsimp only)) | (walk1; (all_goals try dsimp only)) | (dsimp only; walk1)))
    unfold Hold
    have hv1 := paired_len hp1
    refine len_list (F₆.lst hl1) (by rw [List.size_toArray]; omega) ?_
    rw [List.size_toArray, hv1]
    (repeat' (first | (k_unfold; (try dsimp only)) | (walk1; (all_goals try dsimp only)) | (dsimp only; walk1)))
    rename_i hr F₇ N₇ _
    refine loop_range (n := es1.length) (BeyJ es1 es2 l1 D kt lb le k ys) hA.handled hr rfl (by omega) F₇ (news := [(lb, listOf (List.toArray []) 0), (le, listOf #[] 0), (D, listOf ys.toArray k)]) ?_ ⟨Has.cons rfl (Has.cons rfl (Has.cons rfl (Has.cons rfl Has.nil))), [], 0, rfl, .nil⟩ ?_ ?_
    · exact N₇
    · intro i u m₂ nw h₂ tk₂ I oI hi hJ F₈ N₈ hI
      refine turn_abs fun G hG => ?_
      obtain ⟨hm₂, vs, n, rfl, hvs⟩ := hJ
      replace F₈ := fr_has F₈ hm₂
      simp only [withs] at F₈
      clear F₇ N₇ hr
      obtain ⟨v, hv⟩ : ∃ v, vs1[i]? = some v := ⟨vs1[i]'(by rw [hv1]; exact hi), List.getElem?_eq_getElem _⟩
      obtain ⟨e, he, a, kr, t, rfl, hT, hK⟩ := paired_get hp1 i v hv
      have hki : (i : Int).toNat = i := Int.toNat_natCast i
      have hx1 : vs1[(i : Int).toNat]? = some (.ref a) := by rw [hki]; exact hv
      have hx2 : (0 : Int) ≤ (i : Int) := Int.natCast_nonneg _
      have hx3 : (i : Int) < 2 ^ 63 := lt63 hi hz1
      obtain ⟨v', hv'⟩ : ∃ v, vs1[i - 1]? = some v := ⟨vs1[i - 1]'(by rw [hv1]; exact Nat.lt_of_le_of_lt (Nat.sub_le _ _) hi), List.getElem?_eq_getElem _⟩
      obtain ⟨e', he', a', kr', t', rfl, hT', hK'⟩ := paired_get hp1 (i - 1) v' hv'
      have hx4 : vs1[((i : Int) - 1).toNat]? = some (.ref a') := by rw [show ((i : Int) - 1).toNat = i - 1 from by omega]; exact hv'
      show wpAny _ _ _ _ _ _
      k_fold
      (repeat' (first | (k_unfold; (try dsimp only)) | (walk1; (all_goals try dsimp only)) | (dsimp only; walk1)))
      unfold Hold
      rename_i F₉ N₉
      have hkp : Paired (KeyIs _) ys (es2.map (·.1)) := paired_mono (fun a b ⟨x, e, hi⟩ => ⟨x, e, hi.keeps F₉.keep⟩) hys
      refine notIn_keys (News.isList N₉ (.tail _ (.tail _ (.tail _ (.head _))))) hkp (hK.keeps F₉.keep) (by exact hA.room23) ?_
      have hB := beyondB_is (es2 := es2) he he'
      rw [← top_all hi0 hxt hmax] at hB
      have hI1 : I ≠ lb := Ne.symm (hI _ (.head _))
      have hI2 : le ≠ I := hI _ (.tail _ (.head _))
      have hI3 : D ≠ I := hI _ (.tail _ (.tail _ (.head _)))
      have hd1 : le ≠ lb := Nat.ne_of_lt lt₅.1
      have hd2 : D ≠ lb := Nat.ne_of_lt lt₅.2
      have hvl : vs.length ≤ 1000 := by
        rw [strs_len hvs, List.length_map]
        exact Nat.le_trans (List.length_filter_le _ _) (by rw [List.length_range]; exact Nat.le_trans (Nat.le_of_lt hi) (Nat.le_trans hz1 (by decide)))
      generalize hcn : (!(es2.map (·.1)).contains e.1) = cn
      (repeat' (first | (k_unfold; (try dsimp only)) | (walk1; (all_goals try dsimp only)) | (dsimp only; walk1)))
      · unfold Hold
        have c1 : cn = true := by assumption
        refine join_bool (decide (xt < e.1) || decide (i = 0) || !decide (e'.1 = e.1)) F₉ N₉ ?_ ?_
        · (repeat' (first | (k_unfold; (try dsimp only)) | (walk1; (all_goals try dsimp only)) | (dsimp only; walk1)))
          unfold Hold
          refine cmp_ofGt (rc_gt (hK.keeps F₉.keep) (htop _ F₉.keep (N₉ _ (.tail _ (.tail _ (.head _)))).1) (by exact hA.room3) ?_)
          generalize hct : decide (xt < e.1) = ct
          (repeat' (first | (k_unfold; (try dsimp only)) | (walk1; (all_goals try dsimp only)) | (dsimp only; walk1)))
          · have c2 : ct = true := by assumption
            exact BoolP.mk F₉ N₉ (by rw [c2]; rfl)
          · have c2 : ct = false := by assumption
            exact BoolP.mk F₉ N₉ (by rw [c2, show i = 0 from by omega]; rfl)
          · unfold Hold
            have c2 : ct = false := by assumption
            refine rcNe_ints (hK'.keeps F₉.keep) (hK.keeps F₉.keep) (by exact hA.room3) _ _ _ _ ?_
            generalize hcd : (!decide (e'.1 = e.1)) = cd
            (repeat' (first | (k_unfold; (try dsimp only)) | (walk1; (all_goals try dsimp only)) | (dsimp only; walk1)))
            · have c4 : cd = true := by assumption
              exact BoolP.mk F₉ N₉ (by rw [c2, c4, Bool.or_true])
            · have c4 : cd = false := by assumption
              exact BoolP.mk F₉ N₉ (by rw [c2, c4, decide_eq_false (show ¬ i = 0 from by omega)]; rfl)
        · clear F₉ N₉ hkp
          intro h₉ tk₉ F₉ N₉
          generalize hbb : (decide (xt < e.1) || decide (i = 0) || !decide (e'.1 = e.1)) = bb
          show (if _ then _ else _)
          (repeat' (first | (k_unfold; (try dsimp only)) | (walk1; (all_goals try dsimp only)) | (dsimp only; walk1)))
          · unfold Hold
            have c2 : bb = true := by assumption
            refine bey_app F₉ N₉ hI1 hd1 hd2 hvl fun h' F' N' => ?_
            clear F₉ N₉
            (repeat' (first | (k_unfold; (try dsimp only)) | (walk1; (all_goals try dsimp only)) | (dsimp only; walk1)))
            refine hG _ _ <| bey_end F' N' (Ne.symm hI1) hI2 hI3 (Has.cons rfl (Has.cons rfl (Has.cons rfl (Has.cons rfl Has.nil)))) (bey_yes he (by rw [hB, hcn, hbb, c1, c2]; rfl) hvs)
          · have c2 : bb = false := by assumption
            refine hG _ _ <| bey_end F₉ N₉ (Ne.symm hI1) hI2 hI3 (Has.cons rfl (Has.cons rfl (Has.cons rfl (Has.cons rfl Has.nil)))) (bey_no (by rw [hB, hcn, hbb, c1, c2]; rfl) hvs)
      · have c1 : cn = false := by assumption
        refine hG _ _ <| bey_end F₉ N₉ (Ne.symm hI1) hI2 hI3 (Has.cons rfl (Has.cons rfl (Has.cons rfl (Has.cons rfl Has.nil)))) (bey_no (by rw [hB, hcn, c1]; rfl) hvs)
    · rintro h₈ tk₈ m₈ nw ⟨hm₈, vs, n, rfl, hvs⟩ F₈ N₈
      replace F₈ := fr_has F₈ hm₈
      simp only [withs] at F₈
      clear F₇ N₇ hr
      (repeat' (first | (k_unfold; (try dsimp only)) | (walk1; (all_goals try dsimp only)) | (dsimp only; walk1)))
      refine ret lb vs n _ _ F₈.keep (N₈ _ (.head _)).1 (N₈ _ (.head _)).2.2 ?_
      unfold beyondF
      rw [List.map_map]
      exact hvs
end Mine
end
section
open PySem PySem.W PySem.Calls PyProof.Rows
set_option maxRecDepth 100000
set_option maxHeartbeats 4000000
namespace Mine
structure NewC (h h' : Heap) (e : Addr) (cls : String) : Prop where
  keeps : ∀ b o, h.get? b = some o → h'.get? b = some o
  new : h.get? e = none
  there : ∃ ob vs, h'.get? e = some ob ∧ ob.cls = .type cls ∧ ob.data = .fields vs ∧ vs[1]? = some .none ∧ 2 < vs.size
theorem NewC.of {h h' : Heap} {e : Addr} {cls : String} (x : Heap.NewExc h h' e cls) : NewC h h' e cls :=
  ⟨x.keeps, x.new, by obtain ⟨ob, t, h1, h2, h3⟩ := x.there; exact ⟨ob, _, h1, h2, h3, rfl, by show 2 < 6; decide⟩⟩
theorem plain_unchain : plainId "proto.unchain" = true := by decide +kernel
theorem entry_unchain : entryFor table "proto.unchain" = some Builtin.«proto.unchain» := entryFor_of_fast (by kernel_rfl)
section
variable {α : Type} {prog : Program} {w : World} {A : Around} {E : Value → Shared → Prop} {s : Shared}
theorem raise_ctx {cls msg : String} {Q : α → Shared → Prop} (hp : PlainExc cls) {e1 : Addr} {o1 : Obj} {vs1 : Array Value} (hh : A.handled = some (.ref e1)) (h1 : s.heap.get? e1 = some o1) (hd1 : o1.data = .fields vs1) (hc : vs1[2]? = some .none)
    (h : ∀ h' tk e, NewC s.heap h' e cls → E (.ref e) { s with heap := h', toks := tk }) :
    wpAny (model prog w) A (raiseErrorWords cls msg : Sem α) Q E s := by
  unfold raiseErrorWords
  refine wpAny_bind (wpAny_mkText (wpAny_bind ?_))
  unfold newExc newTuple
  refine wpAny_bind (wpAny_newObj_type ?_)
  refine wpAny_bind (m := firstArgMember _ _) (wpAny_of_eq (a := Value.none) (by simp only [firstArgMember, hp.first]; rfl) ?_)
  rw [hp.own]
  refine wpAny_newObj_type ?_
  unfold raiseNew
  refine wpAny_bind (wpAny_handled ?_)
  rw [hh]
  have hlt := Heap.lt_size h1
  generalize hH : (s.heap.push _).push _ = H
  generalize ha : (s.heap.push _).objs.size = a
  have hne : (Value.ref e1 != Value.ref a) = true := by
    have : e1 ≠ a := by
      rw [← ha, Heap.size_push]
      exact Nat.ne_of_lt (Nat.lt_succ_of_lt hlt)
    simpa using this
  have k1 : ∀ b o, s.heap.get? b = some o → H.get? b = some o := fun b o e => by rw [← hH]; exact Heap.get?_push_of_some _ (Heap.get?_push_of_some _ e)
  have k2 : s.heap.get? a = none := by rw [← ha]; exact Heap.get?_none_of_le (by simp)
  obtain ⟨ob, t, k3, k4, k5⟩ : ∃ ob t, H.get? a = some ob ∧ ob.cls = .type cls ∧ ob.data = .fields #[t, .none, .none, .none, .bool false, .none] := by
    rw [← hH, ← ha]
    exact ⟨_, .ref s.heap.objs.size, Heap.get?_push_size _ rfl, rfl, by simp⟩
  clear hH ha
  show wpAny _ _ (if (Value.ref e1 != Value.ref a) = true then _ else _) _ _ _
  rw [if_pos hne]
  refine wpAny_bind (wpAny_holding (wpAny_runValue (codeAny_builtin entry_unchain ?_)))
  rw [Around.under_plainId plain_unchain _]
  show wpAny _ _ (field (.ref e1) 2 >>= _) _ _ _
  refine wpAny_bind (wpAny_field (k1 _ _ h1) hd1 hc ?_)
  rw [if_pos (by rfl)]
  refine wpAny_pure ?_
  have hsz : 2 < (#[t, .none, .none, .none, .bool false, .none] : Array Value).size := by show 2 < 6; decide
  refine wpAny_bind (m := updateField a 2 (.ref e1)) (show wpAny _ _ (setField (.ref a) 2 (.ref e1)) _ _ _ from wpAny_setField k3 k5 hsz ?_)
  refine wpAny_throw (h _ _ a ⟨fun b o e => ?_, k2, ?_⟩)
  · exact (Heap.get?_update_other _ _ (fun q => by rw [← q, k2] at e; cases e)).trans (k1 b o e)
  · have hd3 := Obj.data_mapFields k5 (·.setIfInBounds 2 (Value.ref e1))
    exact ⟨_, _, Heap.get?_update_self _ k3 (Obj.isFreed_of_fields hd3), (Obj.cls_mapFields _ _).trans k4, hd3, rfl, by show 2 < 6; decide⟩
theorem item_out_ctx {l : Addr} {items : Array Value} {k : Int} {j : Nat} {t : Tok} {Q : Value → Shared → Prop} {e1 : Addr} {o1 : Obj} {vs1 : Array Value} (hh : A.handled = some (.ref e1)) (h1 : s.heap.get? e1 = some o1) (hd1 : o1.data = .fields vs1) (hc : vs1[2]? = some .none)
    (hl : s.heap.IsList l items) (hk : k = (j : Int)) (hout : items.size ≤ j) (hhi : j < 2 ^ 62)
    (hE : ∀ h' tk e, NewC s.heap h' e "IndexError" → E (.ref e) { s with heap := h', toks := tk }) :
    wpAny (model prog w) A (getItem (.ref l) (.int k t)) Q E s := by
  obtain ⟨o, ho, hcl, ne, hd⟩ := id hl
  have hlo : -(2 ^ 63) ≤ k := by omega
  have hhi' : k < 2 ^ 63 := by omega
  have hx : items[j]? = none := Array.getElem?_eq_none hout
  unfold getItem
  try with_reducible refine wpAny_holding ?_
  first | refine wpAny_bind (wpAny_pure ?_) | skip
  refine wpAny_bind (wpAny_sequenceKey hl.typeIs (by decide) ?_)
  refine wpAny_bind (wpAny_callSpecial?_slot (name := Str.ofString "__getitem__") hl.typeIs slot_list_getitem
    (wpAny_call_entry slot_list_getitem hl.typeIs entry_list_getitem ?_ (args_list_getitem _ _)))
  show wpAny _ _ (Builtin.List.listSubscript? (.int k t) >>= _) _ _ s
  refine wpAny_bind (wpAny_listSubscript_int (fitsIndex_both hlo hhi') ?_)
  clear hlo hhi'
  obtain rfl : k = Int.ofNat j := hk
  show wpAny _ _ ((seqItemAt l j >>= fun r => pure (r.map (j, ·))) >>= _) _ _ s
  refine wpAny_bind (wpAny_bind (wpAny_seqItemAt ho hd (wpAny_pure ?_)))
  rw [hx]
  first
    | exact wpAny_bind (wpAny_rule (raise_ctx plainExc_IndexError hh h1 hd1 hc hE))
    | exact wpAny_bind (wpAny_rule (wpAny_bind (raise_ctx plainExc_IndexError hh h1 hd1 hc hE)))
    | exact wpAny_bind (wpAny_bind (wpAny_rule (raise_ctx plainExc_IndexError hh h1 hd1 hc hE)))
    | exact wpAny_rule (raise_ctx plainExc_IndexError hh h1 hd1 hc hE)
theorem item_out_plain {l : Addr} {items : Array Value} {j : Nat} {t : Tok} {Q : Value → Shared → Prop} (hh : A.handled = none)
    (hl : s.heap.IsList l items) {k : Int} (hk : k = (j : Int)) (hout : items.size ≤ j) (hhi : j < 2 ^ 62)
    (hE : ∀ h' tk e, Heap.NewExc s.heap h' e "IndexError" → E (.ref e) { s with heap := h', toks := tk }) :
    wpAny (model prog w) A (getItem (.ref l) (.int k t)) Q E s :=
  wpAny_getItem_list_out hh hl (.inr (by omega)) (by omega) (by omega) hE
end
/-- an exception and its own entry of the trail, as parts of a ledger -/
structure ExcL (e T : Addr) (oe oT : Obj) (fl : Value) (clear : Bool) : Prop where
  cls : oe.cls = .type "IndexError"
  flds : ∃ vs, oe.data = .fields vs ∧ vs[1]? = some (.ref T) ∧ 2 < vs.size ∧ (clear = true → vs[2]? = some .none)
  trail : ∃ ts, oT.data = .fields ts ∧ ts[3]? = some fl
  ne : e ≠ T
section
variable {M : Model} {A₀ : Around} {E : Value → Shared → Prop} {s : Shared} {hb h : Heap} {L L' a e : Addr} {m : Str → Option Value} {name : Str} {scope : Scope} {cd : Value} {Q : Unit → Shared → Prop} {env₀ : Env} {oL : Obj} {new : List (Addr × Obj)}
theorem note_new {clear : Bool} (hfr : A₀.frames = some [env₀]) (Fs : TI.Frs [env₀] [(L, oL)]) (F : Fr hb L' h m) (N : News hb L' h (new ++ [(L, oL)])) (hap : ∀ p ∈ new, p.1 ≠ L)
    (hk : ∀ b o, h.get? b = some o → s.heap.get? b = some o) (hnew : h.get? e = none) {oe : Obj} {vs : Array Value} (he : s.heap.get? e = some oe) (hcls : oe.cls = .type "IndexError") (hd : oe.data = .fields vs) (h1 : vs[1]? = some .none) (hsz : 2 < vs.size)
    (hcl : clear = true → vs[2]? = some .none)
    (k : ∀ h' T oe' oT sl, ExcL e T oe' oT (rawInt L') clear → Fr hb L' h' m → News hb L' h' ((e, oe') :: (T, oT) :: (new ++ [(L, { oL with slots := sl })])) → (∀ p ∈ new, p.1 ≠ e ∧ p.1 ≠ T) → T ≠ L → e ≠ L → TI.Frs [env₀] [(L, { oL with slots := sl })] → Q () { s with heap := h' })
    (hkd : scope.kind = .function := by rfl) :
    wpAny M (A₀.deeper (envOf name scope L' a cd)) (noteFrame (.ref e) (envOf name scope L' a cd)) Q E s := by
  obtain ⟨hff, hNs, frs₁, SU, ht⟩ := TI.frames_at (name := name) (a := a) (cd := cd) (h' := s.heap) (base := TI.gone h (L' :: [(L, oL)].map (·.1))) hkd Fs F N (fun p hp => List.mem_append_right _ hp) (fun b o hb' => ⟨o.slots, hk b o hb'⟩) fun b hm => TI.gone_none hm
  have hLr := N (L, oL) (List.mem_append_right _ (.head _))
  have hfl : (envOf name scope L' a cd :: [env₀]).filterMap (·.frame) = [L', L] := by
    have h1 : (envOf name scope L' a cd).frame = some L' := rfl
    have h2 : env₀.frame = some L := Fs.2.1
    simp [h1, h2]
  obtain ⟨o', es', ep', ho', r'⟩ := id F.ns
  have heL' : e ≠ L' := fun q => by rw [q, ho'] at hnew; cases hnew
  have heL : e ≠ L := fun q => by have := hLr.1; rw [← q, hnew] at this; cases this
  have hbe : hb.get? e = none := by
    cases hq : hb.get? e with
    | none => rfl
    | some o => have := F.keep _ _ hq; rw [hnew] at this; cases this
  have hbL' : hb.get? L' = none := Heap.get?_none_of_le F.above
  unfold noteFrame
  simp only [show (envOf name scope L' a cd).frame = some L' from rfl]
  refine wpAny_bind (wpAny_field he hd h1 ?_)
  rw [if_neg (by decide)]
  refine wpAny_bind (wpAny_frameOf_fun (Around.frames_deeper hfr) hff rfl fun h₁ hs₁ => ?_)
  rw [hfl] at hs₁
  refine wpAny_bind (wpAny_entryPlaceOf fun pl hpl => ?_)
  unfold EntryCells.newEntry newFields
  refine wpAny_bind (wpAny_newObj_type ?_ (hpl.sizeOk5 _ _ _ _ _))
  have out : ∀ b o, b ≠ L' → b ≠ L → s.heap.get? b = some o → h₁.get? b = some o := fun b o h1 h2 e => (hs₁.2.1 b (by simp [h1, h2])).trans e
  have he₁ : h₁.get? e = some oe := out e oe heL' heL he
  generalize hoT : ({ cls := .type "traceback", dict := none, data := .fields _ } : Obj) = oT
  have htr : ∃ ts, oT.data = .fields ts ∧ ts[3]? = some (rawInt L') := by
    rw [← hoT]
    exact ⟨_, rfl, by first | (simp; done) | (rcases hpl with rfl | ⟨_, _, _, _, _, _, _, rfl⟩ <;> simp)⟩
  have hTf : oT.isFreed = false := by rw [← hoT]; rfl
  clear hoT
  have he₂ := Heap.get?_push_of_some (h := h₁) oT he₁
  refine wpAny_setField he₂ hd (show 1 < vs.size by omega) ?_
  have hd₃ := Obj.data_mapFields hd (·.setIfInBounds 1 (Value.ref h₁.objs.size))
  have he₃ := Heap.get?_update_self (Obj.mapFields (·.setIfInBounds 1 (Value.ref h₁.objs.size))) he₂ (Obj.isFreed_of_fields hd₃)
  have hlt1 : ∀ b o, h₁.get? b = some o → b ≠ h₁.objs.size := fun b o e => Nat.ne_of_lt (Heap.lt_size e)
  have hTe : h₁.objs.size ≠ e := Ne.symm (hlt1 e oe he₁)
  have hT₃ := (Heap.get?_update_other (h₁.push oT) (Obj.mapFields (·.setIfInBounds 1 (Value.ref h₁.objs.size))) (Ne.symm hTe)).trans (Heap.get?_push_size h₁ hTf)
  have keep : ∀ b o, b ≠ e → h₁.get? b = some o → ((h₁.push oT).update e (Obj.mapFields (·.setIfInBounds 1 (Value.ref h₁.objs.size)))).get? b = some o := fun b o hbe hb => by
    rw [Heap.get?_update_other _ _ (Ne.symm hbe)]
    exact Heap.get?_push_of_some _ hb
  obtain ⟨sl', hL'₁⟩ := hs₁.2.2 L' o' (hk _ _ ho')
  obtain ⟨sl, hL₁⟩ := hs₁.2.2 L oL (hk _ _ hLr.1)
  have F₃ : Fr hb L' ((h₁.push oT).update e (Obj.mapFields (·.setIfInBounds 1 (Value.ref h₁.objs.size)))) m := by
    refine ⟨⟨_, es', ep', keep _ _ (Ne.symm heL') hL'₁, r'⟩, fun b o eb => keep b o (fun q => by rw [q, hbe] at eb; cases eb) (out b o (fun q => by rw [q, hbL'] at eb; cases eb) (fun q => by rw [q, hLr.2.2] at eb; cases eb) (hk _ _ (F.keep b o eb))), F.above⟩
  refine k _ h₁.objs.size _ oT sl ⟨(Obj.cls_mapFields _ _).trans hcls, ⟨_, hd₃, by simp [show 1 < vs.size by omega], by simpa using hsz, fun hc => by rw [Array.getElem?_setIfInBounds_ne (by decide)]; exact hcl hc⟩, htr, Ne.symm hTe⟩ F₃ (fun q hq => ?_) (fun q hq => ?_) (Ne.symm (hlt1 _ _ hL₁)) heL ⟨Fs.1, Fs.2.1, Fs.2.2.1, trivial⟩
  · rcases List.mem_cons.mp hq with rfl | hq
    · exact ⟨he₃, heL', hbe⟩
    rcases List.mem_cons.mp hq with rfl | hq
    · refine ⟨hT₃, Ne.symm (hlt1 _ _ hL'₁), ?_⟩
      cases hqq : hb.get? h₁.objs.size with
      | none => rfl
      | some o => exact absurd rfl (hlt1 _ _ (out _ o (fun q => by rw [q, hbL'] at hqq; cases hqq) (fun q => by rw [q, hLr.2.2] at hqq; cases hqq) (hk _ _ (F.keep _ o hqq))))
    rcases List.mem_append.mp hq with hq | hq
    · have z := N q (List.mem_append_left _ hq)
      exact ⟨keep _ _ (fun qq => by have := z.1; rw [qq, hnew] at this; cases this) (out _ _ z.2.1 (hap q hq) (hk _ _ z.1)), z.2⟩
    · rw [List.mem_singleton.mp hq]
      exact ⟨keep _ _ (Ne.symm heL) hL₁, hLr.2⟩
  · have z := N q (List.mem_append_left _ hq)
    exact ⟨(fun qq => by have := z.1; rw [qq, hnew] at this; cases this), hlt1 _ _ (out _ _ z.2.1 (hap q hq) (hk _ _ z.1))⟩
end
end Mine
end
section
open PySem PySem.W PySem.Calls PyProof.Rows
set_option maxRecDepth 100000
set_option maxHeartbeats 4000000
namespace Mine
/-- what a raise inside the try meets -/
noncomputable def ETry (prog : Program) (w : World) (A : Around) (env : Env) (hs : List ExceptHandler) (Q : Flow → Shared → Prop) (E : Value → Shared → Prop) (v : Value) (s : Shared) : Prop :=
  wpAny (model prog w) A (noteFrame v env) (fun _ s₂ => wpAny (model prog w) A (setFlight v none) (fun _ s₃ => wpAny (model prog w) A (handleBy v env hs) Q E s₃) E s₂) E s
theorem etry_passes {prog : Program} {w : World} {A A' A'' : Around} {env : Env} {hs : List ExceptHandler} {Q : Flow → Shared → Prop} {E : Value → Shared → Prop} (hAA : SameStack A' A) :
    PassesOwnAt (model prog w) A' A'' env (ETry prog w A env hs Q E) := fun _ _ h => wpAny_look_again hAA h
section
variable {prog : Program} {w : World} {A₀ : Around} {E : Value → Shared → Prop} {s : Shared} {hb : Heap} {L L' a e T : Addr} {m mg mb : Str → Option Value} {name : Str} {scope : Scope} {cd : Value} {env₀ : Env} {oL oe oT : Obj} {new : List (Addr × Obj)}
  {K : Frag} {p : Program} {loose : List Str} {b₀ : Stmt} {suite : List Stmt} {pos np : Pos} {rest : List ExceptHandler} {Q : Flow → Shared → Prop} {fl : Value} {clear : Bool}
theorem held_of (x : ExcL e T oe oT fl clear) (F : Fr hb L' s.heap m) (N : News hb L' s.heap ((e, oe) :: (T, oT) :: new)) (hap : ∀ p ∈ new, p.1 ≠ T) : TT.HeldNA hb L' s.heap m e "IndexError" new fl := by
  obtain ⟨vs, hd, h1, hsz, _⟩ := x.flds
  obtain ⟨ts, hdT, h3⟩ := x.trail
  have ne := N _ (.head _)
  have nT := N _ (.tail _ (.head _))
  refine ⟨⟨F, ⟨oe, vs, T, oT, ts, ne.1, x.cls, hd, h1, nT.1, hdT, h3, nT.2.1, Ne.symm x.ne, nT.2.2⟩, ne.2.2⟩, fun q hq => N q (.tail _ (.tail _ hq)), ?_⟩
  intro ob ws tb e1 e2 e3 p hp
  rw [ne.1] at e1
  obtain rfl := Option.some.inj e1
  rw [hd] at e2
  injection e2 with e2
  subst e2
  rw [h1] at e3
  injection e3 with e3
  injection e3 with e3
  subst e3
  exact hap p hp
theorem catch_held (H : TT.HeldNA hb L' s.heap m e "IndexError" new fl) (Tp : TopRead p loose mg mb hb) (X : K.In hb) (ex : nsIn K mainGlobals (Str.ofString "IndexError") = some none)
    (hE : PassesOwnAt (model prog w) ((A₀.deeper (envOf name scope L' a cd)).mark (some (.ref e))) (A₀.deeper (envOf name scope L' a cd)) (envOf name scope L' a cd) E)
    (k : ∀ h', Fr hb L' h' m → News hb L' h' new → wpAny (model prog w) ((A₀.deeper (envOf name scope L' a cd)).mark (some (.ref e))) (execs (b₀ :: suite) (envOf name scope L' a cd)) Q E { s with heap := h' })
    (hk : scope.kind = .function := by rfl) (hx : (envOf name scope L' a cd).kindOf (Str.ofString "IndexError") = some .globalImplicit := by rfl) :
    wpAny (model prog w) (A₀.deeper (envOf name scope L' a cd)) (setFlight (.ref e) none) (fun _ s₃ =>
      wpAny (model prog w) (A₀.deeper (envOf name scope L' a cd)) (handleBy (.ref e) (envOf name scope L' a cd) (.ExceptHandler (some (.Name (Str.ofString "IndexError") np)) none (b₀ :: suite) pos :: rest)) Q E s₃) E s := by
  refine H.land fun h₁ H₁ => ?_
  refine wpAny_handleBy_builtin (X := "IndexError") (T := "IndexError") (b := true) (isSubtype_of_subB (by decide +kernel)) (isSubtype_of_subB (by decide +kernel)) (isSubtype_of_subB (by decide +kernel))
    (wpAny_passesOwnAt hE (name_B (v := .type "IndexError") H₁.held.fr X Tp ex (by decide +kernel) (by decide +kernel) ⟨rfl, H₁.isA, ?_⟩ hk hx (by decide)))
  rw [if_pos rfl]
  exact H₁.lands fun h' F' N' => wpAny_passesOwnAt hE (k h' F' N')
/-- a new exception, raised in the try's own block -/
theorem etry_new {h : Heap} (hfr : A₀.frames = some [env₀]) (Fs : TI.Frs [env₀] [(L, oL)]) (F : Fr hb L' h m) (N : News hb L' h (new ++ [(L, oL)])) (hap : ∀ p ∈ new, p.1 ≠ L)
    (hx : NewC h s.heap e "IndexError") (Tp : TopRead p loose mg mb hb) (X : K.In hb) (ex : nsIn K mainGlobals (Str.ofString "IndexError") = some none)
    (hE : ∀ e, PassesOwnAt (model prog w) ((A₀.deeper (envOf name scope L' a cd)).mark (some (.ref e))) (A₀.deeper (envOf name scope L' a cd)) (envOf name scope L' a cd) E)
    (k : ∀ h' sl, TI.Frs [env₀] [(L, { oL with slots := sl })] → Fr hb L' h' m → News hb L' h' (new ++ [(L, { oL with slots := sl })]) → wpAny (model prog w) ((A₀.deeper (envOf name scope L' a cd)).mark (some (.ref e))) (execs (b₀ :: suite) (envOf name scope L' a cd)) Q E { s with heap := h' })
    (hk : scope.kind = .function := by rfl) (hxk : (envOf name scope L' a cd).kindOf (Str.ofString "IndexError") = some .globalImplicit := by rfl) :
    ETry prog w (A₀.deeper (envOf name scope L' a cd)) (envOf name scope L' a cd) (.ExceptHandler (some (.Name (Str.ofString "IndexError") np)) none (b₀ :: suite) pos :: rest) Q E (.ref e) s := by
  obtain ⟨ob, vs, he, hc, hd, h1, hsz⟩ := hx.there
  refine note_new (clear := false) hfr Fs F N hap hx.keeps hx.new he hc hd h1 hsz (fun q => nomatch q) (fun h' T oe' oT sl x F' N' hn hTL heL Fs' => ?_) hk
  refine catch_held (held_of x F' N' fun q hq => ?_) Tp X ex (hE e) (fun h'' F'' N'' => k h'' sl Fs' F'' N'') hk hxk
  rcases List.mem_append.mp hq with hq | hq
  · exact (hn q hq).2
  · rw [List.mem_singleton.mp hq]; exact Ne.symm hTL
/-- an exception that the finally block hands on -/
theorem etry_passed (x : ExcL e T oe oT fl clear) (F : Fr hb L' s.heap m) (N : News hb L' s.heap ((e, oe) :: (T, oT) :: new)) (hap : ∀ p ∈ new, p.1 ≠ T)
    (Tp : TopRead p loose mg mb hb) (X : K.In hb) (ex : nsIn K mainGlobals (Str.ofString "IndexError") = some none)
    (hE : ∀ e, PassesOwnAt (model prog w) ((A₀.deeper (envOf name scope L' a cd)).mark (some (.ref e))) (A₀.deeper (envOf name scope L' a cd)) (envOf name scope L' a cd) E)
    (k : ∀ h', Fr hb L' h' m → News hb L' h' new → wpAny (model prog w) ((A₀.deeper (envOf name scope L' a cd)).mark (some (.ref e))) (execs (b₀ :: suite) (envOf name scope L' a cd)) Q E { s with heap := h' })
    {Q' : Flow → Shared → Prop} {what : String} (hk : scope.kind = .function := by rfl) (hxk : (envOf name scope L' a cd).kindOf (Str.ofString "IndexError") = some .globalImplicit := by rfl) :
    wpAny (model prog w) (A₀.deeper (envOf name scope L' a cd)) (PySem.passOn what (.ref e) (envOf name scope L' a cd)) Q'
      (ETry prog w (A₀.deeper (envOf name scope L' a cd)) (envOf name scope L' a cd) (.ExceptHandler (some (.Name (Str.ofString "IndexError") np)) none (b₀ :: suite) pos :: rest) Q E) s := by
  obtain ⟨vs, hd, h1, hsz, hcl⟩ := x.flds
  obtain ⟨ts, hdT, h3⟩ := x.trail
  have ne := N _ (.head _)
  have nT := N _ (.tail _ (.head _))
  have h3' : 3 < ts.size := (Array.getElem?_eq_some_iff.mp h3).1
  unfold PySem.passOn
  refine wpAny_bind (wpAny_field ne.1 hd h1 ?_)
  rw [if_neg (by simp)]
  unfold setFlight
  refine wpAny_bind (wpAny_bind (wpAny_field ne.1 hd h1 ?_))
  rw [if_pos (by simp)]
  refine wpAny_setField nT.1 hdT h3' ?_
  refine wpAny_throw ?_
  have hd₃ := Obj.data_mapFields hdT (·.setIfInBounds 3 (rawInt L'))
  have hT₃ := Heap.get?_update_self (Obj.mapFields (·.setIfInBounds 3 (rawInt L'))) nT.1 (Obj.isFreed_of_fields hd₃)
  have keep : ∀ b o, b ≠ T → s.heap.get? b = some o → (s.heap.update T (Obj.mapFields (·.setIfInBounds 3 (rawInt L')))).get? b = some o := fun b o hb e => (Heap.get?_update_other _ _ (Ne.symm hb)).trans e
  have x' : ExcL e T oe (Obj.mapFields (·.setIfInBounds 3 (rawInt L')) oT) (rawInt L') clear := ⟨x.cls, ⟨vs, hd, h1, hsz, hcl⟩, ⟨_, hd₃, by simp [h3']⟩, x.ne⟩
  have F' : Fr hb L' (s.heap.update T (Obj.mapFields (·.setIfInBounds 3 (rawInt L')))) m := by
    obtain ⟨o', es, ep, ho, r⟩ := F.ns
    exact ⟨⟨o', es, ep, keep _ _ (Ne.symm nT.2.1) ho, r⟩, fun b o eb => keep b o (fun q => by rw [q, nT.2.2] at eb; cases eb) (F.keep b o eb), F.above⟩
  have N' : News hb L' (s.heap.update T (Obj.mapFields (·.setIfInBounds 3 (rawInt L')))) ((e, oe) :: (T, Obj.mapFields (·.setIfInBounds 3 (rawInt L')) oT) :: new) := fun q hq => by
    rcases List.mem_cons.mp hq with rfl | hq
    · exact ⟨keep _ _ x.ne ne.1, ne.2⟩
    rcases List.mem_cons.mp hq with rfl | hq
    · exact ⟨hT₃, nT.2⟩
    · exact ⟨keep _ _ (hap q hq) (N q (.tail _ (.tail _ hq))).1, (N q (.tail _ (.tail _ hq))).2⟩
  unfold ETry
  have H := held_of (s := { s with heap := s.heap.update T (Obj.mapFields (·.setIfInBounds 3 (rawInt L'))) }) x' F' N' hap
  have back : wpAny (model prog w) (A₀.deeper (envOf name scope L' a cd)) (noteFrame (.ref e) (envOf name scope L' a cd)) (fun _ s₂ => s₂ = { s with heap := s.heap.update T (Obj.mapFields (·.setIfInBounds 3 (rawInt L'))) }) E { s with heap := s.heap.update T (Obj.mapFields (·.setIfInBounds 3 (rawInt L'))) } := by
    unfold noteFrame
    simp only [show (envOf name scope L' a cd).frame = some L' from rfl]
    refine wpAny_bind (wpAny_field (keep _ _ x.ne ne.1) hd h1 ?_)
    rw [if_pos (by simp)]
    refine wpAny_bind (wpAny_field hT₃ hd₃ (x := rawInt L') (by simp [h3']) ?_)
    rw [if_pos (by simp)]
    exact wpAny_pure rfl
  refine wpAny_mono back (fun _ s₂ e₂ => ?_) fun _ _ x => x
  subst e₂
  exact catch_held H Tp X ex (hE e) k hk hxk
end
end Mine
end
section
open PySem PySem.W PySem.Calls PyProof.Rows
set_option maxRecDepth 100000
set_option maxHeartbeats 4000000
namespace Mine
theorem my_while {prog : Program} {w : World} {A : Around} {E : Value → Shared → Prop} {s : Shared} {env : Env} {test : Expr} {body : List Stmt} {pos : Pos} {Q : Flow → Shared → Prop} (I : Nat → Shared → Prop) (hE : PassesOwn (model prog w) A env E)
    (turn : ∀ n s, I n s → wpAny (model prog w) A (isTrue test env (eval test env)) (fun b s₂ =>
      if b then wpAny (model prog w) A (execs body env) (fun f s₃ => match f with | .next | .cont => ∃ m, m < n ∧ I m s₃ | .brk => Q .next s₃ | .ret v => Q (.ret v) s₃) E s₂ else Q .next s₂) E s)
    (n : Nat) (h : I n s) : wpAny (model prog w) A (exec (.While test body [] pos) env) Q E s := by
  refine wpAny_While (codeAny_whileLoop I (fun n s hi => wpAny_mono (turn n s hi) (fun b s₂ h₂ => ?_) hE) n h)
  cases b with
  | true =>
    rw [if_pos rfl] at h₂ ⊢
    exact wpAny_mono h₂ (fun f s₃ h₃ => by cases f <;> exact h₃) hE
  | false =>
    rw [if_neg Bool.false_ne_true] at h₂ ⊢
    exact wpAny_execs_nil h₂
section
variable {prog : Program} {w : World} {A : Around} {E : Value → Shared → Prop} {s : Shared} {h₀ : Heap} {L D b : Addr} {m : Str → Option Value} {news : List (Addr × Obj)} {Q : Value → Shared → Prop}
theorem extend_my {vs ws : List Value} {n n2 : Nat} (news' : Nat → List (Addr × Obj)) (F : Fr h₀ L s.heap m) (N : News h₀ L s.heap news) (hD : (D, listOf (List.toArray vs) n) ∈ news) (hb : (b, listOf (List.toArray ws) n2) ∈ news)
    (hn : ∀ k, ∀ p ∈ news' k, p = (D, listOf (List.toArray (vs ++ ws)) k) ∨ (p ∈ news ∧ p.1 ≠ D)) (hsz : vs.length + ws.length ≤ 1000)
    (h : ∀ h' k, Fr h₀ L h' m → News h₀ L h' (news' k) → Q .none { s with heap := h' }) : wpAny (model prog w) A (call (.builtin "list.extend") [.ref D, .ref b]) Q E s := by
  have z := N _ hD
  have hs1 : vs.toArray.size + ws.toArray.size ≤ sizeLine := by rw [List.size_toArray, List.size_toArray, sizeLine_eq]; omega
  refine call_meets PySem.F.slot_list_extend ⟨_, z.1, rfl⟩ PySem.F.entry_list_extend (PySem.F.args_list_extend_2 _ _)
    (PySem.AutoSeq1.list_extend_list_list_0 D vs.toArray n b ws.toArray n2 (extend_door hs1) (Nat.le_trans (Nat.le_add_right _ _) hs1) (Nat.le_succ_of_le hs1)) ⟨z.1, (N _ hb).1, ?_⟩
  have hs := Heap.SameBut.update s.heap D (Obj.mapSeq fun x => x ++ ws.toArray)
  obtain ⟨k, hk⟩ : ∃ k, (s.heap.update D (Obj.mapSeq fun x => x ++ ws.toArray)).get? D = some (listOf (List.toArray (vs ++ ws)) k) := by
    have := Heap.get?_update_self (Obj.mapSeq fun x => x ++ ws.toArray) z.1 (by rfl)
    obtain ⟨k, hk⟩ : ∃ k, Obj.mapSeq (fun x => x ++ ws.toArray) (listOf vs.toArray n) = listOf (vs.toArray ++ ws.toArray) k := ⟨_, rfl⟩
    refine ⟨k, this.trans ?_⟩
    show some (Obj.mapSeq (fun x => x ++ ws.toArray) (listOf vs.toArray n)) = _
    rw [hk]
    simp
  refine h _ k (F.change hs z.2.1 z.2.2) fun p hp => ?_
  rcases hn k p hp with rfl | ⟨hp, hne⟩
  · exact ⟨hk, z.2⟩
  · exact ⟨(hs.2 p.1 hne).trans (N p hp).1, (N p hp).2⟩
end
theorem slice_from (vs : List Value) {x : Int} (h : 0 ≤ x) : slicePick vs.toArray (some x) none none = (vs.drop x.toNat).toArray := by
  have e : sliceBounds (some x) none none vs.toArray.size = (((min x.toNat vs.toArray.size : Nat) : Int), ((vs.toArray.size : Nat) : Int), 1) := by
    simp only [sliceBounds, Option.getD_none, show (1 : Int) > 0 by decide, if_true, if_neg (show ¬ (x < 0) by omega)]
    congr 1
    obtain ⟨k, rfl⟩ : ∃ k : Nat, x = (k : Int) := ⟨x.toNat, (Int.toNat_of_nonneg h).symm⟩
    rw [Int.toNat_natCast]
    first | exact (Int.natCast_min _ _).symm | exact (Int.ofNat_min _ _).symm | omega
  rw [kmk_pick_nat _ e]
  congr 1
  show (vs.drop (min x.toNat vs.toArray.size)).take (vs.toArray.size - min x.toNat vs.toArray.size) = _
  rw [List.size_toArray, kmk_drop_min, List.take_of_length_le (by rw [List.length_drop]; omega)]
theorem dropW_len {α : Type} (p : α → Bool) : ∀ l : List α, (l.dropWhile p).length ≤ l.length
  | [] => Nat.le_refl _
  | x :: l => by
    rw [List.dropWhile_cons]
    split
    · exact Nat.le_succ_of_le (dropW_len p l)
    · exact Nat.le_refl _
/-- the difference of two lists of rows -/
noncomputable def diffF : List (List Nat) → List (List Nat) → List (List Nat) × List (List Nat)
  | [], ys => ([], ys)
  | x :: xs, [] => (x :: xs, [])
  | x :: xs, y :: ys =>
    if x < y then (x :: (diffF (xs.dropWhile (· == x)) (y :: ys)).1, (diffF (xs.dropWhile (· == x)) (y :: ys)).2)
    else if y < x then ((diffF (x :: xs) (ys.dropWhile (· == y))).1, y :: (diffF (x :: xs) (ys.dropWhile (· == y))).2)
    else diffF (xs.dropWhile (· == x)) (ys.dropWhile (· == y))
termination_by xs ys => xs.length + ys.length
decreasing_by
  all_goals simp only [List.length_cons]
  all_goals have h1 := dropW_len (· == x) xs
  all_goals have h2 := dropW_len (· == y) ys
  all_goals omega
theorem diffF_end {xs ys : List (List Nat)} (h : xs = [] ∨ ys = []) : diffF xs ys = (xs, ys) := by
  rcases h with rfl | rfl
  · unfold diffF; rfl
  · cases xs <;> (unfold diffF; rfl)
end Mine
end
section
open PySem PySem.W PySem.Calls PyProof.Rows
set_option maxRecDepth 100000
set_option maxHeartbeats 4000000
namespace Mine
theorem gone_size {h : Heap} {L : Addr} : (TI.gone h [L]).objs.size = h.objs.size := by
  show ((TI.gone h []).update L _).objs.size = _
  exact Heap.size_update ..
theorem enter_diff {prog : Program} {w : World} {A : Around} {s : Shared} {K : Frag} {Q E : Value → Shared → Prop} {L : Addr} {oL : Obj}
    {name qual : Str} {params : Arguments} {body : List Stmt} {scope : Scope} {dV kV doc pm cdv ct oc : Value} {an od : Option Addr} {osl : Array (Option Value)} {f : Addr} {args : List Value} {binds : List (Str × Value)}
    (X : K.In (TI.gone s.heap [L])) (hL : s.heap.get? L = some oL) (hlim : (TI.gone s.heap [L]).NoLimit) (hroom : A.depth < recursionLimit)
    (ho : K.lookup f = some ⟨oc, od, .func (fnOf name qual params body scope dV kV doc pm an cdv ct), osl⟩) (hcd : codeIn K cdv qual = true)
    (hbind : BindsTo s (fnOf name qual params body scope dV kV doc pm an cdv ct) ⟨args, []⟩ binds) (hloc : ∀ y ∈ binds, scope.names.lookup y.1 = some .local)
    (hcell : ∀ x ∈ scope.names, x.2 ≠ .cell)
    (hco : scope.isCoroutine = false) (hgen : scope.isGenerator = false) (hk : scope.kind = .function)
    (h : ∀ h₁ L' tk, Fr (TI.gone s.heap [L]) L' h₁ (fun y => binds.reverse.lookup y) → News (TI.gone s.heap [L]) L' h₁ [(L, oL)] → L ≠ L' →
      wpAny (model prog w) (A.deeper (envOf qual scope L' f cdv)) (execs body (envOf qual scope L' f cdv))
        (fun fl s' => Q (match fl with | .ret v => v | _ => .none) s') (fun _ _ => False)
        { s with heap := h₁, toks := tk }) :
    wpAny (model prog w) A (call (.ref f) args) Q E s := by
  have up : ∀ b o, (TI.gone s.heap [L]).get? b = some o → s.heap.get? b = some o := fun b o e => (TI.gone_some e).2
  refine enter_pure (binds := binds) (X.keeps up) (hlim.keeps up) hroom ho hcd hbind hloc hcell hco hgen hk fun h₁ L' tk hL' htk F N => ?_
  have hlt : L ≠ L' := by rw [hL']; exact Nat.ne_of_lt (Heap.lt_size hL)
  refine h h₁ L' tk ⟨F.ns, fun b o e => F.keep b o (up b o e), by rw [gone_size]; exact F.above⟩ (fun q hq => ?_) hlt
  rw [List.mem_singleton.mp hq]
  exact ⟨F.keep _ _ hL, hlt, TI.gone_none (.head _)⟩
/-- where an IndexError may be raised: the frame's map and the ledger -/
structure Spot (hb : Heap) (L' L : Addr) (oL : Obj) (env₀ : Env) (s₀ : Shared) (Rs : (Str → Option Value) → List (Addr × Obj) → Prop) (h : Heap) (m : Str → Option Value) (new : List (Addr × Obj)) (sl : Array (Option Value)) : Prop where
  Fs : TI.Frs [env₀] [(L, { oL with slots := sl })]
  F : Fr hb L' h m
  N : News hb L' h (new ++ [(L, { oL with slots := sl })])
  ap : ∀ p ∈ new, p.1 ≠ L
  rs : Rs m new
section
variable {prog : Program} {w : World} {A₀ : Around} {E : Value → Shared → Prop} {s s₀ : Shared} {hb : Heap} {L L' a : Addr} {m mg mb : Str → Option Value} {name : Str} {scope : Scope} {cd : Value} {env₀ : Env} {oL : Obj} {new : List (Addr × Obj)}
  {K : Frag} {p : Program} {loose : List Str} {b₀ f₀ : Stmt} {suite body fs : List Stmt} {pos hpos np : Pos} {Q : Flow → Shared → Prop}
/-- what stands for the handlers, seen from the try's block -/
structure Catches (prog : Program) (w : World) (A : Around) (env : Env) (hb : Heap) (L' L : Addr) (oL : Obj) (env₀ : Env) (s₀ : Shared) (Rs : (Str → Option Value) → List (Addr × Obj) → Prop) (ET : Value → Shared → Prop) : Prop where
  passes : ∀ A' A'', SameStack A' A → PassesOwnAt (model prog w) A' A'' env ET
  new : ∀ e h m new sl h' tk, Spot hb L' L oL env₀ s₀ Rs h m new sl → NewC h h' e "IndexError" → ET (.ref e) { s₀ with heap := h', toks := tk }
  passed : ∀ e T oe oT fl c m new sl h' tk what (Q' : Flow → Shared → Prop), ExcL e T oe oT fl c → Fr hb L' h' m → News hb L' h' ((e, oe) :: (T, oT) :: (new ++ [(L, { oL with slots := sl })])) → (∀ p ∈ new, p.1 ≠ T) → T ≠ L → Rs m new →
    wpAny (model prog w) A (PySem.passOn what (.ref e) env) Q' ET { s₀ with heap := h', toks := tk }
theorem try_diff (Rs : (Str → Option Value) → List (Addr × Obj) → Prop) (hfr : A₀.frames = some [env₀])
    (Tp : TopRead p loose mg mb hb) (X : K.In hb) (ex : nsIn K mainGlobals (Str.ofString "IndexError") = some none)
    (hE : PassesOwn (model prog w) (A₀.deeper (envOf name scope L' a cd)) (envOf name scope L' a cd) E)
    (hE' : ∀ e, PassesOwnAt (model prog w) ((A₀.deeper (envOf name scope L' a cd)).mark (some (.ref e))) (A₀.deeper (envOf name scope L' a cd)) (envOf name scope L' a cd) E)
    (handler : ∀ e h' tk m new sl, Rs m new → Fr hb L' h' m → News hb L' h' (new ++ [(L, { oL with slots := sl })]) →
      wpAny (model prog w) ((A₀.deeper (envOf name scope L' a cd)).mark (some (.ref e))) (execs (b₀ :: suite) (envOf name scope L' a cd)) Q E { s₀ with heap := h', toks := tk })
    (block : ∀ ET, Catches prog w (A₀.deeper (envOf name scope L' a cd)) (envOf name scope L' a cd) hb L' L oL env₀ s₀ Rs ET →
      wpAny (model prog w) (A₀.deeper (envOf name scope L' a cd)) (execs body (envOf name scope L' a cd)) Q ET s)
    (hk : scope.kind = .function := by rfl) (hxk : (envOf name scope L' a cd).kindOf (Str.ofString "IndexError") = some .globalImplicit := by rfl) :
    wpAny (model prog w) (A₀.deeper (envOf name scope L' a cd)) (exec (.Try body [.ExceptHandler (some (.Name (Str.ofString "IndexError") np)) none (b₀ :: suite) hpos] [] [] pos) (envOf name scope L' a cd)) Q E s := by
  refine wpAny_Try_except (wpAny_mono (block (ETry prog w (A₀.deeper (envOf name scope L' a cd)) (envOf name scope L' a cd) [.ExceptHandler (some (.Name (Str.ofString "IndexError") np)) none (b₀ :: suite) hpos] Q E) ⟨fun A' A'' hAA => etry_passes hAA, ?_, ?_⟩) (fun f s₁ h₁ => ?_) fun _ _ x => x)
  · intro e h m new sl h' tk sp hx
    exact etry_new (s := { s₀ with heap := h', toks := tk }) hfr sp.Fs sp.F sp.N sp.ap hx Tp X ex hE' (fun h'' sl' Fs' F' N' => handler e h'' tk m new sl' sp.rs F' N') hk hxk
  · intro e T oe oT fl c m new sl h' tk what Q' x F' N' hap hTL hrs
    refine etry_passed (s := { s₀ with heap := h', toks := tk }) x F' N' (fun q hq => ?_) Tp X ex hE' (fun h'' F'' N'' => handler e h'' tk m new sl hrs F'' N'') hk hxk
    rcases List.mem_append.mp hq with hq | hq
    · exact hap q hq
    · rw [List.mem_singleton.mp hq]; exact Ne.symm hTL
  · cases f with
    | next => exact wpAny_execs_nil h₁
    | _ => exact h₁
theorem note_again {A : Around} {e T : Addr} {oe oT : Obj} {c : Bool} {Q : Unit → Shared → Prop} {rest : List (Addr × Obj)} (x : ExcL e T oe oT (rawInt L') c) (N : News hb L' s.heap ((e, oe) :: (T, oT) :: rest)) (h : Q () s) :
    wpAny (model prog w) A (noteFrame (.ref e) (envOf name scope L' a cd)) Q E s := by
  obtain ⟨vs, hd, h1, hsz, hcl⟩ := x.flds
  obtain ⟨ts, hdT, h3⟩ := x.trail
  unfold noteFrame
  simp only [show (envOf name scope L' a cd).frame = some L' from rfl]
  refine wpAny_bind (wpAny_field (N _ (.head _)).1 hd h1 ?_)
  rw [if_pos (by simp)]
  refine wpAny_bind (wpAny_field (N _ (.tail _ (.head _))).1 hdT h3 ?_)
  rw [if_pos (by simp)]
  exact wpAny_pure h
theorem land_led {A : Around} {e T : Addr} {oe oT : Obj} {fl : Value} {c : Bool} {Q : Unit → Shared → Prop} {rest : List (Addr × Obj)} (x : ExcL e T oe oT fl c) (F : Fr hb L' s.heap m) (N : News hb L' s.heap ((e, oe) :: (T, oT) :: rest)) (hap : ∀ p ∈ rest, p.1 ≠ T)
    (h : ∀ h' oT', ExcL e T oe oT' .none c → Fr hb L' h' m → News hb L' h' ((e, oe) :: (T, oT') :: rest) → Q () { s with heap := h' }) :
    wpAny (model prog w) A (setFlight (.ref e) none) Q E s := by
  obtain ⟨vs, hd, h1, hsz, hcl⟩ := x.flds
  obtain ⟨ts, hdT, h3⟩ := x.trail
  have ne := N _ (.head _)
  have nT := N _ (.tail _ (.head _))
  have h3' : 3 < ts.size := (Array.getElem?_eq_some_iff.mp h3).1
  unfold setFlight
  refine wpAny_bind (wpAny_field ne.1 hd h1 ?_)
  rw [if_pos (by simp)]
  refine wpAny_setField nT.1 hdT h3' ?_
  have hd₃ := Obj.data_mapFields hdT (·.setIfInBounds 3 Value.none)
  have hT₃ := Heap.get?_update_self (Obj.mapFields (·.setIfInBounds 3 Value.none)) nT.1 (Obj.isFreed_of_fields hd₃)
  have keep : ∀ b o, b ≠ T → s.heap.get? b = some o → (s.heap.update T (Obj.mapFields (·.setIfInBounds 3 Value.none))).get? b = some o := fun b o hb e => (Heap.get?_update_other _ _ (Ne.symm hb)).trans e
  refine h _ _ ⟨x.cls, ⟨vs, hd, h1, hsz, hcl⟩, ⟨_, hd₃, by simp [h3']⟩, x.ne⟩ ?_ fun q hq => ?_
  · obtain ⟨o', es, ep, ho, r⟩ := F.ns
    exact ⟨⟨o', es, ep, keep _ _ (Ne.symm nT.2.1) ho, r⟩, fun b o eb => keep b o (fun q => by rw [q, nT.2.2] at eb; cases eb) (F.keep b o eb), F.above⟩
  · rcases List.mem_cons.mp hq with rfl | hq
    · exact ⟨keep _ _ x.ne ne.1, ne.2⟩
    rcases List.mem_cons.mp hq with rfl | hq
    · exact ⟨hT₃, nT.2⟩
    · exact ⟨keep _ _ (hap q hq) (N q (.tail _ (.tail _ hq))).1, (N q (.tail _ (.tail _ hq))).2⟩
/-- a try with a finally block; its own block may raise at the spots of Rs -/
theorem fin_diff {ET : Value → Shared → Prop} {Rs' : (Str → Option Value) → List (Addr × Obj) → Prop} (Rs : (Str → Option Value) → List (Addr × Obj) → Prop) (Pn : Shared → Prop) (hfr : A₀.frames = some [env₀])
    (C : Catches prog w (A₀.deeper (envOf name scope L' a cd)) (envOf name scope L' a cd) hb L' L oL env₀ s₀ Rs' ET)
    (block : ∀ E1, (∀ A' A'', SameStack A' (A₀.deeper (envOf name scope L' a cd)) → PassesOwnAt (model prog w) A' A'' (envOf name scope L' a cd) E1) →
      (∀ e h m new sl h' tk, Spot hb L' L oL env₀ s₀ Rs h m new sl → Heap.NewExc h h' e "IndexError" → E1 (.ref e) { s₀ with heap := h', toks := tk }) →
      wpAny (model prog w) (A₀.deeper (envOf name scope L' a cd)) (execs body (envOf name scope L' a cd)) (fun f s₁ => f = .next ∧ Pn s₁) E1 s)
    (plain : ∀ s₁, Pn s₁ → wpAny (model prog w) (A₀.deeper (envOf name scope L' a cd)) (execs (f₀ :: fs) (envOf name scope L' a cd)) (fun g s' => match g with | .next => Q .next s' | g => Q g s') ET s₁)
    (raised : ∀ e T oe oT m new sl h' tk, ExcL e T oe oT .none true → TI.Frs [env₀] [(L, { oL with slots := sl })] → Fr hb L' h' m → News hb L' h' ((e, oe) :: (T, oT) :: (new ++ [(L, { oL with slots := sl })])) → (∀ p ∈ new, p.1 ≠ e ∧ p.1 ≠ T ∧ p.1 ≠ L) → T ≠ L → e ≠ L → Rs m new →
      wpAny (model prog w) ((A₀.deeper (envOf name scope L' a cd)).mark (some (.ref e))) (execs (f₀ :: fs) (envOf name scope L' a cd))
        (fun g s₂ => g = .next ∧ wpAny (model prog w) (A₀.deeper (envOf name scope L' a cd)) (PySem.passOn "try.finally" (.ref e) (envOf name scope L' a cd)) Q ET s₂) ET { s₀ with heap := h', toks := tk })
    (hk : scope.kind = .function := by rfl) :
    wpAny (model prog w) (A₀.deeper (envOf name scope L' a cd)) (exec (.Try body [] [] (f₀ :: fs) pos) (envOf name scope L' a cd)) Q ET s := by
  have hP := C.passes _ (A₀.deeper (envOf name scope L' a cd)) (SameStack.refl _)
  refine wpAny_Try_finally (wpAny_mono (block (fun e s₁ => wpAny (model prog w) (A₀.deeper (envOf name scope L' a cd)) (noteFrame e (envOf name scope L' a cd)) (fun _ s₂ => FinallyRaised prog w (A₀.deeper (envOf name scope L' a cd)) ET (envOf name scope L' a cd) (f₀ :: fs) Q e s₂)
    (FinallyRaised prog w (A₀.deeper (envOf name scope L' a cd)) ET (envOf name scope L' a cd) (f₀ :: fs) Q) s₁) (fun A' A'' hAA _ _ h => wpAny_look_again hAA h) ?_) (fun f s₁ h₁ => ?_) fun _ _ x => x)
  · intro e h m new sl h' tk sp hx
    obtain ⟨ob, t, he, hc, hd⟩ := hx.there
    refine note_new (clear := true) (s := { s₀ with heap := h', toks := tk }) hfr sp.Fs sp.F sp.N sp.ap hx.keeps hx.new he hc hd rfl (by show 2 < 6; decide) (fun _ => rfl) (fun h₁ T oe oT sl₁ x F₁ N₁ hn hTL heL Fs₁ => ⟨ref_ne_byPass e, ?_⟩) hk
    refine note_again x N₁ ?_
    have hr : ∀ q ∈ new ++ [(L, { oL with slots := sl₁ })], q.1 ≠ T := fun q hq => by
      rcases List.mem_append.mp hq with hq | hq
      · exact (hn q hq).2
      · rw [List.mem_singleton.mp hq]; exact Ne.symm hTL
    refine land_led x F₁ N₁ hr fun h₂ oT' x₂ F₂ N₂ => ?_
    refine wpAny_mono (raised e T oe oT' m new sl₁ h₂ tk x₂ Fs₁ F₂ N₂ (fun q hq => ⟨(hn q hq).1, (hn q hq).2, sp.ap q hq⟩) hTL heL sp.rs) (fun g s₂ h₃ => ?_) (C.passes _ _ (SameStack.mark _ _))
    obtain ⟨rfl, h₃⟩ := h₃
    exact h₃
  · obtain ⟨rfl, hp⟩ := h₁
    refine wpAny_execs_nil ?_
    exact wpAny_mono (plain s₁ hp) (fun g s₂ h₂ => h₂) hP
end
end Mine
end
section
open PySem PySem.W PySem.Calls PyProof.Rows
set_option maxRecDepth 100000
set_option maxHeartbeats 4000000
namespace Mine
theorem strs_get {vs : List Value} {xs : List (List Nat)} (h : PyProof.Rows.StrsAre vs (xs.map S)) {i : Nat} {x : List Nat} (e : xs[i]? = some x) : ∃ t, vs[i]? = some (.str (S x) t) :=
  PyProof.Rows.StrsAre.get h i (S x) (by rw [List.getElem?_map, e]; rfl)
theorem const_int {M : Model} {A : Around} {E : Value → Shared → Prop} {s : Shared} {env : Env} {n : Int} {k : Nat} {pos : Pos} {Q : Value → Shared → Prop} (h : Q (.int n s.toks) { s with toks := s.toks + 1 }) : wpAny M A (eval (.Constant (.int n) k pos) env) Q E s := fun _ _ _ => h
/-- `while xl[xi] == xe: xi += 1` -/
theorem skip_while {prog : Program} {w : World} {A : Around} {E : Value → Shared → Prop} {s : Shared} {hb : Heap} {L' a l : Addr} {m : Str → Option Value} {name : Str} {scope : Scope} {cd : Value} {news : List (Addr × Obj)} {Q : Flow → Shared → Prop}
    {xl xi xe : Str} {p1 p2 p3 p4 p5 p6 p7 p8 p9 : Pos} {k0 : Nat} {vs : List Value} {xs : List (List Nat)} {x : List Nat} {te t0 : Tok} {k : Nat} {K0 : Int}
    (hE : PassesOwn (model prog w) A (envOf name scope L' a cd) E) (F : Fr hb L' s.heap m) (N : News hb L' s.heap news)
    (hl : hb.IsList l vs.toArray) (hs : PyProof.Rows.StrsAre vs (xs.map S)) (hz : xs.length ≤ 8) (hk : k ≤ xs.length) (hK : K0 = (k : Int))
    (h1 : m xl = some (.ref l)) (h2 : m xi = some (.int K0 t0)) (h3 : m xe = some (.str (S x) te)) (n1 : xl ≠ xi) (n2 : xe ≠ xi)
    (out : ∀ h tk t (Q' : Value → Shared → Prop), Fr hb L' h (fun y => if y = xi then some (.int (xs.length : Int) t) else m y) → News hb L' h news → (∀ r, k ≤ r → r < xs.length → xs[r]? = some x) →
      wpAny (model prog w) A (getItem (.ref l) (.int (xs.length : Int) t)) Q' E { s with heap := h, toks := tk })
    (done : ∀ h tk t (k' : Nat), Fr hb L' h (fun y => if y = xi then some (.int (k' : Int) t) else m y) → News hb L' h news → k ≤ k' → k' < xs.length → (∀ r, k ≤ r → r < k' → xs[r]? = some x) → xs[k']? ≠ some x → Q .next { s with heap := h, toks := tk })
    (kf : scope.kind = .function := by rfl) (kl : (envOf name scope L' a cd).kindOf xl = some .local := by rfl) (ki : (envOf name scope L' a cd).kindOf xi = some .local := by rfl) (ke : (envOf name scope L' a cd).kindOf xe = some .local := by rfl)
    (dl : (xl == ("__debug__" : Str)) = false := by decide) (di : (xi == ("__debug__" : Str)) = false := by decide) (de : (xe == ("__debug__" : Str)) = false := by decide) :
    wpAny (model prog w) A (exec (.While (.Compare (.Subscript (.Name xl p1) (.Name xi p2) p3) [.Eq] [.Name xe p4] p5) [.AugAssign (.Name xi p6) .Add (.Constant (.int 1) k0 p7) p8] [] p9) (envOf name scope L' a cd)) Q E s := by
  subst hK
  refine my_while (fun n s' => ∃ h tk t, ∃ k' : Nat, s' = { s with heap := h, toks := tk } ∧ Fr hb L' h (fun y => if y = xi then some (.int (k' : Int) t) else m y) ∧ News hb L' h news ∧ k ≤ k' ∧ k' ≤ xs.length ∧ (∀ r : Nat, k ≤ r → r < k' → xs[r]? = some x) ∧ n = xs.length - k') hE ?_ (xs.length - k)
    ⟨s.heap, s.toks, t0, k, rfl, ?_, N, Nat.le_refl _, hk, fun r h1 h2 => absurd h2 (Nat.not_lt.2 h1), rfl⟩
  · rintro n s' ⟨h, tk, t, k', rfl, F', N', hkk, hkx, hall, rfl⟩
    have hl' := F'.lst hl
    refine wpAny_isTrue_Compare1 ?_ (by with_unfolding_all rfl)
    refine wpAny_Subscript_Name (T := "list") slot_list_getitem.lookup (ld F' (v := .ref l) (by rw [if_neg n1]; exact h1) (ld F' (v := .int (k' : Int) t) (by rw [if_pos rfl]) ⟨hl'.typeIs, ?_⟩ kf ki di) kf kl dl)
    rcases Nat.lt_or_eq_of_le hkx with hlt | heq
    · obtain ⟨y, hy⟩ : ∃ y, xs[k']? = some y := ⟨xs[k'], List.getElem?_eq_getElem hlt⟩
      obtain ⟨ty, hv⟩ := strs_get hs hy
      refine wpAny_getItem_list hl' (by omega) (by omega) (x := .str (S y) ty) (by rw [show (k' : Int).toNat = k' from by omega]; simpa using hv) ?_
      refine ld F' (v := .str (S x) te) (by rw [if_neg n2]; exact h3) ?_ kf ke de
      refine PyProof.Rows.eq_str ?_
      refine wpAny_truthy_bool ?_
      by_cases hyx : y = x
      · subst hyx
        rw [if_pos (by simp)]
        refine wpAny_execs_cons (wpAny_AugAssign_Name (ldn F' (v := .int (k' : Int) t) (by rw [if_pos rfl]) (const_int (PyProof.Rows.iadd_int ?_)) kf ki))
        refine wpAny_storeName_local ki F'.ns (fun h₂ hn₂ hs₂ => wpAny_execs_nil ?_) (by show (scope.kind == .class || (scope.kind == .module && L' != mainGlobals)) = false; rw [kf]; rfl)
        have F₂ := F'.set hn₂ hs₂
        refine ⟨xs.length - (k' + 1), by omega, h₂, _, tk + 1, k' + 1, rfl, ?_, fun q hq => ⟨hs₂.extBut _ _ (N' q hq).2.1 (N' q hq).1, (N' q hq).2⟩, by omega, by omega, fun r a1 a2 => ?_, rfl⟩
        · have e : (fun y => if y = xi then some (Value.int ((k' : Int) + 1) (tk + 1)) else if y = xi then some (.int (k' : Int) t) else m y) = fun y => if y = xi then some (.int (((k' + 1 : Nat) : Int)) (tk + 1)) else m y := by
            funext y
            by_cases hy : y = xi
            · rw [if_pos hy, if_pos hy]; push_cast; rfl
            · rw [if_neg hy, if_neg hy, if_neg hy]
          rw [← e]
          exact F₂
        · rcases Nat.lt_or_eq_of_le (Nat.lt_succ_iff.mp a2) with h | h
          · exact hall r a1 h
          · rw [h]; exact hy
      · have hb : (S y == S x) = false := by
          rw [beq_eq_false_iff_ne]
          intro q
          exact hyx (by have := congrArg (fun z : Str => z.cps.toList) q; simpa [S] using this)
        rw [hb, if_neg (by decide)]
        exact done h tk t k' F' N' hkk hlt hall (by rw [hy]; intro q; exact hyx (Option.some.inj q))
    · subst heq
      exact out h tk t _ F' N' hall
  · have e : (fun y => if y = xi then some (Value.int (k : Int) t0) else m y) = m := by
      funext y
      by_cases hy : y = xi
      · rw [if_pos hy, hy]; exact h2.symm
      · rw [if_neg hy]
    rw [e]; exact F
end Mine
end
section
open PySem PySem.W PySem.Calls PyProof.Rows
set_option maxRecDepth 100000
set_option maxHeartbeats 4000000
namespace Mine
theorem sz8 {vs : List Value} (h : vs.length ≤ 8) : vs.toArray.size ≤ sizeLine := by rw [List.size_toArray, sizeLine_eq]; omega
theorem ext8 {mi vs : List Value} {i : Nat} (h1 : mi.length ≤ 100) (h2 : vs.length ≤ 8) : mi.length + (vs.drop i).length ≤ 1000 := by rw [List.length_drop]; omega
theorem len9 {mi : List Value} {v : Value} (h : mi.length ≤ 8) : (mi ++ [v]).length ≤ 100 := by rw [List.length_append]; simp only [List.length_cons, List.length_nil]; omega
theorem le100 {mi : List Value} (h : mi.length ≤ 8) : mi.length ≤ 100 := Nat.le_trans h (by decide)
theorem strs_drop {vs : List Value} {xs : List Str} (i : Nat) (h : PyProof.Rows.StrsAre vs xs) : PyProof.Rows.StrsAre (vs.drop i) (xs.drop i) := PyProof.Rows.StrsAre.drop' h i
theorem strs_app {ws : List Value} {ys : List Str} (h : PyProof.Rows.StrsAre ws ys) {vs : List Value} {xs : List Str} (h' : PyProof.Rows.StrsAre vs xs) : PyProof.Rows.StrsAre (vs ++ ws) (xs ++ ys) := PyProof.Rows.StrsAre.append' h' h
theorem dw_of {xs : List (List Nat)} {x : List Nat} : ∀ {k k' : Nat}, k ≤ k' → k' < xs.length → (∀ r, k ≤ r → r < k' → xs[r]? = some x) → xs[k']? ≠ some x → (xs.drop k).dropWhile (· == x) = xs.drop k' := by
  intro k k' hk hlt hall hne
  obtain ⟨d, rfl⟩ : ∃ d, k' = k + d := ⟨k' - k, by omega⟩
  induction d generalizing k with
  | zero =>
    rw [Nat.add_zero] at hne hlt ⊢
    rw [List.drop_eq_getElem_cons hlt, List.dropWhile_cons, if_neg]
    intro q
    exact hne (by rw [List.getElem?_eq_getElem hlt, beq_iff_eq.mp q])
  | succ d ih =>
    have h1 : k < xs.length := by omega
    have h2 := hall k (Nat.le_refl _) (by omega)
    rw [List.getElem?_eq_getElem h1] at h2
    rw [List.drop_eq_getElem_cons h1, List.dropWhile_cons, if_pos (by rw [Option.some.inj h2]; exact beq_self_eq_true x)]
    have := ih (k := k + 1) (by omega) (by omega) (fun r a b => hall r (by omega) (by omega)) (by rw [show k + 1 + d = k + (d + 1) from by omega]; exact hne)
    rw [this, show k + 1 + d = k + (d + 1) from by omega]
theorem dw_nil {α : Type} {p : α → Bool} : ∀ {l : List α}, (∀ y ∈ l, p y = true) → l.dropWhile p = []
  | [], _ => rfl
  | x :: l, h => by rw [List.dropWhile_cons, if_pos (h x (.head _))]; exact dw_nil fun y hy => h y (.tail _ hy)
theorem dw_all {xs : List (List Nat)} {x : List Nat} {k : Nat} (hall : ∀ r, k ≤ r → r < xs.length → xs[r]? = some x) : (xs.drop k).dropWhile (· == x) = [] := by
  refine dw_nil fun y hy => ?_
  obtain ⟨r, hr, rfl⟩ := List.mem_iff_getElem.mp hy
  rw [List.length_drop] at hr
  have := hall (k + r) (by omega) (by omega)
  rw [List.getElem?_eq_getElem (by omega)] at this
  rw [List.getElem_drop, Option.some.inj this]
  exact beq_self_eq_true x
theorem drop_is {α : Type} {xs : List α} {i : Nat} {x : α} (h : xs[i]? = some x) : xs.drop i = x :: xs.drop (i + 1) := by
  obtain ⟨hi, e⟩ := List.getElem?_eq_some_iff.mp h
  rw [List.drop_eq_getElem_cons hi, e]
theorem diff_lt {xs ys : List (List Nat)} {i j : Nat} {x y : List Nat} (hx : xs[i]? = some x) (hy : ys[j]? = some y) (h : x < y) :
    diffF (xs.drop i) (ys.drop j) = (x :: (diffF ((xs.drop (i + 1)).dropWhile (· == x)) (ys.drop j)).1, (diffF ((xs.drop (i + 1)).dropWhile (· == x)) (ys.drop j)).2) := by
  rw [drop_is hx, drop_is hy, diffF, if_pos h]
theorem diff_gt {xs ys : List (List Nat)} {i j : Nat} {x y : List Nat} (hx : xs[i]? = some x) (hy : ys[j]? = some y) (h1 : ¬ x < y) (h : y < x) :
    diffF (xs.drop i) (ys.drop j) = ((diffF (xs.drop i) ((ys.drop (j + 1)).dropWhile (· == y))).1, y :: (diffF (xs.drop i) ((ys.drop (j + 1)).dropWhile (· == y))).2) := by
  rw [drop_is hx, drop_is hy, diffF, if_neg h1, if_pos h]
theorem diff_eq {xs ys : List (List Nat)} {i j : Nat} {x y : List Nat} (hx : xs[i]? = some x) (hy : ys[j]? = some y) (h1 : ¬ x < y) (h : ¬ y < x) :
    diffF (xs.drop i) (ys.drop j) = diffF ((xs.drop (i + 1)).dropWhile (· == x)) ((ys.drop (j + 1)).dropWhile (· == y)) := by
  rw [drop_is hx, drop_is hy, diffF, if_neg h1, if_neg h]
theorem dend_of {xs ys M U : List (List Nat)} {R : List (List Nat) × List (List Nat)} {vs1 vs2 mi un : List Value} {i j : Nat} (hs1 : PyProof.Rows.StrsAre vs1 (xs.map S)) (hs2 : PyProof.Rows.StrsAre vs2 (ys.map S)) (hM : PyProof.Rows.StrsAre mi (M.map S)) (hU : PyProof.Rows.StrsAre un (U.map S))
    (r1 : M ++ (diffF (xs.drop i) (ys.drop j)).1 = R.1) (r2 : U ++ (diffF (xs.drop i) (ys.drop j)).2 = R.2) (h : xs.length ≤ i ∨ ys.length ≤ j) :
    PyProof.Rows.StrsAre (mi ++ vs1.drop i) (R.1.map S) ∧ PyProof.Rows.StrsAre (un ++ vs2.drop j) (R.2.map S) := by
  rw [diffF_end (by rcases h with h | h; exact .inl (List.drop_of_length_le h); exact .inr (List.drop_of_length_le h))] at r1 r2
  rw [← r1, ← r2, List.map_append, List.map_append, List.map_drop, List.map_drop]
  exact ⟨strs_app (strs_drop i hs1) hM, strs_app (strs_drop j hs2) hU⟩
noncomputable def DHas (l1 l2 lm lu : Addr) (i j : Nat) (m : Str → Option Value) : Prop :=
  ∃ ti tj, Has m [(Str.ofString "expected", .ref l1), (Str.ofString "actual", .ref l2), (Str.ofString "i", .int (i : Int) ti), (Str.ofString "j", .int (j : Int) tj), (Str.ofString "missing", .ref lm), (Str.ofString "unexpected", .ref lu)]
/-- a state from which the handler ends right -/
noncomputable def DEnd (vs1 vs2 : List Value) (R : List (List Nat) × List (List Nat)) (l1 l2 lm lu : Addr) (m : Str → Option Value) (new : List (Addr × Obj)) : Prop :=
  ∃ i j mi un n1 n2, DHas l1 l2 lm lu i j m ∧ new = [(lu, listOf (List.toArray un) n2), (lm, listOf (List.toArray mi) n1)] ∧ PyProof.Rows.StrsAre (mi ++ vs1.drop i) (R.1.map S) ∧ PyProof.Rows.StrsAre (un ++ vs2.drop j) (R.2.map S) ∧ mi.length ≤ 100 ∧ un.length ≤ 100
noncomputable def DRun (xs ys : List (List Nat)) (R : List (List Nat) × List (List Nat)) (l1 l2 lm lu : Addr) (i j : Nat) (m : Str → Option Value) (new : List (Addr × Obj)) : Prop :=
  ∃ mi un n1 n2 M U, DHas l1 l2 lm lu i j m ∧ new = [(lu, listOf (List.toArray un) n2), (lm, listOf (List.toArray mi) n1)] ∧ PyProof.Rows.StrsAre mi (M.map S) ∧ PyProof.Rows.StrsAre un (U.map S) ∧
    M ++ (diffF (xs.drop i) (ys.drop j)).1 = R.1 ∧ U ++ (diffF (xs.drop i) (ys.drop j)).2 = R.2 ∧ i ≤ xs.length ∧ j ≤ ys.length ∧ M.length ≤ i ∧ U.length ≤ j
noncomputable def Meas (n a i b j : Nat) : Prop := n = a - i + (b - j)
theorem meas1 {n a i b j k : Nat} (hn : Meas n a i b j) (h1 : i + 1 ≤ k) (h2 : k < a) : a - k + (b - j) < n := by
  unfold Meas at hn
  rw [hn]
  exact Nat.add_lt_add_right (Nat.sub_lt_sub_left (Nat.lt_trans h1 h2) h1) _
theorem meas2 {n a i b j k : Nat} (hn : Meas n a i b j) (h1 : j + 1 ≤ k) (h2 : k < b) : a - i + (b - k) < n := by
  unfold Meas at hn
  rw [hn]
  exact Nat.add_lt_add_left (Nat.sub_lt_sub_left (Nat.lt_trans h1 h2) h1) _
theorem meas3 {n a i b j k l : Nat} (hn : Meas n a i b j) (h1 : i + 1 ≤ k) (h2 : k < a) (h3 : j + 1 ≤ l) (h4 : l < b) : a - k + (b - l) < n := by
  unfold Meas at hn
  rw [hn]
  exact Nat.add_lt_add (Nat.sub_lt_sub_left (Nat.lt_trans h1 h2) h1) (Nat.sub_lt_sub_left (Nat.lt_trans h3 h4) h3)
noncomputable def DInv (hb : Heap) (L' L : Addr) (oL : Obj) (env₀ : Env) (s : Shared) (xs ys : List (List Nat)) (l1 l2 lm lu : Addr) (n : Nat) (s' : Shared) : Prop :=
  ∃ h tk m new sl i j, s' = { s with heap := h, toks := tk } ∧ Spot hb L' L oL env₀ s (DRun xs ys (diffF xs ys) l1 l2 lm lu i j) h m new sl ∧ Meas n xs.length i ys.length j
noncomputable def FinR (l1 l2 lm lu : Addr) (xs : List (List Nat)) (x y : List Nat) (i j : Nat) (un mi : List Value) (n1 n2 : Nat) (m : Str → Option Value) (new : List (Addr × Obj)) : Prop :=
  (∃ ti tj ta, Has m [(Str.ofString "expected", .ref l1), (Str.ofString "actual", .ref l2), (Str.ofString "i", .int (xs.length : Int) ti), (Str.ofString "j", .int (j : Int) tj), (Str.ofString "missing", .ref lm), (Str.ofString "unexpected", .ref lu), (Str.ofString "a", .str (S y) ta)]) ∧
    new = [(lu, listOf (List.toArray un) n2), (lm, listOf (List.toArray mi) n1)] ∧ (xs.drop (i + 1)).dropWhile (· == x) = []
noncomputable def FinP (hb : Heap) (L' L : Addr) (oL : Obj) (sl : Array (Option Value)) (s : Shared) (l1 l2 lm lu : Addr) (xs : List (List Nat)) (x y : List Nat) (i j : Nat) (un mi : List Value) (n1 n2 : Nat) (s₁ : Shared) : Prop :=
  ∃ h tk m k' ti tj ta, s₁ = { s with heap := h, toks := tk } ∧ Fr hb L' h m ∧ Has m [(Str.ofString "expected", .ref l1), (Str.ofString "actual", .ref l2), (Str.ofString "i", .int ((k' : Nat) : Int) ti), (Str.ofString "j", .int (j : Int) tj), (Str.ofString "missing", .ref lm), (Str.ofString "unexpected", .ref lu), (Str.ofString "a", .str (S y) ta)] ∧
    News hb L' h [(lu, listOf (List.toArray un) n2), (lm, listOf (List.toArray mi) n1), (L, { oL with slots := sl })] ∧ i + 1 ≤ k' ∧ k' < xs.length ∧ (xs.drop (i + 1)).dropWhile (· == x) = xs.drop k'
theorem c_diff {w : World} {p : Program} {loose : List Str} {mg mb : Str → Option Value} {A : Around} {s : Shared} {Q E : Value → Shared → Prop} {L : Addr} {oL : Obj} {env₀ : Env} {l1 l2 : Addr} {vs1 vs2 : List Value} {xs ys : List (List Nat)}
    (hA : Amb A 1) (hfr : A.frames = some [env₀]) (Fs : TI.Frs [env₀] [(L, oL)]) (hL : s.heap.get? L = some oL) (G : Gnd w p loose mg mb (TI.gone s.heap [L]))
    (hl1 : (TI.gone s.heap [L]).IsList l1 vs1.toArray) (hl2 : (TI.gone s.heap [L]).IsList l2 vs2.toArray) (hs1 : PyProof.Rows.StrsAre vs1 (xs.map S)) (hs2 : PyProof.Rows.StrsAre vs2 (ys.map S)) (hz1 : xs.length ≤ 8) (hz2 : ys.length ≤ 8)
    (ret : ∀ t lm lu us1 us2 n1 n2 h' tk' sl, (TI.gone s.heap [L]).StaysIn h' → h'.get? L = some { oL with slots := sl } → h'.get? t = some (seqObj "tuple" #[.ref lm, .ref lu] 0) → h'.get? lm = some (listOf (List.toArray us1) n1) → h'.get? lu = some (listOf (List.toArray us2) n2) →
      (∀ b ∈ [t, lm, lu], (TI.gone s.heap [L]).get? b = none ∧ b ≠ L) → PyProof.Rows.StrsAre us1 ((diffF xs ys).1.map S) → PyProof.Rows.StrsAre us2 ((diffF xs ys).2.map S) → Q (.ref t) { s with heap := h', toks := tk' }) :
    wpAny (model PySem.Challenge.rw_oh0027_01.row.prog w) A (call (.ref 21) [.ref l1, .ref l2]) Q E s := by
  k_with_none
  k_with "exec While" => (refine hold_in ?_)
  k_with "exec While Constant cons nil" => (refine hold_in ?_)
  k_with "exec Try cons nil" => (refine hold_in ?_)
  k_with "exec Try" => (refine hold_in ?_)
  k_with "subscriptTail" => (first | ((with_reducible show wpAny _ _ (subscriptTail _ _ (Value.ref _) (Value.int _ _)) _ _ _); refine item_listL (Fr.lst (by assumption) (by assumption)) (by assumption) (by assumption) (by assumption) ?_) | ((with_reducible show wpAny _ _ (subscriptTail _ _ (Value.ref _) (Value.int _ _)) _ _ _); refine hold_in ?_))
  k_with "subscriptTail Name Name ref int" => (first | ((with_reducible show wpAny _ _ (subscriptTail _ _ (Value.ref _) (Value.int _ _)) _ _ _); refine item_listL (Fr.lst (by assumption) (by assumption)) (by assumption) (by assumption) (by assumption) ?_) | ((with_reducible show wpAny _ _ (subscriptTail _ _ (Value.ref _) (Value.int _ _)) _ _ _); refine hold_in ?_))
  k_with "subscriptTail Name Slice ref ref" => (refine hold_in ?_)
  k_with "call builtin:list.extend" => (refine hold_in ?_)
  k_with "call builtin:list.append" => (refine hold_in ?_)
  obtain ⟨X, T⟩ := G
  revert X; k_fill; intro X
  refine' enter_diff (binds := [(Str.ofString "expected", .ref l1), (Str.ofString "actual", .ref l2)]) X hL T.nolimit ?k1 ?k2 ?k3 ?k4 ?k5 ?c0 ?c1 ?c2 ?c3 ?_
  ( (case k1 => first | exact Nat.lt_of_le_of_lt (Nat.le_add_right _ _) (Amb.depth (by assumption)) | fail "room"); (case k2 => k_is); (case k3 => k_is); (case k4 => exact BindsTo.of_eq rfl); (case k5 => exact locs rfl); (case c0 => decide); (case c1 => exact rfl); (case c2 => exact rfl); (case c3 => exact rfl))
  intro h₁ L' tk F N hLL
  generalize TI.gone s.heap [L] = hb at *
  show wpAny _ _ _ _ _ _
  k_fold
  (repeat' (first | (k_unfold; (try dsimp only)) | (walk1; (all_goals try dsimp only)) | (dsimp only; walk1)))
  unfold Hold
  rename_i _ _ lm _ ltm _ _ lu _ ltu h₂ F₂ N₂
  have hlL : ∀ (n2 n1 : Nat) (un mi : List Value), ∀ q ∈ [(lu, listOf (List.toArray un) n2), (lm, listOf (List.toArray mi) n1)], q.1 ≠ L := fun n2 n1 un mi q hq => by
    rcases List.mem_cons.mp hq with rfl | hq
    · exact Nat.ne_of_gt ltu.2
    · rw [List.mem_singleton.mp hq]; exact Nat.ne_of_gt ltm
  refine my_while (DInv hb L' L oL env₀ s xs ys l1 l2 lm lu) PassesOwn.never ?_ (xs.length - 0 + (ys.length - 0))
    ⟨_, _, _, _, oL.slots, 0, 0, rfl, ⟨Fs, F₂, N₂, ?_, [], [], 0, 0, [], [], ⟨_, _, Has.cons rfl (Has.cons rfl (Has.cons rfl (Has.cons rfl (Has.cons rfl (Has.cons rfl Has.nil)))))⟩, rfl, .nil, .nil, rfl, rfl, Nat.zero_le _, Nat.zero_le _, Nat.le_refl _, Nat.le_refl _⟩, rfl⟩
  · rintro n s' ⟨h, tk, m, new, sl, i, j, rfl, sp, hn⟩
    (repeat' (first | (k_unfold; (try dsimp only)) | (walk1; (all_goals try dsimp only)) | (dsimp only; walk1)))
    unfold Hold
    refine try_diff (s₀ := s) (L := L) (oL := oL) (DEnd vs1 vs2 (diffF xs ys) l1 l2 lm lu) hfr T X (by k_is) (fun _ _ h => h.elim) (fun _ _ _ h => h.elim) ?_ ?_
    · rintro e h' tk' m' new' sl' ⟨i', j', mi, un, n1, n2, ⟨ti, tj, hm'⟩, rfl, e1, e2, len1, len2⟩ F₃ N₃
      replace F₃ := fr_has F₃ hm'
      simp only [withs] at F₃
      clear sp F₂ N₂
      show wpAny _ _ _ _ _ _
      k_fold
      replace N₃ : News hb L' h' [(lu, listOf (List.toArray un) n2), (lm, listOf (List.toArray mi) n1), (L, { oL with slots := sl' })] := N₃
      have hv1 : vs1.length ≤ 8 := by rw [strs_len hs1, List.length_map]; exact hz1
      have hv2 : vs2.length ≤ 8 := by rw [strs_len hs2, List.length_map]; exact hz2
      have hne : lm ≠ lu := Nat.ne_of_lt ltu.1
      (repeat' (first | (k_unfold; (try dsimp only)) | (walk1; (all_goals try dsimp only)) | (dsimp only; walk1)))
      unfold Hold
      refine kmk_slice (s := { s with heap := h', toks := tk' }) F₃ N₃ (F₃.lst hl1) (vl := .int (i' : Int) ti) (lo := some (i' : Int)) (vu := .none) (hi := none) (IsPart.int _ _) IsPart.none (fun D h₄ F₄ N₄ lt₄ => ?_) (by with_unfolding_all rfl) (by intro _; with_unfolding_all rfl) (sz8 hv1)
      rw [slice_from vs1 (Int.natCast_nonneg _), Int.toNat_natCast i'] at N₄
      have hD1 : D ≠ lm := Nat.ne_of_gt (lt₄ _ (.tail _ (.head _)))
      clear F₃ N₃
      (repeat' (first | (k_unfold; (try dsimp only)) | (walk1; (all_goals try dsimp only)) | (dsimp only; walk1)))
      unfold Hold
      refine extend_my (fun k => [(lu, listOf (List.toArray un) n2), (lm, listOf (List.toArray (mi ++ vs1.drop i')) k), (L, { oL with slots := sl' })]) F₄ N₄ (.tail _ (.tail _ (.head _))) (.head _) (fun k q hq => ?_) (ext8 len1 hv1) fun h₅ k₁ F₅ N₅ => ?_
      · rcases List.mem_cons.mp hq with rfl | hq
        · exact .inr ⟨.tail _ (.head _), Ne.symm hne⟩
        rcases List.mem_cons.mp hq with rfl | hq
        · exact .inl rfl
        · rw [List.mem_singleton.mp hq]; exact .inr ⟨.tail _ (.tail _ (.tail _ (.head _))), Nat.ne_of_lt ltm⟩
      clear F₄ N₄
      (repeat' (first | (k_unfold; (try dsimp only)) | (walk1; (all_goals try dsimp only)) | (dsimp only; walk1)))
      unfold Hold
      refine kmk_slice (s := { s with heap := h₅, toks := _ }) F₅ N₅ (F₅.lst hl2) (vl := .int (j' : Int) tj) (lo := some (j' : Int)) (vu := .none) (hi := none) (IsPart.int _ _) IsPart.none (fun D₂ h₆ F₆ N₆ lt₆ => ?_) (by with_unfolding_all rfl) (by intro _; with_unfolding_all rfl) (sz8 hv2)
      rw [slice_from vs2 (Int.natCast_nonneg _), Int.toNat_natCast j'] at N₆
      clear F₅ N₅
      (repeat' (first | (k_unfold; (try dsimp only)) | (walk1; (all_goals try dsimp only)) | (dsimp only; walk1)))
      unfold Hold
      refine extend_my (fun k => [(lu, listOf (List.toArray (un ++ vs2.drop j')) k), (lm, listOf (List.toArray (mi ++ vs1.drop i')) k₁), (L, { oL with slots := sl' })]) F₆ N₆ (.tail _ (.head _)) (.head _) (fun k q hq => ?_) (ext8 len2 hv2) fun h₇ k₂ F₇ N₇ => ?_
      · rcases List.mem_cons.mp hq with rfl | hq
        · exact .inl rfl
        rcases List.mem_cons.mp hq with rfl | hq
        · exact .inr ⟨.tail _ (.tail _ (.head _)), hne⟩
        · rw [List.mem_singleton.mp hq]; exact .inr ⟨.tail _ (.tail _ (.tail _ (.head _))), Nat.ne_of_lt ltu.2⟩
      clear F₆ N₆
      (repeat' (first | (k_unfold; (try dsimp only)) | (walk1; (all_goals try dsimp only)) | (dsimp only; walk1)))
      rename_i D₃ h₈ F₈ N₈ lt₈
      refine ret D₃ lm lu _ _ k₁ k₂ _ _ sl' F₈.keep (N₈ _ (.tail _ (.tail _ (.tail _ (.head _))))).1 (N₈ _ (.head _)).1 (N₈ _ (.tail _ (.tail _ (.head _)))).1 (N₈ _ (.tail _ (.head _))).1 (fun b hb => ?_) e1 e2
      rcases List.mem_cons.mp hb with rfl | hb
      · exact ⟨(N₈ _ (.head _)).2.2, Nat.ne_of_gt lt₈.2.2⟩
      rcases List.mem_cons.mp hb with rfl | hb
      · exact ⟨(N₈ _ (.tail _ (.tail _ (.head _)))).2.2, Nat.ne_of_gt ltm⟩
      · rw [List.mem_singleton.mp hb]
        exact ⟨(N₈ _ (.tail _ (.head _))).2.2, Nat.ne_of_gt ltu.2⟩
    · intro ET C
      refine post_abs fun G hG => ?_
      clear F₂ N₂
      obtain ⟨Fs₃, F₃, N₃, ap₃, mi, un, n1, n2, M, U, ⟨ti, tj, hm⟩, rfl, hM, hU, r1, r2, hi, hj, lM, lU⟩ := sp
      have hmk := hm
      replace F₃ := fr_has F₃ hm
      simp only [withs] at F₃
      replace N₃ : News hb L' h [(lu, listOf (List.toArray un) n2), (lm, listOf (List.toArray mi) n1), (L, { oL with slots := sl })] := N₃
      have hv1 : vs1.length = xs.length := by rw [strs_len hs1, List.length_map]
      have hv2 : vs2.length = ys.length := by rw [strs_len hs2, List.length_map]
      have lmi : mi.length ≤ 8 := by rw [strs_len hM, List.length_map]; exact Nat.le_trans lM (Nat.le_trans hi hz1)
      have lun : un.length ≤ 8 := by rw [strs_len hU, List.length_map]; exact Nat.le_trans lU (Nat.le_trans hj hz2)
      have hne : lm ≠ lu := Nat.ne_of_lt ltu.1
      by_cases ci : i < xs.length
      · obtain ⟨x, hx⟩ : ∃ x, xs[i]? = some x := ⟨xs[i], List.getElem?_eq_getElem ci⟩
        obtain ⟨tx, hvx⟩ := strs_get hs1 hx
        have g1 : vs1[(i : Int).toNat]? = some (.str (S x) tx) := by rw [Int.toNat_natCast i]; exact hvx
        have g2 : (0 : Int) ≤ (i : Int) := Int.natCast_nonneg _
        have g3 : (i : Int) < 2 ^ 63 := lt63 ci hz1
        by_cases cj : j < ys.length
        · obtain ⟨y, hy⟩ : ∃ y, ys[j]? = some y := ⟨ys[j], List.getElem?_eq_getElem cj⟩
          obtain ⟨ty, hvy⟩ := strs_get hs2 hy
          have g4 : vs2[(j : Int).toNat]? = some (.str (S y) ty) := by rw [Int.toNat_natCast j]; exact hvy
          have g5 : (0 : Int) ≤ (j : Int) := Int.natCast_nonneg _
          have g6 : (j : Int) < 2 ^ 63 := lt63 cj hz2
          (repeat' (first | (k_unfold; (try dsimp only)) | (walk1; (all_goals try dsimp only)) | (dsimp only; walk1)))
          · unfold Hold
            rename_i F₄ N₄ hxy
            replace hxy : x < y := hxy
            have hd := diff_lt hx hy hxy
            rw [hd] at r1 r2
            refine append_my [(lu, listOf (List.toArray un) n2), (lm, listOf (List.toArray (mi ++ [.str (S x) tx])) (n1 + 1)), (L, { oL with slots := sl })] F₄ N₄ (.tail _ (.head _)) (fun q hq => ?_) (sz8 lmi) fun h₅ F₅ N₅ => ?_
            · rcases List.mem_cons.mp hq with rfl | hq
              · exact .inr ⟨.head _, Ne.symm hne⟩
              rcases List.mem_cons.mp hq with rfl | hq
              · exact .inl (by simp)
              · rw [List.mem_singleton.mp hq]; exact .inr ⟨.tail _ (.tail _ (.head _)), Nat.ne_of_lt ltm⟩
            clear F₄ N₄
            (repeat' (first | (k_unfold; (try dsimp only)) | (walk1; (all_goals try dsimp only)) | (dsimp only; walk1)))
            unfold Hold
            rename_i h₆ F₆ N₆
            have hM' : PyProof.Rows.StrsAre (mi ++ [.str (S x) tx]) ((M ++ [x]).map S) := by rw [List.map_append]; exact strs_snoc hM
            have hlen : (M ++ [x]).length ≤ i + 1 := by rw [List.length_append]; exact Nat.succ_le_succ lM
            refine skip_while (k := i + 1) (x := x) (xs := xs) (vs := vs1) (C.passes _ _ (SameStack.refl _)) F₆ N₆ hl1 hs1 hz1 ci (by push_cast; rfl) rfl rfl rfl (by decide) (by decide) (fun h tk t Q' F N hall => ?_) (fun h tk t k' F N hkk hlt hall hnx => ?_)
            · refine item_out_plain (s := { s with heap := h, toks := tk }) (by exact hA.handled) (F.lst hl1) rfl (by rw [List.size_toArray, hv1]; exact Nat.le_refl _) (lt62 hz1) fun h' tk' e hx' => C.new e _ _ _ sl h' tk' ⟨Fs₃, F, N, hlL _ _ _ _, ?_⟩ (NewC.of hx')
              rw [dw_all hall] at r1 r2
              obtain ⟨z1, z2⟩ := dend_of (i := xs.length) (j := j) hs1 hs2 hM' hU (R := diffF xs ys) (by rw [List.drop_length, List.append_assoc]; exact r1) (by rw [List.drop_length]; exact r2) (.inl (Nat.le_refl _))
              exact ⟨xs.length, j, _, _, _, _, ⟨_, _, Has.cons rfl (Has.cons rfl (Has.cons rfl (Has.cons rfl (Has.cons rfl (Has.cons rfl Has.nil)))))⟩, rfl, z1, z2, len9 lmi, le100 lun⟩
            · rw [dw_of hkk hlt hall hnx] at r1 r2
              repeat (refine wpAny_execs_nil ?_)
              refine hG _ _ ?_
              repeat (refine wpAny_execs_nil ?_)
              exact ⟨xs.length - k' + (ys.length - j), meas1 hn hkk hlt, h, tk, _, _, sl, k', j, rfl, ⟨Fs₃, F, N, hlL _ _ _ _, _, _, _, _, M ++ [x], U, ⟨_, _, Has.cons rfl (Has.cons rfl (Has.cons rfl (Has.cons rfl (Has.cons rfl (Has.cons rfl Has.nil)))))⟩, rfl, hM', hU, by rw [List.append_assoc]; exact r1, r2, by omega, hj, by omega, lU⟩, rfl⟩
          · unfold Hold
            rename_i F₄ N₄ hxy hyx
            replace hxy : ¬ x < y := hxy
            replace hyx : y < x := hyx
            have hd := diff_gt hx hy hxy hyx
            rw [hd] at r1 r2
            refine append_my [(lu, listOf (List.toArray (un ++ [.str (S y) ty])) (n2 + 1)), (lm, listOf (List.toArray mi) n1), (L, { oL with slots := sl })] F₄ N₄ (.head _) (fun q hq => ?_) (sz8 lun) fun h₅ F₅ N₅ => ?_
            · rcases List.mem_cons.mp hq with rfl | hq
              · exact .inl (by simp)
              rcases List.mem_cons.mp hq with rfl | hq
              · exact .inr ⟨.tail _ (.head _), hne⟩
              · rw [List.mem_singleton.mp hq]; exact .inr ⟨.tail _ (.tail _ (.head _)), Nat.ne_of_lt ltu.2⟩
            clear F₄ N₄
            (repeat' (first | (k_unfold; (try dsimp only)) | (walk1; (all_goals try dsimp only)) | (dsimp only; walk1)))
            unfold Hold
            rename_i h₆ F₆ N₆
            have hU' : PyProof.Rows.StrsAre (un ++ [.str (S y) ty]) ((U ++ [y]).map S) := by rw [List.map_append]; exact strs_snoc hU
            have hlen : (U ++ [y]).length ≤ j + 1 := by rw [List.length_append]; exact Nat.succ_le_succ lU
            refine skip_while (k := j + 1) (x := y) (xs := ys) (vs := vs2) (C.passes _ _ (SameStack.refl _)) F₆ N₆ hl2 hs2 hz2 cj (by push_cast; rfl) rfl rfl rfl (by decide) (by decide) (fun h tk t Q' F N hall => ?_) (fun h tk t k' F N hkk hlt hall hnx => ?_)
            · refine item_out_plain (s := { s with heap := h, toks := tk }) (by exact hA.handled) (F.lst hl2) rfl (by rw [List.size_toArray, hv2]; exact Nat.le_refl _) (lt62 hz2) fun h' tk' e hx' => C.new e _ _ _ sl h' tk' ⟨Fs₃, F, N, hlL _ _ _ _, ?_⟩ (NewC.of hx')
              rw [dw_all hall] at r1 r2
              obtain ⟨z1, z2⟩ := dend_of (i := i) (j := ys.length) hs1 hs2 hM hU' (R := diffF xs ys) (by rw [List.drop_length]; exact r1) (by rw [List.drop_length, List.append_assoc]; exact r2) (.inr (Nat.le_refl _))
              exact ⟨i, ys.length, _, _, _, _, ⟨_, _, Has.cons rfl (Has.cons rfl (Has.cons rfl (Has.cons rfl (Has.cons rfl (Has.cons rfl Has.nil)))))⟩, rfl, z1, z2, le100 lmi, len9 lun⟩
            · rw [dw_of hkk hlt hall hnx] at r1 r2
              repeat (refine wpAny_execs_nil ?_)
              refine hG _ _ ?_
              repeat (refine wpAny_execs_nil ?_)
              exact ⟨xs.length - i + (ys.length - k'), meas2 hn hkk hlt, h, tk, _, _, sl, i, k', rfl, ⟨Fs₃, F, N, hlL _ _ _ _, _, _, _, _, M, U ++ [y], ⟨_, _, Has.cons rfl (Has.cons rfl (Has.cons rfl (Has.cons rfl (Has.cons rfl (Has.cons rfl Has.nil)))))⟩, rfl, hM, hU', r1, by rw [List.append_assoc]; exact r2, hi, by omega, lM, by omega⟩, rfl⟩
          · unfold Hold
            rename_i hxy hyx h₄ F₄ N₄
            replace hxy : ¬ x < y := hxy
            replace hyx : ¬ y < x := hyx
            have hd := diff_eq hx hy hxy hyx
            rw [hd] at r1 r2
            refine fin_diff (s₀ := s) (FinR l1 l2 lm lu xs x y i j un mi n1 n2)
              (FinP hb L' L oL sl s l1 l2 lm lu xs x y i j un mi n1 n2)
              hfr C (fun E1 hP1 hr1 => ?_) ?_ ?_
            · show wpAny _ _ _ _ _ _
              (repeat' (first | (k_unfold; (try dsimp only)) | (walk1; (all_goals try dsimp only)) | (dsimp only; walk1)))
              unfold Hold
              refine skip_while (k := i + 1) (x := x) (xs := xs) (vs := vs1) (hP1 _ _ (SameStack.refl _)) F₄ N₄ hl1 hs1 hz1 ci (by push_cast; rfl) rfl rfl rfl (by decide) (by decide) (fun h tk t Q' F N hall => ?_) (fun h tk t k' F N hkk hlt hall hnx => ?_)
              · refine item_out_plain (s := { s with heap := h, toks := tk }) (by exact hA.handled) (F.lst hl1) rfl (by rw [List.size_toArray, hv1]; exact Nat.le_refl _) (lt62 hz1) fun h' tk' e hx' => hr1 e _ _ _ sl h' tk' ⟨Fs₃, F, N, hlL _ _ _ _, ⟨_, _, _, Has.cons rfl (Has.cons rfl (Has.cons rfl (Has.cons rfl (Has.cons rfl (Has.cons rfl (Has.cons rfl Has.nil))))))⟩, rfl, dw_all hall⟩ hx'
              · repeat (refine wpAny_execs_nil ?_)
                exact ⟨rfl, h, tk, _, k', _, _, _, rfl, F, Has.cons rfl (Has.cons rfl (Has.cons rfl (Has.cons rfl (Has.cons rfl (Has.cons rfl (Has.cons rfl Has.nil)))))), N, hkk, hlt, dw_of hkk hlt hall hnx⟩
            · rintro s₁ ⟨h₅, tk₅, m₅, k', ti₅, tj₅, ta₅, rfl, F₅, hm₅, N₅, hk1, hk2, hk3⟩
              replace F₅ := fr_has F₅ hm₅
              simp only [withs] at F₅
              rw [hk3] at r1 r2
              clear F₄ N₄
              show wpAny _ _ _ _ _ _
              (repeat' (first | (k_unfold; (try dsimp only)) | (walk1; (all_goals try dsimp only)) | (dsimp only; walk1)))
              unfold Hold
              rename_i h₆ F₆ N₆
              refine skip_while (k := j + 1) (x := y) (xs := ys) (vs := vs2) (C.passes _ _ (SameStack.refl _)) F₆ N₆ hl2 hs2 hz2 cj (by push_cast; rfl) rfl rfl rfl (by decide) (by decide) (fun h tk t Q' F N hall => ?_) (fun h tk t k'' F N hkk hlt hall hnx => ?_)
              · refine item_out_plain (s := { s with heap := h, toks := tk }) (by exact hA.handled) (F.lst hl2) rfl (by rw [List.size_toArray, hv2]; exact Nat.le_refl _) (lt62 hz2) fun h' tk' e hx' => C.new e _ _ _ sl h' tk' ⟨Fs₃, F, N, hlL _ _ _ _, ?_⟩ (NewC.of hx')
                rw [dw_all hall] at r1 r2
                obtain ⟨z1, z2⟩ := dend_of (i := k') (j := ys.length) hs1 hs2 hM hU (R := diffF xs ys) (by rw [List.drop_length]; exact r1) (by rw [List.drop_length]; exact r2) (.inr (Nat.le_refl _))
                exact ⟨k', ys.length, _, _, _, _, ⟨_, _, Has.cons rfl (Has.cons rfl (Has.cons rfl (Has.cons rfl (Has.cons rfl (Has.cons rfl Has.nil)))))⟩, rfl, z1, z2, le100 lmi, le100 lun⟩
              · rw [dw_of hkk hlt hall hnx] at r1 r2
                repeat (refine wpAny_execs_nil ?_)
                refine hG _ _ ?_
                repeat (refine wpAny_execs_nil ?_)
                exact ⟨xs.length - k' + (ys.length - k''), meas3 hn hk1 hk2 hkk hlt, h, tk, _, _, sl, k', k'', rfl, ⟨Fs₃, F, N, hlL _ _ _ _, _, _, _, _, M, U, ⟨_, _, Has.cons rfl (Has.cons rfl (Has.cons rfl (Has.cons rfl (Has.cons rfl (Has.cons rfl Has.nil)))))⟩, rfl, hM, hU, r1, r2, by omega, by omega, by omega, by omega⟩, rfl⟩
            · rintro e T₅ oe oT m₅ new₅ sl₅ h₅ tk₅ xe Fs₅ F₅ N₅ hap hTL heL ⟨⟨ti₅, tj₅, ta₅, hm₅⟩, rfl, hk3⟩
              replace F₅ := fr_has F₅ hm₅
              simp only [withs] at F₅
              rw [hk3] at r1 r2
              clear F₄ N₄
              replace N₅ : News hb L' h₅ [(e, oe), (T₅, oT), (lu, listOf (List.toArray un) n2), (lm, listOf (List.toArray mi) n1), (L, { oL with slots := sl₅ })] := N₅
              show wpAny _ _ _ _ _ _
              (repeat' (first | (k_unfold; (try dsimp only)) | (walk1; (all_goals try dsimp only)) | (dsimp only; walk1)))
              unfold Hold
              rename_i h₆ F₆ N₆
              refine skip_while (k := j + 1) (x := y) (xs := ys) (vs := vs2) (C.passes _ _ (SameStack.mark _ _)) F₆ N₆ hl2 hs2 hz2 cj (by push_cast; rfl) rfl rfl rfl (by decide) (by decide) (fun h tk t Q' F N hall => ?_) (fun h tk t k'' F N hkk hlt hall hnx => ?_)
              · obtain ⟨vs, hd, h1, hsz, hcl⟩ := xe.flds
                refine item_out_ctx (s := { s with heap := h, toks := tk }) (e1 := e) (by rfl) (N _ (.head _)).1 hd (hcl rfl) (F.lst hl2) rfl (by rw [List.size_toArray, hv2]; exact Nat.le_refl _) (lt62 hz2) fun h' tk' e' hx' => C.new e' _ _ _ sl₅ h' tk' ⟨Fs₅, F, fun q hq => N q (.tail _ (.tail _ hq)), hlL _ _ _ _, ?_⟩ hx'
                rw [dw_all hall] at r1 r2
                obtain ⟨z1, z2⟩ := dend_of (i := xs.length) (j := ys.length) hs1 hs2 hM hU (R := diffF xs ys) (by rw [List.drop_length, List.drop_length]; exact r1) (by rw [List.drop_length, List.drop_length]; exact r2) (.inr (Nat.le_refl _))
                exact ⟨xs.length, ys.length, _, _, _, _, ⟨_, _, Has.cons rfl (Has.cons rfl (Has.cons rfl (Has.cons rfl (Has.cons rfl (Has.cons rfl Has.nil)))))⟩, rfl, z1, z2, le100 lmi, le100 lun⟩
              · rw [dw_of hkk hlt hall hnx] at r1 r2
                repeat (refine wpAny_execs_nil ?_)
                refine ⟨rfl, C.passed e T₅ oe oT .none true _ [(lu, listOf (List.toArray un) n2), (lm, listOf (List.toArray mi) n1)] sl₅ h tk _ _ xe F N (fun q hq => (hap q hq).2.1) hTL ?_⟩
                obtain ⟨z1, z2⟩ := dend_of (i := xs.length) (j := k'') hs1 hs2 hM hU (R := diffF xs ys) (by rw [List.drop_length]; exact r1) (by rw [List.drop_length]; exact r2) (.inl (Nat.le_refl _))
                exact ⟨xs.length, k'', _, _, _, _, ⟨_, _, Has.cons rfl (Has.cons rfl (Has.cons rfl (Has.cons rfl (Has.cons rfl (Has.cons rfl Has.nil)))))⟩, rfl, z1, z2, le100 lmi, le100 lun⟩
        · (repeat' (first | (k_unfold; (try dsimp only)) | (walk1; (all_goals try dsimp only)) | (dsimp only; walk1)))
          unfold Hold
          rename_i F₄ N₄
          refine subscriptTail_builtin (F₄.lst hl2).typeIs slot_list_getitem.lookup (item_out_plain (by exact hA.handled) (F₄.lst hl2) rfl (by rw [List.size_toArray, hv2]; exact Nat.not_lt.mp cj) (Nat.lt_of_le_of_lt hj (lt62 hz2)) fun h' tk' e hx' => C.new e _ _ _ sl h' tk' ⟨Fs₃, F₄, N₄, hlL _ _ _ _, ?_⟩ (NewC.of hx')) (by with_unfolding_all rfl) (by intro _; with_unfolding_all rfl)
          obtain ⟨z1, z2⟩ := dend_of (i := i) (j := j) hs1 hs2 hM hU (R := diffF xs ys) r1 r2 (.inr (Nat.not_lt.mp cj))
          exact ⟨i, j, _, _, _, _, ⟨_, _, Has.cons rfl (Has.cons rfl (Has.cons rfl (Has.cons rfl (Has.cons rfl (Has.cons rfl Has.nil)))))⟩, rfl, z1, z2, le100 lmi, le100 lun⟩
      · (repeat' (first | (k_unfold; (try dsimp only)) | (walk1; (all_goals try dsimp only)) | (dsimp only; walk1)))
        unfold Hold
        refine subscriptTail_builtin (F₃.lst hl1).typeIs slot_list_getitem.lookup (item_out_plain (by exact hA.handled) (F₃.lst hl1) rfl (by rw [List.size_toArray, hv1]; exact Nat.not_lt.mp ci) (Nat.lt_of_le_of_lt hi (lt62 hz1)) fun h' tk' e hx' => C.new e _ _ _ sl h' tk' ⟨Fs₃, F₃, N₃, hlL _ _ _ _, ?_⟩ (NewC.of hx')) (by with_unfolding_all rfl) (by intro _; with_unfolding_all rfl)
        obtain ⟨z1, z2⟩ := dend_of (i := i) (j := j) hs1 hs2 hM hU (R := diffF xs ys) r1 r2 (.inl (Nat.not_lt.mp ci))
        exact ⟨i, j, _, _, _, _, ⟨_, _, Has.cons rfl (Has.cons rfl (Has.cons rfl (Has.cons rfl (Has.cons rfl (Has.cons rfl Has.nil)))))⟩, rfl, z1, z2, le100 lmi, le100 lun⟩
  · exact hlL _ _ [] []
end Mine
end
section
open PySem PySem.W PySem.Calls PyProof.Rows
set_option maxRecDepth 100000
set_option maxHeartbeats 4000000
namespace Mine
/-- a tree of questions, answered by lt; every question within n -/
noncomputable def TW {α : Type} (lt : Nat → Nat → Bool) (n : Nat) : KasT α → (α → Prop) → Prop
  | .ret a, Q => Q a
  | .ask i j k, Q => i < n ∧ j < n ∧ TW lt n (k (lt i j)) Q
theorem TW.bind {α β : Type} {lt : Nat → Nat → Bool} {n : Nat} {g : α → KasT β} {Q : β → Prop} : ∀ {t : KasT α}, TW lt n t (fun a => TW lt n (g a) Q) → TW lt n (t.bind g) Q
  | .ret _, h => h
  | .ask i j k, h => ⟨h.1, h.2.1, TW.bind (t := k (lt i j)) h.2.2⟩
theorem TW.mono {α : Type} {lt : Nat → Nat → Bool} {n : Nat} {Q Q' : α → Prop} (hq : ∀ a, Q a → Q' a) : ∀ {t : KasT α}, TW lt n t Q → TW lt n t Q'
  | .ret _, h => hq _ h
  | .ask i j k, h => ⟨h.1, h.2.1, TW.mono hq (t := k (lt i j)) h.2.2⟩
theorem TW.wp {α : Type} {lt : Nat → Nat → Bool} {n : Nat} {Q : α → Prop} {cmp : Nat → Nat → (Bool → Shared → Prop) → Shared → Prop} {s : Shared} {R : α → Shared → Prop} (hc : ∀ i j C, i < n → j < n → C (lt i j) s → cmp i j C s) (hr : ∀ a, Q a → R a s) :
    ∀ {t : KasT α}, TW lt n t Q → t.kasWp cmp R s
  | .ret _, h => hr _ h
  | .ask i j k, h => hc i j _ h.1 h.2.1 (TW.wp hc hr (t := k (lt i j)) h.2.2)
section
variable (f : Nat → List Int)
noncomputable def gk (p : Array Nat) (k : Nat) : List Int := f (p.getD k 0)
noncomputable def Up (p : Array Nat) (k : Nat) : Prop := ∀ i j, i ≤ j → j < k → ¬ gk f p j < gk f p i
noncomputable def Dn (p : Array Nat) (k : Nat) : Prop := ∀ i j, i ≤ j → j < k → ¬ gk f p i < gk f p j
noncomputable def ltf (i j : Nat) : Bool := decide (f i < f j)
variable {f}
theorem nlt_trans {a b c : List Int} (h1 : ¬ b < a) (h2 : ¬ c < b) : ¬ c < a := fun h => h1 (List.lt_of_le_of_lt (List.not_lt.mp h2) h)
theorem Up.snoc {p : Array Nat} {k : Nat} (h : Up f p k) (h1 : 1 ≤ k) (hl : ¬ gk f p k < gk f p (k - 1)) : Up f p (k + 1) := fun i j hij hj => by
  rcases Nat.lt_or_eq_of_le (Nat.lt_succ_iff.mp hj) with hj | rfl
  · exact h i j hij hj
  · rcases Nat.lt_or_eq_of_le hij with hij | rfl
    · exact nlt_trans (h i (j - 1) (by omega) (by omega)) hl
    · exact List.lt_irrefl _
theorem Dn.snoc {p : Array Nat} {k : Nat} (h : Dn f p k) (h1 : 1 ≤ k) (hl : ¬ gk f p (k - 1) < gk f p k) : Dn f p (k + 1) := fun i j hij hj => by
  rcases Nat.lt_or_eq_of_le (Nat.lt_succ_iff.mp hj) with hj | rfl
  · exact h i j hij hj
  · rcases Nat.lt_or_eq_of_le hij with hij | rfl
    · exact nlt_trans hl (h i (j - 1) (by omega) (by omega))
    · exact List.lt_irrefl _
/-- the order of the places: a permutation of range n -/
noncomputable def Pm (n : Nat) (p : Array Nat) : Prop := p.Perm (List.toArray (List.range n))
theorem Pm.size {n : Nat} {p : Array Nat} (h : Pm n p) : p.size = n := by rw [h.size_eq]; simp
theorem Pm.lt {n : Nat} {p : Array Nat} (h : Pm n p) (hn : 0 < n) (k : Nat) : p.getD k 0 < n := by
  by_cases hk : k < p.size
  · have : p.getD k 0 = p[k] := by simp [Array.getD, hk]
    rw [this]
    have hm : p[k] ∈ (List.toArray (List.range n)) := h.mem_iff.mp (Array.getElem_mem hk)
    simpa using hm
  · have : p.getD k 0 = 0 := by simp [Array.getD, hk]
    rw [this]; exact hn
theorem Pm.rev {n : Nat} {p : Array Nat} (h : Pm n p) (i j : Nat) : Pm n (kas_rev p i j) := Array.Perm.trans (mirror_perm p i j _) h
theorem Pm.bub {n : Nat} {p : Array Nat} (h : Pm n p) (i j : Nat) : Pm n (bubble p i j) := Array.Perm.trans (bubble_perm p i j) h
theorem asc_ok {n : Nat} (hn : 0 < n) {p : Array Nat} (hp : Pm n p) : ∀ (fu m : Nat), 1 ≤ m → Up f p m → TW (ltf f) n (kas_asc p fu m) (fun r => m ≤ r ∧ r ≤ m + fu ∧ Up f p r ∧ (r < m + fu → gk f p r < gk f p (r - 1)))
  | 0, m, _, hu => ⟨Nat.le_refl _, Nat.le_refl _, hu, fun h => absurd h (Nat.lt_irrefl _)⟩
  | fu + 1, m, h1, hu => by
    refine ⟨hp.lt hn _, hp.lt hn _, ?_⟩
    by_cases hc : gk f p m < gk f p (m - 1)
    · rw [show ltf f (p.getD m 0) (p.getD (m - 1) 0) = true from decide_eq_true hc]
      show TW _ _ (KasT.ret m) _
      exact ⟨Nat.le_refl _, by omega, hu, fun _ => hc⟩
    · rw [show ltf f (p.getD m 0) (p.getD (m - 1) 0) = false from decide_eq_false hc]
      show TW _ _ (kas_asc p fu (m + 1)) _
      refine TW.mono (fun r hr => ?_) (asc_ok hn hp fu (m + 1) (by omega) (hu.snoc h1 hc))
      exact ⟨by omega, by omega, hr.2.2.1, fun h => hr.2.2.2 (by omega)⟩
theorem gk_rev {n : Nat} {p : Array Nat} (hp : Pm n p) {i j : Nat} (hj : j ≤ n) (k : Nat) : gk f (kas_rev p i j) k = if i ≤ k ∧ k < j then gk f p (i + j - 1 - k) else gk f p k := by
  have e := getElem?_mirror (xs := p) (i := i) (j := j) (by rw [hp.size]; exact hj) ((j - i) / 2) (by omega) k
  have g : ∀ (q : Array Nat) k, q.getD k 0 = (q[k]?).getD 0 := fun q k => Array.getD_eq_getD_getElem? ..
  unfold gk kas_rev
  rw [g, e]
  by_cases hk : i ≤ k ∧ k < j
  · rw [if_pos hk]
    split
    · rw [g]
    · have : i + j - 1 - k = k := by omega
      rw [this, g]
  · rw [if_neg hk, if_neg (by omega), g]
theorem gk_same {n : Nat} {p : Array Nat} (hp : Pm n p) {i j : Nat} (hj : j ≤ n) (he : ∀ k, i ≤ k → k < j → gk f p k = gk f p (j - 1)) (k : Nat) : gk f (kas_rev p i j) k = gk f p k := by
  rw [gk_rev hp hj]
  split
  · rename_i h
    rw [he _ (by omega) (by omega), he k h.1 h.2]
  · rfl
theorem Dn.congr {p q : Array Nat} {k : Nat} (e : ∀ x, gk f q x = gk f p x) (h : Dn f p k) : Dn f q k := fun i j a b => by rw [e, e]; exact h i j a b
theorem Up.congr {p q : Array Nat} {k : Nat} (e : ∀ x, gk f q x = gk f p x) (h : Up f p k) : Up f q k := fun i j a b => by rw [e, e]; exact h i j a b
theorem llt {a b c : List Int} (h : a < b) (h1 : ¬ c < b) : a < c := Classical.byContradiction fun hn => h1 (List.lt_of_le_of_lt (List.not_lt.mp hn) h)
theorem nlt_of_lt {a b : List Int} (h : a < b) : ¬ b < a := fun h' => List.lt_irrefl _ (List.lt_trans h h')
noncomputable def EqR (f : Nat → List Int) (p : Array Nat) (m q : Nat) : Prop := q + 1 ≤ m ∧ ∀ k, m - (q + 1) ≤ k → k < m → gk f p k = gk f p (m - 1)
theorem desc_ok {n : Nat} (hn : 0 < n) : ∀ (fu : Nat) (p : Array Nat) (m q : Nat), Pm n p → 1 ≤ m → m + fu ≤ n → Dn f p m → EqR f p m q →
    TW (ltf f) n (kas_desc fu p m q) (fun r => Pm n r.1 ∧ m ≤ r.2.1 ∧ r.2.1 ≤ m + fu ∧ Dn f r.1 r.2.1 ∧ EqR f r.1 r.2.1 r.2.2)
  | 0, p, m, q, hp, h1, hm, hd, he => ⟨hp, Nat.le_refl _, Nat.le_refl _, hd, he⟩
  | fu + 1, p, m, q, hp, h1, hm, hd, he => by
    refine ⟨hp.lt hn _, hp.lt hn _, ?_⟩
    by_cases hc : gk f p m < gk f p (m - 1)
    · rw [show ltf f (p.getD m 0) (p.getD (m - 1) 0) = true from decide_eq_true hc]
      show TW _ _ (if q > 0 then kas_desc fu (kas_rev p (m - (q + 1)) m) (m + 1) 0 else kas_desc fu p (m + 1) 0) _
      have hd' : Dn f p (m + 1) := hd.snoc h1 (nlt_of_lt hc)
      split
      · have e := gk_same (f := f) hp (i := m - (q + 1)) (j := m) (by omega) he.2
        refine TW.mono (fun r hr => ⟨hr.1, by omega, by omega, hr.2.2.2⟩) (desc_ok hn fu _ (m + 1) 0 (hp.rev _ _) (by omega) (by omega) (hd'.congr e) ⟨by omega, fun k a b => by rw [show k = m + 1 - 1 from by omega]⟩)
      · refine TW.mono (fun r hr => ⟨hr.1, by omega, by omega, hr.2.2.2⟩) (desc_ok hn fu p (m + 1) 0 hp (by omega) (by omega) hd' ⟨by omega, fun k a b => by rw [show k = m + 1 - 1 from by omega]⟩)
    · rw [show ltf f (p.getD m 0) (p.getD (m - 1) 0) = false from decide_eq_false hc]
      refine ⟨hp.lt hn _, hp.lt hn _, ?_⟩
      by_cases hb : gk f p (m - 1) < gk f p m
      · rw [show ltf f (p.getD (m - 1) 0) (p.getD m 0) = true from decide_eq_true hb]
        exact ⟨hp, Nat.le_refl _, by show m ≤ m + (fu + 1); omega, hd, he⟩
      · rw [show ltf f (p.getD (m - 1) 0) (p.getD m 0) = false from decide_eq_false hb]
        show TW _ _ (kas_desc fu p (m + 1) (q + 1)) _
        have heq : gk f p m = gk f p (m - 1) := List.le_antisymm (List.not_lt.mp hb) (List.not_lt.mp hc)
        refine TW.mono (fun r hr => ⟨hr.1, by omega, by omega, hr.2.2.2⟩) (desc_ok hn fu p (m + 1) (q + 1) hp (by omega) (by omega) (hd.snoc h1 hb) ⟨by have := he.1; omega, fun k a b => ?_⟩)
        rw [show m + 1 - 1 = m from by omega]
        rcases Nat.lt_or_eq_of_le (Nat.lt_succ_iff.mp b) with h | h
        · rw [he.2 k (by omega) h, heq]
        · rw [h]
theorem tail3_ok {n : Nat} (hn : 0 < n) {p : Array Nat} {m : Nat} (hp : Pm n p) (h1 : 1 ≤ m) (hm : m ≤ n) (hd : Dn f p m) :
    TW (ltf f) n (kas_tail3 m n p) (fun r => Pm n r.2 ∧ 1 ≤ r.1 ∧ r.1 ≤ n ∧ Up f r.2 r.1) := by
  unfold kas_tail3
  refine TW.bind (TW.mono (fun r hr => ?_) (asc_ok hn (hp.rev 0 m) (n - m) m h1 fun i j a b => ?_))
  · exact ⟨hp.rev 0 m, by omega, by omega, hr.2.2.1⟩
  · rw [gk_rev hp hm, gk_rev hp hm, if_pos (by omega), if_pos (by omega)]
    exact hd _ _ (by omega) (by omega)
theorem descPart_ok {n : Nat} (hn : 0 < n) {p : Array Nat} {m : Nat} (hp : Pm n p) (h1 : 1 ≤ m) (hm : m + 1 ≤ n) (hd : Dn f p (m + 1)) :
    TW (ltf f) n (kas_descPart m n p) (fun r => Pm n r.2 ∧ 1 ≤ r.1 ∧ r.1 ≤ n ∧ Up f r.2 r.1) := by
  unfold kas_descPart
  refine TW.bind (TW.mono (fun r hr => ?_) (desc_ok hn (n - (m + 1)) p (m + 1) 0 hp (by omega) (by omega) hd ⟨by omega, fun k a b => by rw [show k = m + 1 - 1 from by omega]⟩))
  obtain ⟨hp', a1, a2, hd', he'⟩ := hr
  split
  · exact tail3_ok hn (hp'.rev _ _) (by omega) (by omega) (hd'.congr (gk_same hp' (by omega) he'.2))
  · exact tail3_ok hn hp' (by omega) (by omega) hd'
theorem count_ok {n : Nat} (hn : 0 < n) {p : Array Nat} (hp : Pm n p) : TW (ltf f) n (kas_count n p) (fun r => Pm n r.2 ∧ 1 ≤ r.1 ∧ r.1 ≤ n ∧ Up f r.2 r.1) := by
  unfold kas_count
  refine TW.bind (TW.mono (fun m hm => ?_) (asc_ok hn hp (n - 1) 1 (Nat.le_refl _) fun i j a b => by rw [show i = j from by omega]; exact List.lt_irrefl _))
  obtain ⟨a1, a2, hu, hlast⟩ := hm
  split
  · exact ⟨hp, a1, by omega, hu⟩
  · rename_i hne
    have hlt : m < n := by
      have : m ≠ n := by simpa using hne
      omega
    have hl := hlast (by omega)
    split
    · rename_i hgt
      refine ⟨hp.lt hn _, hp.lt hn _, ?_⟩
      by_cases hc : gk f p 0 < gk f p (m - 1)
      · rw [show ltf f (p.getD 0 0) (p.getD (m - 1) 0) = true from decide_eq_true hc]
        exact ⟨hp, a1, by omega, hu⟩
      · rw [show ltf f (p.getD 0 0) (p.getD (m - 1) 0) = false from decide_eq_false hc]
        show TW _ _ (kas_descPart m n (kas_rev p 0 m)) _
        have heq : ∀ k, 0 ≤ k → k < m → gk f p k = gk f p (m - 1) := fun k _ hk => by
          refine List.le_antisymm (List.not_lt.mp (hu k (m - 1) (by omega) (by omega))) (List.not_lt.mp ?_)
          exact nlt_trans hc (hu 0 k (by omega) hk) |> fun h => h
        have e := gk_same (f := f) hp (i := 0) (j := m) (by omega) heq
        refine descPart_ok hn (hp.rev _ _) a1 (by omega) (Dn.congr e ?_)
        refine Dn.snoc (fun i j a b => ?_) a1 (nlt_of_lt hl)
        rw [heq i (by omega) (by omega), heq j (by omega) b]
        exact List.lt_irrefl _
    · have hm1 : m = 1 := by omega
      subst hm1
      refine descPart_ok hn hp a1 (by omega) (Dn.snoc (fun i j a b => ?_) a1 (nlt_of_lt hl))
      rw [show i = j from by omega]; exact List.lt_irrefl _
theorem place_ok {n : Nat} (hn : 0 < n) {p : Array Nat} (hp : Pm n p) {k : Nat} (hu : Up f p k) : ∀ (fu l r : Nat), l ≤ r → r ≤ k → r - l ≤ fu → (∀ x, x < l → ¬ gk f p k < gk f p x) → (∀ x, r ≤ x → x < k → gk f p k < gk f p x) →
    TW (ltf f) n (kas_place p k fu l r) (fun z => z ≤ k ∧ (∀ x, x < z → ¬ gk f p k < gk f p x) ∧ (∀ x, z ≤ x → x < k → gk f p k < gk f p x))
  | 0, l, r, hlr, hr, hf, hlo, hhi => ⟨by omega, hlo, fun x a b => hhi x (by omega) b⟩
  | fu + 1, l, r, hlr, hr, hf, hlo, hhi => by
    unfold kas_place
    split
    · exact ⟨by omega, hlo, fun x a b => hhi x (by omega) b⟩
    · rename_i hlt
      refine ⟨hp.lt hn _, hp.lt hn _, ?_⟩
      by_cases hc : gk f p k < gk f p ((l + r) / 2)
      · rw [show ltf f (p.getD k 0) (p.getD ((l + r) / 2) 0) = true from decide_eq_true hc]
        show TW _ _ (kas_place p k fu l ((l + r) / 2)) _
        refine place_ok hn hp hu fu l ((l + r) / 2) (by omega) (by omega) (by omega) hlo fun x a b => ?_
        exact llt hc (hu _ x a b)
      · rw [show ltf f (p.getD k 0) (p.getD ((l + r) / 2) 0) = false from decide_eq_false hc]
        show TW _ _ (kas_place p k fu ((l + r) / 2 + 1) r) _
        refine place_ok hn hp hu fu ((l + r) / 2 + 1) r (by omega) hr (by omega) (fun x a => ?_) hhi
        exact nlt_trans (hu x ((l + r) / 2) (by omega) (by omega)) hc
theorem gk_bub {n : Nat} {p : Array Nat} (hp : Pm n p) {k d : Nat} (hk : k < n) (hd : d ≤ k) (x : Nat) : gk f (bubble p k d) x = if x = k - d then gk f p k else if k - d < x ∧ x ≤ k then gk f p (x - 1) else gk f p x := by
  have e := getElem?_bubble (xs := p) (src := k) (by rw [hp.size]; exact hk) d hd x
  have g : ∀ (q : Array Nat) k, q.getD k 0 = (q[k]?).getD 0 := fun q k => Array.getD_eq_getD_getElem? ..
  unfold gk
  rw [g, e]
  split
  · rw [g]
  · split <;> rw [g]
theorem bin_ok {n : Nat} (hn : 0 < n) : ∀ (fu : Nat) (p : Array Nat) (k : Nat), Pm n p → 1 ≤ k → k + fu = n → Up f p k → TW (ltf f) n (kas_bin fu p k) (fun q => Pm n q ∧ Up f q n)
  | 0, p, k, hp, h1, hk, hu => ⟨hp, by rw [show n = k from by omega]; exact hu⟩
  | fu + 1, p, k, hp, h1, hk, hu => by
    unfold kas_bin
    refine TW.bind (TW.mono (fun z hz => ?_) (place_ok hn hp hu k 0 k (Nat.zero_le _) (Nat.le_refl _) (by omega) (fun x h => absurd h (Nat.not_lt_zero _)) fun x a b => absurd b (Nat.not_lt.2 a)))
    obtain ⟨hz1, hlo, hhi⟩ := hz
    refine bin_ok hn fu _ (k + 1) (hp.bub _ _) (by omega) (by omega) fun i j a b => ?_
    rw [gk_bub hp (by omega) (by omega), gk_bub hp (by omega) (by omega), show k - (k - z) = z from by omega]
    rcases Nat.lt_trichotomy j z with hj | hj | hj
    · rw [if_neg (by omega), if_neg (by omega), if_neg (by omega), if_neg (by omega)]
      exact hu i j a (by omega)
    · rw [if_pos hj]
      rcases Nat.lt_or_eq_of_le a with hi | hi
      · rw [if_neg (by omega), if_neg (by omega)]
        exact hlo i (by omega)
      · rw [if_pos (by omega)]; exact List.lt_irrefl _
    · rw [if_neg (by omega), if_pos (by omega)]
      rcases Nat.lt_trichotomy i z with hi | hi | hi
      · rw [if_neg (by omega), if_neg (by omega)]
        exact hu i (j - 1) (by omega) (by omega)
      · rw [if_pos hi]
        exact nlt_of_lt (hhi (j - 1) (by omega) (by omega))
      · rw [if_neg (by omega), if_pos (by omega)]
        exact hu (i - 1) (j - 1) (by omega) (by omega)
theorem sort_ok {n : Nat} (hn : 0 < n) : TW (ltf f) n (kas_sort n) (fun q => Pm n q ∧ Up f q n) := by
  unfold kas_sort
  refine TW.bind (TW.mono (fun r hr => ?_) (count_ok hn (p := List.toArray (List.range n)) (Array.Perm.refl _)))
  obtain ⟨hp, a1, a2, hu⟩ := hr
  split
  · rename_i hlt
    rw [show max r.1 1 = r.1 from by omega]
    exact bin_ok hn _ _ _ hp a1 (by omega) hu
  · exact ⟨hp, by rw [show n = r.1 from by omega]; exact hu⟩
end
end Mine
end
section
open PySem PySem.W PySem.Calls PyProof.Rows
set_option maxRecDepth 100000
set_option maxHeartbeats 4000000
namespace Mine
theorem lt_keys {prog : Program} {w : World} {A : Around} {E : Value → Shared → Prop} {s : Shared} {a b : Addr} {xs ys : List Int} {Q : Bool → Shared → Prop}
    (hl : IntsAt s.heap a xs) (hb : IntsAt s.heap b ys) (hu : A.units < cLine) (h : Q (decide (xs < ys)) s) : wpAny (model prog w) A (keyLt' oneType' (.ref a) (.ref b)) Q E s := by
  obtain ⟨items, ⟨⟨cls, dd, data, sl⟩, ho, hc, n, hd⟩, hi⟩ := hl
  obtain ⟨items2, ⟨⟨cls2, dd2, data2, sl2⟩, ho2, hc2, n2, hd2⟩, hi2⟩ := hb
  simp only at hc hd hc2 hd2
  subst hc hd hc2 hd2
  rw [keyLt'_oneType, oneLt'_eq]
  simp only [if_true]
  refine wpAny_bind (wpAny_cRoomFor hu ?_)
  refine wpAny_bind (wpAny_callSpecialIfBound?_slot (T := "list") ⟨_, ho, rfl⟩ F.slot_list_lt (call_meets F.slot_list_lt ⟨_, ho, rfl⟩ F.entry_list_lt (F.args_list_lt_2 _ _) (list_lt a b items items2 n n2 dd dd2 sl sl2 xs ys hi hi2) ⟨ho, ho2, ?_⟩))
  exact wpAny_truthy_bool h
section
variable {prog : Program} {w : World} {A : Around} {E : Value → Shared → Prop} {s : Shared} {h₀ : Heap} {L a kS : Addr} {m : Str → Option Value} {news : List (Addr × Obj)} {vs kv : List Value} {xss : List (List Int)} {e e1 : Nat} {P : PySem.Fin → Shared → Prop}
theorem srt_end (hu : A.units < cLine) (F : Fr h₀ L s.heap m) (N : News h₀ L s.heap (news ++ [(kS, seqObj "list" kv.toArray e), (a, seqObj "list" #[] e1)])) (hka : kS ≠ a) (hnk : ∀ p ∈ news, p.1 ≠ kS) (hna : ∀ p ∈ news, p.1 ≠ a)
    (hk : Paired (KeyIs s.heap) kv xss) (hlen : kv.length = vs.length) (h2 : 2 ≤ vs.length) (h64 : vs.length < 64)
    (h : ∀ h' tk p c, Pm vs.length p → Up (fun i => xss.getD i []) p vs.length → Fr h₀ L h' m → News h₀ L h' ((a, seqObj "list" (List.toArray (p.toList.map fun i => vs.getD i Value.none)) c) :: news) → P (.done (.ret .none)) { s with heap := h', toks := tk }) :
    wpAny (model prog w) A (ksk_end a false vs.toArray e1 (.ref kS) kv.toArray) P E s := by
  have hzs : (kv.toArray.zip vs.toArray).size = vs.length := by rw [Array.size_zip, List.size_toArray, List.size_toArray, hlen, Nat.min_self]
  have hxl := paired_len hk
  unfold ksk_end
  try dsimp only
  have hn2 : ¬ vs.toArray.size < 2 := by rw [List.size_toArray]; omega
  rw [if_neg (by decide), if_neg hn2, if_neg hn2]
  refine wpAny_bind (kas_kind (T := .type "list") (by omega) (fun v hv => ?_) (by decide) (by decide) ?_)
  · obtain ⟨i, hi, hv⟩ := List.mem_iff_getElem.mp hv
    obtain ⟨x, _, b, rfl, us, ⟨o, ho, hc, _⟩, _⟩ := paired_get hk i v (by rw [List.getElem?_eq_getElem hi, hv])
    exact hc ▸ (Looks.ld ho).andThen .now
  have est : SortSt.mk' oneType' (kv.toArray.zip vs.toArray) #[] 7 none = kas_st oneType' (kv.toArray.zip vs.toArray) (List.toArray (List.range vs.length)) := by
    have e := kas_range (kv.toArray.zip vs.toArray)
    rw [hzs] at e
    show SortSt.mk' oneType' (kv.toArray.zip vs.toArray) #[] 7 none = SortSt.mk' oneType' ((List.toArray (List.range vs.length)).map (kas_item (kv.toArray.zip vs.toArray))) #[] 7 none
    rw [e]
  have hitem : ∀ i, i < vs.length → ∃ k v, kv[i]? = some k ∧ vs[i]? = some v ∧ kas_item (kv.toArray.zip vs.toArray) i = (k, v) := fun i hi => by
    refine ⟨kv[i]'(by omega), vs[i], List.getElem?_eq_getElem (by omega), List.getElem?_eq_getElem hi, ?_⟩
    unfold kas_item
    rw [Array.getD_eq_getD_getElem?, Array.getElem?_eq_getElem (by rw [hzs]; exact hi)]
    simp
  have ask : (kas_sort vs.length).kasWp (kas_cmp prog w A oneType' (kv.toArray.zip vs.toArray)) (fun p s' => s' = s ∧ Pm vs.length p ∧ Up (fun i => xss.getD i []) p vs.length) s := by
    refine TW.wp (fun i j C hi hj hC => ?_) (fun p hp => ⟨rfl, hp⟩) (sort_ok (f := fun i => xss.getD i []) (by omega))
    obtain ⟨k1, v1, e1, _, e2⟩ := hitem i hi
    obtain ⟨k2, v2, e3, _, e4⟩ := hitem j hj
    obtain ⟨x1, g1, b1, rfl, q1⟩ := paired_get hk i k1 e1
    obtain ⟨x2, g2, b2, rfl, q2⟩ := paired_get hk j k2 e3
    unfold kas_cmp
    rw [e2, e4]
    refine lt_keys q1 q2 hu ?_
    have : ltf (fun i => xss.getD i []) i j = decide (x1 < x2) := by
      unfold ltf
      simp only [List.getD_eq_getElem?_getD, g1, g2, Option.getD_some]
    rw [← this]; exact hC
  have run := kas_runs (E := E) (Q := fun _ st' s' => ∃ p : Array Nat, p.size = vs.length ∧ arrOf st' = p.map (kas_item (kv.toArray.zip vs.toArray)) ∧ failedOf st' = none ∧ s' = s ∧ Pm vs.length p ∧ Up (fun i => xss.getD i []) p vs.length)
    h2 h64 (fun p' st' s' a1 a2 a3 a4 => ⟨p', a1, a2, a3, a4⟩) ask
  rw [← est] at run
  refine wpAny_bind (wpAny_mono run ?_ fun _ _ e => e)
  rintro ⟨⟨⟩, st'⟩ s' ⟨p, hp, har, hf, rfl, hPm, hUp⟩
  dsimp only
  have hout : (arrOf st').map (·.2) = List.toArray (p.toList.map fun i => vs.getD i Value.none) := by
    apply Array.toList_inj.mp
    rw [har, Array.map_map, Array.toList_map]
    refine List.map_congr_left fun i hi => ?_
    have hi' : i < vs.length := by
      have : i ∈ (List.toArray (List.range vs.length)) := hPm.mem_iff.mp (Array.mem_toList_iff.mp hi)
      simpa using this
    obtain ⟨k, v, _, e2, e3⟩ := hitem i hi'
    show (kas_item (kv.toArray.zip vs.toArray) i).2 = _
    rw [e3, List.getD_eq_getElem?_getD, e2]; rfl
  have hsz : (List.toArray (p.toList.map fun i => vs.getD i Value.none)).size = vs.length := by rw [List.size_toArray, List.length_map, Array.length_toList, hp]
  have nk := N (kS, seqObj "list" kv.toArray e) (List.mem_append_right _ (.head _))
  have na := N (a, seqObj "list" #[] e1) (List.mem_append_right _ (.tail _ (.head _)))
  have Nn : News h₀ L s'.heap news := fun p hp => N p (List.mem_append_left _ hp)
  have s1 := Heap.SameBut.update s'.heap kS (Obj.mapSeq fun _ => (#[] : Array Value))
  have na1 : (s'.heap.update kS (Obj.mapSeq fun _ => (#[] : Array Value))).get? a = some (seqObj "list" #[] e1) := (s1.2 a hka.symm).trans na.1
  have s2 := Heap.SameBut.update (s'.heap.update kS (Obj.mapSeq fun _ => (#[] : Array Value))) a (Obj.mapSeq fun _ => List.toArray (p.toList.map fun i => vs.getD i Value.none))
  obtain ⟨c2, hc2⟩ : ∃ c2, ((s'.heap.update kS (Obj.mapSeq fun _ => (#[] : Array Value))).update a (Obj.mapSeq fun _ => List.toArray (p.toList.map fun i => vs.getD i Value.none))).get? a = some (seqObj "list" (List.toArray (p.toList.map fun i => vs.getD i Value.none)) c2) :=
    ⟨_, get?_update_seq na1 fun _ => List.toArray (p.toList.map fun i => vs.getD i Value.none)⟩
  have N2 := ksk_news (ksk_news Nn s1 hnk) s2 hna
  unfold ksk_tail
  try dsimp only
  rw [hout]
  refine wpAny_bind (listUpdate_at nk.1 rfl ?_ (by rw [List.size_toArray, hlen, sizeLine_eq]; omega) (Nat.zero_le _))
  refine wpAny_bind (wpAny_letGo ?_)
  refine wpAny_bind (seqEpoch_at na1 rfl ?_)
  refine wpAny_bind (listUpdate_at na1 rfl ?_ (Nat.zero_le _) (Nat.le_trans (Nat.le_of_eq hsz) (by rw [sizeLine_eq]; omega)))
  rw [hf]
  simp only [bne_self_eq_false, Bool.false_eq_true, if_false]
  refine wpAny_pure (h _ _ p c2 hPm hUp (ksk_fr (ksk_fr F s1 nk.2.1 nk.2.2) s2 na.2.1 na.2.2) (fun p hp => ?_))
  rcases List.mem_cons.mp hp with rfl | hp
  · exact ⟨hc2, na.2⟩
  · exact N2 p hp
end
end Mine
end
section
open PySem PySem.W PySem.Calls PyProof.Rows
set_option maxRecDepth 100000
set_option maxHeartbeats 4000000
namespace Mine
section
variable {prog : Program} {w : World} {A : Around} {E : Value → Shared → Prop} {s : Shared} {h₀ : Heap} {L a kS : Addr} {m : Str → Option Value} {news : List (Addr × Obj)} {vs kv : List Value} {xss : List (List Int)} {e e1 : Nat} {P : PySem.Fin → Shared → Prop} {f : Value}
noncomputable def KCall (prog : Program) (w : World) (A : Around) (h₀ : Heap) (L : Addr) (m : Str → Option Value) (news : List (Addr × Obj)) (f : Value) (vs kv : List Value) (s : Shared) : Prop :=
  ∀ (i : Nat) (v k : Value), vs[i]? = some v → kv[i]? = some k → ∀ (h : Heap) (tk : Nat) (own : List (Addr × Obj)), Fr h₀ L h m → News h₀ L h (news ++ own) →
    wpAny (model prog w) A (call f [v]) (fun r s₂ => ∃ h' tk', r = k ∧ s₂ = { s with heap := h', toks := tk' } ∧ Fr h₀ L h' m ∧ News h₀ L h' (news ++ own)) (fun _ _ => False) { s with heap := h, toks := tk }
theorem srt_rest (hu : A.units < cLine) (F : Fr h₀ L s.heap m) (N : News h₀ L s.heap (news ++ [(kS, seqObj "list" #[] 0), (a, seqObj "list" #[] e1)])) (hka : kS ≠ a) (hnk : ∀ p ∈ news, p.1 ≠ kS) (hna : ∀ p ∈ news, p.1 ≠ a)
    (hk : ∀ h, Fr h₀ L h m → News h₀ L h news → Paired (KeyIs h) kv xss) (hlen : kv.length = vs.length) (h2 : 2 ≤ vs.length) (h64 : vs.length < 64) (turn : KCall prog w A h₀ L m news f vs kv s)
    (h : ∀ h' tk p c, Pm vs.length p → Up (fun i => xss.getD i []) p vs.length → Fr h₀ L h' m → News h₀ L h' ((a, seqObj "list" (List.toArray (p.toList.map fun i => vs.getD i Value.none)) c) :: news) → P (.done (.ret .none)) { s with heap := h', toks := tk }) :
    wpAny (model prog w) A (ksk_rest a f false vs.toArray e1 (.ref kS)) P E s := by
  unfold ksk_rest
  refine wpAny_bind (wpAny_rule ?_)
  first
    | rw [List.forIn_toArray]
    | (rw [← Array.forIn_toList]; simp only [List.toList_toArray])
    | rw [← Array.forIn_toList]
  refine wpAny_bind (ksk_fold (fun i s' => ∃ h' tk e, s' = { s with heap := h', toks := tk } ∧ Fr h₀ L h' m ∧ News h₀ L h' (news ++ [(kS, seqObj "list" (kv.take i).toArray e), (a, seqObj "list" #[] e1)])) vs 0 s
    ⟨s.heap, s.toks, 0, rfl, F, N⟩ ?step ?done)
  case step =>
    rintro j x s' hx ⟨h', tk, e, rfl, F', N'⟩
    simp only [Nat.zero_add] at N' ⊢
    have hj : j < vs.length := (List.getElem?_eq_some_iff.mp hx).1
    obtain ⟨k, hkj⟩ : ∃ k, kv[j]? = some k := ⟨_, List.getElem?_eq_getElem (by omega)⟩
    have hz : (kv.take j).toArray.size ≤ vs.length := by rw [List.size_toArray, List.length_take]; omega
    refine wpAny_bind (wpAny_attempt (wpAny_mono (turn j x k hx hkj h' tk _ F' N') (fun v s'' he => ?_) fun _ _ hF => hF.elim))
    obtain ⟨g, tk2, rfl, rfl, F2, N2⟩ := he
    try dsimp only
    have nk := N2 (kS, seqObj "list" (kv.take j).toArray e) (List.mem_append_right _ (.head _))
    have na := N2 (a, seqObj "list" #[] e1) (List.mem_append_right _ (.tail _ (.head _)))
    have s1 := Heap.SameBut.update g kS (Obj.mapSeq (·.push v))
    obtain ⟨c2, hc2⟩ : ∃ c2, (g.update kS (Obj.mapSeq (·.push v))).get? kS = some (seqObj "list" ((kv.take j).toArray.push v) c2) := ⟨_, get?_update_seq nk.1 (·.push v)⟩
    have ek : (kv.take j).toArray.push v = (kv.take (j + 1)).toArray := by rw [List.take_add_one, hkj]; simp
    rw [ek] at hc2
    refine wpAny_bind (listUpdate_at nk.1 rfl ?_ (by rw [sizeLine_eq]; omega) (Nat.le_trans (Nat.le_of_eq (Array.size_push ..)) (by rw [sizeLine_eq]; omega)))
    refine wpAny_pure ⟨rfl, _, _, c2, rfl, ksk_fr F2 s1 nk.2.1 nk.2.2, fun p hp => ?_⟩
    rcases List.mem_append.mp hp with hp | hp
    · exact ksk_news (fun q hq => N2 q (List.mem_append_left _ hq)) s1 hnk p hp
    · rcases List.mem_cons.mp hp with rfl | hp
      · exact ⟨hc2, nk.2⟩
      · rw [List.mem_singleton.mp hp]
        exact ⟨(s1.2 a hka.symm).trans na.1, na.2⟩
  case done =>
    rintro s' ⟨h', tk, e, rfl, F', N'⟩
    rw [show kv.take (0 + vs.length) = kv from List.take_of_length_le (by omega)] at N'
    have nk := N' (kS, seqObj "list" kv.toArray e) (List.mem_append_right _ (.head _))
    try dsimp only
    refine wpAny_bind (listItems_at nk.1 rfl ?_)
    exact srt_end hu F' N' hka hnk hna (hk h' F' fun q hq => N' q (List.mem_append_left _ hq)) hlen h2 h64 fun h3 tk3 p c a1 a2 F3 N3 => h h3 tk3 p c a1 a2 F3 N3
theorem srt_sort {n : Nat} (hu : A.units < cLine) (F : Fr h₀ L s.heap m) (N : News h₀ L s.heap news) (ho : s.heap.get? a = some (seqObj "list" vs.toArray n)) (haL : a ≠ L) (ha0 : h₀.get? a = none) (hna : ∀ p ∈ news, p.1 ≠ a)
    (hk : ∀ h, Fr h₀ L h m → News h₀ L h news → Paired (KeyIs h) kv xss) (hlen : kv.length = vs.length) (h2 : 2 ≤ vs.length) (h64 : vs.length < 64) (turn : KCall prog w A h₀ L m news f vs kv s)
    (h : ∀ h' tk p c, Pm vs.length p → Up (fun i => xss.getD i []) p vs.length → Fr h₀ L h' m → News h₀ L h' ((a, seqObj "list" (List.toArray (p.toList.map fun i => vs.getD i Value.none)) c) :: news) → P (.done (.ret .none)) { s with heap := h', toks := tk }) :
    wpAny (model prog w) A (ksk_tree a f false) P E s := by
  have ha : a < s.heap.objs.size := Heap.lt_size ho
  have s1 := Heap.SameBut.update s.heap a (Obj.mapSeq fun _ => (#[] : Array Value))
  obtain ⟨e1, ho1⟩ : ∃ e1, (s.heap.update a (Obj.mapSeq fun _ => (#[] : Array Value))).get? a = some (seqObj "list" #[] e1) := ⟨_, get?_update_seq ho fun _ => #[]⟩
  have F1 := ksk_fr F s1 haL ha0
  have N1 := ksk_news N s1 hna
  have hkS : ((s.heap.update a (Obj.mapSeq fun _ => (#[] : Array Value))).push (seqObj "tuple" vs.toArray 0)).objs.size = s.heap.objs.size + 1 := by rw [size_push', Heap.size_update]
  have hLk : L < ((s.heap.update a (Obj.mapSeq fun _ => (#[] : Array Value))).push (seqObj "tuple" vs.toArray 0)).objs.size := (F1.push _).ns.lt
  unfold ksk_tree
  refine wpAny_bind (listItems_at ho rfl ?_)
  refine wpAny_bind (listUpdate_at ho rfl ?_ (by rw [List.size_toArray, sizeLine_eq]; omega) (Nat.zero_le _))
  refine wpAny_bind (seqEpoch_at ho1 rfl ?_)
  refine wpAny_bind (wpAny_newTuple ?_ (by show vs.length ≤ _; rw [sizeLine_eq]; omega))
  refine wpAny_bind (wpAny_newList ?_ (Nat.zero_le _))
  refine wpAny_holding ?_
  refine srt_rest (s := { s with heap := ((s.heap.update a (Obj.mapSeq fun _ => (#[] : Array Value))).push (seqObj "tuple" vs.toArray 0)).push (seqObj "list" #[] 0) }) (kS := ((s.heap.update a (Obj.mapSeq fun _ => (#[] : Array Value))).push (seqObj "tuple" vs.toArray 0)).objs.size)
    hu ((F1.push _).push _) (fun p hp => ?_) (by rw [hkS]; exact Nat.ne_of_gt (Nat.lt_succ_of_lt ha)) (fun p hp => by rw [hkS]; exact Nat.ne_of_lt (Nat.lt_succ_of_lt (Heap.lt_size (N p hp).1))) hna hk hlen h2 h64 turn h
  rcases List.mem_append.mp hp with hp | hp
  · exact ⟨Heap.get?_push_of_some _ (Heap.get?_push_of_some _ (N1 p hp).1), (N1 p hp).2⟩
  · rcases List.mem_cons.mp hp with rfl | hp
    · exact ⟨Heap.get?_push_size _ rfl, Nat.ne_of_gt hLk, Heap.get?_none_of_le (Nat.le_trans F.above (Nat.le_of_lt hLk))⟩
    · rw [List.mem_singleton.mp hp]
      exact ⟨Heap.get?_push_of_some _ (Heap.get?_push_of_some _ ho1), haL, ha0⟩
theorem my_sorted {l q : Addr} {Q : Value → Shared → Prop} (hu : A.units + 20 < cLine) (F : Fr h₀ L s.heap m) (N : News h₀ L s.heap news) (hl : s.heap.IsList l vs.toArray)
    (hk : ∀ h, Fr h₀ L h m → News h₀ L h news → Paired (KeyIs h) kv xss) (hlen : kv.length = vs.length) (h2 : 2 ≤ vs.length) (h64 : vs.length < 64) (turn : KCall prog w A.in1.in1 h₀ L m news (.ref q) vs kv s)
    (h : ∀ D h' tk p c, Pm vs.length p → Up (fun i => xss.getD i []) p vs.length → Fr h₀ L h' m → News h₀ L h' ((D, seqObj "list" (List.toArray (p.toList.map fun i => vs.getD i Value.none)) c) :: news) → (∀ q ∈ news, q.1 < D) → Q (.ref D) { s with heap := h', toks := tk }) :
    wpAny (model prog w) A (call (.builtin "sorted") [.ref l] [(Str.ofString "key", .ref q)]) Q E s := by
  refine call_function_entry_kw kind_sorted plain_sorted entry_sorted (ksk_s1 _ _) ?_
  unfold Builtin.«sorted»
  refine wpAny_bind (m := checkCount "sorted" 1 1 _) (wpAny_pure ?_)
  refine wpAny_bind (collect_list hl ?_ (by rw [sizeLine_eq]; omega))
  refine wpAny_bind (wpAny_newList ?_ (by rw [sizeLine_eq]; omega))
  have hsz : ((s.heap.push (seqObj "list" #[] 0)).update s.heap.objs.size (Obj.mapSeq (· ++ vs.toArray))).objs.size = s.heap.objs.size + 1 := by
    rw [Heap.size_update, size_push']
  have hoL : (((s.heap.push (seqObj "list" #[] 0)).update s.heap.objs.size (Obj.mapSeq (· ++ vs.toArray))).push (seqObj "list" vs.toArray 0)).get? (s.heap.objs.size + 1) = some (seqObj "list" vs.toArray 0) := by
    rw [← hsz]; exact Heap.get?_push_size _ rfl
  have keep : ∀ b o, s.heap.get? b = some o → (((s.heap.push (seqObj "list" #[] 0)).update s.heap.objs.size (Obj.mapSeq (· ++ vs.toArray))).push (seqObj "list" vs.toArray 0)).get? b = some o := fun b o q => by
    have hlt : b < s.heap.objs.size := Heap.lt_size q
    rw [Heap.get?_push_ne _ _ _ (by rw [hsz]; exact Nat.ne_of_lt (Nat.lt_succ_of_lt hlt)), Heap.get?_update_ne _ _ _ _ (Nat.ne_of_lt hlt), Heap.get?_push_ne _ _ _ (Nat.ne_of_lt hlt)]
    exact q
  have hL : L < s.heap.objs.size := F.ns.lt
  show wpAny _ _ _ _ _ { s with heap := ((s.heap.push (seqObj "list" #[] 0)).update s.heap.objs.size (Obj.mapSeq (· ++ vs.toArray))).push (seqObj "list" vs.toArray 0) }
  rw [hsz]
  refine wpAny_bind (wpAny_holding (wpAny_call_entry_kw slot_list_sort ⟨_, hoL, rfl⟩ entry_list_sort ?body (ksk_l1 _ _)))
  case body =>
    show wpAny (model prog w) A.in1.in1 (Builtin.«list.sort» ⟨[.ref (s.heap.objs.size + 1)], [(Str.ofString "key", .ref q)]⟩) _ _ _
    rw [ksk_t1]
    refine srt_sort (s := { s with heap := ((s.heap.push (seqObj "list" #[] 0)).update s.heap.objs.size (Obj.mapSeq (· ++ vs.toArray))).push (seqObj "list" vs.toArray 0) })
      (show A.units + 1 + 1 < cLine by omega) (F.kept keep) (N.grown keep) hoL (Nat.ne_of_gt (Nat.lt_succ_of_lt hL)) (Heap.get?_none_of_le (Nat.le_trans F.above (Nat.le_succ_of_le (Nat.le_of_lt hL))))
      (fun p hp => Nat.ne_of_lt (Nat.lt_succ_of_lt (Heap.lt_size (N p hp).1))) hk hlen h2 h64 turn fun h' tk p c a1 a2 F' N' => ⟨_, rfl, ?_⟩
    exact wpAny_pure ⟨_, rfl, h _ h' tk p c a1 a2 F' N' fun q hq => Nat.lt_succ_of_lt (Heap.lt_size (N q hq).1)⟩
end
end Mine
end
section
set_option maxRecDepth 100000
set_option maxHeartbeats 4000000
namespace Mine
/-- the first differing sign is smaller, and there is one -/
noncomputable def ahead : List Nat → List Nat → Bool
  | x :: a, y :: b => decide (x < y) || (decide (x = y) && ahead a b)
  | _, _ => false
theorem ahead_lt : ∀ {a b : List Nat}, ahead a b = true → ∀ X Y : List Nat, a ++ X < b ++ Y
  | x :: a, y :: b, h, X, Y => by
    simp only [ahead, Bool.or_eq_true, Bool.and_eq_true, decide_eq_true_eq] at h
    rw [List.cons_append, List.cons_append, List.cons_lt_cons_iff]
    rcases h with h | ⟨h, h'⟩
    · exact .inl h
    · exact .inr ⟨h, ahead_lt h' X Y⟩
  | [], _, h, _, _ => by simp [ahead] at h
  | _ :: _, [], h, _, _ => by simp [ahead] at h
abbrev special (c : Nat) : Prop := c = 9 ∨ c = 10 ∨ c = 13 ∨ c = 38 ∨ c = 62 ∨ c = 60 ∨ c = 34
theorem key_plain {c : Nat} (h : ¬ special c) : keyC c = 8 * (c : Int) := by
  unfold special at h
  unfold keyC
  simp only [not_or] at h
  obtain ⟨h1, h2, h3, h4, h5, h6, h7⟩ := h
  simp [h1, h2, h3, h4, h5, h6, h7]
theorem esc_plain {c : Nat} (h : ¬ special c) : escC c = [c] := by
  unfold special at h
  unfold escC
  simp only [not_or] at h
  obtain ⟨h1, h2, h3, h4, h5, h6, h7⟩ := h
  simp [h1, h2, h3, h4, h5, h6, h7]
theorem esc_head {c : Nat} (h : special c) : ∃ r, escC c = 38 :: r := by
  rcases h with rfl | rfl | rfl | rfl | rfl | rfl | rfl <;> exact ⟨_, rfl⟩
theorem key_special {c : Nat} (h : special c) : 304 ≤ keyC c ∧ keyC c ≤ 310 := by
  rcases h with rfl | rfl | rfl | rfl | rfl | rfl | rfl <;> decide
theorem esc_ahead {c d : Nat} (h : keyC c < keyC d) : ahead (escC c) (escC d) = true := by
  by_cases hc : special c
  · by_cases hd : special d
    · rcases hc with rfl | rfl | rfl | rfl | rfl | rfl | rfl <;> rcases hd with rfl | rfl | rfl | rfl | rfl | rfl | rfl <;> first | rfl | exact absurd h (by decide)
    · obtain ⟨r, hr⟩ := esc_head hc
      have hk := key_special hc
      rw [key_plain hd] at h
      rw [hr, esc_plain hd]
      have : 38 < d := by
        have h38 : d ≠ 38 := fun q => hd (by rw [q]; decide)
        omega
      simp [ahead, this]
  · rw [key_plain hc] at h
    by_cases hd : special d
    · obtain ⟨r, hr⟩ := esc_head hd
      have hk := key_special hd
      rw [hr, esc_plain hc]
      have : c < 38 := by
        have h38 : c ≠ 38 := fun q => hc (by rw [q]; decide)
        omega
      simp [ahead, this]
    · rw [key_plain hd] at h
      rw [esc_plain hc, esc_plain hd]
      have : c < d := by omega
      simp [ahead, this]
theorem key_inj {c d : Nat} (h : keyC c = keyC d) : c = d := by
  by_cases hc : special c
  · by_cases hd : special d
    · rcases hc with rfl | rfl | rfl | rfl | rfl | rfl | rfl <;> rcases hd with rfl | rfl | rfl | rfl | rfl | rfl | rfl <;> first | rfl | exact absurd h (by decide)
    · have hk := key_special hc
      rw [key_plain hd] at h
      have : d = 38 := by omega
      exact absurd (by rw [this]; decide) hd
  · rw [key_plain hc] at h
    by_cases hd : special d
    · have hk := key_special hd
      have : c = 38 := by omega
      exact absurd (by rw [this]; decide) hc
    · rw [key_plain hd] at h
      omega
theorem key_end_ne (c : Nat) : keyC c ≠ 272 := by
  intro h
  by_cases hc : special c
  · have := key_special hc; omega
  · rw [key_plain hc] at h
    exact hc (by have : c = 34 := by omega
                 rw [this]; decide)
theorem end_ahead {c : Nat} (h : 272 < keyC c) : ahead [34] (escC c) = true := by
  by_cases hc : special c
  · obtain ⟨r, hr⟩ := esc_head hc
    rw [hr]; simp [ahead]
  · rw [key_plain hc] at h
    rw [esc_plain hc]
    have : 34 < c := by omega
    simp [ahead, this]
theorem ahead_end {c : Nat} (h : keyC c < 272) : ahead (escC c) [34] = true := by
  by_cases hc : special c
  · have := key_special hc; omega
  · rw [key_plain hc] at h
    rw [esc_plain hc]
    have : c < 34 := by omega
    simp [ahead, this]
/-- names: the keys' order is the rows' order, whatever follows -/
theorem names_lt {K K' : List Int} {R R' : List Nat} (hlt : K < K' → R < R') : ∀ (l l' : List Nat), l.map keyC ++ (272 :: K) < l'.map keyC ++ (272 :: K') → (l.map escC).flatten ++ (34 :: R) < (l'.map escC).flatten ++ (34 :: R')
  | [], [], h => by
    simp only [List.map_nil, List.nil_append, List.flatten_nil, List.cons_lt_cons_iff] at h ⊢
    rcases h with h | ⟨_, h⟩
    · exact absurd h (by decide)
    · exact .inr ⟨trivial, hlt h⟩
  | [], d :: l', h => by
    simp only [List.map_nil, List.nil_append, List.flatten_nil, List.map_cons, List.cons_append, List.cons_lt_cons_iff, List.flatten_cons, List.append_assoc] at h ⊢
    rcases h with h | ⟨h, _⟩
    · exact ahead_lt (end_ahead h) R _
    · exact absurd h.symm (key_end_ne d)
  | c :: l, [], h => by
    simp only [List.map_nil, List.nil_append, List.flatten_nil, List.map_cons, List.cons_append, List.cons_lt_cons_iff, List.flatten_cons, List.append_assoc] at h ⊢
    rcases h with h | ⟨h, _⟩
    · exact ahead_lt (ahead_end h) _ R'
    · exact absurd h (key_end_ne c)
  | c :: l, d :: l', h => by
    simp only [List.map_cons, List.cons_append, List.cons_lt_cons_iff, List.flatten_cons, List.append_assoc] at h ⊢
    rcases h with h | ⟨h, h'⟩
    · exact ahead_lt (esc_ahead h) _ _
    · rw [key_inj h]
      have ih := names_lt hlt l l' h'
      exact List.append_left_lt ih
theorem names_eq {K K' : List Int} : ∀ (l l' : List Nat), l.map keyC ++ (272 :: K) = l'.map keyC ++ (272 :: K') → l = l' ∧ K = K'
  | [], [], h => ⟨rfl, by simpa using h⟩
  | [], d :: l', h => by
    simp only [List.map_nil, List.nil_append, List.map_cons, List.cons_append, List.cons.injEq] at h
    exact absurd h.1.symm (key_end_ne d)
  | c :: l, [], h => by
    simp only [List.map_nil, List.nil_append, List.map_cons, List.cons_append, List.cons.injEq] at h
    exact absurd h.1 (key_end_ne c)
  | c :: l, d :: l', h => by
    simp only [List.map_cons, List.cons_append, List.cons.injEq] at h
    obtain ⟨h1, h2⟩ := names_eq l l' h.2
    exact ⟨by rw [key_inj h.1, h1], h2⟩
noncomputable def kK (k : Nat) : Int := [1, 6, 3, 1, 4, 1, 2, 1, 0, 1, 5, 1, 7, 1, 1, 1].getD k 0
noncomputable def kC (k : Nat) : Nat := [63, 112, 99, 63, 100, 63, 98, 63, 45, 63, 108, 63, 115, 63, 63, 63].getD k 0
noncomputable def pK (t a : Nat) : Int := (t : Int).fdiv 2 * 4 + [0, 1, 3, 2].getD ((t : Int).fmod 2 * 2 + (a : Int)).toNat 0
noncomputable def pS (i t a : Nat) : List Nat := [if (t : Int).fdiv 4 = 0 then 45 else 114, if ((t : Int).fdiv 2).fmod 2 = 0 then 45 else 119,
    [45, 120, [83, 83, 84].getD i 0, [115, 115, 116].getD i 0].getD ((t : Int).fmod 2 + 2 * (a : Int)).toNat 0]
theorem kind_ok : ∀ k, k < 16 → ∀ k', k' < 16 → (kK k < kK k' → kC k < kC k') ∧ (kK k = kK k' → kC k = kC k') := by decide
theorem party_all : ((List.range 3).all fun i => (List.range 8).all fun t => (List.range 2).all fun a => (List.range 8).all fun t' => (List.range 2).all fun a' =>
    (!decide (pK t a < pK t' a') || ahead (pS i t a) (pS i t' a')) && (!decide (pK t a = pK t' a') || decide (pS i t a = pS i t' a'))) = true := by decide +kernel
theorem party_ok (i : Nat) (hi : i < 3) (t : Nat) (ht : t < 8) (a : Nat) (ha : a < 2) (t' : Nat) (ht' : t' < 8) (a' : Nat) (ha' : a' < 2) : (pK t a < pK t' a' → ahead (pS i t a) (pS i t' a') = true) ∧ (pK t a = pK t' a' → pS i t a = pS i t' a') := by
  have h := party_all
  simp only [List.all_eq_true, List.mem_range] at h
  have h := h i hi t ht a ha t' ht' a' ha'
  simp only [Bool.and_eq_true, Bool.or_eq_true, Bool.not_eq_true', decide_eq_false_iff_not, decide_eq_true_eq] at h
  exact ⟨fun g => h.1.resolve_left (fun n => n g), fun g => h.2.resolve_left (fun n => n g)⟩
theorem kind_at {md : Int} (h0 : 0 ≤ md) (h1 : md < 65536) : ∃ k, k < 16 ∧ kindK md = kK k ∧ kindC md = kC k := by
  obtain ⟨k, hk, e⟩ := nat_of (x := md.fdiv 4096) (n := 16) (by rw [Int.fdiv_eq_ediv_of_nonneg _ (by decide)]; omega) (by rw [Int.fdiv_eq_ediv_of_nonneg _ (by decide)]; omega)
  refine ⟨k, hk, ?_, ?_⟩
  · unfold kindK kK; rw [e]; rfl
  · unfold kindC kC; rw [e]; rfl
theorem party_at (md : Int) (i : Nat) : ∃ t a, t < 8 ∧ a < 2 ∧ partyK md i = pK t a ∧ partyS md i = pS i t a := by
  obtain ⟨t, ht, e⟩ := nat_of (x := threeI md i) (n := 8) (Int.fmod_nonneg_of_pos _ (by decide)) (Int.fmod_lt_of_pos _ (by decide))
  obtain ⟨a, ha, e'⟩ := nat_of (x := aboveI md i) (n := 2) (Int.fmod_nonneg_of_pos _ (by decide)) (Int.fmod_lt_of_pos _ (by decide))
  refine ⟨t, a, ht, ha, ?_, ?_⟩
  · unfold partyK pK; rw [e, e']
  · unfold partyS pS; rw [e, e']
theorem party_lt {md md' : Int} {i : Nat} (hi : i < 3) : (partyK md i < partyK md' i → ahead (partyS md i) (partyS md' i) = true) ∧ (partyK md i = partyK md' i → partyS md i = partyS md' i) := by
  obtain ⟨t, a, ht, ha, e1, e2⟩ := party_at md i
  obtain ⟨t', a', ht', ha', e1', e2'⟩ := party_at md' i
  rw [e1, e2, e1', e2']
  exact party_ok i hi t ht a ha t' ht' a' ha'
theorem keyF_is (l : List Nat) (md : Int) : keyF l md 3 = l.map keyC ++ (272 :: [kindK md, partyK md 0, partyK md 1, partyK md 2]) := by
  unfold keyF; simp [List.range_succ]
theorem rowF_is (l : List Nat) (md : Int) : rowF l md 3 = (l.map escC).flatten ++ (34 :: (kindC md :: (partyS md 0 ++ (partyS md 1 ++ (partyS md 2 ++ []))))) := by
  unfold rowF; simp [List.range_succ]
theorem tail_lt {md md' : Int} (h0 : 0 ≤ md) (h1 : md < 65536) (h0' : 0 ≤ md') (h1' : md' < 65536) (h : [kindK md, partyK md 0, partyK md 1, partyK md 2] < [kindK md', partyK md' 0, partyK md' 1, partyK md' 2]) :
    (kindC md :: (partyS md 0 ++ (partyS md 1 ++ (partyS md 2 ++ [])))) < (kindC md' :: (partyS md' 0 ++ (partyS md' 1 ++ (partyS md' 2 ++ [])))) := by
  obtain ⟨k, hk, e1, e2⟩ := kind_at h0 h1
  obtain ⟨k', hk', e1', e2'⟩ := kind_at h0' h1'
  have hkk := kind_ok k hk k' hk'
  rw [← e1, ← e1', ← e2, ← e2'] at hkk
  simp only [List.cons_lt_cons_iff] at h
  rw [List.cons_lt_cons_iff]
  rcases h with h | ⟨h, h⟩
  · exact .inl (hkk.1 h)
  refine .inr ⟨hkk.2 (by assumption), ?_⟩
  rcases h with h | ⟨g0, h⟩
  · exact ahead_lt ((party_lt (by decide)).1 h) _ _
  rw [(party_lt (md := md) (md' := md') (i := 0) (by decide)).2 g0]
  refine List.append_left_lt ?_
  rcases h with h | ⟨g1, h⟩
  · exact ahead_lt ((party_lt (by decide)).1 h) _ _
  rw [(party_lt (md := md) (md' := md') (i := 1) (by decide)).2 g1]
  refine List.append_left_lt ?_
  rcases h with h | ⟨g2, h⟩
  · exact ahead_lt ((party_lt (by decide)).1 h) _ _
  · exact absurd h (List.lt_irrefl _)
theorem key_row_lt {l l' : List Nat} {md md' : Int} (h0 : 0 ≤ md) (h1 : md < 65536) (h0' : 0 ≤ md') (h1' : md' < 65536) (h : keyF l md 3 < keyF l' md' 3) : rowF l md 3 < rowF l' md' 3 := by
  rw [keyF_is, keyF_is] at h
  rw [rowF_is, rowF_is]
  exact names_lt (tail_lt h0 h1 h0' h1') l l' h
theorem key_row_eq {l l' : List Nat} {md md' : Int} (h0 : 0 ≤ md) (h1 : md < 65536) (h0' : 0 ≤ md') (h1' : md' < 65536) (h : keyF l md 3 = keyF l' md' 3) : rowF l md 3 = rowF l' md' 3 := by
  rw [keyF_is, keyF_is] at h
  obtain ⟨rfl, h⟩ := names_eq l l' h; rename_i hh; clear h; have h := hh
  injection h with g0 h
  injection h with g1 h
  injection h with g2 h
  injection h with g3 h
  obtain ⟨k, hk, e1, e2⟩ := kind_at h0 h1
  obtain ⟨k', hk', e1', e2'⟩ := kind_at h0' h1'
  have hkk := kind_ok k hk k' hk'
  rw [← e1, ← e1', ← e2, ← e2'] at hkk
  rw [rowF_is, rowF_is, hkk.2 g0, (party_lt (md := md) (md' := md') (i := 0) (by decide)).2 g1, (party_lt (md := md) (md' := md') (i := 1) (by decide)).2 g2, (party_lt (md := md) (md' := md') (i := 2) (by decide)).2 g3]
end Mine
end
section
set_option maxRecDepth 100000
set_option maxHeartbeats 4000000
namespace Mine
open PySem PySem.W
theorem band_nat (n k : Nat) : Builtin.bitAnd (n : Int) (k : Int) = ((n &&& k : Nat) : Int) := by
  unfold Builtin.bitAnd
  rw [decide_eq_true (show (0 : Int) ≤ (n : Int) by omega), decide_eq_true (show (0 : Int) ≤ (k : Int) by omega)]
  rfl
theorem land_iff (n m : Nat) : n &&& m = m ↔ ∀ i, m.testBit i = true → n.testBit i = true := by
  constructor
  · intro h i hi
    rw [← h, Nat.testBit_and, Bool.and_eq_true] at hi
    exact hi.1
  · intro h
    apply Nat.eq_of_testBit_eq
    intro i
    rw [Nat.testBit_and]
    cases hm : m.testBit i with
    | false => rw [Bool.and_false]
    | true => rw [h i hm]; rfl
theorem bit_mod (n j : Nat) : n.testBit j = true ↔ n / 2 ^ j % 2 = 1 := by
  rw [Nat.testBit_eq_decide_div_mod_eq, decide_eq_true_eq]
theorem land_one (n j : Nat) : (n &&& 2 ^ j = 2 ^ j) ↔ n / 2 ^ j % 2 = 1 := by
  rw [land_iff, ← bit_mod]
  simp only [Nat.testBit_two_pow, decide_eq_true_eq]
  exact ⟨fun h => h j rfl, fun h i e => e ▸ h⟩
theorem land_two (n j k : Nat) : (n &&& (2 ^ j ||| 2 ^ k) = (2 ^ j ||| 2 ^ k)) ↔ n / 2 ^ j % 2 = 1 ∧ n / 2 ^ k % 2 = 1 := by
  rw [land_iff, ← bit_mod, ← bit_mod]
  simp only [Nat.testBit_or, Nat.testBit_two_pow, Bool.or_eq_true, decide_eq_true_eq]
  exact ⟨fun h => ⟨h j (.inl rfl), h k (.inr rfl)⟩, fun h i e => by rcases e with rfl | rfl; exact h.1; exact h.2⟩
theorem land_hi {n : Nat} (h : n < 65536) : n &&& 61440 = n / 4096 * 4096 := by
  have e1 : n / 4096 * 4096 = (n >>> 12) <<< 12 := by rw [Nat.shiftLeft_eq, Nat.shiftRight_eq_div_pow]
  have e2 : 61440 = (2 ^ 4 - 1) <<< 12 := by decide
  rw [e1, e2]
  apply Nat.eq_of_testBit_eq
  intro i
  rw [Nat.testBit_and, Nat.testBit_shiftLeft, Nat.testBit_shiftLeft, Nat.testBit_shiftRight, Nat.testBit_two_pow_sub_one]
  by_cases h1 : 12 ≤ i
  · rw [show 12 + (i - 12) = i from by omega]
    by_cases h2 : i < 16
    · rw [decide_eq_true (show i - 12 < 4 by omega), decide_eq_true (show i ≥ 12 from h1)]; simp
    · have : n.testBit i = false := Nat.testBit_lt_two_pow (Nat.lt_of_lt_of_le h (Nat.pow_le_pow_right (n := 2) (i := 16) (by decide) (by omega)))
      rw [this]; simp
  · rw [decide_eq_false (show ¬ i ≥ 12 from h1)]; simp
theorem match_one (idx n j : Nat) (hi : idx ≠ 0) : matchB idx (n : Int) ((2 ^ j : Nat) : Int) = decide (n / 2 ^ j % 2 = 1) := by
  unfold matchB
  rw [if_neg hi, band_nat]
  exact decide_eq_decide.mpr (Iff.trans Int.ofNat_inj (land_one n j))
theorem match_two (idx n j k : Nat) (hi : idx ≠ 0) : matchB idx (n : Int) ((2 ^ j ||| 2 ^ k : Nat) : Int) = decide (n / 2 ^ j % 2 = 1 ∧ n / 2 ^ k % 2 = 1) := by
  unfold matchB
  rw [if_neg hi, band_nat]
  exact decide_eq_decide.mpr (Iff.trans Int.ofNat_inj (land_two n j k))
theorem kind_pick {n : Nat} (h : n < 65536) : pickC 0 (n : Int) (fmTab.getD 0 []) = kindC (n : Int) := by
  have e : Builtin.bitAnd (n : Int) 61440 = ((n / 4096 * 4096 : Nat) : Int) := by rw [← land_hi h]; exact band_nat n 61440
  have hk : n / 4096 < 16 := by omega
  unfold kindC
  rw [show (n : Int).fdiv 4096 = ((n / 4096 : Nat) : Int) from by rw [Int.fdiv_eq_ediv_of_nonneg _ (by decide)]; rfl]
  show pickC 0 (n : Int) [(40960, 108), (49152, 115), (32768, 45), (24576, 98), (16384, 100), (8192, 99), (4096, 112)] = _
  simp only [pickC, matchB, if_true, e]
  generalize n / 4096 = k at *
  clear e
  revert k
  decide
theorem threeI_nat (n i : Nat) : threeI (n : Int) i = ((n / 8 ^ (2 - (i : Int)).toNat % 8 : Nat) : Int) := by
  unfold threeI
  rw [show ((8 : Int) ^ (2 - (i : Int)).toNat) = ((8 ^ (2 - (i : Int)).toNat : Nat) : Int) from by push_cast; rfl, Int.fdiv_eq_ediv_of_nonneg _ (Int.natCast_nonneg _), Int.fmod_eq_emod_of_nonneg _ (by decide)]; rfl
theorem aboveI_nat (n i : Nat) : aboveI (n : Int) i = ((n / 2 ^ (11 - (i : Int)).toNat % 2 : Nat) : Int) := by
  unfold aboveI
  rw [show ((2 : Int) ^ (11 - (i : Int)).toNat) = ((2 ^ (11 - (i : Int)).toNat : Nat) : Int) from by push_cast; rfl, Int.fdiv_eq_ediv_of_nonneg _ (Int.natCast_nonneg _), Int.fmod_eq_emod_of_nonneg _ (by decide)]; rfl
/-- a party's three signs, by the four bits -/
noncomputable def pS4 (i r w x a : Nat) : List Nat := [if r = 1 then 114 else 45, if w = 1 then 119 else 45, if a = 1 ∧ x = 1 then [115, 115, 116].getD i 0 else if a = 1 then [83, 83, 84].getD i 0 else if x = 1 then 120 else 45]
theorem pS4_is : ∀ i, i < 3 → ∀ r, r < 2 → ∀ w, w < 2 → ∀ x, x < 2 → ∀ a, a < 2 → pS i (4 * r + 2 * w + x) a = pS4 i r w x a := by decide +kernel
theorem bits8 : ∀ r : Nat, r < 8 → 4 * (r / 4) + 2 * (r / 2 % 2) + r % 2 = r := by decide
theorem partyS_is {n i : Nat} (hi : i < 3) : partyS (n : Int) i = pS4 i (n / 8 ^ (2 - i) / 4 % 2) (n / 8 ^ (2 - i) / 2 % 2) (n / 8 ^ (2 - i) % 2) (n / 2 ^ (11 - i) % 2) := by
  rw [← pS4_is i hi _ (Nat.mod_lt _ (by decide)) _ (Nat.mod_lt _ (by decide)) _ (Nat.mod_lt _ (by decide)) _ (Nat.mod_lt _ (by decide))]
  have e : 4 * (n / 8 ^ (2 - i) / 4 % 2) + 2 * (n / 8 ^ (2 - i) / 2 % 2) + n / 8 ^ (2 - i) % 2 = n / 8 ^ (2 - i) % 8 := by
    generalize n / 8 ^ (2 - i) = k
    have e1 : k / 4 % 2 = k % 8 / 4 := (Nat.mod_mul_right_div_self k 4 2).symm
    have e2 : k / 2 % 2 = k % 8 / 2 % 2 := by rw [show k % 8 / 2 = k / 2 % 4 from Nat.mod_mul_right_div_self k 2 4, Nat.mod_mod_of_dvd _ (by decide : 2 ∣ 4)]
    have e3 : k % 2 = k % 8 % 2 := (Nat.mod_mod_of_dvd k (by decide : 2 ∣ 8)).symm
    rw [e1, e2, e3]
    exact bits8 _ (Nat.mod_lt _ (by decide))
  rw [e]
  unfold partyS pS
  rw [threeI_nat, aboveI_nat, show (2 - (i : Int)).toNat = 2 - i from by omega, show (11 - (i : Int)).toNat = 11 - i from by omega]
theorem mode_row {n : Nat} (h : n < 65536) : fmChars (n : Int) 10 = kindC (n : Int) :: (partyS (n : Int) 0 ++ (partyS (n : Int) 1 ++ (partyS (n : Int) 2 ++ []))) := by
  rw [partyS_is (by decide), partyS_is (by decide), partyS_is (by decide), ← kind_pick h]
  have d0 : n / 8 ^ (2 - 0) / 4 = n / 2 ^ 8 := by rw [Nat.div_div_eq_div_mul]
  have d1 : n / 8 ^ (2 - 0) / 2 = n / 2 ^ 7 := by rw [Nat.div_div_eq_div_mul]
  have d2 : n / 8 ^ (2 - 1) / 4 = n / 2 ^ 5 := by rw [Nat.div_div_eq_div_mul]
  have d3 : n / 8 ^ (2 - 1) / 2 = n / 2 ^ 4 := by rw [Nat.div_div_eq_div_mul]
  have d4 : n / 8 ^ (2 - 2) / 4 = n / 2 ^ 2 := by rw [Nat.div_div_eq_div_mul]
  have d5 : n / 8 ^ (2 - 2) / 2 = n / 2 ^ 1 := by rw [Nat.div_div_eq_div_mul]
  have d6 : n / 8 ^ (2 - 0) = n / 2 ^ 6 := rfl
  have d7 : n / 8 ^ (2 - 1) = n / 2 ^ 3 := rfl
  have d8 : n / 8 ^ (2 - 2) = n / 2 ^ 0 := rfl
  rw [d0, d1, d2, d3, d4, d5, d6, d7, d8]
  have m1 := match_one 1 n 8 (by decide)
  have m2 := match_one 2 n 7 (by decide)
  have m3 := match_two 3 n 11 6 (by decide)
  have m4 := match_one 3 n 11 (by decide)
  have m5 := match_one 3 n 6 (by decide)
  have m6 := match_one 4 n 5 (by decide)
  have m7 := match_one 5 n 4 (by decide)
  have m8 := match_two 6 n 10 3 (by decide)
  have m9 := match_one 6 n 10 (by decide)
  have m10 := match_one 6 n 3 (by decide)
  have m11 := match_one 7 n 2 (by decide)
  have m12 := match_one 8 n 1 (by decide)
  have m13 := match_two 9 n 9 0 (by decide)
  have m14 := match_one 9 n 9 (by decide)
  have m15 := match_one 9 n 0 (by decide)
  unfold fmChars
  show [pickC 0 (n : Int) (fmTab.getD 0 []), pickC 1 (n : Int) [(256, 114)], pickC 2 (n : Int) [(128, 119)], pickC 3 (n : Int) [(2112, 115), (2048, 83), (64, 120)], pickC 4 (n : Int) [(32, 114)], pickC 5 (n : Int) [(16, 119)], pickC 6 (n : Int) [(1032, 115), (1024, 83), (8, 120)], pickC 7 (n : Int) [(4, 114)], pickC 8 (n : Int) [(2, 119)], pickC 9 (n : Int) [(513, 116), (512, 84), (1, 120)]] = _
  generalize pickC 0 (n : Int) (fmTab.getD 0 []) = k0
  have hm : matchB 3 (n : Int) 2112 = decide (n / 2 ^ 11 % 2 = 1 ∧ n / 2 ^ 6 % 2 = 1) := m3
  have hm2 : matchB 6 (n : Int) 1032 = decide (n / 2 ^ 10 % 2 = 1 ∧ n / 2 ^ 3 % 2 = 1) := m8
  have hm3 : matchB 9 (n : Int) 513 = decide (n / 2 ^ 9 % 2 = 1 ∧ n / 2 ^ 0 % 2 = 1) := m13
  replace m1 : matchB 1 (n : Int) 256 = _ := m1
  replace m2 : matchB 2 (n : Int) 128 = _ := m2
  replace m4 : matchB 3 (n : Int) 2048 = _ := m4
  replace m5 : matchB 3 (n : Int) 64 = _ := m5
  replace m6 : matchB 4 (n : Int) 32 = _ := m6
  replace m7 : matchB 5 (n : Int) 16 = _ := m7
  replace m9 : matchB 6 (n : Int) 1024 = _ := m9
  replace m10 : matchB 6 (n : Int) 8 = _ := m10
  replace m11 : matchB 7 (n : Int) 4 = _ := m11
  replace m12 : matchB 8 (n : Int) 2 = _ := m12
  replace m14 : matchB 9 (n : Int) 512 = _ := m14
  replace m15 : matchB 9 (n : Int) 1 = _ := m15
  simp only [pickC, m1, m2, hm, m4, m5, m6, m7, hm2, m9, m10, m11, m12, hm3, m14, m15, decide_eq_true_eq, show ¬ ((1 : Nat) = 0) by decide, show ¬ ((2 : Nat) = 0) by decide, show ¬ ((3 : Nat) = 0) by decide, show ¬ ((4 : Nat) = 0) by decide, show ¬ ((5 : Nat) = 0) by decide, show ¬ ((6 : Nat) = 0) by decide, show ¬ ((7 : Nat) = 0) by decide, show ¬ ((8 : Nat) = 0) by decide, show ¬ ((9 : Nat) = 0) by decide, if_false]
  unfold pS4
  generalize n / 2 ^ 11 % 2 = b11
  generalize n / 2 ^ 10 % 2 = b10
  generalize n / 2 ^ 9 % 2 = b9
  generalize n / 2 ^ 6 % 2 = b6
  generalize n / 2 ^ 3 % 2 = b3
  generalize n / 2 ^ 0 % 2 = b0
  rfl
theorem row_is {l : List Nat} {md : Int} (h0 : 0 ≤ md) (h1 : md < 65536) : escF l ++ [34] ++ fmChars md 10 = rowF l md 3 := by
  obtain ⟨n, hn, rfl⟩ := nat_of (x := md) (n := 65536) h0 h1
  rw [rowF_is, mode_row hn]
  unfold escF
  rw [List.flatMap_def]
  simp
end Mine
end
section
set_option maxRecDepth 100000
set_option maxHeartbeats 4000000
namespace Mine
open PySem PySem.W
theorem ll_tri {a b : List Nat} (h1 : ¬ a < b) (h2 : ¬ b < a) : a = b := List.le_antisymm (List.not_lt.mp h2) (List.not_lt.mp h1)
theorem ll_asym {a b : List Nat} (h : a < b) : ¬ b < a := fun h' => List.lt_irrefl _ (List.lt_trans h h')
theorem ll_lt_of {a b c : List Nat} (h : a < b) (h1 : ¬ c < b) : a < c := by
  by_cases hb : b < c
  · exact List.lt_trans h hb
  · rw [ll_tri h1 hb]; exact h
theorem ki_tri {a b : List Int} (h1 : ¬ a < b) (h2 : ¬ b < a) : a = b := List.le_antisymm (List.not_lt.mp h2) (List.not_lt.mp h1)
theorem diff_swap : ∀ (n : Nat) (xs ys : List (List Nat)), xs.length + ys.length ≤ n → (diffF ys xs).1 = (diffF xs ys).2 := by
  intro n
  induction n with
  | zero =>
    intro xs ys h
    cases xs with
    | nil => rw [diffF_end (.inl rfl), diffF_end (.inr rfl)]
    | cons x xs => simp at h
  | succ n ih =>
    intro xs ys h
    cases xs with
    | nil => rw [diffF_end (.inl rfl), diffF_end (.inr rfl)]
    | cons x xs =>
      cases ys with
      | nil => rw [diffF_end (.inl rfl), diffF_end (.inr rfl)]
      | cons y ys =>
        have l1 := dropW_len (· == x) xs
        have l2 := dropW_len (· == y) ys
        simp only [List.length_cons] at h
        rw [diffF, diffF]
        by_cases c1 : x < y
        · rw [if_pos c1, if_neg (ll_asym c1), if_pos c1]
          exact ih _ _ (by simp only [List.length_cons]; omega)
        · by_cases c2 : y < x
          · rw [if_pos c2, if_neg c1, if_pos c2]
            show y :: _ = y :: _
            congr 1
            exact ih _ _ (by simp only [List.length_cons]; omega)
          · rw [if_neg c1, if_neg c2, if_neg c2, if_neg c1]
            exact ih _ _ (by omega)
/-- the rows beyond, told of rows alone -/
noncomputable def beyR (K : List (List Nat)) : Option (List Nat) → List (List Nat) → List (List Nat)
  | _, [] => []
  | p, x :: xs => (if !K.contains x && ((K.all fun y => decide (y < x)) || !decide (p = some x)) then [x] else []) ++ beyR K (some x) xs
theorem beyR_congr {K K' : List (List Nat)} : ∀ {xs : List (List Nat)} {p : Option (List Nat)}, (∀ x ∈ xs, K.contains x = K'.contains x ∧ (K.all fun y => decide (y < x)) = (K'.all fun y => decide (y < x))) → beyR K p xs = beyR K' p xs
  | [], _, _ => rfl
  | x :: xs, p, h => by
    unfold beyR
    rw [(h x (.head _)).1, (h x (.head _)).2, beyR_congr fun y hy => h y (.tail _ hy)]
/-- the run of x, when none of it tells -/
theorem beyR_skip {K : List (List Nat)} {x : List Nat} (hk : K.contains x = true ∨ (K.all fun y => decide (y < x)) = false) : ∀ {xs : List (List Nat)}, beyR K (some x) xs = beyR K none (xs.dropWhile (· == x))
  | [] => rfl
  | y :: xs => by
    rw [List.dropWhile_cons]
    by_cases h : y = x
    · subst h
      rw [if_pos (beq_self_eq_true _)]
      have ih := beyR_skip hk (xs := xs)
      rw [← ih]
      show (if _ then _ else _) ++ _ = _
      rw [if_neg]
      · rfl
      · rcases hk with hk | hk
        · rw [hk]; simp
        · rw [hk]; simp
    · rw [if_neg (by simpa using h)]
      unfold beyR
      have e1 : decide (some x = some y) = false := by simpa using Ne.symm h
      have e2 : decide ((none : Option (List Nat)) = some y) = false := by simp
      rw [e1, e2]
noncomputable def Srt (xs : List (List Nat)) : Prop := xs.Pairwise fun a b => ¬ b < a
theorem Srt.drop {xs : List (List Nat)} (h : Srt xs) (x : List Nat) : Srt (xs.dropWhile (· == x)) := h.sublist (List.dropWhile_sublist _)
/-- behind its run all is above x -/
theorem above_run {x : List Nat} : ∀ {xs : List (List Nat)}, Srt (x :: xs) → ∀ y ∈ xs.dropWhile (· == x), x < y
  | [], _, y, hy => by simp at hy
  | z :: xs, h, y, hy => by
    rw [List.dropWhile_cons] at hy
    have h1 := List.pairwise_cons.mp h
    by_cases hz : z = x
    · subst hz
      rw [if_pos (beq_self_eq_true _)] at hy
      exact above_run (List.pairwise_cons.mp h).2 y hy
    · rw [if_neg (by simpa using hz)] at hy
      have hxz : x < z := by
        by_cases q : x < z
        · exact q
        · exact absurd (ll_tri (h1.1 z (.head _)) q) hz
      rcases List.mem_cons.mp hy with rfl | hy
      · exact hxz
      · exact ll_lt_of hxz ((List.pairwise_cons.mp h1.2).1 y hy)
theorem mem_run {x y : List Nat} : ∀ {xs : List (List Nat)}, y ∈ x :: xs → y = x ∨ y ∈ xs.dropWhile (· == x)
  | [], h => by
    rcases List.mem_cons.mp h with h | h
    · exact .inl h
    · exact .inr h
  | z :: xs, h => by
    rcases List.mem_cons.mp h with h' | h'
    · exact .inl h'
    rw [List.dropWhile_cons]
    by_cases hz : z = x
    · subst hz
      rw [if_pos (beq_self_eq_true _)]
      exact mem_run h'
    · rw [if_neg (by simpa using hz)]
      exact .inr h'
/-- above y the run of y says nothing -/
theorem keys_run {x y : List Nat} {ys : List (List Nat)} (h : y < x) : (y :: ys).contains x = (ys.dropWhile (· == y)).contains x ∧ ((y :: ys).all fun z => decide (z < x)) = ((ys.dropWhile (· == y)).all fun z => decide (z < x)) := by
  have hne : x ≠ y := fun e => List.lt_irrefl _ (e ▸ h)
  constructor
  · rw [Bool.eq_iff_iff, List.contains_iff_mem, List.contains_iff_mem]
    constructor
    · intro hm
      exact (mem_run hm).resolve_left hne
    · intro hm
      exact .tail _ ((List.dropWhile_sublist _).mem hm)
  · rw [Bool.eq_iff_iff]
    simp only [List.all_eq_true, decide_eq_true_eq]
    constructor
    · intro hm z hz
      exact hm z (.tail _ ((List.dropWhile_sublist _).mem hz))
    · intro hm z hz
      rcases mem_run hz with rfl | hz
      · exact h
      · exact hm z hz
theorem diff_bey : ∀ (n : Nat) (xs ys : List (List Nat)), xs.length + ys.length ≤ n → Srt xs → Srt ys → (diffF xs ys).1 = beyR ys none xs := by
  intro n
  induction n with
  | zero =>
    intro xs ys h _ _
    cases xs with
    | nil => rw [diffF_end (.inl rfl)]; rfl
    | cons x xs => simp at h
  | succ n ih =>
    intro xs ys h h1 h2
    cases xs with
    | nil => rw [diffF_end (.inl rfl)]; rfl
    | cons x xs =>
      cases ys with
      | nil =>
        rw [diffF_end (.inr rfl)]
        have : ∀ (p : Option (List Nat)) (zs : List (List Nat)), beyR [] p zs = zs := by
          intro p zs
          induction zs generalizing p with
          | nil => rfl
          | cons z zs ihz => unfold beyR; rw [ihz]; simp
        exact (this _ _).symm
      | cons y ys =>
        have l1 := dropW_len (· == x) xs
        have l2 := dropW_len (· == y) ys
        simp only [List.length_cons] at h
        have h1' := List.pairwise_cons.mp h1
        have h2' := List.pairwise_cons.mp h2
        rw [diffF]
        by_cases c1 : x < y
        · rw [if_pos c1]
          simp only
          rw [ih _ _ (by simp only [List.length_cons]; omega) (Srt.drop h1'.2 x) h2]
          have hno : (y :: ys).contains x = false := by
            rw [Bool.eq_false_iff]
            intro hm
            rw [List.contains_iff_mem] at hm
            rcases List.mem_cons.mp hm with e | hm
            · exact List.lt_irrefl _ (e ▸ c1)
            · exact h2'.1 x hm c1
          have hall : ((y :: ys).all fun z => decide (z < x)) = false := by
            rw [List.all_cons, decide_eq_false (ll_asym c1), Bool.false_and]
          rw [beyR, ← beyR_skip (.inr hall), if_pos]
          · rfl
          · rw [hno]; simp
        · by_cases c2 : y < x
          · rw [if_neg c1, if_pos c2]
            simp only
            rw [ih _ _ (by simp only [List.length_cons]; omega) h1 (Srt.drop h2'.2 y)]
            refine beyR_congr fun z hz => ?_
            have hzy : y < z := by
              rcases List.mem_cons.mp hz with rfl | hz
              · exact c2
              · exact ll_lt_of c2 (h1'.1 z hz)
            exact ⟨(keys_run hzy).1.symm, (keys_run hzy).2.symm⟩
          · rw [if_neg c1, if_neg c2]
            obtain rfl := ll_tri c1 c2
            rw [ih _ _ (by omega) (Srt.drop h1'.2 x) (Srt.drop h2'.2 x)]
            have hyes : (x :: ys).contains x = true := by simp
            rw [beyR, if_neg (by rw [hyes]; simp), List.nil_append, beyR_skip (.inl hyes)]
            refine beyR_congr fun z hz => ?_
            have hzy := above_run h1 z hz
            exact ⟨(keys_run hzy).1.symm, (keys_run hzy).2.symm⟩
/-- keys and rows go together -/
structure Agree (es : List (List Int × List Nat)) : Prop where
  lt : ∀ e ∈ es, ∀ e' ∈ es, e.1 < e'.1 → e.2 < e'.2
  eq : ∀ e ∈ es, ∀ e' ∈ es, e.1 = e'.1 → e.2 = e'.2
  ne : ∀ e ∈ es, ([] : List Int) < e.1
theorem Agree.iff_lt {es : List (List Int × List Nat)} (h : Agree es) {e e' : List Int × List Nat} (he : e ∈ es) (he' : e' ∈ es) : e.1 < e'.1 ↔ e.2 < e'.2 := by
  refine ⟨h.lt e he e' he', fun hr => ?_⟩
  by_cases c1 : e.1 < e'.1
  · exact c1
  · by_cases c2 : e'.1 < e.1
    · exact absurd (h.lt _ he' _ he c2) (ll_asym hr)
    · have := h.eq e he e' he' (ki_tri c1 c2)
      rw [this] at hr
      exact absurd hr (List.lt_irrefl _)
theorem Agree.iff_eq {es : List (List Int × List Nat)} (h : Agree es) {e e' : List Int × List Nat} (he : e ∈ es) (he' : e' ∈ es) : e.1 = e'.1 ↔ e.2 = e'.2 := by
  refine ⟨h.eq e he e' he', fun hr => ?_⟩
  refine ki_tri (fun c => ?_) (fun c => ?_)
  · have := h.lt _ he _ he' c
    rw [hr] at this
    exact List.lt_irrefl _ this
  · have := h.lt _ he' _ he c
    rw [hr] at this
    exact List.lt_irrefl _ this
noncomputable def beyB (es2 : List (List Int × List Nat)) (p : Option (List Int)) (e : List Int × List Nat) : Bool :=
  !((es2.map (·.1)).contains e.1) && ((([] :: es2.map (·.1)).all fun y => decide (y < e.1)) || !decide (p = some e.1))
noncomputable def beyK (es2 : List (List Int × List Nat)) : Option (List Int) → List (List Int × List Nat) → List (List Nat)
  | _, [] => []
  | p, e :: es => (if beyB es2 p e then [e.2] else []) ++ beyK es2 (some e.1) es
theorem beyK_snoc {es2 : List (List Int × List Nat)} {e : List Int × List Nat} : ∀ {es : List (List Int × List Nat)} {p : Option (List Int)}, beyK es2 p (es ++ [e]) = beyK es2 p es ++ (if beyB es2 (match es.getLast? with | some l => some l.1 | none => p) e then [e.2] else [])
  | [], p => by show (if beyB es2 p e then [e.2] else []) ++ [] = [] ++ _; rw [List.append_nil, List.nil_append]; rfl
  | a :: es, p => by
    show (if beyB es2 p a then [a.2] else []) ++ beyK es2 (some a.1) (es ++ [e]) = (if beyB es2 p a then [a.2] else []) ++ beyK es2 (some a.1) es ++ _
    rw [beyK_snoc, List.append_assoc]
    congr 2
    cases es with
    | nil => rfl
    | cons b es => rw [List.getLast?_cons_cons]; cases h : (b :: es).getLast? with
      | none => simp at h
      | some l => rfl
theorem beyond_take {es1 es2 : List (List Int × List Nat)} : ∀ k, k ≤ es1.length → ((List.range k).filter (beyondB es1 es2)).map (fun k => (es1.getD k ([], [])).2) = beyK es2 none (es1.take k)
  | 0, _ => by simp [beyK]
  | k + 1, h => by
    have hk : k < es1.length := h
    rw [List.range_succ, List.filter_append, List.map_append, beyond_take k (by omega), List.take_add_one, List.getElem?_eq_getElem hk]
    show _ = beyK es2 none (es1.take k ++ [es1[k]])
    rw [beyK_snoc]
    congr 1
    have e1 : es1.getD k ([], []) = es1[k] := by rw [List.getD_eq_getElem?_getD, List.getElem?_eq_getElem hk]; rfl
    have hb : beyondB es1 es2 k = beyB es2 (match (es1.take k).getLast? with | some l => some l.1 | none => none) es1[k] := by
      unfold beyondB beyB
      rw [e1, Bool.or_assoc]
      congr 2
      cases k with
      | zero => simp
      | succ j =>
        have e2 : es1.getD (j + 1 - 1) ([], []) = es1[j] := by rw [List.getD_eq_getElem?_getD, show j + 1 - 1 = j from rfl, List.getElem?_eq_getElem (by omega)]; rfl
        have e3 : (es1.take (j + 1)).getLast? = some es1[j] := by rw [List.take_add_one, List.getElem?_eq_getElem (show j < es1.length by omega), Option.toList_some, List.getLast?_concat]
        rw [e2, e3]
        simp
    rw [List.filter_cons, ← hb]
    cases beyondB es1 es2 k with
    | true => simp only [if_true, List.filter_nil, List.map_cons, List.map_nil, e1]
    | false => simp
theorem beyond_K (es1 es2 : List (List Int × List Nat)) : beyondF es1 es2 = beyK es2 none es1 := by
  have := beyond_take (es1 := es1) (es2 := es2) es1.length (Nat.le_refl _)
  rw [List.take_length] at this
  exact this
theorem beyK_R {es es2 : List (List Int × List Nat)} (A : Agree es) (h2 : ∀ e ∈ es2, e ∈ es) : ∀ {es1 : List (List Int × List Nat)} {p : Option (List Int × List Nat)}, (∀ e ∈ es1, e ∈ es) → (∀ e, p = some e → e ∈ es) →
    beyK es2 (p.map (·.1)) es1 = beyR (es2.map (·.2)) (p.map (·.2)) (es1.map (·.2))
  | [], _, _, _ => rfl
  | e :: es1, p, h1, hp => by
    have he := h1 e (.head _)
    have ih := beyK_R A h2 (es1 := es1) (p := some e) (fun a ha => h1 a (.tail _ ha)) (fun a ha => by cases ha; exact he)
    show _ ++ beyK es2 (some e.1) es1 = _ ++ beyR (es2.map (·.2)) (some e.2) (es1.map (·.2))
    simp only [Option.map_some] at ih
    rw [ih]
    congr 1
    have hb : beyB es2 (p.map (·.1)) e = (!(es2.map (·.2)).contains e.2 && (((es2.map (·.2)).all fun y => decide (y < e.2)) || !decide (p.map (·.2) = some e.2))) := by
      unfold beyB
      have c1 : (es2.map (·.1)).contains e.1 = (es2.map (·.2)).contains e.2 := by
        rw [Bool.eq_iff_iff, List.contains_iff_mem, List.contains_iff_mem, List.mem_map, List.mem_map]
        constructor
        · rintro ⟨a, ha, q⟩; exact ⟨a, ha, (A.iff_eq (h2 a ha) he).mp q⟩
        · rintro ⟨a, ha, q⟩; exact ⟨a, ha, (A.iff_eq (h2 a ha) he).mpr q⟩
      have c2 : (([] :: es2.map (·.1)).all fun y => decide (y < e.1)) = ((es2.map (·.2)).all fun y => decide (y < e.2)) := by
        rw [List.all_cons, decide_eq_true (A.ne e he), Bool.true_and, Bool.eq_iff_iff]
        simp only [List.all_eq_true, decide_eq_true_eq, List.mem_map]
        constructor
        · rintro h _ ⟨a, ha, rfl⟩; exact (A.iff_lt (h2 a ha) he).mp (h _ ⟨a, ha, rfl⟩)
        · rintro h _ ⟨a, ha, rfl⟩; exact (A.iff_lt (h2 a ha) he).mpr (h _ ⟨a, ha, rfl⟩)
      have c3 : decide (p.map (·.1) = some e.1) = decide (p.map (·.2) = some e.2) := by
        rw [decide_eq_decide]
        cases p with
        | none => simp
        | some a => simpa using A.iff_eq (hp a rfl) he
      rw [c1, c2, c3]
    rw [hb]
theorem diff_law {es es1 es2 : List (List Int × List Nat)} (A : Agree es) (h1 : ∀ e ∈ es1, e ∈ es) (h2 : ∀ e ∈ es2, e ∈ es)
    (s1 : es1.Pairwise fun a b => ¬ b.1 < a.1) (s2 : es2.Pairwise fun a b => ¬ b.1 < a.1) :
    (diffF (es1.map (·.2)) (es2.map (·.2))).1 = beyondF es1 es2 ∧ (diffF (es1.map (·.2)) (es2.map (·.2))).2 = beyondF es2 es1 := by
  have srt : ∀ {zs : List (List Int × List Nat)}, (∀ e ∈ zs, e ∈ es) → (zs.Pairwise fun a b => ¬ b.1 < a.1) → Srt (zs.map (·.2)) := by
    intro zs hz hs
    refine List.pairwise_map.mpr (List.Pairwise.imp_of_mem ?_ hs)
    intro a b ha hb hn hr
    exact hn ((A.iff_lt (hz b hb) (hz a ha)).mpr hr)
  have r1 := srt h1 s1
  have r2 := srt h2 s2
  constructor
  · rw [diff_bey _ _ _ (Nat.le_refl _) r1 r2, beyond_K]
    exact (beyK_R A h2 (p := none) h1 (fun _ q => nomatch q)).symm
  · rw [← diff_swap _ _ _ (Nat.le_refl _), diff_bey _ _ _ (Nat.le_refl _) r2 r1, beyond_K]
    exact (beyK_R A h1 (p := none) h2 (fun _ q => nomatch q)).symm
end Mine
end
section
open PySem PySem.W PySem.Calls PyProof.Rows
set_option maxRecDepth 100000
set_option maxHeartbeats 4000000
namespace Mine
theorem amb_law (env : Env) : Amb (callerA.deeper env) 4 := ⟨by show callerA.depth + 1 + 4 < recursionLimit; decide +kernel, by show callerA.units + 3 + 20 * 4 + 20 < cLine; decide +kernel, rfl⟩
section
variable {h₀ h h' : Heap} {L a : Addr} {o : Obj} {m : Str → Option Value} {news : List (Addr × Obj)}
theorem news_plus (F : Fr h₀ L h m) (N : News h₀ L h news) (k : ∀ b o, h.get? b = some o → h'.get? b = some o) (ha : h'.get? a = some o) (hn : h.get? a = none) : News h₀ L h' ((a, o) :: news) := fun q hq => by
  rcases List.mem_cons.mp hq with rfl | hq
  · refine ⟨ha, fun e => ?_, ?_⟩
    · obtain ⟨oL, _, _, hL, _⟩ := F.ns
      rw [show a = L from e, hL] at hn; cases hn
    · cases hq : h₀.get? a with
      | none => rfl
      | some o₀ => have := F.keep _ _ hq; rw [hn] at this; cases this
  · exact ⟨k _ _ (N q hq).1, (N q hq).2⟩
theorem news_off (N : News h₀ L h news) (hn : h.get? a = none) : ∀ q ∈ news, q.1 ≠ a := fun q hq e => by
  have := (N q hq).1
  rw [e, hn] at this; cases this
end
section
variable {w : World} {p : Program} {loose : List Str} {mg mb : Str → Option Value} {A : Around} {s : Shared} {Q E : Value → Shared → Prop} {h₀ : Heap} {L : Addr} {m : Str → Option Value} {news : List (Addr × Obj)}
theorem c_escK {l : List Nat} {tx : Tok} (hA : Amb A 1) (hl : l.length ≤ 8) (X : (hd.heap_39 w.params).In h₀) (T : TopRead p loose mg mb h₀) (F : Fr h₀ L s.heap m) (N : News h₀ L s.heap news)
    (ret : ∀ t h' tk', Fr h₀ L h' m → News h₀ L h' news → Q (.str (S (escF l)) t) { s with heap := h', toks := tk' }) :
    wpAny (model PySem.Challenge.rw_oh0027_01.row.prog w) A (call (.ref 89) [.str (S l) tx]) Q E s :=
  c_esc hA ⟨X.keeps F.keep, T.keeps F.keep⟩ hl fun t h' tk' k => ret t h' tk' (F.kept k) (N.grown k)
theorem c_modeK {md : Int} {tx : Tok} (hA : Amb A 2) (X : (hd.heap_39 w.params).In h₀) (T : TopRead p loose mg mb h₀) (F : Fr h₀ L s.heap m) (N : News h₀ L s.heap news)
    (ret : ∀ t h' tk', Fr h₀ L h' m → News h₀ L h' news → Q (.str (S (fmChars md 10)) t) { s with heap := h', toks := tk' }) :
    wpAny (model PySem.Challenge.rw_oh0027_01.row.prog w) A (call (.ref 75) [.int md tx]) Q E s :=
  c_mode hA ⟨X.keeps F.keep, T.keeps F.keep⟩ fun t h' tk' k => ret t h' tk' (F.kept k) (N.grown k)
theorem c_rowK {l : List Nat} {tx tm : Tok} {md : Int} (hA : Amb A 1) (hl : l.length ≤ 8) (h0 : 0 ≤ md) (h1 : md < 65536) (X : (hd.heap_39 w.params).In h₀) (T : TopRead p loose mg mb h₀) (F : Fr h₀ L s.heap m) (N : News h₀ L s.heap news)
    (ret : ∀ t h' tk', Fr h₀ L h' m → News h₀ L h' news → Q (.str (S (rowF l md 3)) t) { s with heap := h', toks := tk' }) :
    wpAny (model PySem.Challenge.rw_oh0027_01.row.prog w) A (call (.ref 115) [.str (S l) tx, .int md tm]) Q E s :=
  c_row hA ⟨X.keeps F.keep, T.keeps F.keep⟩ hl h0 h1 fun t h' tk' k => ret t h' tk' (F.kept k) (N.grown k)
theorem c_keyK {l : List Nat} {tx tm : Tok} {md : Int} (hA : Amb A 1) (hl : l.length ≤ 8) (h0 : 0 ≤ md) (h1 : md < 65536) (X : (hd.heap_39 w.params).In h₀) (T : TopRead p loose mg mb h₀) (F : Fr h₀ L s.heap m) (N : News h₀ L s.heap news)
    (ret : ∀ a vs n h' tk', Fr h₀ L h' m → News h₀ L h' ((a, listOf (List.toArray vs) n) :: news) → (∀ q ∈ news, q.1 ≠ a) → IntsAre vs (keyF l md 3) → Q (.ref a) { s with heap := h', toks := tk' }) :
    wpAny (model PySem.Challenge.rw_oh0027_01.row.prog w) A (call (.ref 110) [.str (S l) tx, .int md tm]) Q E s :=
  c_key hA ⟨X.keeps F.keep, T.keeps F.keep⟩ hl h0 h1 fun a vs n h' tk' k ha hn hi => ret a vs n h' tk' (F.kept k) (news_plus F N k ha hn) (news_off N hn) hi
theorem c_threeK {x y : Str} {tx ty : Tok} (hA : Amb A 1) (X : (hd.heap_39 w.params).In h₀) (T : TopRead p loose mg mb h₀) (F : Fr h₀ L s.heap m) (N : News h₀ L s.heap news)
    (ret : ∀ t h' tk', Fr h₀ L h' m → News h₀ L h' news → Q (.int (b2i (decide (y.cps.toList < x.cps.toList)) - b2i (decide (x.cps.toList < y.cps.toList))) t) { s with heap := h', toks := tk' }) :
    wpAny (model PySem.Challenge.rw_oh0027_01.row.prog w) A (call (.ref 28) [.str x tx, .str y ty]) Q E s :=
  c_three hA ⟨X.keeps F.keep, T.keeps F.keep⟩ fun t h' tk' k => ret t h' tk' (F.kept k) (N.grown k)
theorem c_filesK {l : Addr} {vs : List Value} {ns : List Int} (hA : Amb A 2) (hi : IntsAre vs ns) (hn : ns.length ≤ 8) (X : (hd.heap_39 w.params).In h₀) (T : TopRead p loose mg mb h₀) (F : Fr h₀ L s.heap m) (N : News h₀ L s.heap news) (hl : s.heap.IsList l vs.toArray)
    (ret : ∀ a n vs' fs tl h' tk', Fr h₀ L h' m → News h₀ L h' ((a, listOf (List.toArray vs') n) :: (tl ++ news)) → (∀ q ∈ news, ∀ b ∈ (a, listOf (List.toArray vs') n) :: tl, q.1 ≠ b.1) → Paired (FileIn tl) vs' fs → fs.length = ns.length → (∀ f ∈ fs, FileOk 8 f) → Q (.ref a) { s with heap := h', toks := tk' }) :
    wpAny (model PySem.Challenge.rw_oh0027_01.row.prog w) A (call (.ref 103) [.ref l]) Q E s :=
  c_files hA ⟨X.keeps F.keep, T.keeps F.keep⟩ hl hi hn fun a n vs' fs tl h' tk' k ho hp hf hok => by
    refine ret a n vs'.toList fs tl h' tk' (F.kept k) (fun q hq => ?_) (fun q hq b hb e => ?_) hp hf hok
    · have lift : ∀ q ∈ (a, listOf vs' n) :: tl, h'.get? q.1 = some q.2 ∧ q.1 ≠ L ∧ h₀.get? q.1 = none := fun q hq => by
        obtain ⟨h1, h2⟩ := ho q hq
        exact news_plus F N k h1 h2 q (.head _)
      rcases List.mem_cons.mp hq with rfl | hq
      · simpa using lift _ (.head _)
      · rcases List.mem_append.mp hq with hq | hq
        · exact lift q (.tail _ hq)
        · exact ⟨k _ _ (N q hq).1, (N q hq).2⟩
    · have hb' : s.heap.get? b.1 = none := by
        rcases List.mem_cons.mp hb with rfl | hb
        · exact (ho _ (.head _)).2
        · exact (ho _ (.tail _ hb)).2
      rw [← e, (N q hq).1] at hb'; cases hb'
theorem c_beyondK {l1 l2 : Addr} {vs1 vs2 : List Value} {es1 es2 : List (List Int × List Nat)} (hA : Amb A 1) (X : (hd.heap_39 w.params).In h₀) (T : TopRead p loose mg mb h₀) (F : Fr h₀ L s.heap m) (N : News h₀ L s.heap news)
    (hl1 : s.heap.IsList l1 vs1.toArray) (hl2 : s.heap.IsList l2 vs2.toArray) (hp1 : Paired (PairAt s.heap) vs1 es1) (hp2 : Paired (PairAt s.heap) vs2 es2) (hz1 : es1.length ≤ 8) (hz2 : es2.length ≤ 8)
    (ret : ∀ a vs n h' tk', s.heap.StaysIn h' → Fr h₀ L h' m → News h₀ L h' ((a, listOf (List.toArray vs) n) :: news) → (∀ q ∈ news, q.1 ≠ a) → PyProof.Rows.StrsAre vs ((beyondF es1 es2).map S) → Q (.ref a) { s with heap := h', toks := tk' }) :
    wpAny (model PySem.Challenge.rw_oh0027_01.row.prog w) A (call (.ref 120) [.ref l1, .ref l2]) Q E s :=
  c_beyond hA ⟨X.keeps F.keep, T.keeps F.keep⟩ hl1 hl2 hp1 hp2 hz1 hz2 fun a vs n h' tk' k ha hn hs => ret a vs n h' tk' k (F.kept k) (news_plus F N k ha hn) (news_off N hn) hs
end
/-- the state behind the first if -/
noncomputable def P1 (h₀ : Heap) (L : Addr) (s : Shared) (s' : Shared) : Prop :=
  ∃ h tk m D ws c ns, s' = { s with heap := h, toks := tk } ∧ Fr h₀ L h m ∧ Has m [(Str.ofString "numbers", .ref D)] ∧ News h₀ L h [(D, listOf (List.toArray ws) c), (122, tabObj #[])] ∧ D ≠ 122 ∧ IntsAre ws ns ∧ 3 ≤ ns.length ∧ ns.length ≤ 8
/-- the ledger bears an entry of the listing -/
noncomputable def EntIn (led : List (Addr × Obj)) (v : Value) (f : FileD) : Prop :=
  ∃ a ka kv n t1 t2, v = .ref a ∧ (a, seqObj "tuple" #[.ref ka, .str (S (rowF f.1 f.2.1 3)) t1, .int f.2.2 t2] 0) ∈ led ∧ (ka, listOf (List.toArray kv) n) ∈ led ∧ IntsAre kv (keyF f.1 f.2.1 3)
theorem EntIn.mono {led led' : List (Addr × Obj)} (hs : ∀ q ∈ led, q ∈ led') {v : Value} {f : FileD} (h : EntIn led v f) : EntIn led' v f := by
  obtain ⟨a, ka, kv, n, t1, t2, e, h1, h2, h3⟩ := h
  exact ⟨a, ka, kv, n, t1, t2, e, hs _ h1, hs _ h2, h3⟩
noncomputable def ListJ (keep : List (Addr × Obj)) (l' : Addr) (fs : List FileD) (i : Nat) (m : Str → Option Value) (news : List (Addr × Obj)) : Prop :=
  Has m [(Str.ofString "listing", .ref l')] ∧ ∃ vs n tl, news = (122, tabObj #[]) :: (l', listOf (List.toArray vs) n) :: tl ∧ (∀ q ∈ tl, q.1 ≠ l' ∧ q.1 ≠ 122) ∧ (∀ q ∈ keep, q ∈ tl) ∧ Paired (EntIn tl) vs (fs.take i)
theorem p1_of {h₀ h : Heap} {L D : Addr} {s : Shared} {tk c : Nat} {m : Str → Option Value} {ws : List Value} {ns : List Int} {news : List (Addr × Obj)} (F : Fr h₀ L h m) (hm : Has m [(Str.ofString "numbers", .ref D)]) (N : News h₀ L h news)
    (h1 : (D, listOf (List.toArray ws) c) ∈ news) (h2 : (122, tabObj #[]) ∈ news) (hne : 122 < D) (hi : IntsAre ws ns) (l1 : 3 ≤ ns.length) (l2 : ns.length ≤ 8) : P1 h₀ L s { s with heap := h, toks := tk } :=
  ⟨h, tk, m, D, ws, c, ns, rfl, F, hm, fun q hq => by
    rcases List.mem_cons.mp hq with rfl | hq
    · exact N _ h1
    · rw [List.mem_singleton.mp hq]; exact N _ h2, Nat.ne_of_gt hne, hi, l1, l2⟩
theorem escF_len {l : List Nat} (hl : l.length ≤ 8) : (S (escF l)).length ≤ 48 := by
  show (List.toArray _).size ≤ 48
  rw [List.size_toArray]
  unfold escF
  rw [List.flatMap_def]
  exact esc_len hl
theorem mode_len (md : Int) : (S (fmChars md 10)).length ≤ 10 := by
  show (List.toArray _).size ≤ 10
  rw [List.size_toArray]
  simp [fmChars]
theorem row_S {l : List Nat} {md : Int} (h0 : 0 ≤ md) (h1 : md < 65536) : S (escF l) ++ Str.ofString "\"" ++ S (fmChars md 10) = S (rowF l md 3) := by
  rw [show Str.ofString "\"" = S [34] from rfl, S_append, S_append, row_is h0 h1]
theorem files_refs {tl : List (Addr × Obj)} {vs : List Value} {fs : List FileD} (hp : Paired (FileIn tl) vs fs) : ∀ v ∈ vs.toArray.toList, ∃ a, v = .ref a := fun v hv => by
  obtain ⟨i, hi, e⟩ := List.mem_iff_getElem.mp (by simpa using hv)
  obtain ⟨f, _, a, _, _, _, rfl, _⟩ := paired_get hp i v (by rw [List.getElem?_eq_getElem hi, e])
  exact ⟨a, rfl⟩
theorem take_snoc {α : Type} {l : List α} {i : Nat} {x : α} (h : l[i]? = some x) : l.take (i + 1) = l.take i ++ [x] := by rw [List.take_add_one, h]; rfl
theorem list_turn {prog : Program} {w : World} {A : Around} {E : Value → Shared → Prop} {s : Shared} {Q : Value → Shared → Prop} {h₀ : Heap} {L l' I ka D' : Addr} {oI : Obj} {m : Str → Option Value} {keep tl' : List (Addr × Obj)} {vs' kv : List Value} {n' kn i : Nat} {l : List Nat} {md sh : Int} {t3 tq : Tok} {fs : List FileD} {r : Str}
    (F' : Fr h₀ L s.heap m) (N' : News h₀ L s.heap ((D', seqObj "tuple" #[.ref ka, .str r tq, .int sh t3] 0) :: (ka, listOf (List.toArray kv) kn) :: (I, oI) :: (122, tabObj #[]) :: (l', listOf (List.toArray vs') n') :: tl'))
    (hr : r = S (rowF l md 3)) (hm : Has m [(Str.ofString "listing", .ref l')]) (offl' : ∀ q ∈ tl', q.1 ≠ l' ∧ q.1 ≠ 122) (hkeep : ∀ q ∈ keep, q ∈ tl') (hpr : Paired (EntIn tl') vs' (fs.take i)) (hI : ∀ p ∈ (122, tabObj #[]) :: (l', listOf (List.toArray vs') n') :: tl', p.1 ≠ I)
    (hfi : fs[i]? = some (l, md, sh)) (hi8 : i < 8) (hl122 : l' ≠ 122) (offk : ∀ q ∈ (I, oI) :: (122, tabObj #[]) :: (l', listOf (List.toArray vs') n') :: tl', q.1 ≠ ka) (hki : IntsAre kv (keyF l md 3)) (ltD : ka < D' ∧ I < D' ∧ 122 < D' ∧ l' < D' ∧ AllLt D' tl')
    (h : ∀ h₅ news₅, Fr h₀ L h₅ m → News h₀ L h₅ ((I, oI) :: news₅) → (∀ p ∈ news₅, p.1 ≠ I) → ListJ keep l' fs (i + 1) m news₅ → Q .none { s with heap := h₅ }) :
    wpAny (model prog w) A (call (.builtin "list.append") [.ref l', .ref D']) Q E s := by
  subst hr
  have hoffl : ∀ q ∈ tl', q.1 ≠ l' := fun q hq => (offl' q hq).1
  have hkl : ka ≠ l' := Ne.symm (offk _ (.tail _ (.tail _ (.head _))))
  have hk122 : ka ≠ 122 := Ne.symm (offk _ (.tail _ (.head _)))
  have hkI : ka ≠ I := Ne.symm (offk _ (.head _))
  have hvl : vs'.length ≤ 1000 := by rw [paired_len hpr, List.length_take]; omega
  refine append_my ((I, oI) :: (122, tabObj #[]) :: (l', listOf (List.toArray (vs' ++ [.ref D'])) (n' + 1)) :: (D', seqObj "tuple" #[.ref ka, .str (S (rowF l md 3)) tq, .int sh t3] 0) :: (ka, listOf (List.toArray kv) kn) :: tl') F' N' (.tail _ (.tail _ (.tail _ (.tail _ (.head _))))) (fun q hq => ?_) (by rw [sizeLine_eq, List.size_toArray]; omega) fun h₅ F₅ N₅ =>
    h h₅ _ F₅ N₅ (fun q hq => ?_) ⟨hm, vs' ++ [.ref D'], n' + 1, _, rfl, fun q hq => ?_, fun q hq => .tail _ (.tail _ (hkeep q hq)), ?_⟩
  · rcases List.mem_cons.mp hq with rfl | hq
    · exact .inr ⟨.tail _ (.tail _ (.head _)), Ne.symm (hI _ (.tail _ (.head _)))⟩
    rcases List.mem_cons.mp hq with rfl | hq
    · exact .inr ⟨.tail _ (.tail _ (.tail _ (.head _))), Ne.symm hl122⟩
    rcases List.mem_cons.mp hq with rfl | hq
    · exact .inl (by simp)
    rcases List.mem_cons.mp hq with rfl | hq
    · exact .inr ⟨.head _, Nat.ne_of_gt ltD.2.2.2.1⟩
    rcases List.mem_cons.mp hq with rfl | hq
    · exact .inr ⟨.tail _ (.head _), hkl⟩
    · exact .inr ⟨.tail _ (.tail _ (.tail _ (.tail _ (.tail _ hq)))), hoffl q hq⟩
  · rcases List.mem_cons.mp hq with rfl | hq
    · exact hI _ (.head _)
    rcases List.mem_cons.mp hq with rfl | hq
    · exact hI (l', listOf (List.toArray vs') n') (.tail _ (.head _))
    rcases List.mem_cons.mp hq with rfl | hq
    · exact Nat.ne_of_gt ltD.2.1
    rcases List.mem_cons.mp hq with rfl | hq
    · exact hkI
    · exact hI q (.tail _ (.tail _ hq))
  · rcases List.mem_cons.mp hq with rfl | hq
    · exact ⟨Nat.ne_of_gt ltD.2.2.2.1, Nat.ne_of_gt ltD.2.2.1⟩
    rcases List.mem_cons.mp hq with rfl | hq
    · exact ⟨hkl, hk122⟩
    · exact offl' q hq
  · rw [take_snoc hfi]
    exact paired_snoc ⟨D', ka, kv, kn, _, t3, rfl, .head _, .tail _ (.head _), hki⟩ (paired_mono (fun _ _ h => h.mono fun q hq => .tail _ (.tail _ hq)) hpr)
theorem list_start {h₀ h : Heap} {L a l' : Addr} {n : Nat} {vs : List Value} {c : Nat} {D : Addr} {ws : List Value} {tl : List (Addr × Obj)}
    (N : News h₀ L h ((a, listOf (List.toArray vs) n) :: (tl ++ [(l', listOf #[] 0), (D, listOf (List.toArray ws) c), (122, tabObj #[])]))) :
    News h₀ L h ((122, tabObj #[]) :: (l', listOf (List.toArray []) 0) :: ((a, listOf (List.toArray vs) n) :: tl)) := fun q hq => by
  rcases List.mem_cons.mp hq with rfl | hq
  · exact N _ (.tail _ (List.mem_append_right _ (.tail _ (.tail _ (.head _)))))
  rcases List.mem_cons.mp hq with rfl | hq
  · exact N _ (.tail _ (List.mem_append_right _ (.head _)))
  rcases List.mem_cons.mp hq with rfl | hq
  · exact N _ (.head _)
  · exact N _ (.tail _ (List.mem_append_left _ hq))
end Mine
end
section
open PySem PySem.W PySem.Calls PyProof.Rows
set_option maxRecDepth 100000
set_option maxHeartbeats 4000000
namespace Mine
noncomputable def fBody : Stmt → List Stmt
  | .FunctionDef _ _ b _ _ _ _ _ _ _ => b
  | _ => []
noncomputable def fScope : Stmt → Scope
  | .FunctionDef _ _ _ _ _ _ sc _ _ _ => sc
  | _ => default
noncomputable def lastS : List Stmt → Stmt
  | [] => .Pass default
  | [x] => x
  | _ :: y :: r => lastS (y :: r)
noncomputable def lawFD : Stmt := lastS PySem.Challenge.pw_oh0027_01.main.body
noncomputable def lawR4 : List Stmt := (fBody lawFD).tail.tail.tail.tail
noncomputable def lawR5 : List Stmt := lawR4.tail
noncomputable def lawR6 : List Stmt := lawR5.tail
noncomputable def lawR8 : List Stmt := lawR6.tail.tail
noncomputable def lawR9 : List Stmt := lawR8.tail
noncomputable def lawEnv (L fa : Addr) : Env := envOf (Str.ofString "law") (fScope lawFD) L fa (.ref 124)
theorem item_led {prog : Program} {w : World} {A : Around} {E : Value → Shared → Prop} {s : Shared} {h₀ : Heap} {L t : Addr} {led : List (Addr × Obj)} {value slice : Expr} {items : Array Value} {k : Int} {u : Tok} {j : Nat} {x : Value} {Q : Value → Shared → Prop} (N : News h₀ L s.heap led) (hm : (t, seqObj "tuple" items 0) ∈ led)
    (hlo : -(2 ^ 63) ≤ k) (hhi : k < 2 ^ 63) (hj : seqIndex? k items.size = some j) (hx : items[j]? = some x) (h : Q x s)
    (hs : subscripted slice false (.ref t) (.int k u) = operate [.ref t, .int k u] (getItem (.ref t) (.int k u)) := by with_unfolding_all rfl) (hg : ∀ r, letTemporaryGo value (.ref t) r = pure () := by intro _; with_unfolding_all rfl) :
    wpAny (model prog w) A (subscriptTail value slice (.ref t) (.int k u)) Q E s :=
  item_tuple ⟨_, (N _ hm).1, rfl, 0, rfl⟩ hlo hhi hj hx h hs hg
theorem item_e0 {prog : Program} {w : World} {A : Around} {E : Value → Shared → Prop} {s : Shared} {h₀ : Heap} {L t : Addr} {led : List (Addr × Obj)} {value slice : Expr} {x0 x1 x2 : Value} {u : Tok} {Q : Value → Shared → Prop} (N : News h₀ L s.heap led) (hm : (t, seqObj "tuple" #[x0, x1, x2] 0) ∈ led) (h : Q x0 s)
    (hs : subscripted slice false (.ref t) (.int 0 u) = operate [.ref t, .int 0 u] (getItem (.ref t) (.int 0 u)) := by with_unfolding_all rfl) (hg : ∀ r, letTemporaryGo value (.ref t) r = pure () := by intro _; with_unfolding_all rfl) :
    wpAny (model prog w) A (subscriptTail value slice (.ref t) (.int 0 u)) Q E s := item_led N hm (by decide) (by decide) (j := 0) rfl rfl h hs hg
theorem item_e1 {prog : Program} {w : World} {A : Around} {E : Value → Shared → Prop} {s : Shared} {h₀ : Heap} {L t : Addr} {led : List (Addr × Obj)} {value slice : Expr} {x0 x1 x2 : Value} {u : Tok} {Q : Value → Shared → Prop} (N : News h₀ L s.heap led) (hm : (t, seqObj "tuple" #[x0, x1, x2] 0) ∈ led) (h : Q x1 s)
    (hs : subscripted slice false (.ref t) (.int 1 u) = operate [.ref t, .int 1 u] (getItem (.ref t) (.int 1 u)) := by with_unfolding_all rfl) (hg : ∀ r, letTemporaryGo value (.ref t) r = pure () := by intro _; with_unfolding_all rfl) :
    wpAny (model prog w) A (subscriptTail value slice (.ref t) (.int 1 u)) Q E s := item_led N hm (by decide) (by decide) (j := 1) rfl rfl h hs hg
theorem item_e2 {prog : Program} {w : World} {A : Around} {E : Value → Shared → Prop} {s : Shared} {h₀ : Heap} {L t : Addr} {led : List (Addr × Obj)} {value slice : Expr} {x0 x1 x2 : Value} {u : Tok} {Q : Value → Shared → Prop} (N : News h₀ L s.heap led) (hm : (t, seqObj "tuple" #[x0, x1, x2] 0) ∈ led) (h : Q x2 s)
    (hs : subscripted slice false (.ref t) (.int 2 u) = operate [.ref t, .int 2 u] (getItem (.ref t) (.int 2 u)) := by with_unfolding_all rfl) (hg : ∀ r, letTemporaryGo value (.ref t) r = pure () := by intro _; with_unfolding_all rfl) :
    wpAny (model prog w) A (subscriptTail value slice (.ref t) (.int 2 u)) Q E s := item_led N hm (by decide) (by decide) (j := 2) rfl rfl h hs hg
theorem ents_get {led : List (Addr × Obj)} {vs : List Value} {fs : List FileD} {i : Nat} {v : Value} (hp : Paired (EntIn led) vs fs) (h : vs[i]? = some v) : ∃ f a ka kv n t1 t2, fs[i]? = some f ∧ v = .ref a ∧ (a, seqObj "tuple" #[.ref ka, .str (S (rowF f.1 f.2.1 3)) t1, .int f.2.2 t2] 0) ∈ led ∧ (ka, listOf (List.toArray kv) n) ∈ led ∧ IntsAre kv (keyF f.1 f.2.1 3) := by
  obtain ⟨f, hf, a, ka, kv, n, t1, t2, e, h1, h2, h3⟩ := paired_get hp i v h
  exact ⟨f, a, ka, kv, n, t1, t2, hf, e, h1, h2, h3⟩
theorem led_ints {h₀ h : Heap} {L ka : Addr} {led : List (Addr × Obj)} {kv : List Value} {n : Nat} {xs : List Int} (N : News h₀ L h led) (hm : (ka, listOf (List.toArray kv) n) ∈ led) (hi : IntsAre kv xs) : IntsAt h ka xs :=
  ⟨kv.toArray, News.isList N hm, by simpa using hi⟩
noncomputable def toldI (r1 r2 : List Nat) : Int := b2i (decide ((S r2).cps.toList < (S r1).cps.toList)) - b2i (decide ((S r1).cps.toList < (S r2).cps.toList))
theorem told_eq {f1 f2 : FileD} (p1 : 0 ≤ f1.2.1) (q1 : f1.2.1 < 65536) (p2 : 0 ≤ f2.2.1) (q2 : f2.2.1 < 65536) (h : keyF f1.1 f1.2.1 3 = keyF f2.1 f2.2.1 3) : toldI (rowF f1.1 f1.2.1 3) (rowF f2.1 f2.2.1 3) = 0 := by
  rw [key_row_eq p1 q1 p2 q2 h]
  unfold toldI
  omega
theorem told_lt {f1 f2 : FileD} (p1 : 0 ≤ f1.2.1) (q1 : f1.2.1 < 65536) (p2 : 0 ≤ f2.2.1) (q2 : f2.2.1 < 65536) (h : keyF f1.1 f1.2.1 3 < keyF f2.1 f2.2.1 3) : toldI (rowF f1.1 f1.2.1 3) (rowF f2.1 f2.2.1 3) = -1 := by
  have hr := key_row_lt p1 q1 p2 q2 h
  unfold toldI
  rw [decide_eq_true (show (S (rowF f1.1 f1.2.1 3)).cps.toList < (S (rowF f2.1 f2.2.1 3)).cps.toList from hr), decide_eq_false (show ¬ (S (rowF f2.1 f2.2.1 3)).cps.toList < (S (rowF f1.1 f1.2.1 3)).cps.toList from ll_asym hr)]
  rfl
theorem told_gt {f1 f2 : FileD} (p1 : 0 ≤ f1.2.1) (q1 : f1.2.1 < 65536) (p2 : 0 ≤ f2.2.1) (q2 : f2.2.1 < 65536) (h1 : ¬ keyF f1.1 f1.2.1 3 = keyF f2.1 f2.2.1 3) (h2 : ¬ keyF f1.1 f1.2.1 3 < keyF f2.1 f2.2.1 3) : toldI (rowF f1.1 f1.2.1 3) (rowF f2.1 f2.2.1 3) = 1 := by
  have h : keyF f2.1 f2.2.1 3 < keyF f1.1 f1.2.1 3 := Classical.byContradiction fun h3 => h1 (ki_tri h2 h3)
  have hr := key_row_lt p2 q2 p1 q1 h
  unfold toldI
  rw [decide_eq_true (show (S (rowF f2.1 f2.2.1 3)).cps.toList < (S (rowF f1.1 f1.2.1 3)).cps.toList from hr), decide_eq_false (show ¬ (S (rowF f1.1 f1.2.1 3)).cps.toList < (S (rowF f2.1 f2.2.1 3)).cps.toList from ll_asym hr)]
  rfl
theorem join_any {α : Type} {M : Model} {A : Around} {E : Value → Shared → Prop} {s : Shared} {t : Sem α} {Q : α → Shared → Prop} (P : α → Shared → Prop) (h1 : wpAny M A t P (fun _ _ => False) s) (h2 : ∀ v s', P v s' → Q v s') : wpAny M A t Q E s :=
  wpAny_mono h1 h2 fun _ _ h => h.elim
noncomputable def dueI (f1 f2 : FileD) : Int := if keyF f1.1 f1.2.1 3 = keyF f2.1 f2.2.1 3 then 0 else if keyF f1.1 f1.2.1 3 < keyF f2.1 f2.2.1 3 then -1 else 1
theorem told_due {f1 f2 : FileD} (p1 : 0 ≤ f1.2.1) (q1 : f1.2.1 < 65536) (p2 : 0 ≤ f2.2.1) (q2 : f2.2.1 < 65536) : toldI (rowF f1.1 f1.2.1 3) (rowF f2.1 f2.2.1 3) = dueI f1 f2 := by
  unfold dueI
  split
  · exact told_eq p1 q1 p2 q2 (by assumption)
  split
  · exact told_lt p1 q1 p2 q2 (by assumption)
  · exact told_gt p1 q1 p2 q2 (by assumption) (by assumption)
noncomputable def DueP (h₀ : Heap) (L : Addr) (s : Shared) (m : Str → Option Value) (news : List (Addr × Obj)) (d : Int) (v : Value) (s' : Shared) : Prop :=
  ∃ h' tk' t, v = .int d t ∧ s' = { s with heap := h', toks := tk' } ∧ Fr h₀ L h' m ∧ News h₀ L h' news
theorem DueP.mk {h₀ h' : Heap} {L : Addr} {s : Shared} {m : Str → Option Value} {news : List (Addr × Obj)} {tk' : Nat} {d e : Int} {t : Tok} (F : Fr h₀ L h' m) (N : News h₀ L h' news) (he : e = d) : DueP h₀ L s m news d (.int e t) { s with heap := h', toks := tk' } := ⟨h', tk', t, by rw [he], rfl, F, N⟩
theorem law_pairs {w : World} {p : Program} {loose : List Str} {mg mb : Str → Option Value} {L fa l' : Addr} {s : Shared} {Q : Flow → Shared → Prop} {E : Value → Shared → Prop} {h₀ : Heap} {m : Str → Option Value} {news : List (Addr × Obj)} {vs : List Value} {n : Nat} {fs : List FileD}
    (X : (hd.heap_39 w.params).In h₀) (T : TopRead p loose mg mb h₀) (F : Fr h₀ L s.heap (fun y => if y = Str.ofString "listing" then some (.ref l') else m y)) (N : News h₀ L s.heap news) (hl : (l', listOf (List.toArray vs) n) ∈ news)
    (hp : Paired (EntIn news) vs fs) (hz : fs.length ≤ 8) (hok : ∀ f ∈ fs, FileOk 8 f)
    (h : ∀ h' tk' (m' : Str → Option Value), Fr h₀ L h' (fun y => if y = Str.ofString "listing" then some (.ref l') else m' y) → News h₀ L h' news →
      wpAny (model PySem.Challenge.rw_oh0027_01.row.prog w) (callerA.deeper (lawEnv L fa)) (execs lawR5 (lawEnv L fa)) Q (fun _ _ => False) { s with heap := h', toks := tk' }) :
    wpAny (model PySem.Challenge.rw_oh0027_01.row.prog w) (callerA.deeper (lawEnv L fa)) (execs lawR4 (lawEnv L fa)) Q E s := by
  k_with_none
  k_with "exec For Name Name cons nil" => (refine hold_in ?_)
  k_with "exec For" => (refine hold_in ?_)
  k_with "subscriptTail" => ((first | ((with_reducible show wpAny _ _ (subscriptTail _ _ (Value.ref _) (Value.int 0 _)) _ _ _); k_dflt (refine item_e0 (by k_asm) (by first | assumption | exact .tail _ (by assumption) | exact .tail _ (.tail _ (by assumption)) | exact .tail _ (.tail _ (.tail _ (by assumption))) | exact .tail _ (.tail _ (.tail _ (.tail _ (by assumption))))) ?_)) | ((with_reducible show wpAny _ _ (subscriptTail _ _ (Value.ref _) (Value.int 1 _)) _ _ _); k_dflt (refine item_e1 (by k_asm) (by first | assumption | exact .tail _ (by assumption) | exact .tail _ (.tail _ (by assumption)) | exact .tail _ (.tail _ (.tail _ (by assumption))) | exact .tail _ (.tail _ (.tail _ (.tail _ (by assumption))))) ?_)) | ((with_reducible show wpAny _ _ (subscriptTail _ _ (Value.ref _) (Value.int 2 _)) _ _ _); k_dflt (refine item_e2 (by k_asm) (by first | assumption | exact .tail _ (by assumption) | exact .tail _ (.tail _ (by assumption)) | exact .tail _ (.tail _ (.tail _ (by assumption))) | exact .tail _ (.tail _ (.tail _ (.tail _ (by assumption))))) ?_)) ))
  k_with "compareOp Eq ref ref" => (refine hold_in ?_)
  k_with "compareOp Lt ref ref" => (refine hold_in ?_)
  k_with "call ref" => ((first | ((with_reducible show wpAny _ _ (call (Value.ref 28) _) _ _ _); (refine c_threeK ((amb_law _).mono (by decide)) (by assumption) (by assumption) (by k_asm) (by k_asm) ?_); intro _ _ _ _ _; (try k_sweep))))
  k_with "eval IfExp" => (((fail_if_success (with_reducible show wpAny _ _ _ (DueP _ _ _ _ _ _) _ _)); refine hold_in ?_))
  revert X; k_fill; intro X
  dsimp only [lawR5, lawR4, lawEnv, lawFD, PySem.Challenge.pw_oh0027_01, lastS, fBody, fScope, List.tail_cons] at h ⊢
  have hvl : vs.length = fs.length := paired_len hp
  (repeat' (first | (k_unfold; (try dsimp only)) | (walk1; (all_goals try dsimp only)) | (dsimp only; walk1)))
  unfold Hold
  refine wpAny_For ?_ (by intro _; rfl)
  refine ld F rfl ?_
  refine loop_list (fun i m news' => Has m [(Str.ofString "listing", .ref l')] ∧ news' = news) rfl go_name (items := vs.toArray) (fun i h' m' news' hj F' N' => by obtain ⟨_, rfl⟩ := hj; exact News.isList N' hl) F N ⟨Has.cons rfl Has.nil, rfl⟩ ?_ ?_
  · intro i v m₁ news₁ h₁ tk₁ I oI hx hJ F₁ N₁ hI
    refine turn_abs fun G₁ hG₁ => ?_
    obtain ⟨hm, rfl⟩ := hJ
    obtain ⟨f1, a1, k1, kv1, n1, t1, t1', hf1, rfl, e1, e2, e3⟩ := ents_get hp (by simpa using hx)
    replace F₁ := fr_has F₁ hm
    simp only [withs] at F₁
    clear F N
    show wpAny _ _ _ _ _ _
    (repeat' (first | (k_unfold; (try dsimp only)) | (walk1; (all_goals try dsimp only)) | (dsimp only; walk1)))
    unfold Hold
    rename_i F₂ N₂
    refine wpAny_For ?_ (by intro _; rfl)
    refine ld F₂ rfl ?_
    refine loop_list (fun i m news' => Has m [(Str.ofString "listing", .ref l'), (Str.ofString "one", .ref a1)] ∧ news' = (I, oI) :: news₁) rfl go_name (items := vs.toArray) (fun i h' m' news' hj F' N' => by obtain ⟨_, rfl⟩ := hj; exact News.isList N' (.tail _ hl)) F₂ N₂ ⟨Has.cons rfl (Has.cons rfl Has.nil), rfl⟩ ?_ ?_
    · intro j v m₃ news₃ h₃ tk₃ I₂ oI₂ hx₂ hJ F₃ N₃ hI₂
      refine turn_abs fun G₂ hG₂ => ?_
      obtain ⟨hm₃, rfl⟩ := hJ
      obtain ⟨f2, a2, k2, kv2, n2, t2, t2', hf2, rfl, g1, g2, g3⟩ := ents_get hp (by simpa using hx₂)
      replace F₃ := fr_has F₃ hm₃
      simp only [withs] at F₃
      clear F₂ N₂
      obtain ⟨_, p1, q1⟩ := hok f1 (List.mem_of_getElem? hf1)
      obtain ⟨_, p2, q2⟩ := hok f2 (List.mem_of_getElem? hf2)
      show wpAny _ _ _ _ _ _
      (repeat' (first | (k_unfold; (try dsimp only)) | (walk1; (all_goals try dsimp only)) | (dsimp only; walk1)))
      unfold Hold
      rename_i F₄ N₄
      refine join_any (DueP h₀ L s (fun y => if y = Str.ofString "other" then some (.ref a2) else if y = Str.ofString "listing" then some (.ref l') else if y = Str.ofString "one" then some (.ref a1) else m₃ y) ((I₂, oI₂) :: (I, oI) :: news₁) (dueI f1 f2)) ?_ ?_
      · (repeat' (first | (k_unfold; (try dsimp only)) | (walk1; (all_goals try dsimp only)) | (dsimp only; walk1)))
        unfold Hold
        refine cmp_ofEq (rcAt_ints (led_ints N₄ (.tail _ (.tail _ e2)) e3) (led_ints N₄ (.tail _ (.tail _ g2)) g3) (by have := (amb_law (lawEnv L fa)).units; exact Nat.lt_of_le_of_lt (Nat.le_add_right _ (20 * 4 + 20)) this) _ _ _ _ ?_)
        generalize hce : decide (keyF f1.1 f1.2.1 3 = keyF f2.1 f2.2.1 3) = ce
        (repeat' (first | (k_unfold; (try dsimp only)) | (walk1; (all_goals try dsimp only)) | (dsimp only; walk1)))
        · exact DueP.mk F₄ N₄ (if_pos (of_decide_eq_true (hce.trans (by assumption)))).symm
        · have hne := of_decide_eq_false (hce.trans (by assumption))
          unfold Hold
          refine cmp_ofLt (rc_lt (led_ints N₄ (.tail _ (.tail _ e2)) e3) (led_ints N₄ (.tail _ (.tail _ g2)) g3) (by have := (amb_law (lawEnv L fa)).units; exact Nat.lt_of_le_of_lt (Nat.le_add_right _ (20 * 4 + 20)) this) ?_)
          clear hce
          generalize hcl : decide (keyF f1.1 f1.2.1 3 < keyF f2.1 f2.2.1 3) = cl
          (repeat' (first | (k_unfold; (try dsimp only)) | (walk1; (all_goals try dsimp only)) | (dsimp only; walk1)))
          · exact DueP.mk F₄ N₄ ((if_neg hne).trans (if_pos (of_decide_eq_true (hcl.trans (by assumption))))).symm
          · exact DueP.mk F₄ N₄ ((if_neg hne).trans (if_neg (of_decide_eq_false (hcl.trans (by assumption))))).symm
      · clear F₄ N₄
        rintro v s' ⟨h₅, tk₅, t₅, rfl, rfl, F₅, N₅⟩
        have htd := told_due p1 q1 p2 q2
        show wpAny _ _ _ _ _ _
        (repeat' (first | (k_unfold; (try dsimp only)) | (walk1; (all_goals try dsimp only)) | (dsimp only; walk1)))
        · exact absurd htd (by assumption)
        · exact hG₂ _ _ <| TEnd.next (by assumption) (by assumption) hI₂ ⟨Has.cons rfl (Has.cons rfl Has.nil), rfl⟩
    · rintro h₃ tk₃ m₃ news₃ ⟨hm₃, rfl⟩ F₃ N₃
      replace F₃ := fr_has F₃ hm₃
      simp only [withs] at F₃
      clear F₂ N₂
      (repeat' (first | (k_unfold; (try dsimp only)) | (walk1; (all_goals try dsimp only)) | (dsimp only; walk1)))
      exact hG₁ _ _ <| TEnd.next F₃ N₃ hI ⟨Has.cons rfl Has.nil, rfl⟩
  · rintro h₃ tk₃ m₃ news₃ ⟨hm₃, rfl⟩ F₃ N₃
    replace F₃ := fr_has F₃ hm₃
    simp only [withs] at F₃
    refine wpAny_execs_nil ?_
    exact wpAny_mono (h h₃ tk₃ m₃ F₃ N₃) (fun _ _ q => q) fun _ _ q => q.elim
end Mine
end
section
open PySem PySem.W PySem.Calls PyProof.Rows
set_option maxRecDepth 100000
set_option maxHeartbeats 4000000
namespace Mine
abbrev lamParams (p4 : Pos) : Arguments := { posonlyargs := [], args := [{ arg := Str.ofString "entry", annotation := none, pos := p4 }], vararg := none, kwonlyargs := [], kw_defaults := [], kwarg := none, defaults := [] }
abbrev lamScope : Scope := { kind := .function, names := [(Str.ofString "entry", .local)], isGenerator := false, isCoroutine := false }
theorem lam_call {prog : Program} {w : World} {A : Around} {E Q : Value → Shared → Prop} {s : Shared} {f c' a ka : Addr} {p1 p2 p3 p4 : Pos} {k0 : Nat} {name qual : Str} {pm ctv x1 x2 : Value}
    (hroom : A.depth < recursionLimit) (hlim : s.heap.NoLimit) (ho : s.heap.get? f = some (kla_obj name qual (lamParams p4) (.Subscript (.Name (Str.ofString "entry") p1) (.Constant (.int 0) k0 p2) p3) lamScope [] pm c' ctv))
    (hcd : s.heap.CodeRec (.ref c') qual) (ht : IsTup s.heap a #[.ref ka, x1, x2])
    (h : ∀ h' tk, s.heap.StaysIn h' → Q (.ref ka) { s with heap := h', toks := tk }) : wpAny (model prog w) A (call (.ref f) [.ref a]) Q E s := by
  k_with_none
  refine wpAny_call (kla_callFunE hroom ho rfl rfl rfl rfl hcd ?_)
  rw [show bindArgs (kla_fn name qual (lamParams p4) (.Subscript (.Name (Str.ofString "entry") p1) (.Constant (.int 0) k0 p2) p3) lamScope [] pm (.ref c') ctv) ⟨[.ref a], []⟩ = pure [(Str.ofString "entry", .ref a)] from rfl]
  refine wpAny_pure (wpAny_newFunctionEnv (show ∀ x ∈ lamScope.names, x.2 ≠ .cell by decide) (locs rfl) (fun h₁ hns hsb => ⟨hlim.fresh _ hsb, ?_⟩) rfl)
  have hk₁ : ∀ b o, s.heap.get? b = some o → h₁.get? b = some o := fun b o e => hsb.extBut b o (Nat.ne_of_lt (Heap.lt_size e)) (Heap.get?_push_of_some _ e)
  have F : Fr s.heap s.heap.objs.size h₁ (fun y => [(Str.ofString "entry", Value.ref a)].reverse.lookup y) := ⟨hns, hk₁, Nat.le_refl _⟩
  have N : News s.heap s.heap.objs.size h₁ [] := News.nil
  refine kla_codeExpr (wpAny_mono (Q := fun v s' => ∃ h' tk, v = .ref ka ∧ s' = { s with heap := h', toks := tk } ∧ s.heap.StaysIn h') (E := fun _ _ => False) ?_ ?_ fun _ _ x => x.elim)
  · show wpAny _ _ (eval _ (envOf qual lamScope s.heap.objs.size f (.ref c'))) _ _ _
    have ht₁ := ht.keeps hk₁
    clear ht
    (repeat' (first | (k_unfold; (try dsimp only)) | (walk1; (all_goals try dsimp only)) | (dsimp only; walk1)))
    exact hk₁
  · rintro v s' ⟨h', tk, rfl, rfl, hk⟩
    exact h h' tk hk
theorem lam_made {M : Model} {A : Around} {E Q : Value → Shared → Prop} {s : Shared} {h₀ : Heap} {L a c P : Addr} {m mg mb : Str → Option Value} {cn : Str} {cs : Scope} {rest : List (Addr × Obj)} {p : Program} {loose : List Str} {mean : ExcName → Option Value} {params : Arguments} {body : Expr} {scope : Scope} {pos : Pos}
    (F : Fr h₀ L s.heap m) (N : News h₀ L s.heap ((P, tabObj #[]) :: rest)) (T : Top p loose mean mg mb h₀) (C : CodeHd h₀ c P) (off : ∀ q ∈ rest, q.1 ≠ P) (hdef : defaultsOf params (envOf cn cs L a (.ref c)) = ([], [])) (hcl : closureFor scope (envOf cn cs L a (.ref c)) = pure [])
    (h : ∀ f c' oc vs t qual pm ctv h' tk ps, Fr h₀ L h' m → News h₀ L h' ((f, kla_obj "<lambda>" qual params body scope [] pm c' ctv) :: (c', oc) :: (P, tabObj ps) :: rest) → oc.data = .fields vs → vs[1]? = some (.str qual t) → (∀ q ∈ (P, tabObj #[]) :: rest, q.1 < c') → c' < f → Q (.ref f) { s with heap := h', toks := tk }) :
    wpAny M A (eval (.Lambda params body scope pos) (envOf cn cs L a (.ref c))) Q E s :=
  kla_eval hdef (kla_nest (cl := []) F N T C rfl (UpdF.head off) trivial rfl hcl fun f c' oc vs t ctv h' tk F' N' h1 h2 h3 h4 => h f c' oc vs t _ _ ctv h' tk _ F' N' h1 h2 h3 h4)
theorem keys_of {led : List (Addr × Obj)} {vs : List Value} {fs : List FileD} (h : Paired (EntIn led) vs fs) : ∃ kv : List Value, Paired (fun v k => ∃ a ka x1 x2, v = .ref a ∧ k = .ref ka ∧ (a, seqObj "tuple" #[.ref ka, x1, x2] 0) ∈ led) vs kv ∧ Paired (fun k x => ∃ ka kvs n, k = .ref ka ∧ (ka, listOf (List.toArray kvs) n) ∈ led ∧ IntsAre kvs x) kv (fs.map fun f => keyF f.1 f.2.1 3) := by
  induction h with
  | nil => exact ⟨[], .nil, .nil⟩
  | cons r _ ih =>
    obtain ⟨a, ka, kvs, n, t1, t2, e, h1, h2, h3⟩ := r
    obtain ⟨kv, p1, p2⟩ := ih
    exact ⟨.ref ka :: kv, .cons ⟨a, ka, _, _, e, rfl, h1⟩ p1, .cons ⟨ka, kvs, n, rfl, h2, h3⟩ p2⟩
theorem law_sort {w : World} {p : Program} {loose : List Str} {mean : ExcName → Option Value} {mg mb : Str → Option Value} {L fa l' : Addr} {s : Shared} {Q : Flow → Shared → Prop} {E : Value → Shared → Prop} {h₀ : Heap} {m : Str → Option Value} {rest : List (Addr × Obj)} {vs : List Value} {n : Nat} {fs : List FileD}
    (X : (hd.heap_39 w.params).In h₀) (T : Top p loose mean mg mb h₀) (C : CodeHd h₀ 124 122) (F : Fr h₀ L s.heap (fun y => if y = Str.ofString "listing" then some (.ref l') else m y)) (N : News h₀ L s.heap ((122, tabObj #[]) :: rest)) (off : ∀ q ∈ rest, q.1 ≠ 122)
    (hl : (l', listOf (List.toArray vs) n) ∈ rest) (hp : Paired (EntIn rest) vs fs) (hz0 : 3 ≤ fs.length) (hz : fs.length ≤ 8)
    (h : ∀ h' tk' (m' : Str → Option Value) D q c ps, Pm fs.length q → Up (fun i => (fs.map fun f => keyF f.1 f.2.1 3).getD i []) q fs.length → Fr h₀ L h' (fun y => if y = Str.ofString "ordered" then some (.ref D) else m' y) →
      News h₀ L h' ((122, tabObj ps) :: (D, listOf (List.toArray (q.toList.map fun i => vs.getD i Value.none)) c) :: rest) → (∀ q ∈ rest, q.1 ≠ D) → D ≠ 122 →
      wpAny (model PySem.Challenge.rw_oh0027_01.row.prog w) (callerA.deeper (lawEnv L fa)) (execs lawR6 (lawEnv L fa)) Q (fun _ _ => False) { s with heap := h', toks := tk' }) :
    wpAny (model PySem.Challenge.rw_oh0027_01.row.prog w) (callerA.deeper (lawEnv L fa)) (execs lawR5 (lawEnv L fa)) Q E s := by
  k_with_none
  k_with "storeName" => (refine hold_in ?_)
  k_with "eval Lambda" => (refine hold_in ?_)
  k_with "call builtin:sorted" => (refine hold_in ?_)
  revert X; k_fill; intro X
  dsimp only [lawR6, lawR5, lawR4, lawEnv, lawFD, PySem.Challenge.pw_oh0027_01, lastS, fBody, fScope, List.tail_cons] at h ⊢
  have hvl : vs.length = fs.length := paired_len hp
  have TR := topRead_of T
  (repeat' (first | (k_unfold; (try dsimp only)) | (walk1; (all_goals try dsimp only)) | (dsimp only; walk1)))
  unfold Hold
  refine lam_made F N T C off rfl rfl fun f c' oc cvs ct qual pm ctv h₁ tk₁ ps F₁ N₁ hoc hcv hlt hcf => ?_
  clear F N
  (repeat' (first | (k_unfold; (try dsimp only)) | (walk1; (all_goals try dsimp only)) | (dsimp only; walk1)))
  unfold Hold
  obtain ⟨kv, hp1, hp2⟩ := keys_of hp
  have hkl : kv.length = vs.length := (paired_len hp1).symm
  refine my_sorted (vs := vs) (kv := kv) (xss := fs.map fun f => keyF f.1 f.2.1 3) (Nat.lt_of_le_of_lt (Nat.add_le_add_left (by decide) _) (amb_law (lawEnv L fa)).units) F₁ N₁ (News.isList N₁ (.tail _ (.tail _ (.tail _ hl)))) (fun h' F' N' => paired_mono (fun k x ⟨ka, kvs, n, e, h1, h2⟩ => ⟨ka, e, led_ints N' (.tail _ (.tail _ (.tail _ h1))) h2⟩) hp2) hkl (by omega) (by omega) ?_ fun D h' tk q c a1 a2 F' N' lt => ?_
  · intro i v k hv hk h' tk' own F' N'
    obtain ⟨k', e, a, ka, x1, x2, rfl, rfl, ht⟩ := paired_get hp1 i v hv
    rw [hk] at e
    obtain rfl := Option.some.inj e
    exact lam_call (s := { s with heap := h', toks := tk' }) (Nat.lt_of_le_of_lt (Nat.le_add_right _ _) (amb_law (lawEnv L fa)).depth) (T.nolimit.keeps F'.keep) (N' _ (List.mem_append_left _ (.head _))).1 (codeRec_news N' (List.mem_append_left _ (.tail _ (.head _))) hoc hcv)
      ⟨_, (N' _ (List.mem_append_left _ (.tail _ (.tail _ (.tail _ ht))))).1, rfl, _, rfl⟩ fun h'' tk'' hk'' => ⟨h'', tk'', rfl, rfl, F'.kept hk'', N'.grown hk''⟩
  · rw [hvl] at a1 a2
    (repeat' (first | (k_unfold; (try dsimp only)) | (walk1; (all_goals try dsimp only)) | (dsimp only; walk1)))
    unfold Hold
    refine stN F' N' (fun h₂ F₂ N₂ => ?_) rfl rfl
    refine wpAny_mono (h h₂ _ _ D q c ps a1 a2 F₂ (fun z hz => ?_) (fun z hz => Nat.ne_of_lt (lt z (.tail _ (.tail _ (.tail _ hz))))) (Nat.ne_of_gt (lt _ (.tail _ (.tail _ (.head _)))))) (fun _ _ z => z) fun _ _ z => z.elim
    rcases List.mem_cons.mp hz with rfl | hz
    · exact N₂ _ (.tail _ (.tail _ (.tail _ (.head _))))
    rcases List.mem_cons.mp hz with rfl | hz
    · exact N₂ _ (.head _)
    · exact N₂ _ (.tail _ (.tail _ (.tail _ (.tail _ hz))))
end Mine
end
section
open PySem PySem.W PySem.Calls PyProof.Rows
open PyProof.Rows.LCg (NsObj ns_obj fr_but news_but)
set_option maxRecDepth 100000
set_option maxHeartbeats 4000000
namespace Mine
noncomputable def lawR7 : List Stmt := lawR6.tail
noncomputable def entE (f : FileD) : List Int × List Nat := (keyF f.1 f.2.1 3, rowF f.1 f.2.1 3)
noncomputable def PairIn (led : List (Addr × Obj)) (v : Value) (e : List Int × List Nat) : Prop := ∃ a ka kv n t, v = .ref a ∧ (a, seqObj "tuple" #[.ref ka, .str (S e.2) t] 0) ∈ led ∧ (ka, listOf (List.toArray kv) n) ∈ led ∧ IntsAre kv e.1
theorem PairIn.mono {led led' : List (Addr × Obj)} (hs : ∀ q ∈ led, q ∈ led') {v : Value} {e : List Int × List Nat} (h : PairIn led v e) : PairIn led' v e := by
  obtain ⟨a, ka, kv, n, t, e, h1, h2, h3⟩ := h
  exact ⟨a, ka, kv, n, t, e, hs _ h1, hs _ h2, h3⟩
noncomputable def CompJ (news : List (Addr × Obj)) (fs : List FileD) (pr : FileD → Bool) (i : Nat) (ys : List Value) (nw : List (Addr × Obj)) : Prop :=
  ∃ own, nw = own ++ news ∧ Paired (PairIn nw) ys (((fs.take i).filter pr).map entE)
theorem CompJ.len {news : List (Addr × Obj)} {fs : List FileD} {pr : FileD → Bool} {i : Nat} {ys : List Value} {nw : List (Addr × Obj)} (h : CompJ news fs pr i ys nw) : ys.length ≤ i := by
  obtain ⟨own, rfl, hp⟩ := h
  rw [paired_len hp, List.length_map]
  exact Nat.le_trans (List.length_filter_le _ _) (by rw [List.length_take]; omega)
theorem CompJ.no {news : List (Addr × Obj)} {fs : List FileD} {pr : FileD → Bool} {i : Nat} {ys : List Value} {nw : List (Addr × Obj)} {f : FileD} (h : CompJ news fs pr i ys nw) (hf : fs[i]? = some f) (hpr : pr f = false) : CompJ news fs pr (i + 1) ys nw := by
  obtain ⟨own, rfl, hp⟩ := h
  refine ⟨own, rfl, ?_⟩
  rw [take_snoc hf, List.filter_append, List.filter_cons, hpr]
  simpa using hp
theorem CompJ.yes {news : List (Addr × Obj)} {fs : List FileD} {pr : FileD → Bool} {i : Nat} {ys : List Value} {nw : List (Addr × Obj)} {f : FileD} {T ka : Addr} {kv : List Value} {n : Nat} {t : Tok} (h : CompJ news fs pr i ys nw) (hf : fs[i]? = some f) (hpr : pr f = true)
    (hk : (ka, listOf (List.toArray kv) n) ∈ news) (hi : IntsAre kv (keyF f.1 f.2.1 3)) : CompJ news fs pr (i + 1) (ys ++ [.ref T]) ((T, seqObj "tuple" #[.ref ka, .str (S (rowF f.1 f.2.1 3)) t] 0) :: nw) := by
  obtain ⟨own, rfl, hp⟩ := h
  refine ⟨(T, seqObj "tuple" #[.ref ka, .str (S (rowF f.1 f.2.1 3)) t] 0) :: own, rfl, ?_⟩
  rw [take_snoc hf, List.filter_append, List.filter_cons, hpr, List.map_append]
  refine paired_snoc ?_ (paired_mono (fun _ _ h => h.mono fun q hq => .tail _ hq) hp)
  exact ⟨T, ka, kv, n, t, rfl, .head _, .tail _ (List.mem_append_right _ hk), hi⟩
theorem cend_yes {h₀ h' : Heap} {L I C D T : Addr} {m : Str → Option Value} {s : Shared} {oI oC oD oT : Obj} {J : List (Addr × Obj) → Prop} {tk : Nat} {nw : List (Addr × Obj)} (F : Fr h₀ L h' m) (N : News h₀ L h' ((T, oT) :: (I, oI) :: (C, oC) :: (D, oD) :: nw))
    (off : ∀ p ∈ nw, p.1 ≠ I ∧ p.1 ≠ C ∧ p.1 ≠ D) (h1 : I < T) (h2 : C < T) (h3 : D < T) (hj : J ((T, oT) :: nw)) : CEnd h₀ L m s I oI C oC D oD J { s with heap := h', toks := tk } := by
  refine CEnd.mk F (fun q hq => ?_) (fun q hq => ?_) hj
  · rcases List.mem_cons.mp hq with rfl | hq
    · exact N _ (.tail _ (.head _))
    rcases List.mem_cons.mp hq with rfl | hq
    · exact N _ (.tail _ (.tail _ (.head _)))
    rcases List.mem_cons.mp hq with rfl | hq
    · exact N _ (.tail _ (.tail _ (.tail _ (.head _))))
    rcases List.mem_cons.mp hq with rfl | hq
    · exact N _ (.head _)
    · exact N _ (.tail _ (.tail _ (.tail _ (.tail _ hq))))
  · rcases List.mem_cons.mp hq with rfl | hq
    · exact ⟨Nat.ne_of_gt h1, Nat.ne_of_gt h2, Nat.ne_of_gt h3⟩
    · exact off q hq
theorem law_first {w : World} {p : Program} {loose : List Str} {mg mb : Str → Option Value} {L fa D : Addr} {s : Shared} {Q : Flow → Shared → Prop} {E : Value → Shared → Prop} {h₀ : Heap} {m : Str → Option Value} {news : List (Addr × Obj)} {vs : List Value} {n : Nat} {fs : List FileD}
    (X : (hd.heap_39 w.params).In h₀) (T : TopRead p loose mg mb h₀) (F : Fr h₀ L s.heap (fun y => if y = Str.ofString "ordered" then some (.ref D) else m y)) (N : News h₀ L s.heap news)
    (hl : (D, listOf (List.toArray vs) n) ∈ news) (hp : Paired (EntIn news) vs fs) (hz : fs.length ≤ 8)
    (h : ∀ h' tk' D1 c1 ys own, Fr h₀ L h' (fun y => if y = Str.ofString "first" then some (.ref D1) else if y = Str.ofString "ordered" then some (.ref D) else m y) →
      News h₀ L h' ((D1, listOf (List.toArray ys) c1) :: (own ++ news)) → (∀ q ∈ own ++ news, q.1 ≠ D1) → Paired (PairIn (own ++ news)) ys ((fs.filter fun f => f.2.2 != 1).map entE) →
      wpAny (model PySem.Challenge.rw_oh0027_01.row.prog w) (callerA.deeper (lawEnv L fa)) (execs lawR7 (lawEnv L fa)) Q (fun _ _ => False) { s with heap := h', toks := tk' }) :
    wpAny (model PySem.Challenge.rw_oh0027_01.row.prog w) (callerA.deeper (lawEnv L fa)) (execs lawR6 (lawEnv L fa)) Q E s := by
  k_with_none
  k_with "exec Assign cons ListComp" => (refine hold_in ?_)
  k_with "subscriptTail" => ((first | ((with_reducible show wpAny _ _ (subscriptTail _ _ (Value.ref _) (Value.int 0 _)) _ _ _); k_dflt (refine item_e0 (by k_asm) (by exact .tail _ (.tail _ (.tail _ (List.mem_append_right _ (by assumption))))) ?_)) | ((with_reducible show wpAny _ _ (subscriptTail _ _ (Value.ref _) (Value.int 1 _)) _ _ _); k_dflt (refine item_e1 (by k_asm) (by exact .tail _ (.tail _ (.tail _ (List.mem_append_right _ (by assumption))))) ?_)) | ((with_reducible show wpAny _ _ (subscriptTail _ _ (Value.ref _) (Value.int 2 _)) _ _ _); k_dflt (refine item_e2 (by k_asm) (by exact .tail _ (.tail _ (.tail _ (List.mem_append_right _ (by assumption))))) ?_))))
  revert X; k_fill; intro X
  dsimp only [lawR7, lawR6, lawR5, lawR4, lawEnv, lawFD, PySem.Challenge.pw_oh0027_01, lastS, fBody, fScope, List.tail_cons] at h ⊢
  have hvl : vs.length = fs.length := paired_len hp
  (repeat' (first | (k_unfold; (try dsimp only)) | (walk1; (all_goals try dsimp only)) | (dsimp only; walk1)))
  unfold Hold
  refine comp_enterA (by with_unfolding_all rfl) rfl rfl (by decide) (by intro _; rfl) ?_
  show wpAny _ _ _ _ _ _
  (repeat' (first | (k_unfold; (try dsimp only)) | (walk1; (all_goals try dsimp only)) | (dsimp only; walk1)))
  refine comp_listA (its := vs) (CompJ news fs fun f => f.2.2 != 1) (by omega) rfl (fun i ys h' nw F' N' hJ => by obtain ⟨own, rfl, _⟩ := hJ; exact News.isList N' (List.mem_append_right _ hl)) (fun i ys nw hJ => hJ.len) rfl rfl rfl (by decide) rfl rfl F N ⟨[], rfl, by simpa using .nil⟩ ?_ ?_
  · rintro i v ys nw h₁ tk₁ C oC D₁ k I oI m₂ hv hJ hoC hm₂ F₁ N₁ off hIC hID hCD
    obtain ⟨f1, a1, k1, kv1, n1, t1, t1', hf1, rfl, e1, e2, e3⟩ := ents_get hp hv
    have hJ' := hJ
    obtain ⟨own, rfl, _⟩ := hJ'
    refine wpAny_tests_one ?_
    clear F N
    show wpAny _ _ _ _ _ _
    (repeat' (first | (k_unfold; (try dsimp only)) | (walk1; (all_goals try dsimp only)) | (dsimp only; walk1)))
    · (with_reducible rename f1.2.2 ≠ 1 => hne)
      rename_i F' N' lt
      exact cend_yes F' N' off lt.1 lt.2.1 lt.2.2.1 (hJ.yes hf1 (by simpa using hne) e2 e3)
    · (with_reducible rename f1.2.2 = 1 => heq)
      exact CEnd.mk F₁ N₁ off (hJ.no hf1 (by simp [heq]))
  · rintro D₁ k h₁ tk₁ ys nw hJ F₁ N₁ off
    obtain ⟨own, rfl, hp'⟩ := hJ
    rw [hvl, List.take_length] at hp'
    exact wpAny_mono (h h₁ tk₁ D₁ k ys own F₁ N₁ off hp') (fun _ _ z => z) fun _ _ z => z.elim
theorem law_second {w : World} {p : Program} {loose : List Str} {mg mb : Str → Option Value} {L fa D D1 : Addr} {s : Shared} {Q : Flow → Shared → Prop} {E : Value → Shared → Prop} {h₀ : Heap} {m : Str → Option Value} {news : List (Addr × Obj)} {vs : List Value} {n : Nat} {fs : List FileD}
    (X : (hd.heap_39 w.params).In h₀) (T : TopRead p loose mg mb h₀) (F : Fr h₀ L s.heap (fun y => if y = Str.ofString "first" then some (.ref D1) else if y = Str.ofString "ordered" then some (.ref D) else m y)) (N : News h₀ L s.heap news)
    (hl : (D, listOf (List.toArray vs) n) ∈ news) (hp : Paired (EntIn news) vs fs) (hz : fs.length ≤ 8)
    (h : ∀ h' tk' D2 c1 ys own, Fr h₀ L h' (fun y => if y = Str.ofString "second" then some (.ref D2) else if y = Str.ofString "first" then some (.ref D1) else if y = Str.ofString "ordered" then some (.ref D) else m y) →
      News h₀ L h' ((D2, listOf (List.toArray ys) c1) :: (own ++ news)) → (∀ q ∈ own ++ news, q.1 ≠ D2) → Paired (PairIn (own ++ news)) ys ((fs.filter fun f => f.2.2 != 0).map entE) →
      wpAny (model PySem.Challenge.rw_oh0027_01.row.prog w) (callerA.deeper (lawEnv L fa)) (execs lawR8 (lawEnv L fa)) Q (fun _ _ => False) { s with heap := h', toks := tk' }) :
    wpAny (model PySem.Challenge.rw_oh0027_01.row.prog w) (callerA.deeper (lawEnv L fa)) (execs lawR7 (lawEnv L fa)) Q E s := by
  k_with_none
  k_with "exec Assign cons ListComp" => (refine hold_in ?_)
  k_with "subscriptTail" => ((first | ((with_reducible show wpAny _ _ (subscriptTail _ _ (Value.ref _) (Value.int 0 _)) _ _ _); k_dflt (refine item_e0 (by k_asm) (by exact .tail _ (.tail _ (.tail _ (List.mem_append_right _ (by assumption))))) ?_)) | ((with_reducible show wpAny _ _ (subscriptTail _ _ (Value.ref _) (Value.int 1 _)) _ _ _); k_dflt (refine item_e1 (by k_asm) (by exact .tail _ (.tail _ (.tail _ (List.mem_append_right _ (by assumption))))) ?_)) | ((with_reducible show wpAny _ _ (subscriptTail _ _ (Value.ref _) (Value.int 2 _)) _ _ _); k_dflt (refine item_e2 (by k_asm) (by exact .tail _ (.tail _ (.tail _ (List.mem_append_right _ (by assumption))))) ?_))))
  revert X; k_fill; intro X
  dsimp only [lawR8, lawR7, lawR6, lawR5, lawR4, lawEnv, lawFD, PySem.Challenge.pw_oh0027_01, lastS, fBody, fScope, List.tail_cons] at h ⊢
  have hvl : vs.length = fs.length := paired_len hp
  (repeat' (first | (k_unfold; (try dsimp only)) | (walk1; (all_goals try dsimp only)) | (dsimp only; walk1)))
  unfold Hold
  refine comp_enterA (by with_unfolding_all rfl) rfl rfl (by decide) (by intro _; rfl) ?_
  show wpAny _ _ _ _ _ _
  (repeat' (first | (k_unfold; (try dsimp only)) | (walk1; (all_goals try dsimp only)) | (dsimp only; walk1)))
  refine comp_listA (its := vs) (CompJ news fs fun f => f.2.2 != 0) (by omega) rfl (fun i ys h' nw F' N' hJ => by obtain ⟨own, rfl, _⟩ := hJ; exact News.isList N' (List.mem_append_right _ hl)) (fun i ys nw hJ => hJ.len) rfl rfl rfl (by decide) rfl rfl F N ⟨[], rfl, by simpa using .nil⟩ ?_ ?_
  · rintro i v ys nw h₁ tk₁ C oC D₁ k I oI m₂ hv hJ hoC hm₂ F₁ N₁ off hIC hID hCD
    obtain ⟨f1, a1, k1, kv1, n1, t1, t1', hf1, rfl, e1, e2, e3⟩ := ents_get hp hv
    have hJ' := hJ
    obtain ⟨own, rfl, _⟩ := hJ'
    refine wpAny_tests_one ?_
    clear F N
    show wpAny _ _ _ _ _ _
    (repeat' (first | (k_unfold; (try dsimp only)) | (walk1; (all_goals try dsimp only)) | (dsimp only; walk1)))
    · (with_reducible rename f1.2.2 ≠ 0 => hne)
      rename_i F' N' lt
      exact cend_yes F' N' off lt.1 lt.2.1 lt.2.2.1 (hJ.yes hf1 (by simpa using hne) e2 e3)
    · (with_reducible rename f1.2.2 = 0 => heq)
      exact CEnd.mk F₁ N₁ off (hJ.no hf1 (by simp [heq]))
  · rintro D₁ k h₁ tk₁ ys nw hJ F₁ N₁ off
    obtain ⟨own, rfl, hp'⟩ := hJ
    rw [hvl, List.take_length] at hp'
    exact wpAny_mono (h h₁ tk₁ D₁ k ys own F₁ N₁ off hp') (fun _ _ z => z) fun _ _ z => z.elim
end Mine
end
section
open PySem PySem.W PySem.Calls PyProof.Rows
open PyProof.Rows.LCg (NsObj ns_obj fr_but news_but)
set_option maxRecDepth 100000
set_option maxHeartbeats 4000000
namespace Mine
theorem c_diffK {w : World} {p : Program} {loose : List Str} {mg mb : Str → Option Value} {s : Shared} {Q E : Value → Shared → Prop} {h₀ : Heap} {L a l1 l2 : Addr} {m : Str → Option Value} {news : List (Addr × Obj)} {name : Str} {scope : Scope} {cd : Value} {vs1 vs2 : List Value} {k1 k2 : Nat} {xs ys : List (List Nat)}
    (hkd : scope.kind = .function) (X : (hd.heap_39 w.params).In h₀) (T : TopRead p loose mg mb h₀) (F : Fr h₀ L s.heap m) (N : News h₀ L s.heap news) (h1 : (l1, listOf (List.toArray vs1) k1) ∈ news) (h2 : (l2, listOf (List.toArray vs2) k2) ∈ news)
    (hs1 : PyProof.Rows.StrsAre vs1 (xs.map S)) (hs2 : PyProof.Rows.StrsAre vs2 (ys.map S)) (hz1 : xs.length ≤ 8) (hz2 : ys.length ≤ 8)
    (ret : ∀ t lm lu us1 us2 n1 n2 h' tk', Fr h₀ L h' m → News h₀ L h' ((t, seqObj "tuple" #[.ref lm, .ref lu] 0) :: (lm, listOf (List.toArray us1) n1) :: (lu, listOf (List.toArray us2) n2) :: news) →
      PyProof.Rows.StrsAre us1 ((diffF xs ys).1.map S) → PyProof.Rows.StrsAre us2 ((diffF xs ys).2.map S) → Q (.ref t) { s with heap := h', toks := tk' }) :
    wpAny (model PySem.Challenge.rw_oh0027_01.row.prog w) (callerA.deeper (envOf name scope L a cd)) (call (.ref 21) [.ref l1, .ref l2]) Q E s := by
  obtain ⟨oL, es, ep, hoL, r⟩ := id F.ns
  have up : ∀ b o, h₀.get? b = some o → (TI.gone s.heap [L]).get? b = some o := fun b o e =>
    (TI.gone_get (by rw [List.mem_singleton]; exact Nat.ne_of_lt (Nat.lt_of_lt_of_le (Heap.lt_size e) F.above))).trans (F.keep b o e)
  have nw : ∀ q ∈ news, (TI.gone s.heap [L]).get? q.1 = some q.2 := fun q hq => (TI.gone_get (by rw [List.mem_singleton]; exact (N q hq).2.1)).trans (N q hq).1
  refine c_diff (env₀ := envOf name scope L a cd) ((amb_law _).mono (by decide)) (Around.frames_deeper rfl) ⟨(by show scope.kind ≠ _; rw [hkd]; decide), rfl, ⟨es, ep, r.1⟩, trivial⟩ hoL ⟨X.keeps up, T.keeps up⟩ ⟨_, nw _ h1, rfl, _, rfl⟩ ⟨_, nw _ h2, rfl, _, rfl⟩ hs1 hs2 hz1 hz2
    fun t lm lu us1 us2 n1 n2 h' tk' sl hk hL' ht hm hu hb r1 r2 => ret t lm lu us1 us2 n1 n2 h' tk' ⟨⟨_, es, ep, hL', r⟩, fun b o e => hk b o (up b o e), F.above⟩ (fun q hq => ?_) r1 r2
  have fresh : ∀ b ∈ [t, lm, lu], b ≠ L ∧ h₀.get? b = none := fun b hb' => by
    obtain ⟨g1, g2⟩ := hb b hb'
    refine ⟨g2, ?_⟩
    cases hq : h₀.get? b with
    | none => rfl
    | some o => rw [up b o hq] at g1; cases g1
  rcases List.mem_cons.mp hq with rfl | hq
  · exact ⟨ht, fresh _ (.head _)⟩
  rcases List.mem_cons.mp hq with rfl | hq
  · exact ⟨hm, fresh _ (.tail _ (.head _))⟩
  rcases List.mem_cons.mp hq with rfl | hq
  · exact ⟨hu, fresh _ (.tail _ (.tail _ (.head _)))⟩
  · exact ⟨hk _ _ (nw q hq), (N q hq).2⟩
theorem pairs_get {led : List (Addr × Obj)} {vs : List Value} {es : List (List Int × List Nat)} {i : Nat} {v : Value} (hp : Paired (PairIn led) vs es) (h : vs[i]? = some v) : ∃ e a ka kv n t, es[i]? = some e ∧ v = .ref a ∧ (a, seqObj "tuple" #[.ref ka, .str (S e.2) t] 0) ∈ led ∧ (ka, listOf (List.toArray kv) n) ∈ led ∧ IntsAre kv e.1 := by
  obtain ⟨f, hf, a, ka, kv, n, t1, e, h1, h2, h3⟩ := paired_get hp i v h
  exact ⟨f, a, ka, kv, n, t1, hf, e, h1, h2, h3⟩
theorem item_p1 {prog : Program} {w : World} {A : Around} {E : Value → Shared → Prop} {s : Shared} {h₀ : Heap} {L t : Addr} {led : List (Addr × Obj)} {value slice : Expr} {x0 x1 : Value} {u : Tok} {Q : Value → Shared → Prop} (N : News h₀ L s.heap led) (hm : (t, seqObj "tuple" #[x0, x1] 0) ∈ led) (h : Q x1 s)
    (hs : subscripted slice false (.ref t) (.int 1 u) = operate [.ref t, .int 1 u] (getItem (.ref t) (.int 1 u)) := by with_unfolding_all rfl) (hg : ∀ r, letTemporaryGo value (.ref t) r = pure () := by intro _; with_unfolding_all rfl) :
    wpAny (model prog w) A (subscriptTail value slice (.ref t) (.int 1 u)) Q E s := item_led N hm (by decide) (by decide) (j := 1) rfl rfl h hs hg
theorem law_diff {w : World} {p : Program} {loose : List Str} {mg mb : Str → Option Value} {L fa D1 D2 : Addr} {s : Shared} {Q : Flow → Shared → Prop} {E : Value → Shared → Prop} {h₀ : Heap} {m : Str → Option Value} {news : List (Addr × Obj)} {vs1 vs2 : List Value} {n1 n2 : Nat} {es1 es2 : List (List Int × List Nat)}
    (X : (hd.heap_39 w.params).In h₀) (T : TopRead p loose mg mb h₀) (F : Fr h₀ L s.heap (fun y => if y = Str.ofString "second" then some (.ref D2) else if y = Str.ofString "first" then some (.ref D1) else m y)) (N : News h₀ L s.heap news)
    (hl1 : (D1, listOf (List.toArray vs1) n1) ∈ news) (hl2 : (D2, listOf (List.toArray vs2) n2) ∈ news) (hp1 : Paired (PairIn news) vs1 es1) (hp2 : Paired (PairIn news) vs2 es2) (hz1 : es1.length ≤ 8) (hz2 : es2.length ≤ 8)
    (h : ∀ h' tk' lm lu us1 us2 c1 c2, Fr h₀ L h' (fun y => if y = Str.ofString "unexpected" then some (.ref lu) else if y = Str.ofString "missing" then some (.ref lm) else if y = Str.ofString "second" then some (.ref D2) else if y = Str.ofString "first" then some (.ref D1) else m y) →
      News h₀ L h' ((lm, listOf (List.toArray us1) c1) :: (lu, listOf (List.toArray us2) c2) :: news) → PyProof.Rows.StrsAre us1 ((diffF (es1.map (·.2)) (es2.map (·.2))).1.map S) → PyProof.Rows.StrsAre us2 ((diffF (es1.map (·.2)) (es2.map (·.2))).2.map S) →
      wpAny (model PySem.Challenge.rw_oh0027_01.row.prog w) (callerA.deeper (lawEnv L fa)) (execs lawR9 (lawEnv L fa)) Q (fun _ _ => False) { s with heap := h', toks := tk' }) :
    wpAny (model PySem.Challenge.rw_oh0027_01.row.prog w) (callerA.deeper (lawEnv L fa)) (execs lawR8 (lawEnv L fa)) Q E s := by
  k_with_none
  k_with "eval ListComp" => (refine hold_in ?_)
  k_with "call ref" => (((with_reducible show wpAny _ _ (call (Value.ref 21) _) _ _ _); refine hold_in ?_))
  k_with "subscriptTail" => (((with_reducible show wpAny _ _ (subscriptTail _ _ (Value.ref _) (Value.int 1 _)) _ _ _); k_dflt (refine item_p1 (by k_asm) (by first | exact .tail _ (.tail _ (.tail _ (.tail _ (by assumption)))) | exact .tail _ (.tail _ (.tail _ (by assumption)))) ?_)))
  revert X; k_fill; intro X
  dsimp only [lawR9, lawR8, lawR6, lawR5, lawR4, lawEnv, lawFD, PySem.Challenge.pw_oh0027_01, lastS, fBody, fScope, List.tail_cons] at h ⊢
  have hv1 : vs1.length = es1.length := paired_len hp1
  have hv2 : vs2.length = es2.length := paired_len hp2
  (repeat' (first | (k_unfold; (try dsimp only)) | (walk1; (all_goals try dsimp only)) | (dsimp only; walk1)))
  unfold Hold
  refine comp_enter rfl rfl (by decide) (by intro _; rfl) ?_
  show wpAny _ _ _ _ _ _
  (repeat' (first | (k_unfold; (try dsimp only)) | (walk1; (all_goals try dsimp only)) | (dsimp only; walk1)))
  refine comp_list (its := vs1) (fun i ys nw => nw = news ∧ PyProof.Rows.StrsAre ys ((es1.take i).map fun e => S e.2)) (by omega) rfl (fun i ys h' nw F' N' hJ => by obtain ⟨rfl, _⟩ := hJ; exact News.isList N' hl1) (fun i ys nw hJ => by rw [strs_len hJ.2, List.length_map, List.length_take]; omega) (by decide) rfl rfl F N ⟨rfl, .nil⟩ ?_ ?_
  · rintro i v ys nw h₁ tk₁ C oC D₁ k I oI m₂ hv ⟨rfl, hys⟩ hoC hm₂ F₁ N₁ off hIC hID hCD
    obtain ⟨e, a, ka, kv, n, t, he, rfl, g1, g2, g3⟩ := pairs_get hp1 hv
    refine wpAny_tests_nil ?_
    simp only [if_true]
    clear F N
    show wpAny _ _ _ _ _ _
    (repeat' (first | (k_unfold; (try dsimp only)) | (walk1; (all_goals try dsimp only)) | (dsimp only; walk1)))
    refine CEnd.mk F₁ N₁ off ⟨rfl, ?_⟩
    rw [take_snoc he, List.map_append]
    exact strs_snoc hys
  · rintro Da ka h₁ tk₁ ys₁ nw ⟨rfl, hys₁⟩ F₁ N₁ offa
    rw [hv1, List.take_length] at hys₁
    clear F N
    (repeat' (first | (k_unfold; (try dsimp only)) | (walk1; (all_goals try dsimp only)) | (dsimp only; walk1)))
    unfold Hold
    refine comp_enter rfl rfl (by decide) (by intro _; rfl) ?_
    show wpAny _ _ _ _ _ _
    (repeat' (first | (k_unfold; (try dsimp only)) | (walk1; (all_goals try dsimp only)) | (dsimp only; walk1)))
    refine comp_list (its := vs2) (fun i ys nw' => nw' = (Da, listOf (List.toArray ys₁) ka) :: nw ∧ PyProof.Rows.StrsAre ys ((es2.take i).map fun e => S e.2)) (by omega) rfl (fun i ys h' nw F' N' hJ => by obtain ⟨rfl, _⟩ := hJ; exact News.isList N' (.tail _ hl2)) (fun i ys nw hJ => by rw [strs_len hJ.2, List.length_map, List.length_take]; omega) (by decide) rfl rfl F₁ N₁ ⟨rfl, .nil⟩ ?_ ?_
    · rintro i v ys nw' h₂ tk₂ C oC D₁ k I oI m₂ hv ⟨rfl, hys⟩ hoC hm₂ F₂ N₂ off hIC hID hCD
      obtain ⟨e, a, ka', kv, n, t, he, rfl, g1, g2, g3⟩ := pairs_get hp2 hv
      refine wpAny_tests_nil ?_
      simp only [if_true]
      clear F₁ N₁
      show wpAny _ _ _ _ _ _
      (repeat' (first | (k_unfold; (try dsimp only)) | (walk1; (all_goals try dsimp only)) | (dsimp only; walk1)))
      refine CEnd.mk F₂ N₂ off ⟨rfl, ?_⟩
      rw [take_snoc he, List.map_append]
      exact strs_snoc hys
    · rintro Db kb h₂ tk₂ ys₂ nw' ⟨rfl, hys₂⟩ F₂ N₂ offb
      rw [hv2, List.take_length] at hys₂
      clear F₁ N₁
      (repeat' (first | (k_unfold; (try dsimp only)) | (walk1; (all_goals try dsimp only)) | (dsimp only; walk1)))
      unfold Hold
      refine c_diffK (vs1 := ys₁) (vs2 := ys₂) (xs := es1.map (·.2)) (ys := es2.map (·.2)) rfl X T F₂ N₂ (.tail _ (.head _)) (.head _) (by rw [List.map_map]; exact hys₁) (by rw [List.map_map]; exact hys₂) (by rw [List.length_map]; exact hz1) (by rw [List.length_map]; exact hz2) fun t lm lu us1 us2 c1 c2 h₃ tk₃ F₃ N₃ r1 r2 => ?_
      clear F₂ N₂
      refine unpack2 rfl ⟨_, (N₃ _ (.head _)).1, rfl, _, rfl⟩ F₃ N₃ (fun h₄ tk₄ F₄ N₄ => ?_) rfl rfl rfl
      refine wpAny_mono (h h₄ tk₄ lm lu us1 us2 c1 c2 F₄ (fun q hq => ?_) r1 r2) (fun _ _ z => z) fun _ _ z => z.elim
      rcases List.mem_cons.mp hq with rfl | hq
      · exact N₄ _ (.tail _ (.head _))
      rcases List.mem_cons.mp hq with rfl | hq
      · exact N₄ _ (.tail _ (.tail _ (.head _)))
      · exact N₄ _ (.tail _ (.tail _ (.tail _ (.tail _ (.tail _ hq)))))
end Mine
end
section
open PySem PySem.W PySem.Calls PyProof.Rows
open PySem.SeqAt PySem.MeetsSeq PySem.MeetsSeq2 PySem.MeetsSeq3 PySem.SeqRoads2
set_option maxRecDepth 100000
set_option maxHeartbeats 4000000
namespace Mine
theorem strs_at {vs : List Value} {xs : List Str} (h : PyProof.Rows.StrsAre vs xs) (j : Nat) (hj : j < vs.length) : ∃ t, vs[j]? = some (.str (xs.getD j default) t) := by
  rw [PyProof.Rows.StrsAre.length h] at hj
  obtain ⟨t, e⟩ := PyProof.Rows.StrsAre.get h j xs[j] (List.getElem?_eq_getElem hj)
  exact ⟨t, by rw [e, List.getD_eq_getElem?_getD, List.getElem?_eq_getElem hj]; rfl⟩
theorem rcAt_strs {A : Around} {s : Shared} {l b : Addr} {vs us : List Value} {xs : List Str} (hl : s.heap.IsList l vs.toArray) (hb : s.heap.IsList b us.toArray) (h1 : PyProof.Rows.StrsAre vs xs) (h2 : PyProof.Rows.StrsAre us xs) (hu : A.units < cLine) : RcAt A s (.ref l) (.ref b) true := by
  have e1 := strs_len h1
  have e2 := strs_len h2
  have hall : ((List.range vs.toArray.size).all fun _ => true) = true := by simp
  rw [← hall]
  refine RcAt.lists hl hb (by simp; omega) hu fun j g1 g2 => ?_
  obtain ⟨t, ht⟩ := strs_at h1 j (by simpa using g1)
  obtain ⟨u, hu⟩ := strs_at h2 j (by simpa using g2)
  have g3 : vs.toArray[j] = .str (xs.getD j default) t := by
    have := (List.getElem?_eq_some_iff.mp ht).2
    simpa using this
  have g4 : us.toArray[j] = .str (xs.getD j default) u := by
    have := (List.getElem?_eq_some_iff.mp hu).2
    simpa using this
  rw [g3, g4]
  have := (EqGives.str (xs.getD j default) (xs.getD j default) t u).at A.in1 s
  rw [beq_self_eq_true] at this
  exact this
theorem pair_at {h₀ h : Heap} {L : Addr} {led : List (Addr × Obj)} (N : News h₀ L h led) {vs : List Value} {es : List (List Int × List Nat)} (hp : Paired (PairIn led) vs es) : Paired (PairAt h) vs es :=
  paired_mono (fun v e H => by
    obtain ⟨a, ka, kv, n, t, e1, h1, h2, h3⟩ := H
    exact ⟨a, ka, t, e1, ⟨_, (N _ h1).1, rfl, _, rfl⟩, led_ints N h2 h3⟩) hp
theorem law_ret {w : World} {p : Program} {loose : List Str} {mg mb : Str → Option Value} {L fa D1 D2 lm lu : Addr} {s : Shared} {Q : Flow → Shared → Prop} {E : Value → Shared → Prop} {h₀ : Heap} {m : Str → Option Value} {news : List (Addr × Obj)} {vs1 vs2 us1 us2 : List Value} {n1 n2 c1 c2 : Nat} {es1 es2 : List (List Int × List Nat)}
    (X : (hd.heap_39 w.params).In h₀) (T : TopRead p loose mg mb h₀) (F : Fr h₀ L s.heap (fun y => if y = Str.ofString "unexpected" then some (.ref lu) else if y = Str.ofString "missing" then some (.ref lm) else if y = Str.ofString "second" then some (.ref D2) else if y = Str.ofString "first" then some (.ref D1) else m y)) (N : News h₀ L s.heap news)
    (hl1 : (D1, listOf (List.toArray vs1) n1) ∈ news) (hl2 : (D2, listOf (List.toArray vs2) n2) ∈ news) (hp1 : Paired (PairIn news) vs1 es1) (hp2 : Paired (PairIn news) vs2 es2) (hz1 : es1.length ≤ 8) (hz2 : es2.length ≤ 8)
    (hm : (lm, listOf (List.toArray us1) c1) ∈ news) (hu : (lu, listOf (List.toArray us2) c2) ∈ news) (hs1 : PyProof.Rows.StrsAre us1 ((beyondF es1 es2).map S)) (hs2 : PyProof.Rows.StrsAre us2 ((beyondF es2 es1).map S))
    (h : ∀ h' tk', Fr h₀ L h' (fun y => if y = Str.ofString "unexpected" then some (.ref lu) else if y = Str.ofString "missing" then some (.ref lm) else if y = Str.ofString "second" then some (.ref D2) else if y = Str.ofString "first" then some (.ref D1) else m y) → News h₀ L h' news → Q (.ret (.bool true)) { s with heap := h', toks := tk' }) :
    wpAny (model PySem.Challenge.rw_oh0027_01.row.prog w) (callerA.deeper (lawEnv L fa)) (execs lawR9 (lawEnv L fa)) Q E s := by
  k_with_none
  k_with "call ref" => (((with_reducible show wpAny _ _ (call (Value.ref 120) _) _ _ _); refine hold_in ?_))
  k_with "compareOp Eq ref ref" => (refine hold_in ?_)
  revert X; k_fill; intro X
  dsimp only [lawR9, lawR8, lawR6, lawR5, lawR4, lawEnv, lawFD, PySem.Challenge.pw_oh0027_01, lastS, fBody, fScope, List.tail_cons] at h ⊢
  have hun : (callerA.deeper (lawEnv L fa)).units < cLine := Nat.lt_of_le_of_lt (Nat.le_add_right _ (20 * 4 + 20)) (amb_law (lawEnv L fa)).units
  (repeat' (first | (k_unfold; (try dsimp only)) | (walk1; (all_goals try dsimp only)) | (dsimp only; walk1)))
  unfold Hold
  refine c_beyondK ((amb_law _).mono (by decide)) X T F N (News.isList N hl1) (News.isList N hl2) (pair_at N hp1) (pair_at N hp2) hz1 hz2 fun a vs n h₁ tk₁ hk F₁ N₁ off hs => ?_
  clear F N
  (repeat' (first | (k_unfold; (try dsimp only)) | (walk1; (all_goals try dsimp only)) | (dsimp only; walk1)))
  unfold Hold
  refine cmp_ofEq (rcAt_strs (News.isList N₁ (.tail _ hm)) (News.isList N₁ (.head _)) hs1 hs hun _ _ _ _ ?_)
  replace N₁ : News h₀ L h₁ news := fun q hq => N₁ q (.tail _ hq)
  (repeat' (first | (k_unfold; (try dsimp only)) | (walk1; (all_goals try dsimp only)) | (dsimp only; walk1)))
  unfold Hold
  refine c_beyondK ((amb_law _).mono (by decide)) X T F₁ N₁ (News.isList N₁ hl2) (News.isList N₁ hl1) (pair_at N₁ hp2) (pair_at N₁ hp1) hz2 hz1 fun a' vs' n' h₂ tk₂ hk₂ F₂ N₂ off₂ hs' => ?_
  clear F₁ N₁
  (repeat' (first | (k_unfold; (try dsimp only)) | (walk1; (all_goals try dsimp only)) | (dsimp only; walk1)))
  unfold Hold
  refine cmp_ofEq (rcAt_strs (News.isList N₂ (.tail _ hu)) (News.isList N₂ (.head _)) hs2 hs' hun _ _ _ _ ?_)
  replace N₂ : News h₀ L h₂ news := fun q hq => N₂ q (.tail _ hq)
  (repeat' (first | (k_unfold; (try dsimp only)) | (walk1; (all_goals try dsimp only)) | (dsimp only; walk1)))
  exact h _ _ F₂ N₂
end Mine
end
section
open PySem PySem.W PySem.Calls PyProof.Rows
set_option maxRecDepth 100000
set_option maxHeartbeats 4000000
namespace Mine
theorem perm_lt {n : Nat} {q : Array Nat} (h : Pm n q) : ∀ i ∈ q.toList, i < n := fun i hi => by
  have : i ∈ (List.toArray (List.range n)) := h.mem_iff.mp (Array.mem_toList_iff.mp hi)
  simpa using this
abbrev noFile : FileD := ([], 0, 0)
theorem perm_paired {R : Value → FileD → Prop} {vs : List Value} {fs : List FileD} (hp : Paired R vs fs) : ∀ {l : List Nat}, (∀ i ∈ l, i < fs.length) → Paired R (l.map fun i => vs.getD i Value.none) (l.map fun i => fs.getD i noFile)
  | [], _ => .nil
  | i :: l, h => by
    have hi := h i (.head _)
    have hl := paired_len hp
    obtain ⟨f, hf, hr⟩ := paired_get hp i (vs[i]'(by omega)) (List.getElem?_eq_getElem _)
    refine .cons ?_ (perm_paired hp fun j hj => h j (.tail _ hj))
    show R (vs.getD i Value.none) (fs.getD i noFile)
    rw [List.getD_eq_getElem?_getD, List.getD_eq_getElem?_getD, hf, List.getElem?_eq_getElem (by omega : i < vs.length)]
    exact hr
theorem perm_up {fs : List FileD} {q : Array Nat} (h : Pm fs.length q) (hu : Up (fun i => (fs.map fun f => keyF f.1 f.2.1 3).getD i []) q fs.length) :
    (q.toList.map fun i => fs.getD i noFile).Pairwise fun a b => ¬ keyF b.1 b.2.1 3 < keyF a.1 a.2.1 3 := by
  have hsz := h.size
  rw [List.pairwise_iff_getElem]
  intro i j hi hj hij
  rw [List.length_map, Array.length_toList] at hi hj
  have := hu i j (Nat.le_of_lt hij) (by omega)
  have key : ∀ k (hk : k < q.size), gk (fun i => (fs.map fun f => keyF f.1 f.2.1 3).getD i []) q k = keyF (fs.getD q[k] noFile).1 (fs.getD q[k] noFile).2.1 3 := fun k hk => by
    have hlt : q[k] < fs.length := perm_lt h _ (Array.mem_toList_iff.mpr (Array.getElem_mem hk))
    unfold gk
    rw [Array.getD_eq_getD_getElem?, Array.getElem?_eq_getElem hk]
    simp only [Option.getD_some, List.getD_eq_getElem?_getD, List.getElem?_map, List.getElem?_eq_getElem hlt, Option.map_some]
  rw [key i hi, key j hj] at this
  simpa using this
theorem agree_of {fs : List FileD} (hok : ∀ f ∈ fs, FileOk 8 f) : Agree (fs.map entE) where
  lt := fun e he e' he' h => by
    obtain ⟨f, hf, rfl⟩ := List.mem_map.mp he
    obtain ⟨f', hf', rfl⟩ := List.mem_map.mp he'
    exact key_row_lt (hok f hf).2.1 (hok f hf).2.2 (hok f' hf').2.1 (hok f' hf').2.2 h
  eq := fun e he e' he' h => by
    obtain ⟨f, hf, rfl⟩ := List.mem_map.mp he
    obtain ⟨f', hf', rfl⟩ := List.mem_map.mp he'
    exact key_row_eq (hok f hf).2.1 (hok f hf).2.2 (hok f' hf').2.1 (hok f' hf').2.2 h
  ne := fun e he => by
    obtain ⟨f, hf, rfl⟩ := List.mem_map.mp he
    show [] < keyF f.1 f.2.1 3
    rw [keyF_is]
    cases hc : f.1.map keyC ++ (272 :: [kindK f.2.1, partyK f.2.1 0, partyK f.2.1 1, partyK f.2.1 2]) with
    | nil => simp at hc
    | cons x r => exact List.nil_lt_cons _ _
theorem diff_files {fs : List FileD} (hok : ∀ f ∈ fs, FileOk 8 f) (hs : fs.Pairwise fun a b => ¬ keyF b.1 b.2.1 3 < keyF a.1 a.2.1 3) (p1 p2 : FileD → Bool) :
    (diffF (((fs.filter p1).map entE).map (·.2)) (((fs.filter p2).map entE).map (·.2))).1 = beyondF ((fs.filter p1).map entE) ((fs.filter p2).map entE) ∧
    (diffF (((fs.filter p1).map entE).map (·.2)) (((fs.filter p2).map entE).map (·.2))).2 = beyondF ((fs.filter p2).map entE) ((fs.filter p1).map entE) := by
  have sub : ∀ pr : FileD → Bool, ∀ e ∈ (fs.filter pr).map entE, e ∈ fs.map entE := fun pr e he => by
    obtain ⟨f, hf, rfl⟩ := List.mem_map.mp he
    exact List.mem_map_of_mem (List.mem_filter.mp hf).1
  have srt : ∀ pr : FileD → Bool, ((fs.filter pr).map entE).Pairwise fun a b => ¬ b.1 < a.1 := fun pr => List.pairwise_map.mpr (hs.filter pr)
  exact diff_law (agree_of hok) (sub p1) (sub p2) (srt p1) (srt p2)
theorem law_rest {w : World} {p : Program} {loose : List Str} {mean : ExcName → Option Value} {mg mb : Str → Option Value} {L fa l' : Addr} {s : Shared} {Q : Flow → Shared → Prop} {E : Value → Shared → Prop} {h₀ : Heap} {m : Str → Option Value} {tl : List (Addr × Obj)} {vs : List Value} {n : Nat} {fs : List FileD}
    (X : (hd.heap_39 w.params).In h₀) (T : Top p loose mean mg mb h₀) (C : CodeHd h₀ 124 122) (F : Fr h₀ L s.heap (fun y => if y = Str.ofString "listing" then some (.ref l') else m y)) (N : News h₀ L s.heap ((122, tabObj #[]) :: (l', listOf (List.toArray vs) n) :: tl))
    (off : ∀ q ∈ tl, q.1 ≠ l' ∧ q.1 ≠ 122) (hl122 : l' ≠ 122) (hp : Paired (EntIn tl) vs fs) (hz0 : 3 ≤ fs.length) (hz : fs.length ≤ 8) (hok : ∀ f ∈ fs, FileOk 8 f)
    (h : ∀ h' tk' m' ps news, Fr h₀ L h' m' → News h₀ L h' ((122, tabObj ps) :: news) → Q (.ret (.bool true)) { s with heap := h', toks := tk' }) :
    wpAny (model PySem.Challenge.rw_oh0027_01.row.prog w) (callerA.deeper (lawEnv L fa)) (execs lawR4 (lawEnv L fa)) Q E s := by
  have TR := topRead_of T
  have offr : ∀ q ∈ (l', listOf (List.toArray vs) n) :: tl, q.1 ≠ 122 := fun q hq => by
    rcases List.mem_cons.mp hq with rfl | hq
    · exact hl122
    · exact (off q hq).2
  refine law_pairs X TR F N (.tail _ (.head _)) (paired_mono (fun _ _ h => h.mono fun q hq => .tail _ (.tail _ hq)) hp) hz hok fun h₁ tk₁ m₁ F₁ N₁ => ?_
  refine law_sort (s := { s with heap := h₁, toks := tk₁ }) X T C F₁ N₁ offr (.head _) (paired_mono (fun _ _ h => h.mono fun q hq => .tail _ hq) hp) hz0 hz fun h₂ tk₂ m₂ D q c ps hPm hUp F₂ N₂ offD hD122 => ?_
  have hlt := perm_lt hPm
  have hp₂ := perm_paired hp hlt
  have hlen : (q.toList.map fun i => fs.getD i noFile).length ≤ 8 := by rw [List.length_map, Array.length_toList, hPm.size]; exact hz
  have hok₂ : ∀ f ∈ q.toList.map fun i => fs.getD i noFile, FileOk 8 f := fun f hf => by
    obtain ⟨i, hi, rfl⟩ := List.mem_map.mp hf
    have := hlt i hi
    rw [List.getD_eq_getElem?_getD, List.getElem?_eq_getElem this]
    exact hok _ (List.getElem_mem this)
  have hsrt := perm_up hPm hUp
  generalize (q.toList.map fun i => fs.getD i noFile) = gs at hp₂ hlen hok₂ hsrt
  generalize (q.toList.map fun i => vs.getD i Value.none) = us at hp₂ N₂
  obtain ⟨dm, du⟩ := diff_files hok₂ hsrt (fun f => f.2.2 != 1) (fun f => f.2.2 != 0)
  have flen : ∀ pr : FileD → Bool, ((gs.filter pr).map entE).length ≤ 8 := fun pr => by rw [List.length_map]; exact Nat.le_trans (List.length_filter_le _ _) hlen
  refine law_first (s := { s with heap := h₂, toks := tk₂ }) X TR F₂ N₂ (.tail _ (.head _)) (paired_mono (fun _ _ h => h.mono fun q hq => .tail _ (.tail _ (.tail _ hq))) hp₂) hlen fun h₃ tk₃ D1 c1 ys1 own1 F₃ N₃ off₃ hpy1 => ?_
  refine law_second (s := { s with heap := h₃, toks := tk₃ }) X TR F₃ N₃ (.tail _ (List.mem_append_right _ (.tail _ (.head _)))) (paired_mono (fun _ _ h => h.mono fun q hq => .tail _ (List.mem_append_right _ (.tail _ (.tail _ (.tail _ hq))))) hp₂) hlen fun h₄ tk₄ D2 c2 ys2 own2 F₄ N₄ off₄ hpy2 => ?_
  refine law_diff (s := { s with heap := h₄, toks := tk₄ }) X TR F₄ N₄ (.tail _ (List.mem_append_right _ (.head _))) (.head _) (paired_mono (fun _ _ h => h.mono fun q hq => .tail _ (List.mem_append_right _ (.tail _ hq))) hpy1) (paired_mono (fun _ _ h => h.mono fun q hq => .tail _ hq) hpy2) (flen _) (flen _) fun h₅ tk₅ lm lu us1 us2 k1 k2 F₅ N₅ r1 r2 => ?_
  rw [dm] at r1
  rw [du] at r2
  refine law_ret (s := { s with heap := h₅, toks := tk₅ }) X TR F₅ N₅ (.tail _ (.tail _ (.tail _ (List.mem_append_right _ (.head _))))) (.tail _ (.tail _ (.head _))) (paired_mono (fun _ _ h => h.mono fun q hq => .tail _ (.tail _ (.tail _ (List.mem_append_right _ (.tail _ hq))))) hpy1) (paired_mono (fun _ _ h => h.mono fun q hq => .tail _ (.tail _ (.tail _ hq))) hpy2) (flen _) (flen _) (.head _) (.tail _ (.head _)) r1 r2 fun h₆ tk₆ F₆ N₆ => ?_
  refine h h₆ tk₆ _ ps [] F₆ fun q hq => ?_
  rw [List.mem_singleton.mp hq]
  exact N₆ _ (.tail _ (.tail _ (.tail _ (List.mem_append_right _ (.tail _ (List.mem_append_right _ (.head _)))))))
end Mine
end
section
open PySem PySem.W PySem.Calls PyProof.Rows
set_option maxRecDepth 100000
set_option maxHeartbeats 4000000
namespace Mine
noncomputable def lawR0 : List Stmt := fBody lawFD
theorem law_all {w : World} {p : Program} {loose : List Str} {mean : ExcName → Option Value} {mg mb : Str → Option Value} {L fa lS : Addr} {s : Shared} {Q : Flow → Shared → Prop} {E : Value → Shared → Prop} {h₀ : Heap} {vsS : List Value} {ns₀ : List Int}
    (X₁ : (hd.heap_39 w.params).In h₀) (T₁ : Top p loose mean mg mb h₀) (codeHd : CodeHd h₀ 124 122) (F₁ : Fr h₀ L s.heap (fun x => List.lookup x [(Str.ofString "script", Value.ref lS)].reverse)) (N₁ : News h₀ L s.heap [(122, tabObj #[])])
    (lifted : h₀.IsList lS vsS.toArray) (hIS : IntsAre vsS ns₀) (hcond1 : ¬ (63 : Int) < (ns₀.length : Int))
    (h : ∀ h' tk' m' ps news, Fr h₀ L h' m' → News h₀ L h' ((122, tabObj ps) :: news) → Q (.ret (.bool true)) { s with heap := h', toks := tk' }) :
    wpAny (model PySem.Challenge.rw_oh0027_01.row.prog w) (callerA.deeper (lawEnv L fa)) (execs lawR0 (lawEnv L fa)) Q E s := by
  k_with_none
  k_with "exec For Tuple Call cons nil" => (refine hold_in ?_)
  k_with "exec For" => (refine hold_in ?_)
  k_with "exec If" => (((with_reducible show wpAny _ _ (exec (Stmt.If (Expr.Compare (Expr.Call _ _ _ _) [CmpOp.Lt] _ _) _ _ _) _) _ _ _); (fail_if_success (with_reducible show wpAny _ _ _ (fun f s' => f = Flow.next ∧ _) _ _)); refine hold_in ?_))
  k_with "call ref" => ((first | ((with_reducible show wpAny _ _ (call (Value.ref 103) _) _ _ _); refine hold_in ?_) | ((with_reducible show wpAny _ _ (call (Value.ref 89) _) _ _ _); (refine c_escK ((amb_law _).mono (by decide)) (by assumption) (by assumption) (by assumption) (by k_asm) (by k_asm) ?_); intro _ _ _ _ _; (try k_sweep)) | ((with_reducible show wpAny _ _ (call (Value.ref 75) _) _ _ _); (refine c_modeK ((amb_law _).mono (by decide)) (by assumption) (by assumption) (by k_asm) (by k_asm) ?_); intro _ _ _ _ _; (try k_sweep)) | ((with_reducible show wpAny _ _ (call (Value.ref 115) _) _ _ _); (refine c_rowK ((amb_law _).mono (by decide)) (by assumption) (by assumption) (by assumption) (by assumption) (by assumption) (by k_asm) (by k_asm) ?_); intro _ _ _ _ _; (try k_sweep)) | ((with_reducible show wpAny _ _ (call (Value.ref 110) _) _ _ _); (refine c_keyK ((amb_law _).mono (by decide)) (by assumption) (by assumption) (by assumption) (by assumption) (by assumption) (by k_asm) (by k_asm) ?_); intro _ _ _ _ _ _ _ _ _; (try k_sweep)) | ((with_reducible show wpAny _ _ (call (Value.ref 28) _) _ _ _); (refine c_threeK ((amb_law _).mono (by decide)) (by assumption) (by assumption) (by k_asm) (by k_asm) ?_); intro _ _ _ _ _; (try k_sweep))))
  k_with "call builtin:list.append" => (refine hold_in ?_)
  revert X₁; k_fill; intro X₁
  dsimp only [lawR0, lawEnv, lawFD, PySem.Challenge.pw_oh0027_01, lastS, fBody, fScope]
  (repeat' (first | (k_unfold; (try dsimp only)) | walk1 | (dsimp only; walk1)))
  unfold Hold
  refine join_next (P1 h₀ L s) ?_ ?_
  · (repeat' (first | (k_unfold; (try dsimp only)) | walk1 | (dsimp only; walk1)))
    · (with_reducible rename IntsAre _ (List.take 8 ns₀ ++ _) => hi)
      (with_reducible rename (_ < _ ∧ _ < _ ∧ _ < _ ∧ 122 < _) => hgt)
      (with_reducible rename Fr _ _ _ _ => F'); (with_reducible rename News _ _ _ _ => N')
      exact p1_of F' (Has.cons rfl Has.nil) N' (.head _) (.tail _ (.tail _ (.tail _ (.tail _ (.head _))))) hgt.2.2.2 hi (by simp) (by simp; omega)
    · (with_reducible rename IntsAre _ (List.take 8 ns₀) => hi)
      (with_reducible rename (_ < _ ∧ 122 < _) => hgt)
      (with_reducible rename Fr _ _ _ _ => F'); (with_reducible rename News _ _ _ _ => N')
      exact p1_of F' (Has.cons rfl Has.nil) N' (.head _) (.tail _ (.tail _ (.head _))) hgt.2 hi (by omega) (by omega)
  · rename_i F' N'
    clear F' N'
    rintro s' ⟨h₂, tk₂, m₂, D, ws, c, ns, rfl, F₂, hm₂, N₂, hD122, hi, l1, l2⟩
    replace F₂ := fr_has F₂ hm₂
    simp only [withs] at F₂
    have TR := topRead_of T₁
    show wpAny _ _ _ _ _ _
    (repeat' (first | (k_unfold; (try dsimp only)) | walk1 | (dsimp only; walk1)))
    unfold Hold
    refine wpAny_For ?_ (by intro _; rfl)
    show wpAny _ _ _ _ _ _
    (repeat' (first | (k_unfold; (try dsimp only)) | walk1 | (dsimp only; walk1)))
    unfold Hold
    rename_i l' _ hlt _ F' N'
    refine c_filesK ((amb_law _).mono (by decide)) hi l2 X₁ TR F' N' (News.isList N' (.tail _ (.head _))) fun a n vs fs tl h₃ tk₃ F₃ N₃ off hp hf hok => ?_
    clear F' N'
    have N₄ := list_start N₃
    have offl : ∀ q ∈ (a, listOf (List.toArray vs) n) :: tl, q.1 ≠ l' ∧ q.1 ≠ 122 := fun q hq => ⟨Ne.symm (off _ (.head _) q hq), Ne.symm (off _ (.tail _ (.tail _ (.head _))) q hq)⟩
    have hl122 : l' ≠ 122 := Nat.ne_of_gt hlt.2
    clear N₃
    refine loop_list (ListJ ((a, listOf (List.toArray vs) n) :: tl) l' fs) rfl (go_tuple (files_refs hp)) ?_ F₃ N₄ ⟨Has.cons rfl Has.nil, [], 0, _, rfl, offl, fun q hq => hq, .nil⟩ ?_ ?_
    · rintro i h' m' news' ⟨hm, vs', n', tl', rfl, _, hkeep, _⟩ F' N'
      exact News.isList N' (.tail _ (.tail _ (hkeep _ (.head _))))
    · rintro i v m₁ news₁ h₁ tk₁ I oI hx ⟨hm, vs', n', tl', rfl, offl', hkeep, hpr⟩ F₁ N₁ hI
      obtain ⟨⟨l, md, sh⟩, hfi, a', t1, t2, t3, rfl, hmem⟩ := paired_get hp i v (by simpa using hx)
      obtain ⟨hll, hm0, hm1⟩ : l.length ≤ 8 ∧ 0 ≤ md ∧ md < 65536 := hok _ (List.mem_of_getElem? hfi)
      replace F₁ := fr_has F₁ hm
      simp only [withs] at F₁
      have hfl : fs.length = ns.length := hf
      have hi8 : i < 8 := by
        have := (List.getElem?_eq_some_iff.mp hfi).1
        omega
      have hel := escF_len hll
      have hml := mode_len md
      dsimp only at hmem
      refine unpack3 rfl ⟨_, (N₁ _ (.tail _ (.tail _ (.tail _ (hkeep _ (.tail _ hmem)))))).1, rfl, _, rfl⟩ F₁ N₁ (fun h₂ tk₂ F₂ N₂ => ?_) rfl rfl rfl rfl
      clear F₁ N₁
      refine post_abs fun G hG => ?_
      show wpAny _ _ _ _ _ _
      (repeat' (first | (k_unfold; (try dsimp only)) | walk1 | (dsimp only; walk1)))
      · (with_reducible rename (_ != _) = true => hne)
        rw [row_S hm0 hm1, bne_self_eq_false] at hne
        cases hne
      · unfold Hold
        rename_i ka kv kn _ _ offk hki D' _ F' N' ltD
        refine list_turn F' N' (row_S hm0 hm1) (Has.cons rfl Has.nil) offl' hkeep hpr hI hfi hi8 hl122 offk hki ltD fun h₅ news₅ F₅ N₅ hn₅ hj₅ => ?_
        clear F' N'
        (repeat' (first | (k_unfold; (try dsimp only)) | walk1 | (dsimp only; walk1)))
        exact hG _ _ <| TEnd.next F₅ N₅ hn₅ hj₅
    · rintro h₄ tk₄ m₄ news₄ ⟨hm, vs', n', tl', rfl, offl', hkeep, hpr⟩ F' N'
      replace F' := fr_has F' hm
      simp only [withs] at F'
      clear F₃ N₄
      rw [show vs.toArray.size = fs.length from by rw [List.size_toArray]; exact paired_len hp, List.take_length] at hpr
      clear hkeep hp off offl hm hm₂ hD122 hi hlt
      refine wpAny_execs_nil ?_
      show wpAny _ _ _ _ _ _
      have LR := @law_rest
      dsimp only [lawR4, lawEnv, lawFD, PySem.Challenge.pw_oh0027_01, lastS, fBody, fScope, List.tail_cons] at LR
      exact LR (m := m₄) X₁ T₁ codeHd F' N' offl' hl122 hpr (by omega) (by omega) hok fun h₅ tk₅ m₅ ps news F₅ N₅ => h h₅ tk₅ m₅ ps news F₅ N₅
theorem law_holds : PySem.Challenge.rw_oh0027_01.Holds := hd (by
  k_go0
  all_goals try k_fold
  rename_i w s₀ s₁ mg mb G Y fa o pm doc kV ho hg X V T B TE TW hcd ns₀ hs hlay0 hL1 hr1 hl2 w4 w3 lS vsS w0 hLS ra w1 r0 hIS hr hcond1 hcond2 hD h₁ X₁ T₁ K₁ F₁ N₁ l0
  clear hcd hD
  have LR := @law_all
  dsimp only [lawR0, lawEnv, lawFD, PySem.Challenge.pw_oh0027_01, lastS, fBody, fScope] at LR
  refine LR X₁ T₁ codeHd F₁ N₁ lifted hIS hcond1 fun h₅ tk₅ m₅ ps news F₅ N₅ => ?_
  clear LR
  refine And.intro ?_ (And.intro ⟨ps, (N₅ _ (.head _)).1⟩ trivial)
  refine goodW_bool F₅ hg (fun _ => rfl) ?_
  wrow_post)
end Mine
end
end
theorem PySem.Challenge.cw_oh0027_01_holds : PySem.Challenge.rw_oh0027_01.Holds := by
  exact Mine.law_holds
