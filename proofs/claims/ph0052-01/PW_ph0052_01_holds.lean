import PyProof.Rows.All
import Wide.All
import OpenK.AllK
import Wide.FinOn
import PySem.Challenge.RW_ph0052_01
open PySem PySem.W PyProof.Rows PySem.Spec PySem.Calls
set_option Elab.async false
set_option maxRecDepth 100000
set_option maxHeartbeats 8000000
set_option linter.unusedVariables false
set_option linter.unusedSimpArgs false
namespace Mine
open_top hd for PySem.Challenge.rw_ph0052_01
example : hd.heap_39 = hd.heap_39 ∧ PySem.Challenge.rw_ph0052_01.row = PySem.Challenge.rw_ph0052_01.row := by
  k_fill
  exact ⟨rfl, rfl⟩
section
/-- the end of a turn of a loop whose iterator is I -/
noncomputable def TE (h₀ : Heap) (L I : Addr) (it : Obj) (keep : List (Addr × Obj)) (J : (Str → Option Value) → List (Addr × Obj) → Prop) (s₁ : Shared) (Q : Flow → Shared → Prop) (f : Flow) (s₂ : Shared) : Prop :=
  match f with
  | .ret v => Q (.ret v) s₂
  | .brk => Q .next s₂
  | _ => ∃ h' tk m' news' all, s₂ = { s₁ with heap := h', toks := tk } ∧ Fr h₀ L h' m' ∧ News h₀ L h' all ∧ (I, it) ∈ all ∧ (∀ p ∈ news', p ∈ all) ∧ (∀ p ∈ news', p.1 ≠ I) ∧ (∀ p ∈ keep, p ∈ news') ∧ J m' news'
theorem TE.next {h₀ : Heap} {L I : Addr} {it : Obj} {keep : List (Addr × Obj)} {J : (Str → Option Value) → List (Addr × Obj) → Prop} {s₁ : Shared} {Q : Flow → Shared → Prop} {h' : Heap} {tk : Nat} {m' : Str → Option Value} {all news' : List (Addr × Obj)}
    (F : Fr h₀ L h' m') (N : News h₀ L h' all) (hJ : J m' news') (hI : (I, it) ∈ all) (hs : ∀ p ∈ news', p ∈ all) (ho : ∀ p ∈ news', p.1 ≠ I) (hk : ∀ p ∈ keep, p ∈ news') : TE h₀ L I it keep J s₁ Q .next { s₁ with heap := h', toks := tk } :=
  ⟨h', tk, m', news', all, rfl, F, N, hI, hs, ho, hk, hJ⟩
theorem subL_of {news : List (Addr × Obj)} : ∀ {keep : List (Addr × Obj)}, (∀ p ∈ keep, p ∈ news) → SubL keep news
  | [], _ => trivial
  | q :: _, h => ⟨h q (.head _), subL_of fun p hp => h p (.tail _ hp)⟩
section
variable {prog : Program} {w : World} {A : Around} {E : Value → Shared → Prop} {s : Shared} {env : Env} {h₀ : Heap} {x : Str} {target : Expr} {body : List Stmt} {Q : Flow → Shared → Prop}

theorem rangeRest_inv {I : Addr} {a : Int} {n : Nat} (J : Nat → (Str → Option Value) → List (Addr × Obj) → Prop)
    (turn : ∀ i it m₁ news₁ t h tk, i < n → J i m₁ news₁ → (∀ p ∈ news₁, p.1 ≠ I) → Fr h₀ env.locals h (fun y => if y = x then some (.int (a + (i : Int)) t) else m₁ y) → News h₀ env.locals h ((I, it) :: news₁) →
      wpAny (model prog w) A (execs body env) (TE h₀ env.locals I it [] (J (i + 1)) { s with heap := h, toks := tk } Q) E { s with heap := h, toks := tk })
    (done : ∀ m₁ news₁ h tk, J n m₁ news₁ → Fr h₀ env.locals h m₁ → News h₀ env.locals h news₁ → Q .next { s with heap := h, toks := tk }) :
    ∀ (k i : Nat) (m : Str → Option Value) (news : List (Addr × Obj)), i + k = n → J i m news → (∀ p ∈ news, p.1 ≠ I) → RangeRest prog w A E h₀ env x body Q s I a n k i m news
  | 0, i, m, news, hi, hJ, _ => RangeRest.zero fun h tk F N => done m news h tk (by rw [← hi]; exact hJ) F N
  | k + 1, i, m, news, hi, hJ, ho => RangeRest.succ fun t h tk F N => by
    refine wpAny_mono (turn i _ m news t h tk (by omega) hJ ho F N) (fun f s₂ p => ?_) fun _ _ e => e
    have fin : (∃ h' tk' m' news' all, s₂ = { ({ s with heap := h, toks := tk } : Shared) with heap := h', toks := tk' } ∧ Fr h₀ env.locals h' m' ∧ News h₀ env.locals h' all ∧ (I, itR (a + ((i + 1 : Nat) : Int)) ((n : Int) - ((i + 1 : Nat) : Int))) ∈ all ∧ (∀ p ∈ news', p ∈ all) ∧ (∀ p ∈ news', p.1 ≠ I) ∧ (∀ p ∈ ([] : List (Addr × Obj)), p ∈ news') ∧ J (i + 1) m' news') →
        UnrEnd h₀ env.locals { s with heap := h, toks := tk } I (itR (a + ((i + 1 : Nat) : Int)) ((n : Int) - ((i + 1 : Nat) : Int))) (RangeRest prog w A E h₀ env x body Q s I a n k (i + 1)) s₂ := by
      rintro ⟨h', tk', m', news', all, e, F', N', hI, hs, ho', _, hJ'⟩
      refine ⟨h', tk', m', news', e, F', fun p hp => ?_, ho', rangeRest_inv J turn done k (i + 1) m' news' (by omega) hJ' ho'⟩
      rcases List.mem_cons.mp hp with rfl | hp
      · exact N' _ hI
      · exact N' _ (hs p hp)
    cases f with
    | ret v => exact p
    | brk => exact p
    | next => exact fin p
    | cont => exact fin p

/-- for x in range(n) -/
theorem range_loop {r : Addr} {a₀ b₀ : Int} {t₀ u₀ v₀ : Tok} {n : Nat} {m₀ : Str → Option Value} {news : List (Addr × Obj)} (J : Nat → (Str → Option Value) → List (Addr × Obj) → Prop)
    (hh : A.handled = none) (hr : IsRange s.heap r a₀ b₀ 1 t₀ u₀ v₀) (hsmall : Builtin.Range.small a₀ b₀ 1 = true) (hn : Builtin.Range.rangeSize a₀ b₀ 1 = (n : Int)) (F : Fr h₀ env.locals s.heap m₀) (N : News h₀ env.locals s.heap news) (hj : J 0 m₀ news)
    (turn : ∀ (I : Addr) i it m₁ news₁ t h tk, (∀ p ∈ news, p.1 < I) → i < n → J i m₁ news₁ → (∀ p ∈ news₁, p.1 ≠ I) → Fr h₀ env.locals h (fun y => if y = x then some (.int (a₀ + (i : Int)) t) else m₁ y) → News h₀ env.locals h ((I, it) :: news₁) →
      wpAny (model prog w) A (execs body env) (TE h₀ env.locals I it [] (J (i + 1)) { s with heap := h, toks := tk } Q) E { s with heap := h, toks := tk })
    (done : ∀ m₁ news₁ h tk, J n m₁ news₁ → Fr h₀ env.locals h m₁ → News h₀ env.locals h news₁ → Q .next { s with heap := h, toks := tk }) :
    wpAny (model prog w) A (pyIter (.ref r)) (fun it s₂ => LoopAtV prog w A h₀ env x body Q E it s₂) E s :=
  iter_rangeUnr hh hr hsmall hn F N fun I hI => rangeRest_inv J (fun i it m₁ news₁ t h tk => turn I i it m₁ news₁ t h tk hI) done n 0 m₀ news (Nat.zero_add n) hj fun p hp => Nat.ne_of_lt (hI p hp)

theorem itemsRest_inv {I : Addr} {cl : String} {keep : List (Addr × Obj)} {ys : List Itm} (J : Nat → (Str → Option Value) → List (Addr × Obj) → Prop)
    (turn : ∀ i a it v m₁ news₁ h tk, ys[i]? = some a → a.Is v h → J i m₁ news₁ → (∀ p ∈ news₁, p.1 ≠ I) → it.cls = .type cl → Fr h₀ env.locals h m₁ → News h₀ env.locals h ((I, it) :: news₁) →
      wpAny (model prog w) A (assign target env v) (fun _ s₂ => wpAny (model prog w) A (execs body env) (TE h₀ env.locals I it keep (J (i + 1)) { s with heap := h, toks := tk } Q) E s₂) E { s with heap := h, toks := tk })
    (done : ∀ m₁ news₁ h tk, J ys.length m₁ news₁ → Fr h₀ env.locals h m₁ → News h₀ env.locals h news₁ → Q .next { s with heap := h, toks := tk }) :
    ∀ (xs : List Itm) (i : Nat) (m : Str → Option Value) (news : List (Addr × Obj)), ys.drop i = xs → i ≤ ys.length → J i m news → (∀ p ∈ news, p.1 ≠ I) → ItemsRest prog w A E h₀ env target body Q s [(I, cl)] keep xs m news
  | [], i, m, news, hi, hl, hJ, _ => ItemsRest.zero fun h tk F N => done m news h tk (by
      have : ys.length ≤ i := List.drop_eq_nil_iff.mp hi
      have e : i = ys.length := by omega
      rw [← e]; exact hJ) F N
  | a :: xs, i, m, news, hi, hl, hJ, ho => by
    have hlt : i < ys.length := by
      rcases Nat.lt_or_ge i ys.length with h | h
      · exact h
      · rw [List.drop_eq_nil_iff.mpr h] at hi; cases hi
    have hd := List.drop_eq_getElem_cons hlt
    rw [hi] at hd
    have ha : ys[i]? = some a := by rw [List.getElem?_eq_getElem hlt]; exact congrArg some (List.cons.inj hd).1.symm
    have hx : ys.drop (i + 1) = xs := (List.cons.inj hd).2.symm
    intro v h tk hv F it hit N
    refine wpAny_mono (turn i a it v m news h tk ha hv hJ ho hit F N) (fun _ s₃ p₃ => wpAny_mono p₃ (fun f s₂ p => ?_) fun _ _ e => e) fun _ _ e => e
    have fin : (∃ h' tk' m' news' all, s₂ = { ({ s with heap := h, toks := tk } : Shared) with heap := h', toks := tk' } ∧ Fr h₀ env.locals h' m' ∧ News h₀ env.locals h' all ∧ (I, it) ∈ all ∧ (∀ p ∈ news', p ∈ all) ∧ (∀ p ∈ news', p.1 ≠ I) ∧ (∀ p ∈ keep, p ∈ news') ∧ J (i + 1) m' news') →
        UnrEndW h₀ env.locals { s with heap := h, toks := tk } [(I, it)] (fun m' n' => SubL keep n' ∧ ItemsRest prog w A E h₀ env target body Q s [(I, cl)] keep xs m' n') s₂ := by
      rintro ⟨h', tk', m', news', all, e, F', N', hI, hs, ho', hk, hJ'⟩
      refine ⟨h', tk', m', news', e, F', fun p hp => ?_, fun p hp q hq => ?_, ?_, itemsRest_inv J turn done xs (i + 1) m' news' hx hlt hJ' ho'⟩
      · rcases List.mem_append.mp hp with hp | hp
        · rw [List.mem_singleton.mp hp]; exact N' _ hI
        · exact N' _ (hs p hp)
      · rw [List.mem_singleton.mp hq]; exact ho' p hp
      · exact subL_of hk
    cases f with
    | ret v => exact p
    | brk => exact p
    | next => exact fin p
    | cont => exact fin p

/-- for target in a list of the ledger -/
theorem list_loop {ax : Addr} {lo : Obj} {vs : List Value} {n : Nat} {m₀ : Str → Option Value} {news : List (Addr × Obj)} (J : Nat → (Str → Option Value) → List (Addr × Obj) → Prop)
    (hh : A.handled = none) (F : Fr h₀ env.locals s.heap m₀) (N : News h₀ env.locals s.heap news) (hm : (ax, lo) ∈ news) (hc : lo.cls = .type "list") (hd : lo.data = .seq vs.toArray n) (hj : J 0 m₀ news)
    (turn : ∀ (I : Addr) i it v m₁ news₁ h tk, (∀ p ∈ news, p.1 < I) → vs[i]? = some v → J i m₁ news₁ → (∀ p ∈ news₁, p.1 ≠ I) → it.cls = .type "list_iterator" → Fr h₀ env.locals h m₁ → News h₀ env.locals h ((I, it) :: news₁) →
      wpAny (model prog w) A (assign target env v) (fun _ s₂ => wpAny (model prog w) A (execs body env) (TE h₀ env.locals I it [(ax, lo)] (J (i + 1)) { s with heap := h, toks := tk } Q) E s₂) E { s with heap := h, toks := tk })
    (done : ∀ m₁ news₁ h tk, J vs.length m₁ news₁ → Fr h₀ env.locals h m₁ → News h₀ env.locals h news₁ → Q .next { s with heap := h, toks := tk }) :
    wpAny (model prog w) A (pyIter (.ref ax)) (fun it s₂ => TurnsAt prog w A h₀ env target body Q E it s₂) E s :=
  iter_listTurns hh F N hm hc hd fun I hI => itemsRest_inv J (fun i a it v m₁ news₁ h tk ha hv hJ ho hit F₁ N₁ => by
      rw [List.getElem?_map] at ha
      cases hx : vs[i]? with
      | none => rw [hx] at ha; simp at ha
      | some u =>
        rw [hx] at ha
        simp at ha
        subst ha
        have e : v = u := hv
        subst e
        exact turn I i it v m₁ news₁ h tk hI hx hJ ho hit F₁ N₁)
    (fun m₁ news₁ h tk hJ => done m₁ news₁ h tk (by rw [List.length_map] at hJ; exact hJ)) (vs.map .val) 0 m₀ news rfl (Nat.zero_le _) hj fun p hp => Nat.ne_of_lt (hI p hp)

theorem kdf_at {c : List (Int × Int)} {i : Nat} {a : Itm} {f : PyData × PyData → Itm} (h : ((kdfD c).map f)[i]? = some a) : ∃ k v, c[i]? = some (k, v) ∧ a = f (PyData.int k, PyData.int v) := by
  unfold kdfD at h
  rw [List.map_map, List.getElem?_map] at h
  cases hx : c[i]? with
  | none => rw [hx] at h; simp at h
  | some p => rw [hx] at h; simp at h; exact ⟨p.1, p.2, rfl, h.symm⟩

/-- for k, v in d.items(), d a dict of ints -/
theorem items_loop {elts : List Expr} {kk : Nat} {pos : Pos} {d vw : Addr} {od : Obj} {c : List (Int × Int)} {m₀ : Str → Option Value} {news : List (Addr × Obj)} (J : Nat → (Str → Option Value) → List (Addr × Obj) → Prop)
    (hh : A.handled = none) (F : Fr h₀ env.locals s.heap m₀) (N : News h₀ env.locals s.heap news) (hvw : (vw, ({ cls := .type "dict_items", data := .fields #[.ref d] } : Obj)) ∈ news) (T : TabAt (PySem.intKind prog w) PyData.int s.heap d (kdfD c)) (hm : (d, od) ∈ news) (hj : J 0 m₀ news)
    (turn : ∀ (I : Addr) i it k v R t u m₁ news₁ h tk, (∀ p ∈ news, p.1 < I) → c[i]? = some (k, v) → IsTup h R #[.int k t, .int v u] → J i m₁ news₁ → (∀ p ∈ news₁, p.1 ≠ I) → it.cls = .type "dict_itemiterator" → Fr h₀ env.locals h m₁ → News h₀ env.locals h ((I, it) :: news₁) →
      wpAny (model prog w) A (assign (.Tuple elts kk pos) env (.ref R)) (fun _ s₂ => wpAny (model prog w) A (execs body env) (TE h₀ env.locals I it [(d, od)] (J (i + 1)) { s with heap := h, toks := tk } Q) E s₂) E { s with heap := h, toks := tk })
    (done : ∀ m₁ news₁ h tk, J c.length m₁ news₁ → Fr h₀ env.locals h m₁ → News h₀ env.locals h news₁ → Q .next { s with heap := h, toks := tk }) :
    wpAny (model prog w) A (pyIter (.ref vw)) (fun it s₂ => TurnsAt prog w A h₀ env (.Tuple elts kk pos) body Q E it s₂) E s :=
  kti_items hh F N ⟨_, (N _ hvw).1, rfl, rfl⟩ T hm (fun k v hk => by obtain ⟨t, rfl⟩ := Value.isInt_shape hk; exact ⟨t, rfl⟩) rfl fun I hI => itemsRest_inv J (fun i a it v m₁ news₁ h tk ha hv hJ ho hit F₁ N₁ => by
      obtain ⟨k, x, hx, rfl⟩ := kdf_at ha
      obtain ⟨R, t, y, rfl, hy, hT⟩ := hv
      obtain ⟨u, rfl⟩ := PyProof.V.Flat.int_inv hy
      exact turn I i it k x R t u m₁ news₁ h tk hI hx hT hJ ho hit F₁ N₁)
    (fun m₁ news₁ h tk hJ => done m₁ news₁ h tk (by rw [List.length_map, kdfD_length] at hJ; exact hJ)) _ 0 m₀ news rfl (Nat.zero_le _) hj fun p hp => Nat.ne_of_lt (hI p hp)

/-- for v in d.values(), d a dict of ints -/
theorem vals_loop {d vw : Addr} {od : Obj} {c : List (Int × Int)} {m₀ : Str → Option Value} {news : List (Addr × Obj)} (J : Nat → (Str → Option Value) → List (Addr × Obj) → Prop)
    (hh : A.handled = none) (F : Fr h₀ env.locals s.heap m₀) (N : News h₀ env.locals s.heap news) (hvw : (vw, ({ cls := .type "dict_values", data := .fields #[.ref d] } : Obj)) ∈ news) (T : TabAt (PySem.intKind prog w) PyData.int s.heap d (kdfD c)) (hm : (d, od) ∈ news) (hj : J 0 m₀ news)
    (turn : ∀ (I : Addr) i it k v u m₁ news₁ h tk, (∀ p ∈ news, p.1 < I) → c[i]? = some (k, v) → J i m₁ news₁ → (∀ p ∈ news₁, p.1 ≠ I) → it.cls = .type "dict_valueiterator" → Fr h₀ env.locals h m₁ → News h₀ env.locals h ((I, it) :: news₁) →
      wpAny (model prog w) A (assign target env (.int v u)) (fun _ s₂ => wpAny (model prog w) A (execs body env) (TE h₀ env.locals I it [(d, od)] (J (i + 1)) { s with heap := h, toks := tk } Q) E s₂) E { s with heap := h, toks := tk })
    (done : ∀ m₁ news₁ h tk, J c.length m₁ news₁ → Fr h₀ env.locals h m₁ → News h₀ env.locals h news₁ → Q .next { s with heap := h, toks := tk }) :
    wpAny (model prog w) A (pyIter (.ref vw)) (fun it s₂ => TurnsAt prog w A h₀ env target body Q E it s₂) E s :=
  kti_vals hh F N ⟨_, (N _ hvw).1, rfl, rfl⟩ T hm rfl fun I hI => itemsRest_inv J (fun i a it v m₁ news₁ h tk ha hv hJ ho hit F₁ N₁ => by
      obtain ⟨k, x, hx, rfl⟩ := kdf_at ha
      obtain ⟨u, rfl⟩ := PyProof.V.Flat.int_inv hv
      exact turn I i it k x u m₁ news₁ h tk hI hx hJ ho hit F₁ N₁)
    (fun m₁ news₁ h tk hJ => done m₁ news₁ h tk (by rw [List.length_map, kdfD_length] at hJ; exact hJ)) _ 0 m₀ news rfl (Nat.zero_le _) hj fun p hp => Nat.ne_of_lt (hI p hp)
end
/-- a turn's end, for an end that is not named -/
noncomputable def Reach (h₀ : Heap) (L I : Addr) (it : Obj) (keep : List (Addr × Obj)) (J : (Str → Option Value) → List (Addr × Obj) → Prop) (S : Shared) (R : Flow → Shared → Prop) : Prop :=
  ∀ h' tk m' news' all, Fr h₀ L h' m' → News h₀ L h' all → J m' news' → (I, it) ∈ all → (∀ p ∈ news', p ∈ all) → (∀ p ∈ news', p.1 ≠ I) → (∀ p ∈ keep, p ∈ news') → R .next { S with heap := h', toks := tk }
theorem reach_te {h₀ : Heap} {L I : Addr} {it : Obj} {keep : List (Addr × Obj)} {J : (Str → Option Value) → List (Addr × Obj) → Prop} {s₁ S : Shared} {h : Heap} {tk : Nat} {Q : Flow → Shared → Prop} (e : s₁ = { S with heap := h, toks := tk }) : Reach h₀ L I it keep J S (TE h₀ L I it keep J s₁ Q) :=
  fun h' tk' m' news' all F N hJ hI hs ho hk => ⟨h', tk', m', news', all, by rw [e], F, N, hI, hs, ho, hk, hJ⟩
section
variable {prog : Program} {w : World} {A : Around} {E : Value → Shared → Prop} {s : Shared} {env : Env} {h₀ : Heap} {x : Str} {target : Expr} {body : List Stmt} {Q : Flow → Shared → Prop}
theorem list_loopA {ax : Addr} {lo : Obj} {vs : List Value} {n : Nat} {m₀ : Str → Option Value} {news : List (Addr × Obj)} (J : Nat → (Str → Option Value) → List (Addr × Obj) → Prop)
    (hh : A.handled = none) (F : Fr h₀ env.locals s.heap m₀) (N : News h₀ env.locals s.heap news) (hm : (ax, lo) ∈ news) (hc : lo.cls = .type "list") (hd : lo.data = .seq vs.toArray n) (hj : J 0 m₀ news)
    (turn : ∀ (R : Flow → Shared → Prop) (E' : Value → Shared → Prop) (S : Shared), PassesOwn (model prog w) A env E' → ∀ (I : Addr) i it v m₁ news₁ h tk, (∀ p ∈ news, p.1 < I) → vs[i]? = some v → J i m₁ news₁ → (∀ p ∈ news₁, p.1 ≠ I) → it.cls = .type "list_iterator" → Fr h₀ env.locals h m₁ → News h₀ env.locals h ((I, it) :: news₁) → Reach h₀ env.locals I it [(ax, lo)] (J (i + 1)) S R →
      wpAny (model prog w) A (assign target env v) (fun _ s₂ => wpAny (model prog w) A (execs body env) R E' s₂) E' { S with heap := h, toks := tk })
    (done : ∀ m₁ news₁ h tk, J vs.length m₁ news₁ → Fr h₀ env.locals h m₁ → News h₀ env.locals h news₁ → Q .next { s with heap := h, toks := tk })
    (hE : PassesOwn (model prog w) A env E := by passes_own) :
    wpAny (model prog w) A (pyIter (.ref ax)) (fun it s₂ => TurnsAt prog w A h₀ env target body Q E it s₂) E s :=
  list_loop J hh F N hm hc hd hj (fun I i it v m₁ news₁ h tk a1 a2 a3 a4 a5 a6 a7 => turn _ E s hE I i it v m₁ news₁ h tk a1 a2 a3 a4 a5 a6 a7 (reach_te rfl)) done
theorem range_loopA {r : Addr} {a₀ b₀ : Int} {t₀ u₀ v₀ : Tok} {n : Nat} {m₀ : Str → Option Value} {news : List (Addr × Obj)} (J : Nat → (Str → Option Value) → List (Addr × Obj) → Prop)
    (hh : A.handled = none) (hr : IsRange s.heap r a₀ b₀ 1 t₀ u₀ v₀) (hsmall : Builtin.Range.small a₀ b₀ 1 = true) (hn : Builtin.Range.rangeSize a₀ b₀ 1 = (n : Int)) (F : Fr h₀ env.locals s.heap m₀) (N : News h₀ env.locals s.heap news) (hj : J 0 m₀ news)
    (turn : ∀ (R : Flow → Shared → Prop) (E' : Value → Shared → Prop) (S : Shared), PassesOwn (model prog w) A env E' → ∀ (I : Addr) i it m₁ news₁ t h tk, (∀ p ∈ news, p.1 < I) → i < n → J i m₁ news₁ → (∀ p ∈ news₁, p.1 ≠ I) → Fr h₀ env.locals h (fun y => if y = x then some (.int (a₀ + (i : Int)) t) else m₁ y) → News h₀ env.locals h ((I, it) :: news₁) → Reach h₀ env.locals I it [] (J (i + 1)) S R →
      wpAny (model prog w) A (execs body env) R E' { S with heap := h, toks := tk })
    (done : ∀ m₁ news₁ h tk, J n m₁ news₁ → Fr h₀ env.locals h m₁ → News h₀ env.locals h news₁ → Q .next { s with heap := h, toks := tk })
    (hE : PassesOwn (model prog w) A env E := by passes_own) :
    wpAny (model prog w) A (pyIter (.ref r)) (fun it s₂ => LoopAtV prog w A h₀ env x body Q E it s₂) E s :=
  range_loop J hh hr hsmall hn F N hj (fun I i it m₁ news₁ t h tk a1 a2 a3 a4 a5 a6 => turn _ E s hE I i it m₁ news₁ t h tk a1 a2 a3 a4 a5 a6 (reach_te rfl)) done
end
theorem allLt_ne {d : Nat} (l : List (Addr × Obj)) (h : AllLt d l) : ∀ p ∈ l, p.1 ≠ d := by
  induction l with
  | nil => intro p hp; cases hp
  | cons q r ih =>
    intro p hp
    rcases List.mem_cons.mp hp with hp | hp
    · rw [hp]; exact Nat.ne_of_lt h.1
    · exact ih h.2 p hp
theorem lt_ne {d : Nat} {l : List (Addr × Obj)} (h : ∀ p ∈ l, p.1 < d) : ∀ p ∈ l, p.1 ≠ d := fun p hp => Nat.ne_of_lt (h p hp)
theorem let_A {M : Model} {A : Around} {α : Type} {t : Sem α} {Q : α → Shared → Prop} {E : Value → Shared → Prop} {s : Shared} (h : let A1 := A; wpAny M A1 t Q E s) : wpAny M A t Q E s := h
theorem tok_any {M : Model} {A : Around} {α : Type} {t : Sem α} {Q : α → Shared → Prop} {E : Value → Shared → Prop} {h g d tk o} (H : ∀ tk, wpAny M A t Q E ⟨h, g, d, tk, o⟩) : wpAny M A t Q E ⟨h, g, d, tk, o⟩ := H tk
theorem hide {P : Prop} (h : let G9 := P; G9) : P := h
theorem lt3 : ∀ n, n < 3 → n = 0 ∨ n = 1 ∨ n = 2 := by decide
theorem lt5 : ∀ n, n < 5 → n = 0 ∨ n = 1 ∨ n = 2 ∨ n = 3 ∨ n = 4 := by decide
theorem lt6 : ∀ n, n < 6 → n = 0 ∨ n = 1 ∨ n = 2 ∨ n = 3 ∨ n = 4 ∨ n = 5 := by decide
theorem lt7 : ∀ n, n < 7 → n = 0 ∨ n = 1 ∨ n = 2 ∨ n = 3 ∨ n = 4 ∨ n = 5 ∨ n = 6 := by decide
theorem lt8 : ∀ n, n < 8 → n = 0 ∨ n = 1 ∨ n = 2 ∨ n = 3 ∨ n = 4 ∨ n = 5 ∨ n = 6 ∨ n = 7 := by decide
theorem ilt7 {c : Int} (h0 : 0 ≤ c) (h1 : c ≤ 6) : c = 0 ∨ c = 1 ∨ c = 2 ∨ c = 3 ∨ c = 4 ∨ c = 5 ∨ c = 6 := by
  obtain ⟨n, rfl⟩ := Int.eq_ofNat_of_zero_le h0
  have h : n < 7 := Nat.lt_succ_of_le (Int.ofNat_le.mp h1)
  rcases lt7 n h with h | h | h | h | h | h | h <;> rw [h] <;> decide
theorem roomK {a b k c L : Nat} (h : a + b < L) (hc : Nat.ble (k + c) b = true) : a + k + c < L := Nat.lt_of_le_of_lt (by rw [Nat.add_assoc]; exact Nat.add_le_add_left (Nat.le_of_ble_eq_true hc) a) h
theorem six_ne (n : Nat) : n ≠ n + 2 ∧ n ≠ n + 3 ∧ n ≠ n + 1 ∧ n + 2 ≠ n + 3 ∧ n + 2 ≠ n + 1 ∧ n + 3 ≠ n + 1 :=
  ⟨Nat.ne_of_lt (Nat.lt_add_of_pos_right (by decide)), Nat.ne_of_lt (Nat.lt_add_of_pos_right (by decide)), Nat.ne_of_lt (Nat.lt_add_of_pos_right (by decide)), Nat.ne_of_lt (Nat.add_lt_add_left (by decide) n), Nat.ne_of_gt (Nat.add_lt_add_left (by decide) n), Nat.ne_of_gt (Nat.add_lt_add_left (by decide) n)⟩
end
local macro_rules | `(tactic| walk_at $s:str) => `(tactic| k_extra $s)
local macro_rules | `(tactic| k_all) => `(tactic| first | exact lt_ne (by with_reducible assumption) | exact allLt_ne _ (by with_reducible assumption) | with_reducible assumption)
local macro_rules | `(tactic| k_mem) => `(tactic| assumption)
local macro_rules | `(tactic| k_room) => `(tactic| first | exact roomK (by assumption) rfl | ktr_room)
local macro_rules | `(tactic| ke_room) => `(tactic| first | ktr_units | omega)
local macro_rules | `(tactic| size_fits) => `(tactic| with_reducible assumption)
section
example : True := by
  k_with_none
  w_top off
  trivial
noncomputable abbrev PR : Program := PySem.Challenge.rw_ph0052_01.row.prog
/-- a dict of ints, as it stands in the ledger -/
noncomputable def IsD (w : World) (o : Obj) (c : List (Int × Int)) : Prop := ∃ kvs, o.IsDictOf (PySem.intKind PR w) kvs ∧ PyProof.V.FlatPairs PyData.int kvs (kdfD c)
example : True := by
  k_with "go" => repeat' (first | ((fail_if_success (with_reducible show wpAny _ _ (exec (Stmt.For _ _ _ _ _) _) _ _ _)); (fail_if_success (with_reducible show wpAny _ _ (pyIter _) _ _ _)); (first | (k_unfold; (try dsimp only)) | (k_end; wrow_close) | walk1 | (dsimp only; walk1) | (leave1; walk_say "STEP leave1"; try dsimp only))))
  trivial
theorem Fr.put {h₀ h : Heap} {L : Addr} {m : Str → Option Value} {k : Str} {v : Value} (F : Fr h₀ L h m) (hk : m k = some v) : Fr h₀ L h (fun y => if y = k then some v else m y) := by
  have e : (fun y => if y = k then some v else m y) = m := by
    funext y
    by_cases hy : y = k
    · subst hy; simp [hk]
    · simp [hy]
  rw [e]; exact F
theorem sum_take {c : List (Int × Int)} {i : Nat} {k v : Int} (h : c[i]? = some (k, v)) : ((c.take (i + 1)).map (·.2)).sum = ((c.take i).map (·.2)).sum + v := by
  rw [List.take_add_one, h]; simp
section
variable {w : World} {dp un : Nat} {gd : Option (List Code)} {cn : Str} {cs : Scope} {a : Addr} {ccd : Value} {cl : List (Str × Addr)} {outer : List Env} {A₀ : Around} {base h₀ : Heap} {L : Addr} {m : Str → Option Value} {news : List (Addr × Obj)} {s : Shared}
    {Q E : Value → Shared → Prop} {pT : Program} {lT : List Str} {mean : ExcName → Option Value} {mg mb : Str → Option Value}

theorem count_calls_spec {d : Addr} {od : Obj} {c : List (Int × Int)} (B : Below A₀ base outer h₀) (F : Fr h₀ L s.heap m) (X : (hd.heap_39 w.params).In h₀) (N : News h₀ L s.heap news) (T : Top pT lT mean mg mb h₀) (hk : cs.kind = .function) (hdp : dp + 3 < recursionLimit) (_hu : un + 20 < cLine)
    (hd : (d, od) ∈ news) (hD : IsD w od c) (hlo : (d == sysModules) = false)
    (ret : ∀ t h' tk', Fr h₀ L h' m → News h₀ L h' news → Q (.int ((c.map (·.2)).sum) t) { s with heap := h', toks := tk' }) :
    wpAny (model PR w) (ktrTop dp un gd cn cs L a ccd cl outer) (call (.ref 70) [.ref d]) Q E s := by
  obtain ⟨kvs, hD, hP⟩ := hD
  refine wpAny_call ?_
  k_dflt cell_enter
  rename_i g0 L0 h1 FG F0 N0 B0 X0 T0
  replace F0 := Fr.put (k := Str.ofString "callers") F0 rfl
  walk_at "go"
  refine For_turns (by k_asm) ?_
  walk_at "go"
  refine vals_loop (fun i m₁ n₁ => n₁ = _ :: news ∧ ∃ t, m₁ (Str.ofString "nc") = some (.int (((c.take i).map (·.2)).sum) t)) rfl (by k_asm) (by k_asm) (List.Mem.head _) ⟨hlo, kvs, Heap.dictOf_iff.mpr ⟨od, ((by assumption : News _ _ _ _) _ (List.mem_cons_of_mem _ hd)).1, hD⟩, hP⟩ (List.mem_cons_of_mem _ hd) ⟨rfl, _, rfl⟩ ?_ ?_
  · intro I i it k v u m₁ n₁ h tk hI hc hJ12 ho hit F₁ N₁
    refine hide ?_
    intro G9
    obtain ⟨rfl, t, hnc⟩ := hJ12
    replace F₁ := Fr.put (k := Str.ofString "nc") F₁ hnc
    (try k_unfold)
    (try dsimp only)
    walk_at "go"
    refine TE.next (by k_asm) (by k_asm) ⟨rfl, _, (by rw [sum_take hc]; rfl)⟩ (List.Mem.head _) (fun p hp => List.mem_cons_of_mem _ hp) ho ?_
    intro p hp
    rw [List.mem_singleton.mp hp]
    exact List.mem_cons_of_mem _ hd
  · intro m₁ n₁ h tk hJ4 F₁ N₁
    refine hide ?_
    intro G9
    obtain ⟨rfl, t, hnc⟩ := hJ4
    replace F₁ := Fr.put (k := Str.ofString "nc") F₁ hnc
    (try k_unfold)
    (try dsimp only)
    walk_at "go"
    rw [List.take_length]
    exact ret _ _ _ (by k_asm) (cb_drop (by assumption) fun p hp => List.mem_cons_of_mem _ hp)
theorem off_map {I : Addr} {l l' : List (Addr × Obj)} (h : ∀ p ∈ l, p.1 ≠ I) (e : l'.map (·.1) = l.map (·.1)) : ∀ p ∈ l', p.1 ≠ I := fun p hp => by
  have : p.1 ∈ l.map (·.1) := e ▸ List.mem_map.mpr ⟨p, hp, rfl⟩
  obtain ⟨q, hq, e'⟩ := List.mem_map.mp this
  exact e' ▸ h q hq
theorem keep1 {q : Addr × Obj} {l : List (Addr × Obj)} (h : q ∈ l) : ∀ p ∈ [q], p ∈ l := fun p hp => by rw [List.mem_singleton.mp hp]; exact h
theorem keep0 {l : List (Addr × Obj)} : ∀ p ∈ ([] : List (Addr × Obj)), p ∈ l := fun p hp => by cases hp
section
variable {A : Around} {od : Obj} {d : Addr} {c : List (Int × Int)}
theorem isD_tab {h : Heap} (N : News h₀ L h news) (hm : (d, od) ∈ news) (hD : IsD w od c) (lo : (d == sysModules) = false) : TabAt (PySem.intKind PR w) PyData.int h d (kdfD c) := by
  obtain ⟨kvs, hD, hP⟩ := hD
  exact ⟨lo, kvs, Heap.dictOf_iff.mpr ⟨od, (N _ hm).1, hD⟩, hP⟩
theorem isD_items_m {pl : Sem Bool} {Q : Value × List Value → Shared → Prop} (N : News h₀ L s.heap news) (hm : (d, od) ∈ news) (hD : IsD w od c) (h : Q (.builtin "dict.items", [.ref d]) s) :
    wpAny (model PR w) A (getMethod (.ref d) (Str.ofString "items") pl) Q E s := by
  obtain ⟨kvs, hD, hP⟩ := hD
  exact kdl_method PySem.F.slot_dict_items PySem.F.type_dict_items N hm hD h
theorem isD_items {Q : Value → Shared → Prop} (F : Fr h₀ L s.heap m) (N : News h₀ L s.heap news) (hm : (d, od) ∈ news) (hD : IsD w od c) (lo : (d == sysModules) = false)
    (h : ∀ (D : Addr) h', Fr h₀ L h' m → News h₀ L h' ((D, { cls := .type "dict_items", data := .fields #[.ref d] }) :: news) → (∀ q ∈ news, q.1 < D) → Q (.ref D) { s with heap := h' }) :
    wpAny (model PR w) A (call (.builtin "dict.items") [.ref d]) Q E s := by
  obtain ⟨kvs, hD, hP⟩ := hD
  exact kdx_view F N hm hD lo h
theorem isD_set {Q : Unit → Shared → Prop} {u : Obj → List (Addr × Obj)} {k e : Int} {tk te : Tok} (F : Fr h₀ L s.heap m) (N : News h₀ L s.heap news) (U : UpdF d od news u) (hD : IsD w od c) (hc : c.length ≤ 16777216)
    (h : ∀ h' o', Fr h₀ L h' m → News h₀ L h' (u o') → IsD w o' (kdfPut c k e) → Q () { s with heap := h', toks := s.toks + 1 }) :
    wpAny (model PR w) A (setItem (.ref d) (.int k tk) (.int e te)) Q E s := by
  obtain ⟨kvs, hD, hP⟩ := hD
  exact kdf_setItem F N U hD hP hc fun h' o' kvs' F' N' a b => h h' o' F' N' ⟨kvs', a, b⟩
theorem isD_in {Q : Value → Shared → Prop} {k : Int} {tk : Tok} (N : News h₀ L s.heap news) (hm : (d, od) ∈ news) (hD : IsD w od c) (lo : (d == sysModules) = false) (h : Q (.bool (kdfHas c k)) { s with toks := s.toks + 1 }) :
    wpAny (model PR w) A (compareOp .In (.int k tk) (.ref d)) Q E s := kdf_in (isD_tab N hm hD lo) h
theorem isD_getItem {Q : Value → Shared → Prop} {k : Int} {tk : Tok} (N : News h₀ L s.heap news) (hm : (d, od) ∈ news) (hD : IsD w od c) (lo : (d == sysModules) = false) (hk : kdfHas c k = true) (h : ∀ t, Q (.int (kdfLook c k 0) t) { s with toks := s.toks + 1 }) :
    wpAny (model PR w) A (getItem (.ref d) (.int k tk)) Q E s :=
  getItem_tab PyProof.V.same_int (intKind_is _ _ _ _) (isD_tab N hm hD lo) (kdfD_item hk) fun v hv => by
    obtain ⟨t, rfl⟩ := PyProof.V.Flat.int_inv hv
    exact h t
end

example : True := by
  k_with "getMethod ref" => (k_here; (with_reducible show wpAny _ _ (getMethod (Value.ref _) (Str.ofString "items") _) _ _ _); k_dflt (refine' isD_items_m ?zzk1 ?zzk2 ?zzk3 ?_; (case zzk1 => k_asm); (case zzk2 => k_mem); (case zzk3 => with_reducible assumption); k_whole))
  k_with "call builtin:dict.items" => (k_here; (with_reducible show wpAny _ _ (call (Value.builtin "dict.items") [Value.ref _]) _ _ _); k_dflt (refine' isD_items ?zzk0 ?zzk1 ?zzk2 ?zzk3 ?zzk4 ?_; (case zzk0 => k_asm); (case zzk1 => k_asm); (case zzk2 => k_mem); (case zzk3 => with_reducible assumption); (case zzk4 => with_reducible assumption); k_whole); intro _ _ _ _ _; (try k_sweep))
  k_with "setItem ref int" => (k_here; (with_reducible show wpAny _ _ (setItem (Value.ref _) (Value.int _ _) (Value.int _ _)) _ _ _); k_dflt (refine' isD_set ?zzk0 ?zzk1 ?zzk2 ?zzk3 ?zzk4 ?_; (case zzk0 => k_asm); (case zzk1 => k_asm); (case zzk2 => k_updF); (case zzk3 => with_reducible assumption); (case zzk4 => omega); k_whole); intro _ _ _ _ _; (try k_sweep))
  k_with "compareOp In" => (k_here; (with_reducible show wpAny _ _ (compareOp CmpOp.In (Value.int _ _) (Value.ref _)) _ _ _); k_dflt (refine' isD_in ?zzk1 ?zzk2 ?zzk3 ?zzk4 ?_; (case zzk1 => k_asm); (case zzk2 => k_mem); (case zzk3 => with_reducible assumption); (case zzk4 => with_reducible assumption); k_whole))
  k_with "getItem ref int" => (k_here; (with_reducible show wpAny _ _ (getItem (Value.ref _) (Value.int _ _)) _ _ _); k_dflt (refine' isD_getItem ?zzk1 ?zzk2 ?zzk3 ?zzk4 ?zzk5 ?_; (case zzk1 => k_asm); (case zzk2 => k_mem); (case zzk3 => with_reducible assumption); (case zzk4 => with_reducible assumption); (case zzk5 => with_reducible assumption); k_whole); intro _)
  trivial
theorem kdfPut_new {c : List (Int × Int)} {k v : Int} (h : kdfHas c k = false) : kdfPut c k v = c ++ [(k, v)] := by
  unfold kdfPut
  unfold kdfHas at h
  rw [if_neg (by rw [h]; decide)]
theorem kdfLook_new {c : List (Int × Int)} {k : Int} (h : kdfHas c k = false) : kdfLook c k 0 = 0 := by
  unfold kdfLook
  unfold kdfHas at h
  have : c.find? (fun p => decide (p.1 = k)) = none := by
    rw [List.find?_eq_none]
    intro p hp
    have := List.any_eq_false.mp h p hp
    simpa using this
  rw [this]; rfl
theorem isD_nodup {o : Obj} {c : List (Int × Int)} (h : IsD w o c) : (c.map (·.1)).Nodup := by
  obtain ⟨kvs, ⟨es, ep, _, _, _, _, hn⟩, hP⟩ := h
  have e : kvs.map (·.1) = c.map (·.1) := by
    clear hn
    have : ∀ (kvs : List (Int × Value)) (D : List (PyData × PyData)), PyProof.V.FlatPairs PyData.int kvs D → ∀ c : List (Int × Int), D = kdfD c → kvs.map (·.1) = c.map (·.1) := by
      intro kvs D hf
      induction hf with
      | nil => intro c hc; cases c with
        | nil => rfl
        | cons p r => simp [kdfD] at hc
      | cons hv _ ih => intro c hc; cases c with
        | nil => simp [kdfD] at hc
        | cons p r =>
          simp only [kdfD, List.map_cons, List.cons.injEq, Prod.mk.injEq, PyData.int.injEq] at hc
          simp only [List.map_cons]
          rw [ih r hc.2, hc.1.1]
    exact this _ _ hP c rfl
  rw [← e]; exact hn
theorem take_has {c : List (Int × Int)} (hn : (c.map (·.1)).Nodup) {i : Nat} {k v : Int} (h : c[i]? = some (k, v)) : kdfHas (c.take i) k = false := by
  unfold kdfHas
  rw [List.any_eq_false]
  intro p hp
  obtain ⟨j, hj, hpj⟩ := List.getElem_of_mem hp
  have hj1 : j < i := by rw [List.length_take] at hj; omega
  have hj2 : j < c.length := by rw [List.length_take] at hj; omega
  have hi : i < c.length := (List.getElem?_eq_some_iff.mp h).1
  have e1 : c[j] = p := by rw [← hpj, List.getElem_take]
  have e2 : c[i] = (k, v) := (List.getElem?_eq_some_iff.mp h).2
  have hne := List.pairwise_iff_getElem.mp hn j i (by simpa using hj2) (by simpa using hi) hj1
  simp only [List.getElem_map, e1, e2] at hne
  simpa using hne
theorem put_take {c : List (Int × Int)} (hn : (c.map (·.1)).Nodup) {i : Nat} {k v : Int} (h : c[i]? = some (k, v)) : kdfPut (c.take i) k v = c.take (i + 1) := by
  rw [kdfPut_new (take_has hn h), List.take_add_one, h]; rfl
theorem add_callers_spec {d e : Addr} {od oe : Obj} {c : List (Int × Int)} {k0 v0 : Int} (B : Below A₀ base outer h₀) (F : Fr h₀ L s.heap m) (X : (hd.heap_39 w.params).In h₀) (N : News h₀ L s.heap news) (T : Top pT lT mean mg mb h₀) (hk : cs.kind = .function) (hdp : dp + 3 < recursionLimit) (hu : un + 20 < cLine)
    (hd : (d, od) ∈ news) (hD : IsD w od c) (hlo : (d == sysModules) = false) (hc : c.length ≤ 1000)
    (he : (e, oe) ∈ news) (hDe : IsD w oe [(k0, v0)]) (hloe : (e == sysModules) = false)
    (ret : ∀ r o h' tk', Fr h₀ L h' m → News h₀ L h' ((r, o) :: news) → (∀ p ∈ news, p.1 < r) → (r == sysModules) = false → IsD w o (kdfPut c k0 (kdfLook c k0 0 + v0)) → Q (.ref r) { s with heap := h', toks := tk' }) :
    wpAny (model PR w) (ktrTop dp un gd cn cs L a ccd cl outer) (call (.ref 63) [.ref d, .ref e]) Q E s := by
  have hnd := isD_nodup hD
  refine wpAny_call ?_
  k_dflt cell_enter
  rename_i g0 L0 h1 FG F0 N0 B0 X0 T0
  replace F0 := Fr.put (k := Str.ofString "target") F0 rfl
  replace F0 := Fr.put (k := Str.ofString "source") F0 rfl
  walk_at "go"
  rename_i nd _ no l1 nlo hs fs hi fi _ _ _
  have hDn : IsD w no [] := ⟨_, hi, fi⟩
  clear hs fs hi fi
  refine For_turns (by k_asm) ?_
  walk_at "go"
  rename_i vw _ _ N1 l2
  refine items_loop (fun i m₁ n₁ => (∃ o, n₁ = (vw, _) :: (nd, o) :: news ∧ IsD w o (c.take i)) ∧ m₁ (Str.ofString "new_callers") = some (.ref nd) ∧ m₁ (Str.ofString "source") = some (.ref e)) rfl (by k_asm) (by k_asm) (List.Mem.head _) (isD_tab N1 (.tail _ (.tail _ hd)) hD hlo) (.tail _ (.tail _ hd)) ⟨⟨no, rfl, hDn⟩, rfl, rfl⟩ ?_ ?_
  · intro I i it k v R t u m₁ n₁ h tk hI hci hR hJ15 ho hit F₁ N₁
    refine hide ?_
    intro G9
    obtain ⟨⟨o, rfl, hDo⟩, hm1, hm2⟩ := hJ15
    replace F₁ := Fr.put (k := Str.ofString "new_callers") F₁ hm1
    replace F₁ := Fr.put (k := Str.ofString "source") F₁ hm2
    have hlen : (c.take i).length ≤ 1000 := by rw [List.length_take]; omega
    have e1 := ltN (hI _ (.head _))
    have e2 := ltN (hI _ (.tail _ (.head _)))
    have e3 : ∀ p ∈ news, p.1 < I := fun p hp => hI p (.tail _ (.tail _ hp))
    have e4 := ltN (l2 _ (.head _))
    have e5 : ∀ p ∈ news, p.1 < vw := fun p hp => l2 p (.tail _ hp)
    (try k_unfold)
    dsimp only at e1 e2 e4 ⊢
    walk_at "go"
    refine TE.next (by k_asm) (by k_asm) ⟨⟨_, rfl, (by rw [← put_take hnd hci]; assumption)⟩, rfl, rfl⟩ (.head _) (fun p hp => .tail _ hp) (by exact off_map ho rfl) (keep1 (.tail _ (.tail _ hd)))
  · intro m₁ n₁ h tk hJ4 F₁ N₁
    refine hide ?_
    intro G9
    obtain ⟨⟨o, rfl, hDo⟩, hm1, hm2⟩ := hJ4
    rw [List.take_length] at hDo
    replace F₁ := Fr.put (k := Str.ofString "new_callers") F₁ hm1
    replace F₁ := Fr.put (k := Str.ofString "source") F₁ hm2
    have e4 := ltN (l2 _ (.head _))
    have e5 : ∀ p ∈ news, p.1 < vw := fun p hp => l2 p (.tail _ hp)
    clear N1 hDn
    (try k_unfold)
    dsimp only at e4 ⊢
    walk_at "go"
    refine For_turns (by k_asm) ?_
    walk_at "go"
    rename_i vx _ _ N2 l3
    refine items_loop (fun i m₁ n₁ => (∃ o, n₁ = (vx, _) :: (vw, _) :: (nd, o) :: news ∧ IsD w o (if i = 0 then c else kdfPut c k0 (kdfLook c k0 0 + v0))) ∧ m₁ (Str.ofString "new_callers") = some (.ref nd)) rfl (by k_asm) (by k_asm) (List.Mem.head _) (isD_tab N2 (.tail _ (.tail _ (.tail _ he))) hDe hloe) (.tail _ (.tail _ (.tail _ he))) ⟨⟨o, rfl, hDo⟩, rfl⟩ ?_ ?_
    · intro I i it k v R t u m₁ n₁ h tk hI hci hR hJ15 ho hit F₁ N₁
      refine hide ?_
      intro G9
      obtain ⟨⟨o, rfl, hDo⟩, hm1⟩ := hJ15
      replace F₁ := Fr.put (k := Str.ofString "new_callers") F₁ hm1
      have hi0 : i = 0 := by
        have := (List.getElem?_eq_some_iff.mp hci).1
        simp at this; exact this
      subst hi0
      simp at hci
      obtain ⟨rfl, rfl⟩ := hci
      rw [if_pos rfl] at hDo
      have e6 := ltN (hI _ (.head _))
      have e7 := ltN (hI _ (.tail _ (.head _)))
      have e8 := ltN (hI _ (.tail _ (.tail _ (.head _))))
      have e9 := ltN (l3 _ (.head _))
      have e10 := ltN (l3 _ (.tail _ (.head _)))
      (try k_unfold)
      dsimp only at e6 e7 e8 e9 e10 ⊢
      walk_at "go"
      · refine TE.next (by k_asm) (by k_asm) ⟨⟨_, rfl, (by rw [if_neg (by simp)]; assumption)⟩, rfl⟩ (.head _) (fun p hp => .tail _ hp) (by exact off_map ho rfl) (keep1 (.tail _ (.tail _ (.tail _ he))))
      · refine TE.next (by k_asm) (by k_asm) ⟨⟨_, rfl, (by rw [if_neg (by simp), kdfLook_new (by assumption), Int.zero_add]; assumption)⟩, rfl⟩ (.head _) (fun p hp => .tail _ hp) (by exact off_map ho rfl) (keep1 (.tail _ (.tail _ (.tail _ he))))
    · intro m₁ n₁ h tk hJ4 F₁ N₁
      refine hide ?_
      intro G9
      obtain ⟨⟨o, rfl, hDo⟩, hm1⟩ := hJ4
      replace F₁ := Fr.put (k := Str.ofString "new_callers") F₁ hm1
      rw [if_neg (by simp)] at hDo
      (try k_unfold)
      (try dsimp only)
      walk_at "go"
      exact ret _ _ _ _ (by k_asm) (cb_drop (by assumption) fun p hp => .tail _ (.tail _ hp)) l1 nlo hDo
end
end
section
example : True := by
  k_with_none
  w_top off
  trivial

example : True := by
  k_with "go" => ((repeat' (first | ((first | (with_reducible show wpAny _ _ (exec (Stmt.Assign _ _ _) _) _ _ _) | (with_reducible show wpAny _ _ (exec (Stmt.Expr _ _) _) _ _ _) | (with_reducible show wpAny _ _ (exec (Stmt.If _ _ _ _) _) _ _ _) | (with_reducible show wpAny _ _ (exec (Stmt.AugAssign _ _ _ _) _) _ _ _) | (with_reducible show wpAny _ _ (exec (Stmt.Return _ _) _) _ _ _) | (with_reducible show wpAny _ _ (eval (Expr.Call _ _ _ _) _) _ _ _)); k_fold) | ((fail_if_success (with_reducible show wpAny _ _ (exec (Stmt.For _ _ _ _ _) _) _ _ _)); (fail_if_success (with_reducible show wpAny _ _ (pyIter _) _ _ _)); (first | (k_unfold; (try dsimp only)) | (k_end; wrow_close) | walk1 | (dsimp only; walk1) | (leave1; walk_say "STEP leave1"; try dsimp only))))); (all_goals (repeat (first | clear ek | clear qk))))
  k_with "getMethod ref" => (k_here; (with_reducible show wpAny _ _ (getMethod (Value.ref _) (Str.ofString "items") _) _ _ _); k_dflt (refine' isD_items_m ?zzk1 ?zzk2 ?zzk3 ?_; (case zzk1 => k_asm); (case zzk2 => k_mem); (case zzk3 => with_reducible assumption); k_whole))
  k_with "call builtin:dict.items" => (k_here; (with_reducible show wpAny _ _ (call (Value.builtin "dict.items") [Value.ref _]) _ _ _); k_dflt (refine' isD_items ?zzk0 ?zzk1 ?zzk2 ?zzk3 ?zzk4 ?_; (case zzk0 => k_asm); (case zzk1 => k_asm); (case zzk2 => k_mem); (case zzk3 => with_reducible assumption); (case zzk4 => with_reducible assumption); k_whole); intro _ _ _ _ _; (try k_sweep))
  k_with "setItem ref int" => (k_here; (with_reducible show wpAny _ _ (setItem (Value.ref _) (Value.int _ _) (Value.int _ _)) _ _ _); k_dflt (refine' isD_set ?zzk0 ?zzk1 ?zzk2 ?zzk3 ?zzk4 ?_; (case zzk0 => k_asm); (case zzk1 => k_asm); (case zzk2 => k_updF); (case zzk3 => with_reducible assumption); (case zzk4 => omega); k_whole); intro _ _ _ _ _; (try k_sweep))
  k_with "compareOp In" => (k_here; (with_reducible show wpAny _ _ (compareOp CmpOp.In (Value.int _ _) (Value.ref _)) _ _ _); k_dflt (refine' isD_in ?zzk1 ?zzk2 ?zzk3 ?zzk4 ?_; (case zzk1 => k_asm); (case zzk2 => k_mem); (case zzk3 => with_reducible assumption); (case zzk4 => with_reducible assumption); k_whole))
  k_with "getItem ref int" => (k_here; (with_reducible show wpAny _ _ (getItem (Value.ref _) (Value.int _ _)) _ _ _); k_dflt (refine' isD_getItem ?zzk1 ?zzk2 ?zzk3 ?zzk4 ?zzk5 ?_; (case zzk1 => k_asm); (case zzk2 => k_mem); (case zzk3 => with_reducible assumption); (case zzk4 => with_reducible assumption); (case zzk5 => with_reducible assumption); k_whole); intro _)
  trivial
section
variable {w : World} {dp un : Nat} {gd : Option (List Code)} {cn : Str} {cs : Scope} {a : Addr} {ccd : Value} {cl : List (Str × Addr)} {outer : List Env} {A₀ : Around} {base h₀ : Heap} {L : Addr} {m : Str → Option Value} {news : List (Addr × Obj)} {s : Shared}
    {Q E : Value → Shared → Prop} {pT : Program} {lT : List Str} {mean : ExcName → Option Value} {mg mb : Str → Option Value}
noncomputable abbrev tupO (vs : List Value) : Obj := { cls := .type "tuple", data := .seq vs.toArray }
example : True := by
  k_with "call ref" => (k_here; (with_reducible show wpAny _ _ (call (Value.ref 63) [Value.ref _, Value.ref _]) _ _ _); k_dflt (refine' add_callers_spec ?zzk1 ?zzk2 ?zzk3 ?zzk4 ?zzk5 ?zzk6 ?zzk7 ?zzk8 ?zzk9 ?zzk10 ?zzk11 ?zzk12 ?zzk13 ?zzk14 ?zzk15 ?_; (case zzk1 => k_asm); (case zzk2 => k_asm); (case zzk3 => k_asm); (case zzk4 => k_asm); (case zzk5 => k_asm); (case zzk6 => exact rfl); (case zzk7 => (first | exact roomK (by assumption) rfl | ktr_room)); (case zzk8 => (first | exact roomK (by assumption) rfl | ktr_units)); (case zzk9 => k_mem); (case zzk10 => with_reducible assumption); (case zzk11 => with_reducible assumption); (case zzk12 => omega); (case zzk13 => k_mem); (case zzk14 => with_reducible assumption); (case zzk15 => with_reducible assumption); k_whole); intro _ _ _ _ _ _ _ _ _; (try k_sweep))
  trivial
theorem add_func_stats_spec {x y d e : Addr} {od oe : Obj} {c : List (Int × Int)} {k0 v0 i1 i2 i3 i4 j1 j2 j3 j4 : Int} {t1 t2 t3 t4 u1 u2 u3 u4 : Tok} (B : Below A₀ base outer h₀) (F : Fr h₀ L s.heap m) (X : (hd.heap_39 w.params).In h₀) (N : News h₀ L s.heap news) (T : Top pT lT mean mg mb h₀) (hk : cs.kind = .function) (hdp : dp + 6 < recursionLimit) (hu : un + 40 < cLine)
    (hx : (x, tupO [.int i1 t1, .int i2 t2, .int i3 t3, .int i4 t4, .ref d]) ∈ news) (hy : (y, tupO [.int j1 u1, .int j2 u2, .int j3 u3, .int j4 u4, .ref e]) ∈ news)
    (hd : (d, od) ∈ news) (hD : IsD w od c) (hlo : (d == sysModules) = false) (hc : c.length ≤ 1000)
    (he : (e, oe) ∈ news) (hDe : IsD w oe [(k0, v0)]) (hloe : (e == sysModules) = false)
    (ret : ∀ r rd o t1' t2' t3' t4' h' tk', Fr h₀ L h' m → News h₀ L h' ((r, tupO [.int (j1 + i1) t1', .int (j2 + i2) t2', .int (j3 + i3) t3', .int (j4 + i4) t4', .ref rd]) :: (rd, o) :: news) → (∀ p ∈ news, p.1 < rd) → rd < r → (rd == sysModules) = false → IsD w o (kdfPut c k0 (kdfLook c k0 0 + v0)) → Q (.ref r) { s with heap := h', toks := tk' }) :
    wpAny (model PR w) (ktrTop dp un gd cn cs L a ccd cl outer) (call (.ref 56) [.ref x, .ref y]) Q E s := by
  refine wpAny_call ?_
  k_dflt cell_enter
  rename_i g0 L0 h1 FG F0 N0 B0 X0 T0
  replace F0 := Fr.put (k := Str.ofString "target") F0 rfl
  replace F0 := Fr.put (k := Str.ofString "source") F0 rfl
  walk_at "go"
  exact ret _ _ _ _ _ _ _ _ _ (by k_asm) (by k_asm) (by assumption) (And.left (b := AllLt _ news) (by assumption)) (by assumption) (by assumption)
end
end
section
example : True := by
  k_with_none
  w_top off
  trivial

example : True := by
  k_with "go" => ((repeat' (first | ((first | (with_reducible show wpAny _ _ (exec (Stmt.Assign _ _ _) _) _ _ _) | (with_reducible show wpAny _ _ (exec (Stmt.Expr _ _) _) _ _ _) | (with_reducible show wpAny _ _ (exec (Stmt.If _ _ _ _) _) _ _ _) | (with_reducible show wpAny _ _ (exec (Stmt.AugAssign _ _ _ _) _) _ _ _) | (with_reducible show wpAny _ _ (exec (Stmt.Return _ _) _) _ _ _) | (with_reducible show wpAny _ _ (eval (Expr.Call _ _ _ _) _) _ _ _)); k_fold) | ((fail_if_success (with_reducible show wpAny _ _ (exec (Stmt.For _ _ _ _ _) _) _ _ _)); (fail_if_success (with_reducible show wpAny _ _ (pyIter _) _ _ _)); (first | (k_unfold; (try dsimp only)) | (k_end; wrow_close) | walk1 | (dsimp only; walk1) | (leave1; walk_say "STEP leave1"; try dsimp only))))); (all_goals (repeat (first | clear ek | clear qk))))
  k_with "getMethod ref" => (k_here; (with_reducible show wpAny _ _ (getMethod (Value.ref _) (Str.ofString "items") _) _ _ _); k_dflt (refine' isD_items_m ?zzk1 ?zzk2 ?zzk3 ?_; (case zzk1 => k_asm); (case zzk2 => k_mem); (case zzk3 => with_reducible assumption); k_whole))
  k_with "call builtin:dict.items" => (k_here; (with_reducible show wpAny _ _ (call (Value.builtin "dict.items") [Value.ref _]) _ _ _); k_dflt (refine' isD_items ?zzk0 ?zzk1 ?zzk2 ?zzk3 ?zzk4 ?_; (case zzk0 => k_asm); (case zzk1 => k_asm); (case zzk2 => k_mem); (case zzk3 => with_reducible assumption); (case zzk4 => with_reducible assumption); k_whole); intro _ _ _ _ _; (try k_sweep))
  k_with "setItem ref int" => (k_here; (with_reducible show wpAny _ _ (setItem (Value.ref _) (Value.int _ _) (Value.int _ _)) _ _ _); k_dflt (refine' isD_set ?zzk0 ?zzk1 ?zzk2 ?zzk3 ?zzk4 ?_; (case zzk0 => k_asm); (case zzk1 => k_asm); (case zzk2 => k_updF); (case zzk3 => with_reducible assumption); (case zzk4 => omega); k_whole); intro _ _ _ _ _; (try k_sweep))
  k_with "compareOp In" => (k_here; (with_reducible show wpAny _ _ (compareOp CmpOp.In (Value.int _ _) (Value.ref _)) _ _ _); k_dflt (refine' isD_in ?zzk1 ?zzk2 ?zzk3 ?zzk4 ?_; (case zzk1 => k_asm); (case zzk2 => k_mem); (case zzk3 => with_reducible assumption); (case zzk4 => with_reducible assumption); k_whole))
  k_with "getItem ref int" => (k_here; (with_reducible show wpAny _ _ (getItem (Value.ref _) (Value.int _ _)) _ _ _); k_dflt (refine' isD_getItem ?zzk1 ?zzk2 ?zzk3 ?zzk4 ?zzk5 ?_; (case zzk1 => k_asm); (case zzk2 => k_mem); (case zzk3 => with_reducible assumption); (case zzk4 => with_reducible assumption); (case zzk5 => with_reducible assumption); k_whole); intro _)
  trivial
section
variable {w : World} {dp un : Nat} {gd : Option (List Code)} {cn : Str} {cs : Scope} {a : Addr} {ccd : Value} {cl : List (Str × Addr)} {outer : List Env} {A₀ : Around} {base h₀ : Heap} {L : Addr} {m : Str → Option Value} {news : List (Addr × Obj)} {s : Shared}
    {Q E : Value → Shared → Prop} {pT : Program} {lT : List Str} {mean : ExcName → Option Value} {mg mb : Str → Option Value}
/-- a comparison of two values answers r and changes nothing -/
noncomputable def CmpIs (w : World) (op : CmpOp) (u v : Value) (r : Bool) : Prop := ∀ (A : Around) (Q E : Value → Shared → Prop) (s : Shared), Q (.bool r) s → wpAny (model PR w) A (compareOp op u v) Q E s
/-- one key of the judge, and how two rows answer it -/
structure KeyR where
  ka : Addr
  ix : Int
  dir : Int
  l : Bool
  g : Bool
noncomputable def cmpRes : List KeyR → Int
  | [] => 0
  | q :: r => if q.l then -q.dir else if q.g then q.dir else cmpRes r
noncomputable def KeyOk (w : World) (news : List (Addr × Obj)) (xs ys : List Value) (q : KeyR) : Prop :=
  (∃ t u, (q.ka, tupO [.int q.ix t, .int q.dir u]) ∈ news) ∧ 0 ≤ q.ix ∧ q.ix < 100 ∧ ∃ a b, xs[q.ix.toNat]? = some a ∧ ys[q.ix.toNat]? = some b ∧ CmpIs w .Lt a b q.l ∧ CmpIs w .Gt a b q.g
theorem tup_item {A : Around} {value slice : Expr} {x : Addr} {xs : List Value} {k : Int} {u : Tok} {v : Value} {Q : Value → Shared → Prop} (N : News h₀ L s.heap news) (hm : (x, tupO xs) ∈ news) (h0 : 0 ≤ k) (h1 : k < 100) (hx : xs[k.toNat]? = some v) (h : Q v s)
    (hs : subscripted slice false (.ref x) (.int k u) = operate [.ref x, .int k u] (getItem (.ref x) (.int k u)) := by with_unfolding_all rfl) :
    wpAny (model PR w) A (subscriptTail value slice (.ref x) (.int k u)) Q E s :=
  item_tupleT (l := xs) (j := k.toNat) ⟨_, (N _ hm).1, rfl, _, rfl⟩ (by omega) (by omega) (by
    have hlt : k.toNat < xs.length := (List.getElem?_eq_some_iff.mp hx).1
    simp only [seqIndex?, if_neg (show ¬ k < 0 by omega)]
    rw [if_pos (by rw [Bool.and_eq_true, decide_eq_true_eq, decide_eq_true_eq]; omega)]) hx h hs
theorem cmp_at {A : Around} {op : CmpOp} {u v : Value} {r : Bool} {Q : Value → Shared → Prop} (h : CmpIs w op u v r) (hq : Q (.bool r) s) : wpAny (model PR w) A (compareOp op u v) Q E s := h A Q E s hq
theorem cmpRes_drop {keys : List KeyR} {i : Nat} {q : KeyR} (h : keys[i]? = some q) : cmpRes (keys.drop i) = if q.l then -q.dir else if q.g then q.dir else cmpRes (keys.drop (i + 1)) := by
  obtain ⟨hlt, he⟩ := List.getElem?_eq_some_iff.mp h
  rw [List.drop_eq_getElem_cons hlt, he]
  rfl
example : True := by
  k_with "subscriptTail Name Name ref int" => (k_here; (with_reducible show wpAny _ _ (subscriptTail _ _ (Value.ref _) (Value.int _ _)) _ _ _); k_dflt (refine' tup_item ?zzk1 ?zzk2 ?zzk3 ?zzk4 ?zzk5 ?_ ?zzk6; (case zzk1 => k_asm); (case zzk2 => k_mem); (case zzk3 => with_reducible assumption); (case zzk4 => with_reducible assumption); (case zzk5 => with_reducible assumption); (case zzk6 => with_unfolding_all rfl); k_whole))
  k_with "compareOp Lt" => (k_here; (with_reducible show wpAny _ _ (compareOp CmpOp.Lt _ _) _ _ _); k_dflt (refine' cmp_at ?zzk1 ?_; (case zzk1 => with_reducible assumption); k_whole))
  k_with "compareOp Gt" => (k_here; (with_reducible show wpAny _ _ (compareOp CmpOp.Gt _ _) _ _ _); k_dflt (refine' cmp_at ?zzk1 ?_; (case zzk1 => with_reducible assumption); k_whole))
  trivial
theorem compare_spec {j d kl x y : Addr} {n n1 : Nat} {hh : Int} {tk1 : Tok} {keys : List KeyR} {xs ys : List Value} (B : Below A₀ base outer h₀) (F : Fr h₀ L s.heap m) (X : (hd.heap_39 w.params).In h₀) (N : News h₀ L s.heap news) (T : Top pT lT mean mg mb h₀) (hk : cs.kind = .function) (hdp : dp + 3 < recursionLimit) (hu : un + 20 < cLine)
    (hj : (j, instObj 38 d) ∈ news) (hd : (d, dictOf [⟨hh, .str (Str.ofString "comp_select_list") tk1, .ref kl⟩] n) ∈ news) (hkl : (kl, listOf (keys.map fun q => Value.ref q.ka).toArray n1) ∈ news)
    (hx : (x, tupO xs) ∈ news) (hy : (y, tupO ys) ∈ news) (hkeys : ∀ q ∈ keys, KeyOk w news xs ys q)
    (ret : ∀ t h' tk', Fr h₀ L h' m → News h₀ L h' news → Q (.int (cmpRes keys) t) { s with heap := h', toks := tk' }) :
    wpAny (model PR w) (ktrTop dp un gd cn cs L a ccd cl outer) (call (.ref 35) [.ref j, .ref x, .ref y]) Q E s := by
  refine wpAny_call ?_
  k_dflt cell_enter
  rename_i g0 L0 h1 FG F0 N0 B0 X0 T0
  replace F0 := Fr.put (k := Str.ofString "self") F0 rfl
  replace F0 := Fr.put (k := Str.ofString "left") F0 rfl
  replace F0 := Fr.put (k := Str.ofString "right") F0 rfl
  walk_at "go"
  refine For_turns (by k_asm) ?_
  walk_at "go"
  refine list_loop (fun i m₁ n₁ => n₁ = news ∧ cmpRes keys = cmpRes (keys.drop i) ∧ m₁ (Str.ofString "left") = some (.ref x) ∧ m₁ (Str.ofString "right") = some (.ref y)) rfl (by k_asm) (by k_asm) hkl rfl rfl ⟨rfl, rfl, rfl, rfl⟩ ?_ ?_
  · intro I i it v m₁ n₁ h tk hI hv hJ10 ho hit F₁ N₁
    refine hide ?_
    intro G9
    obtain ⟨rfl, hc, hm1, hm2⟩ := hJ10
    rw [List.getElem?_map] at hv
    obtain ⟨q, hq, rfl⟩ := Option.map_eq_some_iff.mp hv
    have hcd := cmpRes_drop hq
    obtain ⟨⟨t, u, hka⟩, hq0, hq1, va, vb, hva, hvb, hlt, hgt⟩ := hkeys q (List.mem_of_getElem? hq)
    replace F₁ := Fr.put (k := Str.ofString "left") F₁ hm1
    replace F₁ := Fr.put (k := Str.ofString "right") F₁ hm2
    (try k_unfold)
    (try dsimp only)
    walk_at "go"
    · dsimp only [TE]
      walk_at "go"
      have e : cmpRes keys = -q.dir := by rw [hc, hcd, if_pos (by assumption)]
      rw [← e]
      exact ret _ _ _ (by k_asm) (cb_drop (by assumption) fun p hp => .tail _ hp)
    · dsimp only [TE]
      walk_at "go"
      have e : cmpRes keys = q.dir := by rw [hc, hcd, if_neg (by rw [Bool.not_eq_true]; assumption), if_pos (by assumption)]
      rw [← e]
      exact ret _ _ _ (by k_asm) (cb_drop (by assumption) fun p hp => .tail _ hp)
    · have e : cmpRes keys = cmpRes (keys.drop (i + 1)) := by rw [hc, hcd, if_neg (by rw [Bool.not_eq_true]; assumption), if_neg (by rw [Bool.not_eq_true]; assumption)]
      refine TE.next (by k_asm) (by k_asm) ⟨rfl, e, rfl, rfl⟩ (.head _) (fun p hp => .tail _ hp) (by exact ho) (keep1 hkl)
  · intro m₁ n₁ h tk hJ4 F₁ N₁
    refine hide ?_
    intro G9
    obtain ⟨rfl, hc, hm1, hm2⟩ := hJ4
    have hz : cmpRes keys = 0 := by rw [hc, List.length_map, List.drop_length]; rfl
    (try k_unfold)
    (try dsimp only)
    walk_at "go"
    rw [← hz]
    exact ret _ _ _ (by k_asm) (by k_asm)
end
end
section
example : True := by
  k_with_none
  w_top off
  trivial

example : True := by
  k_with "go" => ((repeat' (first | ((first | (with_reducible show wpAny _ _ (exec (Stmt.Assign _ _ _) _) _ _ _) | (with_reducible show wpAny _ _ (exec (Stmt.Expr _ _) _) _ _ _) | (with_reducible show wpAny _ _ (exec (Stmt.If _ _ _ _) _) _ _ _) | (with_reducible show wpAny _ _ (exec (Stmt.AugAssign _ _ _ _) _) _ _ _) | (with_reducible show wpAny _ _ (exec (Stmt.Return _ _) _) _ _ _) | (with_reducible show wpAny _ _ (eval (Expr.Call _ _ _ _) _) _ _ _)); k_fold) | ((fail_if_success (with_reducible show wpAny _ _ (exec (Stmt.For _ _ _ _ _) _) _ _ _)); (fail_if_success (with_reducible show wpAny _ _ (pyIter _) _ _ _)); (first | (k_unfold; (try dsimp only)) | (k_end; wrow_close) | walk1 | (dsimp only; walk1) | (leave1; walk_say "STEP leave1"; try dsimp only))))); (all_goals (repeat (first | clear ek | clear qk))))
  k_with "getMethod ref" => (k_here; (with_reducible show wpAny _ _ (getMethod (Value.ref _) (Str.ofString "items") _) _ _ _); k_dflt (refine' isD_items_m ?zzk1 ?zzk2 ?zzk3 ?_; (case zzk1 => k_asm); (case zzk2 => k_mem); (case zzk3 => with_reducible assumption); k_whole))
  k_with "call builtin:dict.items" => (k_here; (with_reducible show wpAny _ _ (call (Value.builtin "dict.items") [Value.ref _]) _ _ _); k_dflt (refine' isD_items ?zzk0 ?zzk1 ?zzk2 ?zzk3 ?zzk4 ?_; (case zzk0 => k_asm); (case zzk1 => k_asm); (case zzk2 => k_mem); (case zzk3 => with_reducible assumption); (case zzk4 => with_reducible assumption); k_whole); intro _ _ _ _ _; (try k_sweep))
  k_with "setItem ref int" => (k_here; (with_reducible show wpAny _ _ (setItem (Value.ref _) (Value.int _ _) (Value.int _ _)) _ _ _); k_dflt (refine' isD_set ?zzk0 ?zzk1 ?zzk2 ?zzk3 ?zzk4 ?_; (case zzk0 => k_asm); (case zzk1 => k_asm); (case zzk2 => k_updF); (case zzk3 => with_reducible assumption); (case zzk4 => omega); k_whole); intro _ _ _ _ _; (try k_sweep))
  k_with "compareOp In" => (k_here; (with_reducible show wpAny _ _ (compareOp CmpOp.In (Value.int _ _) (Value.ref _)) _ _ _); k_dflt (refine' isD_in ?zzk1 ?zzk2 ?zzk3 ?zzk4 ?_; (case zzk1 => k_asm); (case zzk2 => k_mem); (case zzk3 => with_reducible assumption); (case zzk4 => with_reducible assumption); k_whole))
  k_with "getItem ref int" => (k_here; (with_reducible show wpAny _ _ (getItem (Value.ref _) (Value.int _ _)) _ _ _); k_dflt (refine' isD_getItem ?zzk1 ?zzk2 ?zzk3 ?zzk4 ?zzk5 ?_; (case zzk1 => k_asm); (case zzk2 => k_mem); (case zzk3 => with_reducible assumption); (case zzk4 => with_reducible assumption); (case zzk5 => with_reducible assumption); k_whole); intro _)
  trivial
theorem kind_hasattr : builtinKind "hasattr" = none := by decide +kernel
theorem plain_hasattr : plainId "hasattr" = true := by decide +kernel
theorem entry_hasattr : entryFor table "hasattr" = some Builtin.«hasattr» := entryFor_of_tree (by kernel_rfl)
theorem args_hasattr (a b : Value) : argsOk "hasattr" ⟨[a, b], []⟩ := by unfold argsOk; kernel_rfl
theorem slot_mdget : Slot "method_descriptor" "__get__" "method_descriptor.__get__" :=
  .of (owner := "method_descriptor") (n := "__get__") (by rw [typeLookup_type, builtinLookup_eq_fast]; kernel_rfl) (by decide +kernel) (by decide +kernel) (by decide +kernel)
    (by first | exact .inl (by decide +kernel) | exact .inr (by decide +kernel)) (by rw [isSubtype_type]; kernel_rfl)
theorem entry_mdget : entryFor table "method_descriptor.__get__" = some Builtin.«method_descriptor.__get__» := entryFor_of_tree (by kernel_rfl)
theorem args_mdget (a b c : Value) : argsOk "method_descriptor.__get__" ⟨[a, b, c], []⟩ := by unfold argsOk; kernel_rfl
theorem type_lgi : typeOf (.builtin "list.__getitem__") = pure (.type "method_descriptor") := by show builtinType _ = _; rw [builtinType_eq_fast]; kernel_rfl
theorem mf7 : builtinKind "list.__getitem__" = some Manifest.AttrKind.method := by decide +kernel
theorem mf8 : typeLookup (.type "method_descriptor") (Str.ofString "__get__") = pure (some (.builtin "method_descriptor.__get__")) := by rw [typeLookup_type, builtinLookup_eq_fast]; kernel_rfl
theorem mf9 : typeLookup (.type "method_descriptor") (Str.ofString "__set__") = pure none := by rw [typeLookup_type, builtinLookup_eq_fast]; kernel_rfl
theorem mf10 : typeLookup (.type "method_descriptor") (Str.ofString "__delete__") = pure none := by rw [typeLookup_type, builtinLookup_eq_fast]; kernel_rfl
theorem we_lgi : withoutEnding? "list.__getitem__" "#data" = none := by decide +kernel
theorem nac_lgi : (kfb_private% "nameAndClass") (.builtin "list.__getitem__") = pure (Str.ofString "__getitem__", .type "list") := by first | rfl | kernel_rfl
theorem sub_ll : isSubtype (.type "list") (.type "list") = pure true := by rw [isSubtype_type]; kernel_rfl
theorem hasattr_list {prog : Program} {w : World} {A : Around} {E : Value → Shared → Prop} {s : Shared} {x : Addr} {xs : Array Value} {n : Nat} {tk : Tok} {Q : Value → Shared → Prop}
    (hx : s.heap.get? x = some (listOf xs n)) (h : ∀ o tk', Q (.bool true) { s with heap := s.heap.push o, toks := tk' }) :
    wpAny (model prog w) A (call (.builtin "hasattr") [.ref x, .str (Str.ofString "__getitem__") tk]) Q E s := by
  refine call_function_entry kind_hasattr plain_hasattr entry_hasattr (args_hasattr _ _) ?_
  obtain ⟨hp, g, d, tk', os⟩ := s
  have hT : ∀ tk', (⟨hp, g, d, tk', os⟩ : Shared).TypeIs (.ref x) "list" := fun _ => ⟨_, hx, rfl⟩
  unfold Builtin.«hasattr»
  refine wpAny_bind (wpAny_of_eq (a := [.ref x, .str (Str.ofString "__getitem__") tk]) rfl ?_)
  dsimp only
  refine wpAny_bind (wpAny_of_eq rfl ?_)
  refine KFB.if_not rfl ?_
  refine wpAny_bind (wpAny_typeOf (hT _) ?_)
  dsimp only
  refine wpAny_bind (wpAny_of_eq (a := some (Str.ofString "__getitem__")) rfl ?_)
  dsimp only
  refine wpAny_bind (wpAny_of_eq F.slot_list_getitem.lookup ?_)
  dsimp only
  refine wpAny_bind (wpAny_of_eq F.slot_list_getattribute.lookup ?_)
  rw [we_lgi]
  refine KFB.if_not rfl ?_
  refine wpAny_bind ?_
  have f6 : isSubtype (.type "list") (.type "module") = pure false := by rw [isSubtype_type]; kernel_rfl
  refine wpAny_bind (wpAny_of_eq (a := some (Str.ofString "__getitem__")) rfl ?_)
  dsimp only
  refine wpAny_bind (wpAny_bind (wpAny_typeOf (hT _) (wpAny_of_eq f6 ?_)))
  refine KFB.if_so rfl (wpAny_pure ?_)
  refine KFB.if_not rfl ?_
  refine wpAny_bind ?_
  unfold getAttrBy?
  refine wpAny_bind (wpAny_attempt ?_)
  unfold getAttrBy
  refine wpAny_holding (wpAny_bind (wpAny_typeOf (hT _) ?_))
  refine wpAny_bind (wpAny_of_eq F.slot_list_getattribute.lookup ?_)
  dsimp only
  refine KFB.if_not rfl ?_
  unfold getAttrByItsOwn
  refine wpAny_bind (wpAny_of_eq (a := none) rfl ?_)
  refine wpAny_bind (wpAny_attempt (wpAny_holding ?_))
  unfold callGetattribute
  refine KFB.if_not rfl ?_
  unfold boundAndCalled
  refine wpAny_bind (wpAny_of_eq (F.slot_list_getattribute.bind (.ref x)) ?_)
  dsimp only
  refine wpAny_call_entry F.slot_list_getattribute (hT _) am_entry_list_getattribute ?_ (F.args_list_getattribute_2 _ _)
  unfold Builtin.«object.__getattribute__»
  refine wpAny_bind (wpAny_of_eq (a := (.ref x, [.str (Str.ofString "__getitem__") tk])) rfl ?_)
  dsimp only
  refine wpAny_bind (wpAny_of_eq rfl ?_)
  refine wpAny_bind (wpAny_typeOf (hT _) ?_)
  refine wpAny_bind ?_
  unfold Builtin.ObjectAttr.find
  refine wpAny_bind (wpAny_of_eq F.slot_list_getitem.lookup ?_)
  refine wpAny_bind ?_
  refine wpAny_specialOf (T := "method_descriptor") type_lgi mf8 ?_
  refine wpAny_bind ?_
  refine wpAny_bind ?_
  unfold Builtin.ObjectAttr.takesStores
  refine wpAny_bind (wpAny_specialOf (T := "method_descriptor") type_lgi mf9 ?_)
  refine KFB.if_not rfl ?_
  refine wpAny_bind (wpAny_specialOf (T := "method_descriptor") type_lgi mf10 (wpAny_pure ?_))
  refine KFB.if_not rfl (wpAny_pure ?_)
  unfold Builtin.ObjectAttr.ownThenClass
  refine wpAny_bind ?_
  unfold Builtin.ObjectAttr.inOwnDict
  dsimp only
  refine wpAny_bind ?_
  unfold Builtin.ObjectAttr.ownDict
  refine wpAny_bind (wpAny_loadPart hx ?_)
  dsimp only
  unfold instanceDict
  refine wpAny_bind (wpAny_loadPart hx ?_)
  dsimp only
  refine KFB.if_so rfl (wpAny_pure ?_)
  refine wpAny_of_eq (a := none) rfl ?_
  dsimp only
  refine wpAny_bind ?_
  unfold Builtin.ObjectAttr.copiedAttributeGuard
  dsimp only
  refine KFB.if_not (by decide +kernel) (wpAny_pure ?_)
  refine wpAny_bind (wpAny_rule (wpAny_pure ?_))
  dsimp only
  unfold Builtin.ObjectAttr.bindTo
  dsimp only
  refine wpAny_bind (wpAny_holding (wpAny_call_entry slot_mdget type_lgi entry_mdget ?_ (args_mdget _ _ _)))
  unfold Builtin.«method_descriptor.__get__»
  refine wpAny_bind (wpAny_of_eq (a := (.builtin "list.__getitem__", some (.ref x), some (.type "list"))) (by first | rfl | kernel_rfl) ?_)
  dsimp only
  refine KFB.if_not (by decide +kernel) ?_
  show wpAny _ _ ((kfb_private% "checkInstance") (.builtin "list.__getitem__") (.ref x) >>= fun _ => newFields "builtin_function_or_method" [.builtin "list.__getitem__", .ref x] >>= fun v => ret v) _ _ _
  refine wpAny_bind ?_
  refine wpAny_bind (wpAny_of_eq nac_lgi ?_)
  dsimp only
  refine wpAny_bind (wpAny_isInstance (hT _) sub_ll ?_)
  refine KFB.if_not rfl (wpAny_pure ?_)
  refine wpAny_bind (wpAny_newObj_type ?_)
  refine wpAny_pure ⟨_, rfl, wpAny_pure ⟨_, rfl, wpAny_pure (wpAny_pure ?_)⟩⟩
  refine KFB.if_not rfl (wpAny_pure ⟨_, rfl, ?_⟩)
  exact h _ _
section
variable {w : World} {dp un : Nat} {gd : Option (List Code)} {cn : Str} {cs : Scope} {a : Addr} {ccd : Value} {cl : List (Str × Addr)} {outer : List Env} {A₀ : Around} {base h₀ : Heap} {L : Addr} {m : Str → Option Value} {news : List (Addr × Obj)} {s : Shared}
    {Q E : Value → Shared → Prop} {pT : Program} {lT : List Str} {mean : ExcName → Option Value} {mg mb : Str → Option Value}
theorem hasattr_K {A : Around} {x : Addr} {its : Array Value} {n : Nat} {tk : Tok} {Q : Value → Shared → Prop} (F : Fr h₀ L s.heap m) (N : News h₀ L s.heap news) (hm : (x, listOf its n) ∈ news)
    (h : ∀ h' tk', Fr h₀ L h' m → News h₀ L h' news → Q (.bool true) { s with heap := h', toks := tk' }) :
    wpAny (model PR w) A (call (.builtin "hasattr") [.ref x, .str (Str.ofString "__getitem__") tk]) Q E s :=
  hasattr_list (N _ hm).1 fun o tk' => h _ _ (F.push o) fun p hp => ⟨Heap.get?_push_of_some _ (N p hp).1, (N p hp).2⟩
example : True := by
  k_with "call builtin:hasattr" => (k_here; (with_reducible show wpAny _ _ (call (Value.builtin "hasattr") [Value.ref _, Value.str _ _]) _ _ _); k_dflt (refine' hasattr_K ?zzk1 ?zzk2 ?zzk3 ?_; (case zzk1 => k_asm); (case zzk2 => k_asm); (case zzk3 => k_mem); k_whole); intro _ _ _ _; (try k_sweep))
  trivial
theorem concat_spec {x y : Addr} {vs ws : List Value} {n n' : Nat} (B : Below A₀ base outer h₀) (F : Fr h₀ L s.heap m) (X : (hd.heap_39 w.params).In h₀) (N : News h₀ L s.heap news) (T : Top pT lT mean mg mb h₀) (hk : cs.kind = .function) (hdp : dp + 3 < recursionLimit) (hu : un + 20 < cLine)
    (hx : (x, listOf vs.toArray n) ∈ news) (hy : (y, listOf ws.toArray n') ∈ news) (hlx : vs.length ≤ 1000) (hly : ws.length ≤ 1000)
    (ret : ∀ r h' tk', Fr h₀ L h' m → News h₀ L h' ((r, listOf (vs ++ ws).toArray 0) :: news) → (∀ p ∈ news, p.1 < r) → Q (.ref r) { s with heap := h', toks := tk' }) :
    wpAny (model PR w) (ktrTop dp un gd cn cs L a ccd cl outer) (call (.ref 112) [.ref x, .ref y]) Q E s := by
  refine wpAny_call ?_
  k_dflt cell_enter
  rename_i g0 L0 h1 FG F0 N0 B0 X0 T0
  replace F0 := Fr.put (k := Str.ofString "a") F0 rfl
  replace F0 := Fr.put (k := Str.ofString "b") F0 rfl
  walk_at "go"
  refine kmk_add_lit (zs := vs ++ ws) (by k_asm) (by k_asm) ⟨_, ((by assumption : News g0 L0 _ news) _ hx).1, rfl, _, rfl⟩ ⟨_, ((by assumption : News g0 L0 _ news) _ hy).1, rfl, _, rfl⟩ rfl ?_ (by rw [sizeLine_eq]; dsimp only; omega)
  intro D h' F' N' l1
  walk_at "go"
  exact ret _ _ _ (by k_asm) (by k_asm) l1
end
end
section
example : True := by
  k_with_none
  w_top off
  trivial

example : True := by
  k_with "go" => ((repeat' (first | ((first | (with_reducible show wpAny _ _ (exec (Stmt.Assign _ _ _) _) _ _ _) | (with_reducible show wpAny _ _ (exec (Stmt.Expr _ _) _) _ _ _) | (with_reducible show wpAny _ _ (exec (Stmt.If _ _ _ _) _) _ _ _) | (with_reducible show wpAny _ _ (exec (Stmt.AugAssign _ _ _ _) _) _ _ _) | (with_reducible show wpAny _ _ (exec (Stmt.Return _ _) _) _ _ _) | (with_reducible show wpAny _ _ (eval (Expr.Call _ _ _ _) _) _ _ _)); k_fold) | ((fail_if_success (with_reducible show wpAny _ _ (exec (Stmt.For _ _ _ _ _) _) _ _ _)); (fail_if_success (with_reducible show wpAny _ _ (pyIter _) _ _ _)); (first | (k_unfold; (try dsimp only)) | (k_end; wrow_close) | walk1 | (dsimp only; walk1) | (leave1; walk_say "STEP leave1"; try dsimp only))))); (all_goals (repeat (first | clear ek | clear qk))))
  k_with "getMethod ref" => (k_here; (with_reducible show wpAny _ _ (getMethod (Value.ref _) (Str.ofString "items") _) _ _ _); k_dflt (refine' isD_items_m ?zzk1 ?zzk2 ?zzk3 ?_; (case zzk1 => k_asm); (case zzk2 => k_mem); (case zzk3 => with_reducible assumption); k_whole))
  k_with "call builtin:dict.items" => (k_here; (with_reducible show wpAny _ _ (call (Value.builtin "dict.items") [Value.ref _]) _ _ _); k_dflt (refine' isD_items ?zzk0 ?zzk1 ?zzk2 ?zzk3 ?zzk4 ?_; (case zzk0 => k_asm); (case zzk1 => k_asm); (case zzk2 => k_mem); (case zzk3 => with_reducible assumption); (case zzk4 => with_reducible assumption); k_whole); intro _ _ _ _ _; (try k_sweep))
  k_with "setItem ref int" => (k_here; (with_reducible show wpAny _ _ (setItem (Value.ref _) (Value.int _ _) (Value.int _ _)) _ _ _); k_dflt (refine' isD_set ?zzk0 ?zzk1 ?zzk2 ?zzk3 ?zzk4 ?_; (case zzk0 => k_asm); (case zzk1 => k_asm); (case zzk2 => k_updF); (case zzk3 => with_reducible assumption); (case zzk4 => omega); k_whole); intro _ _ _ _ _; (try k_sweep))
  k_with "compareOp In" => (k_here; (with_reducible show wpAny _ _ (compareOp CmpOp.In (Value.int _ _) (Value.ref _)) _ _ _); k_dflt (refine' isD_in ?zzk1 ?zzk2 ?zzk3 ?zzk4 ?_; (case zzk1 => k_asm); (case zzk2 => k_mem); (case zzk3 => with_reducible assumption); (case zzk4 => with_reducible assumption); k_whole))
  k_with "getItem ref int" => (k_here; (with_reducible show wpAny _ _ (getItem (Value.ref _) (Value.int _ _)) _ _ _); k_dflt (refine' isD_getItem ?zzk1 ?zzk2 ?zzk3 ?zzk4 ?zzk5 ?_; (case zzk1 => k_asm); (case zzk2 => k_mem); (case zzk3 => with_reducible assumption); (case zzk4 => with_reducible assumption); (case zzk5 => with_reducible assumption); k_whole); intro _)
  trivial
section
variable {w : World} {dp un : Nat} {gd : Option (List Code)} {cn : Str} {cs : Scope} {a : Addr} {ccd : Value} {cl : List (Str × Addr)} {outer : List Env} {A₀ : Around} {base h₀ : Heap} {L : Addr} {m : Str → Option Value} {news : List (Addr × Obj)} {s : Shared}
    {Q E : Value → Shared → Prop} {pT : Program} {lT : List Str} {mean : ExcName → Option Value} {mg mb : Str → Option Value}
theorem or__spec {i j : Int} {ti tj : Tok} (B : Below A₀ base outer h₀) (F : Fr h₀ L s.heap m) (X : (hd.heap_39 w.params).In h₀) (N : News h₀ L s.heap news) (T : Top pT lT mean mg mb h₀) (hk : cs.kind = .function) (hdp : dp + 3 < recursionLimit) (_hu : un + 20 < cLine) 
    (ret : ∀ t h' tk', Fr h₀ L h' m → News h₀ L h' news → Q (.int (Builtin.bitOr i j) t) { s with heap := h', toks := tk' }) :
    wpAny (model PR w) (ktrTop dp un gd cn cs L a ccd cl outer) (call (.ref 105) [.int i ti, .int j tj]) Q E s := by
  refine wpAny_call ?_
  k_dflt cell_enter
  walk_at "go"
  exact ret _ _ _ (by k_asm) (by k_asm)
theorem lshift_spec {i j : Int} {ti tj : Tok} (B : Below A₀ base outer h₀) (F : Fr h₀ L s.heap m) (X : (hd.heap_39 w.params).In h₀) (N : News h₀ L s.heap news) (T : Top pT lT mean mg mb h₀) (hk : cs.kind = .function) (hdp : dp + 3 < recursionLimit) (_hu : un + 20 < cLine) (h0 : 0 ≤ i) (h1 : i < 100) (h2 : 0 ≤ j) (h3 : j < 100)
    (ret : ∀ t h' tk', Fr h₀ L h' m → News h₀ L h' news → Q (.int (i * 2 ^ j.toNat) t) { s with heap := h', toks := tk' }) :
    wpAny (model PR w) (ktrTop dp un gd cn cs L a ccd cl outer) (call (.ref 91) [.int i ti, .int j tj]) Q E s := by
  refine wpAny_call ?_
  k_dflt cell_enter
  walk_at "go"
  exact ret _ _ _ (by k_asm) (by k_asm)
theorem mul_spec {i j : Int} {ti tj : Tok} (B : Below A₀ base outer h₀) (F : Fr h₀ L s.heap m) (X : (hd.heap_39 w.params).In h₀) (N : News h₀ L s.heap news) (T : Top pT lT mean mg mb h₀) (hk : cs.kind = .function) (hdp : dp + 3 < recursionLimit) (_hu : un + 20 < cLine) (h0 : 0 ≤ i) (h1 : i < 100) (h2 : 0 ≤ j) (h3 : j < 100)
    (ret : ∀ t h' tk', Fr h₀ L h' m → News h₀ L h' news → Q (.int (i * j) t) { s with heap := h', toks := tk' }) :
    wpAny (model PR w) (ktrTop dp un gd cn cs L a ccd cl outer) (call (.ref 98) [.int i ti, .int j tj]) Q E s := by
  refine wpAny_call ?_
  k_dflt cell_enter
  walk_at "go"
  exact ret _ _ _ (by k_asm) (by k_asm)
theorem gt_spec {i j : Int} {ti tj : Tok} (B : Below A₀ base outer h₀) (F : Fr h₀ L s.heap m) (X : (hd.heap_39 w.params).In h₀) (N : News h₀ L s.heap news) (T : Top pT lT mean mg mb h₀) (hk : cs.kind = .function) (hdp : dp + 3 < recursionLimit) (_hu : un + 20 < cLine) 
    (ret : ∀ h' tk', Fr h₀ L h' m → News h₀ L h' news → Q (.bool (decide (j < i))) { s with heap := h', toks := tk' }) :
    wpAny (model PR w) (ktrTop dp un gd cn cs L a ccd cl outer) (call (.ref 84) [.int i ti, .int j tj]) Q E s := by
  refine wpAny_call ?_
  k_dflt cell_enter
  walk_at "go"
  exact ret _ _ (by k_asm) (by k_asm)
theorem lt_spec {i j : Int} {ti tj : Tok} (B : Below A₀ base outer h₀) (F : Fr h₀ L s.heap m) (X : (hd.heap_39 w.params).In h₀) (N : News h₀ L s.heap news) (T : Top pT lT mean mg mb h₀) (hk : cs.kind = .function) (hdp : dp + 3 < recursionLimit) (_hu : un + 20 < cLine) 
    (ret : ∀ h' tk', Fr h₀ L h' m → News h₀ L h' news → Q (.bool (decide (i < j))) { s with heap := h', toks := tk' }) :
    wpAny (model PR w) (ktrTop dp un gd cn cs L a ccd cl outer) (call (.ref 77) [.int i ti, .int j tj]) Q E s := by
  refine wpAny_call ?_
  k_dflt cell_enter
  walk_at "go"
  exact ret _ _ (by k_asm) (by k_asm)
theorem concat_ints {x y : Addr} {vs ws : List Value} {ns ms : List Int} {n n' : Nat} (B : Below A₀ base outer h₀) (F : Fr h₀ L s.heap m) (X : (hd.heap_39 w.params).In h₀) (N : News h₀ L s.heap news) (T : Top pT lT mean mg mb h₀) (hk : cs.kind = .function) (hdp : dp + 3 < recursionLimit) (hu : un + 20 < cLine)
    (hx : (x, listOf vs.toArray n) ∈ news) (hi : IntsAre vs ns) (hy : (y, listOf ws.toArray n') ∈ news) (hj : IntsAre ws ms) (hlx : ns.length ≤ 1000) (hly : ms.length ≤ 1000)
    (ret : ∀ r us h' tk', Fr h₀ L h' m → News h₀ L h' ((r, listOf (List.toArray us) 0) :: news) → (∀ p ∈ news, p.1 < r) → IntsAre us (ns ++ ms) → Q (.ref r) { s with heap := h', toks := tk' }) :
    wpAny (model PR w) (ktrTop dp un gd cn cs L a ccd cl outer) (call (.ref 112) [.ref x, .ref y]) Q E s :=
  concat_spec B F X N T hk hdp hu hx hy (by rw [hi.length]; exact hlx) (by rw [hj.length]; exact hly) fun r h' tk' F' N' l1 => ret r _ h' tk' F' N' l1 (hi.append hj)
end
end
section
example : True := by
  k_with_none
  w_top off
  trivial

example : True := by
  k_with "go" => ((repeat' (first | ((first | (with_reducible show wpAny _ _ (exec (Stmt.Assign _ _ _) _) _ _ _) | (with_reducible show wpAny _ _ (exec (Stmt.Expr _ _) _) _ _ _) | (with_reducible show wpAny _ _ (exec (Stmt.If _ _ _ _) _) _ _ _) | (with_reducible show wpAny _ _ (exec (Stmt.AugAssign _ _ _ _) _) _ _ _) | (with_reducible show wpAny _ _ (exec (Stmt.Return _ _) _) _ _ _) | (with_reducible show wpAny _ _ (eval (Expr.Call _ _ _ _) _) _ _ _)); k_fold) | ((fail_if_success (with_reducible show wpAny _ _ (exec (Stmt.For _ _ _ _ _) _) _ _ _)); (fail_if_success (with_reducible show wpAny _ _ (pyIter _) _ _ _)); (first | (k_unfold; (try dsimp only)) | (k_end; wrow_close) | walk1 | (dsimp only; walk1) | (leave1; walk_say "STEP leave1"; try dsimp only))))); (all_goals (repeat (first | clear ek | clear qk))))
  k_with "getMethod ref" => (k_here; (with_reducible show wpAny _ _ (getMethod (Value.ref _) (Str.ofString "items") _) _ _ _); k_dflt (refine' isD_items_m ?zzk1 ?zzk2 ?zzk3 ?_; (case zzk1 => k_asm); (case zzk2 => k_mem); (case zzk3 => with_reducible assumption); k_whole))
  k_with "call builtin:dict.items" => (k_here; (with_reducible show wpAny _ _ (call (Value.builtin "dict.items") [Value.ref _]) _ _ _); k_dflt (refine' isD_items ?zzk0 ?zzk1 ?zzk2 ?zzk3 ?zzk4 ?_; (case zzk0 => k_asm); (case zzk1 => k_asm); (case zzk2 => k_mem); (case zzk3 => with_reducible assumption); (case zzk4 => with_reducible assumption); k_whole); intro _ _ _ _ _; (try k_sweep))
  k_with "setItem ref int" => (k_here; (with_reducible show wpAny _ _ (setItem (Value.ref _) (Value.int _ _) (Value.int _ _)) _ _ _); k_dflt (refine' isD_set ?zzk0 ?zzk1 ?zzk2 ?zzk3 ?zzk4 ?_; (case zzk0 => k_asm); (case zzk1 => k_asm); (case zzk2 => k_updF); (case zzk3 => with_reducible assumption); (case zzk4 => omega); k_whole); intro _ _ _ _ _; (try k_sweep))
  k_with "compareOp In" => (k_here; (with_reducible show wpAny _ _ (compareOp CmpOp.In (Value.int _ _) (Value.ref _)) _ _ _); k_dflt (refine' isD_in ?zzk1 ?zzk2 ?zzk3 ?zzk4 ?_; (case zzk1 => k_asm); (case zzk2 => k_mem); (case zzk3 => with_reducible assumption); (case zzk4 => with_reducible assumption); k_whole))
  k_with "getItem ref int" => (k_here; (with_reducible show wpAny _ _ (getItem (Value.ref _) (Value.int _ _)) _ _ _); k_dflt (refine' isD_getItem ?zzk1 ?zzk2 ?zzk3 ?zzk4 ?zzk5 ?_; (case zzk1 => k_asm); (case zzk2 => k_mem); (case zzk3 => with_reducible assumption); (case zzk4 => with_reducible assumption); (case zzk5 => with_reducible assumption); k_whole); intro _)
  trivial
/-! ## the plain functions of the telling -/
noncomputable def riffs : List (List Int) := [[0,1,2],[0,1,3],[0,1,4],[0,1,5],[0,2,3],[0,2,4],[0,2,5],[0,3,4],[0,3,5],[0,4,5],[1,2,3],[1,2,4],[1,2,5],[1,3,4],[1,3,5],[1,4,5],[2,3,4],[2,3,5],[2,4,5],[3,4,5]]
noncomputable def lineK (r : List Int) : Nat → List Int
  | 0 => [3, 4, 5]
  | k + 1 => ((lineK r k).take (r.getD k 0).toNat ++ [(k : Int)]) ++ (lineK r k).drop (r.getD k 0).toNat
noncomputable def lineOf (r : List Int) : List Int := lineK r 3
noncomputable def gapK (B : Int → Int → Bool) (l : List Int) : Nat → Int × Int × Int
  | 0 => (0, 0, 0)
  | g + 1 => if B (l.getD g 0) (l.getD (g + 1) 0) then (Builtin.bitOr (gapK B l g).1 (1 * 2 ^ ((g : Int)).toNat), (gapK B l g).2.1 + 1, (gapK B l g).2.2 + g + 1) else gapK B l g
structure Ent where
  cc : Int
  nc : Int
  tt : Int
  ct : Int
  c : List (Int × Int)
noncomputable def entStep (B : Int → Int → Bool) (e : Ent) (r : List Int) : Ent :=
  let g := gapK B (lineOf r) 5
  ⟨1 + e.cc, g.2.1 + e.nc, g.2.2 + e.tt, g.2.2 * g.2.2 + e.ct, kdfPut e.c g.1 (kdfLook e.c g.1 0 + 1)⟩
noncomputable def toldRes (B : Int → Int → Bool) : Ent := riffs.foldl (entStep B) ⟨0, 0, 0, 0, []⟩
noncomputable def entK (B : Int → Int → Bool) (i : Nat) : Ent := (riffs.take i).foldl (entStep B) ⟨0, 0, 0, 0, []⟩
theorem entK_succ {B : Int → Int → Bool} {i : Nat} {r : List Int} (h : riffs[i]? = some r) : entK B (i + 1) = entStep B (entK B i) r := by
  unfold entK
  rw [List.take_add_one, h]; simp
theorem kdfPut_le (c : List (Int × Int)) (k v : Int) : (kdfPut c k v).length ≤ c.length + 1 := kdfPut_len c k v
theorem entK_len (B : Int → Int → Bool) (i : Nat) : (entK B i).c.length ≤ i := by
  induction i with
  | zero => simp [entK]
  | succ i ih =>
    cases h : riffs[i]? with
    | none =>
      have : riffs.length ≤ i := List.getElem?_eq_none_iff.mp h
      have e : entK B (i + 1) = entK B i := by
        unfold entK
        rw [List.take_of_length_le (by omega), List.take_of_length_le (by omega)]
      rw [e]; omega
    | some r =>
      rw [entK_succ h]
      have := kdfPut_le (entK B i).c (gapK B (lineOf r) 5).1 (kdfLook (entK B i).c (gapK B (lineOf r) 5).1 0 + 1)
      show (kdfPut _ _ _).length ≤ _
      omega
theorem gapK_bd (B : Int → Int → Bool) (l : List Int) (g : Nat) : 0 ≤ (gapK B l g).2.2 ∧ 2 * (gapK B l g).2.2 ≤ g * (g + 1) := by
  induction g with
  | zero => simp [gapK]
  | succ g ih =>
    unfold gapK
    have e : ((g + 1 : Nat) : Int) * (((g + 1 : Nat) : Int) + 1) = (g : Int) * (g + 1) + 2 * g + 2 := by
      rw [Int.natCast_add]; simp only [Int.mul_add, Int.add_mul]; omega
    split <;> (try dsimp only) <;> rw [e] <;> omega
theorem riff_facts : ∀ r ∈ riffs, r.length = 3 ∧ (∀ k, k < 3 → 0 ≤ r.getD k 0 ∧ r.getD k 0 ≤ 5) ∧ (lineOf r).length = 6 ∧ (∀ k, k < 6 → 0 ≤ (lineOf r).getD k 0 ∧ (lineOf r).getD k 0 ≤ 5) := by decide +kernel
theorem lineK_len (r : List Int) (k : Nat) : (lineK r k).length = k + 3 := by
  induction k with
  | zero => rfl
  | succ k ih =>
    show ((_ ++ [_]) ++ _ : List Int).length = _
    rw [List.length_append, List.length_append, List.length_singleton, Nat.add_right_comm, ← List.length_append, List.take_append_drop, ih]
theorem three_items (r : List Int) (u1 u2 u3 : Tok) (k : Nat) (hk : k < 3) : ∃ uk, [Value.int (r.getD 0 0) u1, .int (r.getD 1 0) u2, .int (r.getD 2 0) u3][((0 : Int) + (k : Int)).toNat]? = some (.int (r.getD k 0) uk) := by
  have e : ((0 : Int) + (k : Int)).toNat = k := by rw [Int.zero_add, Int.toNat_natCast]
  rw [e]
  have h3 := lt3 k hk
  rcases h3 with h | h | h
  · subst h; exact ⟨u1, rfl⟩
  · subst h; exact ⟨u2, rfl⟩
  · subst h; exact ⟨u3, rfl⟩
theorem gap_items {l : List Int} {g : Nat} (hl : l.length = 6) (hg : g < 5) : (0 : Int) ≤ 0 + (g : Int) ∧ 0 + (g : Int) < 100 ∧ l[((0 : Int) + (g : Int)).toNat]? = some (l.getD g 0) ∧ (0 : Int) ≤ 0 + (g : Int) + 1 ∧ 0 + (g : Int) + 1 < 100 ∧ l[((0 : Int) + (g : Int) + 1).toNat]? = some (l.getD (g + 1) 0) := by
  have e1 : ((0 : Int) + (g : Int)).toNat = g := by rw [Int.zero_add, Int.toNat_natCast]
  have e2 : ((0 : Int) + (g : Int) + 1).toNat = g + 1 := by rw [Int.zero_add]; rfl
  rw [e1, e2]
  refine ⟨by omega, by omega, ?_, by omega, by omega, ?_⟩
  · rw [List.getD_eq_getElem?_getD, List.getElem?_eq_getElem (by omega)]; rfl
  · rw [List.getD_eq_getElem?_getD, List.getElem?_eq_getElem (by omega)]; rfl
theorem gapK_true {B : Int → Int → Bool} {l : List Int} {g : Nat} (h : B (l.getD g 0) (l.getD (g + 1) 0) = true) : gapK B l (g + 1) = (Builtin.bitOr (gapK B l g).1 (1 * 2 ^ ((0 : Int) + (g : Int)).toNat), (gapK B l g).2.1 + 1, (gapK B l g).2.2 + (0 + (g : Int)) + 1) := by
  rw [Int.zero_add]
  show (if B (l.getD g 0) (l.getD (g + 1) 0) = true then _ else _) = _
  rw [if_pos h]
theorem gapK_false {B : Int → Int → Bool} {l : List Int} {g : Nat} (h : B (l.getD g 0) (l.getD (g + 1) 0) = false) : gapK B l (g + 1) = gapK B l g := by
  show (if B (l.getD g 0) (l.getD (g + 1) 0) = true then _ else _) = _
  rw [if_neg (by rw [h]; decide)]
theorem allLt_lt {d : Nat} (l : List (Addr × Obj)) (h : AllLt d l) : ∀ p ∈ l, p.1 < d := by
  induction l with
  | nil => intro p hp; cases hp
  | cons q r ih =>
    intro p hp
    rcases List.mem_cons.mp hp with hp | hp
    · rw [hp]; exact h.1
    · exact ih h.2 p hp
end
section
example : True := by
  k_with_none
  w_top off
  trivial

example : True := by
  k_with "go" => ((repeat' (first | ((first | (with_reducible show wpAny _ _ (exec (Stmt.Assign _ _ _) _) _ _ _) | (with_reducible show wpAny _ _ (exec (Stmt.Expr _ _) _) _ _ _) | (with_reducible show wpAny _ _ (exec (Stmt.If _ _ _ _) _) _ _ _) | (with_reducible show wpAny _ _ (exec (Stmt.AugAssign _ _ _ _) _) _ _ _) | (with_reducible show wpAny _ _ (exec (Stmt.Return _ _) _) _ _ _) | (with_reducible show wpAny _ _ (eval (Expr.Call _ _ _ _) _) _ _ _)); k_fold) | ((fail_if_success (with_reducible show wpAny _ _ (exec (Stmt.For _ _ _ _ _) _) _ _ _)); (fail_if_success (with_reducible show wpAny _ _ (pyIter _) _ _ _)); (first | (k_unfold; (try dsimp only)) | (k_end; wrow_close) | walk1 | (dsimp only; walk1) | (leave1; walk_say "STEP leave1"; try dsimp only))))); (all_goals (repeat (first | clear ek | clear qk))))
  k_with "getMethod ref" => (k_here; (with_reducible show wpAny _ _ (getMethod (Value.ref _) (Str.ofString "items") _) _ _ _); k_dflt (refine' isD_items_m ?zzk1 ?zzk2 ?zzk3 ?_; (case zzk1 => k_asm); (case zzk2 => k_mem); (case zzk3 => with_reducible assumption); k_whole))
  k_with "call builtin:dict.items" => (k_here; (with_reducible show wpAny _ _ (call (Value.builtin "dict.items") [Value.ref _]) _ _ _); k_dflt (refine' isD_items ?zzk0 ?zzk1 ?zzk2 ?zzk3 ?zzk4 ?_; (case zzk0 => k_asm); (case zzk1 => k_asm); (case zzk2 => k_mem); (case zzk3 => with_reducible assumption); (case zzk4 => with_reducible assumption); k_whole); intro _ _ _ _ _; (try k_sweep))
  k_with "setItem ref int" => (k_here; (with_reducible show wpAny _ _ (setItem (Value.ref _) (Value.int _ _) (Value.int _ _)) _ _ _); k_dflt (refine' isD_set ?zzk0 ?zzk1 ?zzk2 ?zzk3 ?zzk4 ?_; (case zzk0 => k_asm); (case zzk1 => k_asm); (case zzk2 => k_updF); (case zzk3 => with_reducible assumption); (case zzk4 => omega); k_whole); intro _ _ _ _ _; (try k_sweep))
  k_with "compareOp In" => (k_here; (with_reducible show wpAny _ _ (compareOp CmpOp.In (Value.int _ _) (Value.ref _)) _ _ _); k_dflt (refine' isD_in ?zzk1 ?zzk2 ?zzk3 ?zzk4 ?_; (case zzk1 => k_asm); (case zzk2 => k_mem); (case zzk3 => with_reducible assumption); (case zzk4 => with_reducible assumption); k_whole))
  k_with "getItem ref int" => (k_here; (with_reducible show wpAny _ _ (getItem (Value.ref _) (Value.int _ _)) _ _ _); k_dflt (refine' isD_getItem ?zzk1 ?zzk2 ?zzk3 ?zzk4 ?zzk5 ?_; (case zzk1 => k_asm); (case zzk2 => k_mem); (case zzk3 => with_reducible assumption); (case zzk4 => with_reducible assumption); (case zzk5 => with_reducible assumption); k_whole); intro _)
  trivial
/-! ## a comprehension whose target is a cell -/
section
variable {prog : Program} {w : World} {A : Around} {E : Value → Shared → Prop} {s : Shared} {h₀ : Heap} {L : Addr} {m : Str → Option Value} {env : Env}
/-- five addresses of the comprehension's own, off a ledger -/
noncomputable def Off4 (I C K D : Addr) (l : List (Addr × Obj)) : Prop := ∀ p ∈ l, p.1 ≠ I ∧ p.1 ≠ C ∧ p.1 ≠ K ∧ p.1 ≠ D
/-- the end of a turn of the comprehension -/
noncomputable def CE (h₀ : Heap) (L : Addr) (m : Str → Option Value) (I : Addr) (oI : Obj) (C : Addr) (oC : Obj) (K : Addr) (oK : Obj) (D : Addr) (oD : Obj) (src : Addr × Obj) (J : Value → List (Addr × Obj) → Prop) (s₁ : Shared) (y : Value) (s₂ : Shared) : Prop :=
  ∃ h' tk' news₂, s₂ = { s₁ with heap := h', toks := tk' } ∧ Fr h₀ L h' m ∧ News h₀ L h' ((I, oI) :: (C, oC) :: (K, oK) :: (D, oD) :: news₂) ∧ Off4 I C K D news₂ ∧ src ∈ news₂ ∧ J y news₂
theorem CE.intro {I C K D : Addr} {oI oC oK oD : Obj} {src : Addr × Obj} {J : Value → List (Addr × Obj) → Prop} {s₁ : Shared} {y : Value} {h' : Heap} {tk' : Nat} {all news₂ : List (Addr × Obj)}
    (F : Fr h₀ L h' m) (N : News h₀ L h' all) (hJ : J y news₂) (hs : ∀ p ∈ (I, oI) :: (C, oC) :: (K, oK) :: (D, oD) :: news₂, p ∈ all) (ho : Off4 I C K D news₂) (hm : src ∈ news₂) : CE h₀ L m I oI C oC K oK D oD src J s₁ y { s₁ with heap := h', toks := tk' } :=
  ⟨h', tk', news₂, rfl, F, fun p hp => N p (hs p hp), ho, hm, hJ⟩

theorem newEnv_cell {scope : Scope} {globals : Addr} {cl cl' : List (Str × Addr)} {qual : Str} {Q : Env → Shared → Prop}
    (hc : cellsFrom (s.heap.objs.size + 1) scope.names cl = cl') (hp : ∀ h : Heap, pushCells h scope.names = h.push { cls := .type "cell", data := .cell none })
    (hQ : Q { scope := scope, locals := s.heap.objs.size, globals := globals, cells := cl', qual := qual, func := none, code := env.code, frame := env.frame, builtins := env.builtins }
      { s with heap := (s.heap.push { cls := .type "dict", data := .dict #[] }).push { cls := .type "cell", data := .cell none } }) :
    wpAny (model prog w) A (newFunctionEnv scope globals cl [] qual none .none (some env)) Q E s := by
  simp only [newFunctionEnv, Option.isSome_some, if_true]
  refine wpAny_bind (wpAny_alloc ?_)
  refine wpAny_bind (wpAny_layCells _ (fun name kind cells => by cases hkc : kind == NameKind.cell <;> simp [hkc]) _ _ _ _ ?_)
  rw [show ({ s with heap := s.heap.push { cls := .type "dict", data := .dict #[] } } : Shared).heap.objs.size = s.heap.objs.size + 1 from Heap.size_push .., hc, hp]
  refine wpAny_bind ?_
  rw [List.forIn_nil]
  exact wpAny_pure (wpAny_pure hQ)

theorem Assign_ListComp_cell {elt iter : Expr} {x y : Str} {px py : Pos} {scope : Scope} {cl : List (Str × Addr)} {pos spos : Pos} {Q : Flow → Shared → Prop} {ax : Addr} {lo : Obj} {its : List Value} {ln : Nat} {news : List (Addr × Obj)} (J : Nat → List Value → List (Addr × Obj) → Prop)
    (hh : A.handled = none) (F : Fr h₀ L s.heap m) (N : News h₀ L s.heap news) (hLe : env.locals = L)
    (hsw : swapsWith (.ListComp elt [⟨.Name x px, iter, [], 0⟩] scope pos) (some (.Name y py)) spos.line env = pure true)
    (hclos : closureFor scope env = pure cl) (hcell : ∀ k, cellsFrom k scope.names cl = (x, k) :: cl) (hpc : ∀ h : Heap, pushCells h scope.names = h.push { cls := .type "cell", data := .cell none }) (hkind : scope.kind = .function)
    (hnames : ∀ z ∈ scope.names, z.2 = .local → scope.names.lookup z.1 = some .local) (hx : (relabel scope env).names.lookup x = some .cell)
    (hy : env.kindOf y = some .local) (hp : (env.scope.kind == .class || (env.scope.kind == .module && env.locals != env.globals)) = false)
    (hiter : ∀ Q', Q' (.ref ax) s → wpAny (model prog w) A (eval iter env) Q' E s) (hm : (ax, lo) ∈ news) (hlc : lo.cls = .type "list") (hld : lo.data = .seq its.toArray ln) (hsz : its.length ≤ 1000)
    (hj : J 0 [] news)
    (turn : ∀ i v I oI C oC K oK D ys news₁ h tk (E' : Value → Shared → Prop), its[i]? = some v → J i ys news₁ → oK.data = .cell (some v) → Fr h₀ L h m → News h₀ L h ((I, oI) :: (C, oC) :: (K, oK) :: (D, LCg.lst ys) :: news₁) → Off4 I C K D news₁ → (ax, lo) ∈ news₁ → ((@Ne Nat I C) ∧ (@Ne Nat I K) ∧ (@Ne Nat I D) ∧ (@Ne Nat C K) ∧ (@Ne Nat C D) ∧ (@Ne Nat K D)) →
      wpAny (model prog w) A (eval elt (compEnvC scope ((x, K) :: cl) C env)) (CE h₀ L m I oI C oC K oK D (LCg.lst ys) (ax, lo) (fun y news₂ => J (i + 1) (ys ++ [y]) news₂) { s with heap := h, toks := tk }) E' { s with heap := h, toks := tk })
    (done : ∀ D ys news₁ h tk, J its.length ys news₁ → Fr h₀ L h (fun z => if z = y then some (.ref D) else m z) → News h₀ L h ((D, LCg.lst ys) :: news₁) → (∀ p ∈ news₁, p.1 ≠ D) → Q .next { s with heap := h, toks := tk })
    (hs : ∀ x, foldedSetIterable iter env x = pure x := by intro _; rfl) :
    wpAny (model prog w) A (exec (.Assign [.Name y py] (.ListComp elt [⟨.Name x px, iter, [], 0⟩] scope pos) spos) env) Q E s := by
  subst hLe
  have hax := N _ hm
  have hl : s.heap.IsList ax its.toArray := ⟨lo, hax.1, hlc, ln, hld⟩
  have hlt : ax < s.heap.objs.size := Heap.lt_size hax.1
  rw [exec_Assign_Name_used _ _ _ _ hsw]
  refine wpAny_bind (wpAny_standAt (wpAny_bind ?_))
  show wpAny _ A (do let _ ← comprehension (.ListComp elt [⟨.Name x px, iter, [], 0⟩] scope pos) scope env _ (newList []) false (eval iter env) (some (assign (.Name y py) env))) _ _ s
  refine wpAny_bind (wpAny_mono (wpAny_comprehension_free (use := some (assign (.Name y py) env)) (Q := fun _ s' => Q .next s') rfl hs hclos hkind hnames
    (hiter _ ?_)) (fun _ s' hq => wpAny_pure (wpAny_pure hq)) fun _ _ e => e)
  refine wpAny_pyIter_list hl ?_
  refine wpAny_newObj_type (newEnv_cell (cl' := (x, _) :: cl) (hcell _) hpc ?_)
  dsimp only
  generalize hH1 : s.heap.push { cls := .type "list_iterator", data := .fields #[.ref ax, .int 0 0] } = H1
  generalize hH2 : H1.push { cls := .type "list", dict := none, data := .seq ([] : List Value).toArray } = H2
  generalize hH3 : H2.push { cls := .type "dict", data := .dict #[] } = H3
  generalize hH4 : H3.push { cls := .type "cell", data := .cell none } = H4
  have z1 : H1.objs.size = s.heap.objs.size + 1 := by rw [← hH1, Heap.size_push]
  have z2 : H2.objs.size = s.heap.objs.size + 2 := by rw [← hH2, Heap.size_push, z1]
  have z3 : H3.objs.size = s.heap.objs.size + 3 := by rw [← hH3, Heap.size_push, z2]
  have u1 : ∀ b o, s.heap.get? b = some o → H1.get? b = some o := fun b o e => hH1 ▸ Heap.get?_push_of_some _ e
  have u2 : ∀ b o, H1.get? b = some o → H2.get? b = some o := fun b o e => hH2 ▸ Heap.get?_push_of_some _ e
  have u3 : ∀ b o, H2.get? b = some o → H3.get? b = some o := fun b o e => hH3 ▸ Heap.get?_push_of_some _ e
  have u4 : ∀ b o, H3.get? b = some o → H4.get? b = some o := fun b o e => hH4 ▸ Heap.get?_push_of_some _ e
  have old : ∀ b o, s.heap.get? b = some o → H4.get? b = some o := fun b o e => u4 _ _ (u3 _ _ (u2 _ _ (u1 _ _ e)))
  have gI : H4.IsListIter s.heap.objs.size ax 0 := ⟨_, u4 _ _ (u3 _ _ (u2 _ _ (hH1 ▸ Heap.get?_push_size _ rfl))), rfl, rfl⟩
  have gD : H4.get? H1.objs.size = some (LCg.lst []) := u4 _ _ (u3 _ _ (hH2 ▸ Heap.get?_push_size _ rfl))
  have gC : H4.Ns H2.objs.size (fun _ => none) := (hH3 ▸ Heap.Ns.new H2 (.type "dict")).keeps u4
  have gK : H4.get? H3.objs.size = some { cls := .type "cell", data := .cell none } := hH4 ▸ Heap.get?_push_size _ rfl
  have k3 : H2.objs.size + 1 = H3.objs.size := by rw [z2, z3]
  rw [k3]
  have fresh₀ : ∀ a, s.heap.objs.size ≤ a → h₀.get? a = none := fun a ha => by
    cases e : h₀.get? a with
    | none => rfl
    | some o' => exact absurd (Heap.lt_size (F.keep a o' e)) (Nat.not_lt.mpr ha)
  have hLlt := ltN F.ns.lt
  have hI₀ := fresh₀ s.heap.objs.size (Nat.le_refl _)
  have hD₀ := fresh₀ H1.objs.size (by rw [z1]; exact Nat.le_add_right _ _)
  have hC₀ := fresh₀ H2.objs.size (by rw [z2]; exact Nat.le_add_right _ _)
  have hK₀ := fresh₀ H3.objs.size (by rw [z3]; exact Nat.le_add_right _ _)
  have nIL : env.locals ≠ s.heap.objs.size := Nat.ne_of_lt hLlt
  have nDL : H1.objs.size ≠ env.locals := Nat.ne_of_gt (by rw [z1]; exact Nat.lt_of_lt_of_le hLlt (Nat.le_add_right _ _))
  have nCL : H2.objs.size ≠ env.locals := Nat.ne_of_gt (by rw [z2]; exact Nat.lt_of_lt_of_le hLlt (Nat.le_add_right _ _))
  have nKL : H3.objs.size ≠ env.locals := Nat.ne_of_gt (by rw [z3]; exact Nat.lt_of_lt_of_le hLlt (Nat.le_add_right _ _))
  have dist : ((@Ne Nat s.heap.objs.size H2.objs.size) ∧ (@Ne Nat s.heap.objs.size H3.objs.size) ∧ (@Ne Nat s.heap.objs.size H1.objs.size) ∧ (@Ne Nat H2.objs.size H3.objs.size) ∧ (@Ne Nat H2.objs.size H1.objs.size) ∧ (@Ne Nat H3.objs.size H1.objs.size)) := by
    rw [z1, z2, z3]
    exact six_ne _
  have off₀ : Off4 s.heap.objs.size H2.objs.size H3.objs.size H1.objs.size news := fun p hp => by
    have := ltN (Heap.lt_size (N p hp).1)
    rw [z1, z2, z3]
    exact ⟨Nat.ne_of_lt this, Nat.ne_of_lt (Nat.lt_of_lt_of_le this (Nat.le_add_right _ _)), Nat.ne_of_lt (Nat.lt_of_lt_of_le this (Nat.le_add_right _ _)), Nat.ne_of_lt (Nat.lt_of_lt_of_le this (Nat.le_add_right _ _))⟩
  have W := Walks.list (prog := prog) (w := w) hh s.heap.objs.size ax (Nat.ne_of_lt hlt) its.toArray
  have hn : its.toArray.size = its.length := List.size_toArray
  rw [hn] at W
  have loop : ∀ s₃ : Shared, s₃ = { s with heap := H4 } →
      codeAny (model prog w) A (.compLoop (.ListComp elt [⟨.Name x px, iter, [], 0⟩] scope pos) 0 (.ref s.heap.objs.size) (.ref H1.objs.size) (compEnvC scope ((x, H3.objs.size) :: cl) H2.objs.size env))
        (compPost (model prog w) A E (some (assign (.Name y py) env)) (fun _ s' => Q .next s') (.ref H1.objs.size) H2.objs.size) s₃ := by
    rintro s₃ rfl
    refine codeAny_compLoop_tests
      (fun k s' => ∃ h' tk i ys m' oK v₀ news', s' = { s with heap := h', toks := tk } ∧ i ≤ its.length ∧ k = its.length + 1 - i ∧ ys.length = i ∧ (h'.IsListIter s.heap.objs.size ax i ∧ h'.IsList ax its.toArray) ∧ Fr h₀ env.locals h' m ∧ h'.Ns H2.objs.size m' ∧
        News h₀ env.locals h' ((H3.objs.size, oK) :: (H1.objs.size, LCg.lst ys) :: news') ∧ oK.data = .cell v₀ ∧ Off4 s.heap.objs.size H2.objs.size H3.objs.size H1.objs.size news' ∧ (ax, lo) ∈ news' ∧ J i ys news') ?_ (its.length + 1)
      ⟨H4, _, 0, [], _, { cls := .type "cell", data := .cell none }, none, news, rfl, Nat.zero_le _, rfl, rfl, ⟨gI, hl.at fun o e => old _ _ e⟩, F.keeps old, gC, ?_, rfl, off₀, hm, hj⟩
    · intro k s' hJ2
      refine hide ?_
      intro G9
      obtain ⟨h', tk, i, ys, m', oK, v₀, news', rfl, hi, rfl, hyl, hst', F', hn', N', hoK, off', hm', hJ'⟩ := hJ2
      have zK := N' (H3.objs.size, oK) (.head _)
      have zD := N' (H1.objs.size, LCg.lst ys) (.tail _ (.head _))
      have Nn : News h₀ env.locals h' news' := fun p hp => N' p (.tail _ (.tail _ hp))
      by_cases hilt : i < its.length
      (try k_unfold)
      · refine W.item i _ _ _ hilt hst' fun v h₂ tk₂ hPv hst₂ hk₂ => ?_
        have kp : ∀ b o, b ≠ s.heap.objs.size → h'.get? b = some o → h₂.get? b = some o := fun b o hb e => hk₂ b o (by simpa using hb) e
        refine wpAny_assign_Name (wpAny_storeName_cell (env := compEnvC scope ((x, H3.objs.size) :: cl) H2.objs.size env) hkind hx (by simp [compEnvC]) ⟨oK, kp _ _ (Ne.symm dist.2.1) zK.1, hoK⟩ (fun h₃ hv₃ hs₃ => ?_))
        obtain ⟨oK', hK', hoK'⟩ := hv₃
        refine wpAny_tests_nil ?_
        simp only [if_true]
        have ks : ∀ b o, b ≠ H3.objs.size → h₂.get? b = some o → h₃.get? b = some o := fun b o hb e => hs₃.extBut b o hb e
        have hst₃ : h₃.IsListIter s.heap.objs.size ax (i + 1) ∧ h₃.IsList ax its.toArray := W.frame _ _ _ hst₂ fun b hb o e => ks b o (by
          rcases List.mem_cons.mp hb with q | hb
          · rw [q]; exact dist.2.1
          · rw [List.mem_singleton.mp hb]; exact (off' _ hm').2.2.1) e
        obtain ⟨oI, heI, hI2⟩ := id hst₃.1
        have hn₃ : h₃.Ns H2.objs.size m' := (hn'.at' fun o e => kp _ o (Ne.symm dist.1) e).at' fun o e => ks _ o dist.2.2.2.1 e
        obtain ⟨oC, heC, hoC⟩ := LCg.ns_obj hn₃
        have F₃ : Fr h₀ env.locals h₃ m := (LCg.fr_but F' hk₂ nIL hI₀).change hs₃ nKL hK₀
        have N₃ : News h₀ env.locals h₃ ((s.heap.objs.size, oI) :: (H2.objs.size, oC) :: (H3.objs.size, oK') :: (H1.objs.size, LCg.lst ys) :: news') := fun p hp => by
          rcases List.mem_cons.mp hp with rfl | hp
          · exact ⟨heI, Ne.symm nIL, hI₀⟩
          · rcases List.mem_cons.mp hp with rfl | hp
            · exact ⟨heC, nCL, hC₀⟩
            · rcases List.mem_cons.mp hp with rfl | hp
              · exact ⟨hK', nKL, hK₀⟩
              · rcases List.mem_cons.mp hp with rfl | hp
                · exact ⟨ks _ _ (Ne.symm dist.2.2.2.2.2) (kp _ _ (Ne.symm dist.2.2.1) zD.1), nDL, hD₀⟩
                · exact ⟨ks _ _ (off' p hp).2.2.1 (kp _ _ (off' p hp).1 (Nn p hp).1), (Nn p hp).2⟩
        refine wpAny_mono (turn i v s.heap.objs.size oI H2.objs.size oC H3.objs.size oK' H1.objs.size ys news' h₃ _ _ (by simpa using hPv) hJ' hoK' F₃ N₃ off' hm' dist) (fun y s₄ h₄ => ?_) fun _ _ e => e
        obtain ⟨h₄, tk₄, news₄, rfl, F₄, N₄, off₄, hm₄, hJ₄⟩ := h₄
        have wI := (N₄ (s.heap.objs.size, oI) (.head _)).1
        have wC := (N₄ (H2.objs.size, oC) (.tail _ (.head _))).1
        have wK := (N₄ (H3.objs.size, oK') (.tail _ (.tail _ (.head _)))).1
        have wD := (N₄ (H1.objs.size, LCg.lst ys) (.tail _ (.tail _ (.tail _ (.head _))))).1
        have wN : News h₀ env.locals h₄ news₄ := fun p hp => N₄ p (.tail _ (.tail _ (.tail _ (.tail _ hp))))
        refine append_at (hsz := by show ys.toArray.size ≤ sizeLine; rw [List.size_toArray, hyl, sizeLine_eq]; omega) wD fun h₅ hs₅ hD₅ => ?_
        have k5 : ∀ b o, b ≠ H1.objs.size → h₄.get? b = some o → h₅.get? b = some o := fun b o hb e => hs₅.extBut b o hb e
        refine ⟨its.length + 1 - (i + 1), by omega, h₅, tk₄, i + 1, ys ++ [y], _, oK', some v, news₄, rfl, hilt, rfl, by rw [List.length_append, List.length_singleton, hyl], ⟨⟨oI, k5 _ _ dist.2.2.1 wI, hI2⟩, ?_⟩, F₄.change hs₅ nDL hD₀,
          (hoC.ns wC).sameBut hs₅ dist.2.2.2.2.1, fun p hp => ?_, hoK', off₄, hm₄, hJ₄⟩
        · exact ⟨lo, k5 _ _ (off₄ _ hm₄).2.2.2 (wN _ hm₄).1, hlc, ln, hld⟩
        · rcases List.mem_cons.mp hp with rfl | hp
          · exact ⟨k5 _ _ dist.2.2.2.2.2 wK, nKL, hK₀⟩
          · rcases List.mem_cons.mp hp with rfl | hp
            · exact ⟨hD₅.trans (congrArg some (LCg.lst_snoc ys y)), nDL, hD₀⟩
            · exact ⟨k5 _ _ (off₄ p hp).2.2.2 (wN p hp).1, (wN p hp).2⟩
      · obtain rfl : i = its.length := Nat.le_antisymm hi (Nat.not_lt.mp hilt)
        refine W.done _ _ _ hst' fun h₂ tk₂ hk₂ => ?_
        have kp : ∀ b o, b ≠ s.heap.objs.size → h'.get? b = some o → h₂.get? b = some o := fun b o hb e => hk₂ b o (by simpa using hb) e
        have F₂ := LCg.fr_but F' hk₂ nIL hI₀
        show wpAny _ A (assign (.Name y py) env (.ref H1.objs.size)) _ _ _
        refine wpAny_assign_Name (wpAny_storeName_local hy F₂.ns (fun h₃ hn₃ hs₃ => ?_) hp)
        have F₃ := F₂.set hn₃ hs₃
        refine ⟨m', ((hn'.at' fun o e => kp _ o (Ne.symm dist.1) e)).sameBut hs₃ nCL, fun h'' hs'' => done H1.objs.size ys news' h'' _ hJ' (F₃.change hs'' nCL hC₀) (fun p hp => ?_) fun p hp => (off' p hp).2.2.2⟩
        rcases List.mem_cons.mp hp with rfl | hp
        · exact ⟨hs''.extBut _ _ (Ne.symm dist.2.2.2.2.1) (hs₃.extBut _ _ nDL (kp _ _ (Ne.symm dist.2.2.1) zD.1)), nDL, hD₀⟩
        · exact ⟨hs''.extBut _ _ (off' p hp).2.1 (hs₃.extBut _ _ (Nn p hp).2.1 (kp _ _ (off' p hp).1 (Nn p hp).1)), (Nn p hp).2⟩
    · intro p hp
      rcases List.mem_cons.mp hp with rfl | hp
      · exact ⟨gK, nKL, hK₀⟩
      · rcases List.mem_cons.mp hp with rfl | hp
        · exact ⟨gD, nDL, hD₀⟩
        · exact ⟨old _ _ (N p hp).1, (N p hp).2⟩
  exact codeAny_compStart_list (loop _ rfl) (W.self 0 _ _ _ ⟨gI, hl.at fun o e => old _ _ e⟩ (loop _ rfl))
end
end
section
example : True := by
  k_with_none
  w_top off
  trivial

example : True := by
  k_with "go" => ((repeat' (first | ((first | (with_reducible show wpAny _ _ (exec (Stmt.Assign _ _ _) _) _ _ _) | (with_reducible show wpAny _ _ (exec (Stmt.Expr _ _) _) _ _ _) | (with_reducible show wpAny _ _ (exec (Stmt.If _ _ _ _) _) _ _ _) | (with_reducible show wpAny _ _ (exec (Stmt.AugAssign _ _ _ _) _) _ _ _) | (with_reducible show wpAny _ _ (exec (Stmt.Return _ _) _) _ _ _) | (with_reducible show wpAny _ _ (eval (Expr.Call _ _ _ _) _) _ _ _)); k_fold) | ((fail_if_success (with_reducible show wpAny _ _ (exec (Stmt.For _ _ _ _ _) _) _ _ _)); (fail_if_success (with_reducible show wpAny _ _ (pyIter _) _ _ _)); (first | (k_unfold; (try dsimp only)) | (k_end; wrow_close) | walk1 | (dsimp only; walk1) | (leave1; walk_say "STEP leave1"; try dsimp only))))); (all_goals (repeat (first | clear ek | clear qk))))
  k_with "getMethod ref" => (k_here; (with_reducible show wpAny _ _ (getMethod (Value.ref _) (Str.ofString "items") _) _ _ _); k_dflt (refine' isD_items_m ?zzk1 ?zzk2 ?zzk3 ?_; (case zzk1 => k_asm); (case zzk2 => k_mem); (case zzk3 => with_reducible assumption); k_whole))
  k_with "call builtin:dict.items" => (k_here; (with_reducible show wpAny _ _ (call (Value.builtin "dict.items") [Value.ref _]) _ _ _); k_dflt (refine' isD_items ?zzk0 ?zzk1 ?zzk2 ?zzk3 ?zzk4 ?_; (case zzk0 => k_asm); (case zzk1 => k_asm); (case zzk2 => k_mem); (case zzk3 => with_reducible assumption); (case zzk4 => with_reducible assumption); k_whole); intro _ _ _ _ _; (try k_sweep))
  k_with "setItem ref int" => (k_here; (with_reducible show wpAny _ _ (setItem (Value.ref _) (Value.int _ _) (Value.int _ _)) _ _ _); k_dflt (refine' isD_set ?zzk0 ?zzk1 ?zzk2 ?zzk3 ?zzk4 ?_; (case zzk0 => k_asm); (case zzk1 => k_asm); (case zzk2 => k_updF); (case zzk3 => with_reducible assumption); (case zzk4 => omega); k_whole); intro _ _ _ _ _; (try k_sweep))
  k_with "compareOp In" => (k_here; (with_reducible show wpAny _ _ (compareOp CmpOp.In (Value.int _ _) (Value.ref _)) _ _ _); k_dflt (refine' isD_in ?zzk1 ?zzk2 ?zzk3 ?zzk4 ?_; (case zzk1 => k_asm); (case zzk2 => k_mem); (case zzk3 => with_reducible assumption); (case zzk4 => with_reducible assumption); k_whole))
  k_with "getItem ref int" => (k_here; (with_reducible show wpAny _ _ (getItem (Value.ref _) (Value.int _ _)) _ _ _); k_dflt (refine' isD_getItem ?zzk1 ?zzk2 ?zzk3 ?zzk4 ?zzk5 ?_; (case zzk1 => k_asm); (case zzk2 => k_mem); (case zzk3 => with_reducible assumption); (case zzk4 => with_reducible assumption); (case zzk5 => with_reducible assumption); k_whole); intro _)
  trivial
/-! ## a comprehension over a list of the ledger, by an invariant -/
section
variable {prog : Program} {w : World} {A : Around} {E : Value → Shared → Prop} {s : Shared} {h₀ : Heap} {L : Addr} {m : Str → Option Value} {env : Env}
open LCg
theorem compRest_inv {elt : Expr} {x : Str} {scope : Scope} {cl : List (Str × Addr)} {S : List (Addr × Obj) → Prop} {P : Nat → Value → Prop} {Fin : List Value → List (Addr × Obj) → Prop} {n : Nat} (J : Nat → List Value → List (Addr × Obj) → Prop)
    (turn : ∀ i v I oI C oC D m₂ ys news h tk (E' : Value → Shared → Prop), P i v → i < n → J i ys news → NsObj oC m₂ → m₂ x = some v → Fr h₀ L h m → News h₀ L h ((I, oI) :: (C, oC) :: (D, lst ys) :: news) → Off3 I C D news → ((@Ne Nat I C) ∧ (@Ne Nat I D) ∧ (@Ne Nat C D)) →
      wpAny (model prog w) A (eval elt (compEnvC scope cl C env)) (CompEnd h₀ L m { s with heap := h, toks := tk } I oI C oC D (lst ys) S (fun y news' => J (i + 1) (ys ++ [y]) news')) E' { s with heap := h, toks := tk })
    (fin : ∀ ys news, J n ys news → Fin ys news) :
    ∀ (k i : Nat) (ys : List Value) (news : List (Addr × Obj)), i + k = n → J i ys news → CompRest prog w A h₀ L m env elt x scope cl s S P Fin k i ys news := by
  intro k
  induction k with
  | zero => intro i ys news hi hJ; exact CompRest.zero (fin ys news (by rw [← hi]; exact hJ))
  | succ k ih =>
    intro i ys news hi hJ
    refine CompRest.succ fun v I oI C oC D m₂ h tk E' hP hC hm F N hO hne => ?_
    refine wpAny_mono (turn i v I oI C oC D m₂ ys news h tk E' hP (by omega) hJ hC hm F N hO hne) (fun y s₂ hy => ?_) fun _ _ e => e
    obtain ⟨h', tk', news', e, F', N', hO', hS', hJ'⟩ := hy
    exact ⟨h', tk', news', e, F', N', hO', hS', ih (i + 1) _ _ (by omega) hJ'⟩

theorem ListComp_inv {elt iter : Expr} {x : Str} {px : Pos} {scope : Scope} {cl : List (Str × Addr)} {pos : Pos} {Q : Value → Shared → Prop} {ax : Addr} {its : List Value} {ln : Nat} {news : List (Addr × Obj)} (J : Nat → List Value → List (Addr × Obj) → Prop)
    (hh : A.handled = none) (F : Fr h₀ L s.heap m) (N : News h₀ L s.heap news)
    (hclos : closureFor scope env = pure cl) (hcell : ∀ y ∈ scope.names, y.2 ≠ .cell) (hkind : scope.kind = .function)
    (hnames : ∀ y ∈ scope.names, y.2 = .local → scope.names.lookup y.1 = some .local) (hx : scope.names.lookup x = some .local)
    (hiter : ∀ Q', Q' (.ref ax) s → wpAny (model prog w) A (eval iter env) Q' E s) (hm : (ax, listOf its.toArray ln) ∈ news) (hsz : its.length ≤ 1000) (hj : J 0 [] news)
    (turn : ∀ i v I oI C oC D m₂ ys news₁ h tk (E' : Value → Shared → Prop), its[i]? = some v → J i ys news₁ → NsObj oC m₂ → m₂ x = some v → Fr h₀ L h m → News h₀ L h ((I, oI) :: (C, oC) :: (D, lst ys) :: news₁) → Off3 I C D news₁ → ((@Ne Nat I C) ∧ (@Ne Nat I D) ∧ (@Ne Nat C D)) →
      wpAny (model prog w) A (eval elt (compEnvC scope cl C env)) (CompEnd h₀ L m { s with heap := h, toks := tk } I oI C oC D (lst ys) (SrcAt h₀ ax its.toArray) (fun y news' => J (i + 1) (ys ++ [y]) news')) E' { s with heap := h, toks := tk })
    (done : ∀ D ys news₁ h tk, J its.length ys news₁ → Fr h₀ L h m → News h₀ L h ((D, lst ys) :: news₁) → Off1 D news₁ → Q (.ref D) { s with heap := h, toks := tk })
    (hs : ∀ x, foldedSetIterable iter env x = pure x := by intro _; rfl) :
    wpAny (model prog w) A (eval (.ListComp elt [⟨.Name x px, iter, [], 0⟩] scope pos) env) Q E s := by
  refine ListComp_U F hclos hcell hkind hnames hx (hiter _ ?_) hs
  refine CompSrc.ledger hh F N hm (by rw [List.size_toArray, sizeLine_eq]; omega) fun g => ?_
  refine compRest_inv (n := its.toArray.size) J (fun i v I oI C oC D m₂ ys news₁ h tk E' hP _ hJ hC hm F' N' hO hne => ?_) (fun ys news₁ hJ D h tk F' N' hO => ?_) its.toArray.size 0 [] news (Nat.zero_add _) hj
  · exact turn i v I oI C oC D m₂ ys news₁ h tk E' (by simpa using hP) hJ hC hm F' N' hO hne
  · rw [List.size_toArray] at hJ
    exact done D ys news₁ h tk hJ F' N' hO
end
end
section
example : True := by
  k_with_none
  w_top off
  trivial

example : True := by
  k_with "go" => ((repeat' (first | ((first | (with_reducible show wpAny _ _ (exec (Stmt.Assign _ _ _) _) _ _ _) | (with_reducible show wpAny _ _ (exec (Stmt.Expr _ _) _) _ _ _) | (with_reducible show wpAny _ _ (exec (Stmt.If _ _ _ _) _) _ _ _) | (with_reducible show wpAny _ _ (exec (Stmt.AugAssign _ _ _ _) _) _ _ _) | (with_reducible show wpAny _ _ (exec (Stmt.Return _ _) _) _ _ _) | (with_reducible show wpAny _ _ (eval (Expr.Call _ _ _ _) _) _ _ _)); k_fold) | ((fail_if_success (with_reducible show wpAny _ _ (exec (Stmt.For _ _ _ _ _) _) _ _ _)); (fail_if_success (with_reducible show wpAny _ _ (pyIter _) _ _ _)); (first | (k_unfold; (try dsimp only)) | (k_end; wrow_close) | walk1 | (dsimp only; walk1) | (leave1; walk_say "STEP leave1"; try dsimp only))))); (all_goals (repeat (first | clear ek | clear qk))))
  k_with "getMethod ref" => (k_here; (with_reducible show wpAny _ _ (getMethod (Value.ref _) (Str.ofString "items") _) _ _ _); k_dflt (refine' isD_items_m ?zzk1 ?zzk2 ?zzk3 ?_; (case zzk1 => k_asm); (case zzk2 => k_mem); (case zzk3 => with_reducible assumption); k_whole))
  k_with "call builtin:dict.items" => (k_here; (with_reducible show wpAny _ _ (call (Value.builtin "dict.items") [Value.ref _]) _ _ _); k_dflt (refine' isD_items ?zzk0 ?zzk1 ?zzk2 ?zzk3 ?zzk4 ?_; (case zzk0 => k_asm); (case zzk1 => k_asm); (case zzk2 => k_mem); (case zzk3 => with_reducible assumption); (case zzk4 => with_reducible assumption); k_whole); intro _ _ _ _ _; (try k_sweep))
  k_with "setItem ref int" => (k_here; (with_reducible show wpAny _ _ (setItem (Value.ref _) (Value.int _ _) (Value.int _ _)) _ _ _); k_dflt (refine' isD_set ?zzk0 ?zzk1 ?zzk2 ?zzk3 ?zzk4 ?_; (case zzk0 => k_asm); (case zzk1 => k_asm); (case zzk2 => k_updF); (case zzk3 => with_reducible assumption); (case zzk4 => omega); k_whole); intro _ _ _ _ _; (try k_sweep))
  k_with "compareOp In" => (k_here; (with_reducible show wpAny _ _ (compareOp CmpOp.In (Value.int _ _) (Value.ref _)) _ _ _); k_dflt (refine' isD_in ?zzk1 ?zzk2 ?zzk3 ?zzk4 ?_; (case zzk1 => k_asm); (case zzk2 => k_mem); (case zzk3 => with_reducible assumption); (case zzk4 => with_reducible assumption); k_whole))
  k_with "getItem ref int" => (k_here; (with_reducible show wpAny _ _ (getItem (Value.ref _) (Value.int _ _)) _ _ _); k_dflt (refine' isD_getItem ?zzk1 ?zzk2 ?zzk3 ?zzk4 ?zzk5 ?_; (case zzk1 => k_asm); (case zzk2 => k_mem); (case zzk3 => with_reducible assumption); (case zzk4 => with_reducible assumption); (case zzk5 => with_reducible assumption); k_whole); intro _)
  trivial
/-! ## a comprehension with three generators -/
section
variable {prog : Program} {w : World} {A : Around} {E : Value → Shared → Prop} {s : Shared} {h₀ : Heap} {L : Addr} {m : Str → Option Value} {R : Result → Shared → Prop}
open LCg
theorem comp_level {elt iter : Expr} {gens : List Comprehension} {scope : Scope} {pos px : Pos} {d : Nat} {x : Str} {inner : Sem Unit} {cenv : Env} {I D : Addr} {a : Int} {n : Nat} {oC oI : Obj} {mC : Str → Option Value} {ys : List Value} {news : List (Addr × Obj)}
    (J : Nat → (Str → Option Value) → List Value → List (Addr × Obj) → Prop)
    (heq : compTurn (.ListComp elt gens scope pos) d (.ref I) (.ref D) cenv = (standAt iter.pos >>= fun _ => pyNext (.ref I) >>= fun r => match r with
      | none => pure (.done .next)
      | some v => letOwnedTupleGo (.Name x px) (.ref I) v >>= fun _ => assign (.Name x px) cenv v >>= fun _ => inner >>= fun _ => again (.compLoop (.ListComp elt gens scope pos) d (.ref I) (.ref D) cenv)))
    (hh : A.handled = none) (hx : cenv.kindOf x = some .local) (hp : (cenv.scope.kind == .class || (cenv.scope.kind == .module && cenv.locals != cenv.globals)) = false)
    (hst : IsRangeIter s.heap I a n 1) (F : Fr h₀ L s.heap m) (hC : NsObj oC mC) (N : News h₀ L s.heap ((I, oI) :: (cenv.locals, oC) :: (D, lst ys) :: news)) (hoff : Off3 I cenv.locals D news)
    (dist : (@Ne Nat I cenv.locals) ∧ (@Ne Nat I D) ∧ (@Ne Nat cenv.locals D)) (hj : J 0 mC ys news)
    (turn : ∀ i t oI mC oC ys news h tk (E' : Value → Shared → Prop), i < n → J i mC ys news → NsObj oC (fun y => if y = x then some (.int (a + (i : Int)) t) else mC y) → Fr h₀ L h m → News h₀ L h ((I, oI) :: (cenv.locals, oC) :: (D, lst ys) :: news) → Off3 I cenv.locals D news →
      wpAny (model prog w) A inner (fun _ s₂ => ∃ h' tk' mC' oC' ys' news', s₂ = { s with heap := h', toks := tk' } ∧ Fr h₀ L h' m ∧ NsObj oC' mC' ∧ News h₀ L h' ((I, oI) :: (cenv.locals, oC') :: (D, lst ys') :: news') ∧ Off3 I cenv.locals D news' ∧ J (i + 1) mC' ys' news') E' { s with heap := h, toks := tk })
    (done : ∀ mC oC ys news h tk, J n mC ys news → NsObj oC mC → Fr h₀ L h m → News h₀ L h ((cenv.locals, oC) :: (D, lst ys) :: news) → Off3 I cenv.locals D news → R (.ok .next) { s with heap := h, toks := tk }) :
    codeAny (model prog w) A (.compLoop (.ListComp elt gens scope pos) d (.ref I) (.ref D) cenv) R s := by
  have zI := N (I, oI) (.head _)
  have zC := N (cenv.locals, oC) (.tail _ (.head _))
  have zD := N (D, lst ys) (.tail _ (.tail _ (.head _)))
  have hIL : I ≠ L := zI.2.1
  have hI₀ : h₀.get? I = none := zI.2.2
  have hCL : cenv.locals ≠ L := zC.2.1
  have hC₀ : h₀.get? cenv.locals = none := zC.2.2
  have hDL : D ≠ L := zD.2.1
  have hD₀ : h₀.get? D = none := zD.2.2
  have W := range_walks (prog := prog) (w := w) (A := A) (I := I) hh a n
  refine codeAny_loop rfl (fun k s' => ∃ h' tk i oC mC ys news, s' = { s with heap := h', toks := tk } ∧ i ≤ n ∧ k = n + 1 - i ∧ IsRangeIter h' I (a + (i : Nat) * 1) ((n : Int) - (i : Nat)) 1 ∧ Fr h₀ L h' m ∧ NsObj oC mC ∧ News h₀ L h' ((cenv.locals, oC) :: (D, lst ys) :: news) ∧ Off3 I cenv.locals D news ∧ J i mC ys news) (fun k s' hI => ?_) (n + 1)
    ⟨s.heap, s.toks, 0, oC, mC, ys, news, rfl, Nat.zero_le _, rfl, (by simpa using hst), F, hC, (fun p hp => N p (.tail _ hp)), hoff, hj⟩
  obtain ⟨h', tk, i, oC, mC, ys, news, rfl, hi, rfl, hst', F', hC', N', off', hJ'⟩ := hI
  show wpAny _ A ((compTurn (.ListComp elt gens scope pos) d (.ref I) (.ref D) cenv).onRaise (fun x => do noteFrame x cenv; theTreesLotGoes x)) _ _ _
  refine wpAny_noted ?_
  rw [heq]
  refine wpAny_bind (wpAny_standAt (wpAny_bind ?_))
  have off3 := off'.mem
  by_cases hlt : i < n
  · refine W.item i _ _ _ hlt hst' fun v h₂ tk₂ hPv hst₂ hk₂ => ?_
    obtain ⟨t, rfl⟩ := hPv
    dsimp only
    refine wpAny_bind (wpAny_of_eq (a := ()) rfl (wpAny_bind ?_))
    have kp : ∀ b o, b ≠ I → h'.get? b = some o → h₂.get? b = some o := fun b o hb e => hk₂ b o (by simpa using hb) e
    have hn₂ : h₂.Ns cenv.locals mC := hC'.ns (kp _ _ (Ne.symm dist.1) (N' _ (.head _)).1)
    refine wpAny_assign_Name (wpAny_storeName_local hx hn₂ (fun h₃ hn₃ hs₃ => ?_) hp)
    have ks : ∀ b o, b ≠ cenv.locals → h₂.get? b = some o → h₃.get? b = some o := fun b o hb e => hs₃.extBut b o hb e
    have hst₃ : IsRangeIter h₃ I (a + ((i + 1 : Nat) : Int) * 1) ((n : Int) - ((i + 1 : Nat) : Int)) 1 := W.frame _ _ _ hst₂ fun b hb o e => ks b o (by rw [List.mem_singleton.mp hb]; exact dist.1) e
    obtain ⟨oC', heC, hoC⟩ := ns_obj hn₃
    have F₃ : Fr h₀ L h₃ m := (fr_but F' hk₂ (Ne.symm hIL) hI₀).change hs₃ hCL hC₀
    have N₃ : News h₀ L h₃ ((I, _) :: (cenv.locals, oC') :: (D, lst ys) :: news) := fun p hp => by
      rcases List.mem_cons.mp hp with rfl | hp
      · exact ⟨hst₃, hIL, hI₀⟩
      · rcases List.mem_cons.mp hp with rfl | hp
        · exact ⟨heC, hCL, hC₀⟩
        · rcases List.mem_cons.mp hp with rfl | hp
          · exact ⟨ks _ _ (Ne.symm dist.2.2) (kp _ _ (Ne.symm dist.2.1) (N' _ (.tail _ (.head _))).1), hDL, hD₀⟩
          · exact ⟨ks _ _ (off3 p hp).2.1 (kp _ _ (off3 p hp).1 (N' p (.tail _ (.tail _ hp))).1), (N' p (.tail _ (.tail _ hp))).2⟩
    refine wpAny_bind (wpAny_mono (turn i t _ mC oC' ys news h₃ _ _ hlt hJ' hoC F₃ N₃ off') (fun _ s₄ h₄ => ?_) fun _ _ e => e)
    obtain ⟨h₄, tk₄, mC₄, oC₄, ys₄, news₄, rfl, F₄, hC₄, N₄, off₄, hJ₄⟩ := h₄
    have wI := (N₄ _ (.head _)).1
    exact wpAny_pure ⟨rfl, n + 1 - (i + 1), by omega, h₄, tk₄, i + 1, oC₄, mC₄, ys₄, news₄, rfl, hlt, rfl, wI, F₄, hC₄, fun p hp => N₄ p (.tail _ hp), off₄, hJ₄⟩
  · obtain rfl : i = n := Nat.le_antisymm hi (Nat.not_lt.mp hlt)
    refine W.done _ _ _ hst' fun h₂ tk₂ hk₂ => ?_
    refine wpAny_pure ?_
    have kp : ∀ b o, b ≠ I → h'.get? b = some o → h₂.get? b = some o := fun b o hb e => hk₂ b o (by simpa using hb) e
    exact done mC oC ys news h₂ tk₂ hJ' hC' (fr_but F' hk₂ (Ne.symm hIL) hI₀) (fun p hp => by
      rcases List.mem_cons.mp hp with rfl | hp
      · exact ⟨kp _ _ (Ne.symm dist.1) (N' _ (.head _)).1, hCL, hC₀⟩
      · rcases List.mem_cons.mp hp with rfl | hp
        · exact ⟨kp _ _ (Ne.symm dist.2.1) (N' _ (.tail _ (.head _))).1, hDL, hD₀⟩
        · exact ⟨kp _ _ (off3 p hp).1 (N' p (.tail _ (.tail _ hp))).1, (N' p (.tail _ (.tail _ hp))).2⟩) off'
end
section
variable {prog : Program} {w : World} {A : Around} {E : Value → Shared → Prop} {s : Shared} {h₀ : Heap} {L : Addr} {m : Str → Option Value} {R : Result → Shared → Prop}
open LCg
theorem compStart_at {elt target iter : Expr} {ifs : List Expr} {gens : List Comprehension} {scope : Scope} {pos : Pos} {d : Nat} {it acc : Value} {env : Env} (hg : gens[d]? = some ⟨target, iter, ifs, 0⟩)
    (h0 : codeAny (model prog w) A (.compLoop (.ListComp elt gens scope pos) d it acc env) R s)
    (h : wpAny (model prog w) A (pyIter it) (fun it' s' => codeAny (model prog w) A (.compLoop (.ListComp elt gens scope pos) d it' acc env) R s')
      (notedBy (model prog w) A env fun x s' => R (.error x) s') s) :
    codeAny (model prog w) A (.compStart (.ListComp elt gens scope pos) d it acc env) R s := by
  refine codeAny_of_tree ?_
  show wpAny _ _ ((compStart (.ListComp elt gens scope pos) d it acc env).onRaise (fun x => do noteFrame x env; standAt theWindowsPlace)) _ _ s
  refine wpAny_notedAt ?_
  unfold compStart
  have hc : (clausesOf (.ListComp elt gens scope pos))[d]? = some ⟨target, iter, ifs, 0⟩ := hg
  simp only [hc]
  show wpAny _ _ (ask >>= _) _ _ s
  refine wpAny_bind (wpAny_askSetting (wpAny_ite ?_))
  split
  · first
      | exact wpAny_bind (wpAny_pure (wpAny_pure (And.intro rfl h0)))
      | exact wpAny_pure (And.intro rfl h0)
  · first
      | exact wpAny_bind (wpAny_rule (wpAny_bind (wpAny_standAt (wpAny_bind (wpAny_mono h (fun it' s' h' => wpAny_pure (And.intro rfl h')) fun _ _ x => x)))))
      | (refine wpAny_bind (wpAny_rule ?_); show wpAny _ _ (standAt iter.pos >>= _) _ _ s; exact wpAny_bind (wpAny_standAt (wpAny_bind (wpAny_mono h (fun it' s' h' => wpAny_pure (And.intro rfl h')) fun _ _ x => x))))
/-- a range is made; what comes then -/
noncomputable def RangeThen (A : Around) (h₀ : Heap) (L : Addr) (m : Str → Option Value) (K : Int → Nat → List (Addr × Obj) → Shared → Prop) (xv : Value) (s₁ : Shared) : Prop :=
  ∃ r a b t u v n news, xv = .ref r ∧ IsRange s₁.heap r a b 1 t u v ∧ Builtin.Range.small a b 1 = true ∧ Builtin.Range.rangeSize a b 1 = ((n : Nat) : Int) ∧ Fr h₀ L s₁.heap m ∧ News h₀ L s₁.heap news ∧ A.handled = none ∧ K a n news s₁
theorem RangeThen.intro {A : Around} {h₀ : Heap} {L : Addr} {m : Str → Option Value} {K : Int → Nat → List (Addr × Obj) → Shared → Prop} {s₁ : Shared} {r : Addr} {a b : Int} {t u v : Tok} {n : Nat} {news : List (Addr × Obj)}
    (hr : IsRange s₁.heap r a b 1 t u v) (hsm : Builtin.Range.small a b 1 = true) (hn : Builtin.Range.rangeSize a b 1 = ((n : Nat) : Int)) (F : Fr h₀ L s₁.heap m) (N : News h₀ L s₁.heap news) (hh : A.handled = none) (k : K a n news s₁) : RangeThen A h₀ L m K (.ref r) s₁ :=
  ⟨r, a, b, t, u, v, n, news, rfl, hr, hsm, hn, F, N, hh, k⟩
/-- a further generator is entered -/
theorem comp_inner {elt target iter : Expr} {ifs : List Expr} {gens : List Comprehension} {scope : Scope} {pos : Pos} {d : Nat} {D : Addr} {env : Env} {Q : Unit → Shared → Prop} (_F₀ : Fr h₀ L s.heap m) (hg : gens[d]? = some ⟨target, iter, ifs, 0⟩)
    (hs : ∀ x, foldedSetIterable iter env x = pure x)
    (h : wpAny (model prog w) A (eval iter env) (RangeThen A h₀ L m (fun a n news s₁ =>
      ∀ I h, Fr h₀ L h m → News h₀ L h ((I, { cls := .type "range_iterator", dict := none, data := .fields #[rawInt a, rawInt (n : Int), rawInt 1], slots := #[] }) :: news) → (∀ p ∈ news, p.1 < I) →
        codeAny (model prog w) A (.compLoop (.ListComp elt gens scope pos) d (.ref I) (.ref D) env) (fun r s' => match r with | .ok _ => Q () s' | .error e => cameBackBy (model prog w) A env E e s') { s₁ with heap := h })) E s) :
    wpAny (model prog w) A (do
      let x ← eval iter env
      standAt iter.pos
      let x ← foldedSetIterable iter env x
      let _ ← runOwn (.compStart (.ListComp elt gens scope pos) d (← holding [x] (pyIter x)) (.ref D) env) env) Q E s := by
  refine wpAny_bind (wpAny_mono h (fun xv s₁ h₁ => ?_) fun _ _ e => e)
  obtain ⟨r, a, b, t, u, v, n, news, rfl, hr, hsm, hn, F, N, hh, k⟩ := h₁
  refine wpAny_bind (wpAny_standAt (wpAny_bind (wpAny_of_eq (hs _) (wpAny_bind (wpAny_holding ?_)))))
  refine wpAny_pyIter_range hr hsm ?_
  rw [hn]
  have hI : (s₁.heap.push { cls := .type "range_iterator", data := .fields #[rawInt a, rawInt (n : Int), rawInt 1] }).get? s₁.heap.objs.size = some { cls := .type "range_iterator", dict := none, data := .fields #[rawInt a, rawInt (n : Int), rawInt 1], slots := #[] } := Heap.get?_push_size _ rfl
  have key := k s₁.heap.objs.size (s₁.heap.push { cls := .type "range_iterator", data := .fields #[rawInt a, rawInt (n : Int), rawInt 1] }) (F.keeps fun _ _ e => Heap.get?_push_of_some _ e) (fun p hp => by
    rcases List.mem_cons.mp hp with rfl | hp
    · exact ⟨hI, Ne.symm (Nat.ne_of_lt F.ns.lt), next_is_new F⟩
    · exact ⟨Heap.get?_push_of_some _ (N p hp).1, (N p hp).2⟩) fun p hp => Heap.lt_size (N p hp).1
  refine wpAny_bind (wpAny_runOwn (compStart_at hg (codeAny_mono key fun r s' hr => ?_) (wpAny_pyIter_rangeiter hI (codeAny_mono key fun r s' hr => ?_))))
  · cases r with
    | ok f => exact wpAny_pure hr
    | error e => exact hr
  · cases r with
    | ok f => exact wpAny_pure hr
    | error e => exact hr
/-- a comprehension over a range is opened -/
theorem comp_open {elt iter : Expr} {x : Str} {px : Pos} {gs : List Comprehension} {scope : Scope} {cl : List (Str × Addr)} {pos : Pos} {env : Env} {Q : Value → Shared → Prop}
    (_F₀ : Fr h₀ L s.heap m) (hclos : closureFor scope env = pure cl) (hcell : ∀ y ∈ scope.names, y.2 ≠ .cell) (hkind : scope.kind = .function) (hnames : ∀ y ∈ scope.names, y.2 = .local → scope.names.lookup y.1 = some .local)
    (hs : ∀ x, foldedSetIterable iter env x = pure x)
    (h : wpAny (model prog w) A (eval iter env) (RangeThen A h₀ L m (fun a n news s₁ =>
      ∀ I C D oC h tk, Fr h₀ L h m → NsObj oC (fun _ => none) → News h₀ L h ((I, { cls := .type "range_iterator", dict := none, data := .fields #[rawInt a, rawInt (n : Int), rawInt 1], slots := #[] }) :: (C, oC) :: (D, lst []) :: news) → Off3 I C D news → ((@Ne Nat I C) ∧ (@Ne Nat I D) ∧ (@Ne Nat C D)) → (∀ p ∈ news, p.1 < D) →
        codeAny (model prog w) A (.compLoop (.ListComp elt (⟨.Name x px, iter, [], 0⟩ :: gs) scope pos) 0 (.ref I) (.ref D) (compEnvC scope cl C env)) (fun r s' => match r with
          | .ok _ => ∃ h' tk oC' mC' ys news', s' = { s₁ with heap := h', toks := tk } ∧ Fr h₀ L h' m ∧ NsObj oC' mC' ∧ News h₀ L h' ((C, oC') :: (D, lst ys) :: news') ∧ Off3 I C D news' ∧ (∀ h'', Fr h₀ L h'' m → News h₀ L h'' ((D, lst ys) :: news') → Q (.ref D) { s₁ with heap := h'', toks := tk })
          | .error e => compPost (model prog w) A E none Q (.ref D) C (.error e) s') { s₁ with heap := h, toks := tk })) E s) :
    wpAny (model prog w) A (eval (.ListComp elt (⟨.Name x px, iter, [], 0⟩ :: gs) scope pos) env) Q E s := by
  rw [eval_ListComp]
  refine wpAny_comprehension_free (use := none) rfl hs hclos hkind hnames (wpAny_mono h (fun xv s₁ h₁ => ?_) fun _ _ e => e)
  obtain ⟨r, a, b, t, u, v, n, news, rfl, hr, hsm, hn, F, N, hh, k⟩ := h₁
  refine wpAny_pyIter_range hr hsm ?_
  rw [hn]
  generalize hH1 : s₁.heap.push { cls := .type "range_iterator", data := .fields #[rawInt a, rawInt (n : Int), rawInt 1] } = H1
  refine wpAny_newObj_type (wpAny_newFunctionEnv hcell (by intro y hy; simp at hy) (fun h₁ hns₁ hsb₁ => ?_) hkind)
  dsimp only at hns₁ hsb₁ ⊢
  generalize hH2 : H1.push { cls := .type "list", dict := none, data := .seq ([] : List Value).toArray } = H2 at hns₁ hsb₁ ⊢
  have z1 : H1.objs.size = s₁.heap.objs.size + 1 := by rw [← hH1, Heap.size_push]
  have z2 : H2.objs.size = s₁.heap.objs.size + 2 := by rw [← hH2, Heap.size_push, z1]
  have u1 : ∀ b o, s₁.heap.get? b = some o → H1.get? b = some o := fun b o e => hH1 ▸ Heap.get?_push_of_some _ e
  have u2 : ∀ b o, H1.get? b = some o → H2.get? b = some o := fun b o e => hH2 ▸ Heap.get?_push_of_some _ e
  have u3 : ∀ b o, H2.get? b = some o → h₁.get? b = some o := fun b o e => hsb₁.extBut b o (Nat.ne_of_lt (Heap.lt_size e)) (Heap.get?_push_of_some _ e)
  have old : ∀ b o, s₁.heap.get? b = some o → h₁.get? b = some o := fun b o e => u3 _ _ (u2 _ _ (u1 _ _ e))
  have gI : h₁.get? s₁.heap.objs.size = some { cls := .type "range_iterator", dict := none, data := .fields #[rawInt a, rawInt (n : Int), rawInt 1], slots := #[] } := u3 _ _ (u2 _ _ (hH1 ▸ Heap.get?_push_size _ rfl))
  have gD : h₁.get? H1.objs.size = some (lst []) := u3 _ _ (hH2 ▸ Heap.get?_push_size _ rfl)
  have fresh₀ : ∀ a, s₁.heap.objs.size ≤ a → h₀.get? a = none := fun a ha => by
    cases e : h₀.get? a with
    | none => rfl
    | some o' => exact absurd (Heap.lt_size (F.keep a o' e)) (Nat.not_lt.mpr ha)
  have hLlt := ltN F.ns.lt
  have hI₀ := fresh₀ s₁.heap.objs.size (Nat.le_refl _)
  have hD₀ := fresh₀ H1.objs.size (by rw [z1]; exact Nat.le_add_right _ _)
  have hC₀ := fresh₀ H2.objs.size (by rw [z2]; exact Nat.le_add_right _ _)
  have nIL : s₁.heap.objs.size ≠ L := Nat.ne_of_gt hLlt
  have nDL : H1.objs.size ≠ L := Nat.ne_of_gt (by rw [z1]; exact Nat.lt_of_lt_of_le hLlt (Nat.le_add_right _ _))
  have nCL : H2.objs.size ≠ L := Nat.ne_of_gt (by rw [z2]; exact Nat.lt_of_lt_of_le hLlt (Nat.le_add_right _ _))
  have dist : (@Ne Nat s₁.heap.objs.size H2.objs.size) ∧ (@Ne Nat s₁.heap.objs.size H1.objs.size) ∧ (@Ne Nat H2.objs.size H1.objs.size) := by
    rw [z1, z2]
    exact ⟨(six_ne _).1, (six_ne _).2.2.1, (six_ne _).2.2.2.2.1⟩
  obtain ⟨oC, heC, hoC⟩ := ns_obj hns₁
  have N₁ : News h₀ L h₁ ((s₁.heap.objs.size, { cls := .type "range_iterator", dict := none, data := .fields #[rawInt a, rawInt (n : Int), rawInt 1], slots := #[] }) :: (H2.objs.size, oC) :: (H1.objs.size, lst []) :: news) := fun p hp => by
    rcases List.mem_cons.mp hp with rfl | hp
    · exact ⟨gI, nIL, hI₀⟩
    · rcases List.mem_cons.mp hp with rfl | hp
      · exact ⟨heC, nCL, hC₀⟩
      · rcases List.mem_cons.mp hp with rfl | hp
        · exact ⟨gD, nDL, hD₀⟩
        · exact ⟨old _ _ (N p hp).1, (N p hp).2⟩
  have off₀ : Off3 s₁.heap.objs.size H2.objs.size H1.objs.size news := Off3.of fun p hp => by
    have := ltN (Heap.lt_size (N p hp).1)
    rw [z1, z2]
    exact ⟨Nat.ne_of_lt this, Nat.ne_of_lt (Nat.lt_of_lt_of_le this (Nat.le_add_right _ _)), Nat.ne_of_lt (Nat.lt_of_lt_of_le this (Nat.le_add_right _ _))⟩
  have key := k s₁.heap.objs.size H2.objs.size H1.objs.size oC h₁ (s₁.toks + ([] : List (Str × Value)).length) (F.keeps old) hoC N₁ off₀ dist fun p hp => by
    have := ltN (Heap.lt_size (N p hp).1)
    exact show (@LT.lt Nat _ p.1 H1.objs.size) by rw [z1]; exact Nat.lt_succ_of_lt this
  have fin : ∀ r s', (match r with
          | .ok _ => ∃ h' tk oC' mC' ys news', s' = { s₁ with heap := h', toks := tk } ∧ Fr h₀ L h' m ∧ NsObj oC' mC' ∧ News h₀ L h' ((H2.objs.size, oC') :: (H1.objs.size, lst ys) :: news') ∧ Off3 s₁.heap.objs.size H2.objs.size H1.objs.size news' ∧ (∀ h'', Fr h₀ L h'' m → News h₀ L h'' ((H1.objs.size, lst ys) :: news') → Q (.ref H1.objs.size) { s₁ with heap := h'', toks := tk })
          | .error e => compPost (model prog w) A E none Q (.ref H1.objs.size) H2.objs.size (.error e) s' : Prop) → compPost (model prog w) A E none Q (.ref H1.objs.size) H2.objs.size r s' := fun r s' hr => by
    cases r with
    | error e => exact hr
    | ok f =>
      obtain ⟨h', tk, oC', mC', ys, news', rfl, F', hC', N', off', hq⟩ := hr
      refine ⟨mC', hC'.ns (N' _ (.head _)).1, fun h'' hs'' => hq h'' (F'.change hs'' nCL hC₀) fun p hp => ?_⟩
      have z := N' p (.tail _ hp)
      refine ⟨hs''.extBut _ _ ?_ z.1, z.2⟩
      rcases List.mem_cons.mp hp with rfl | hp
      · exact Ne.symm dist.2.2
      · exact (off'.mem p hp).2.1
  exact compStart_at rfl (codeAny_mono key fin) (wpAny_pyIter_rangeiter gI (codeAny_mono key fin))
end
section
variable (elt i0 i1 i2 : Expr) (x0 x1 x2 : Str) (p0 p1 p2 : Pos) (scope : Scope) (pos : Pos) (it acc : Value) (env : Env)
theorem compTurn_30 : compTurn (.ListComp elt [⟨.Name x0 p0, i0, [], 0⟩, ⟨.Name x1 p1, i1, [], 0⟩, ⟨.Name x2 p2, i2, [], 0⟩] scope pos) 0 it acc env = (standAt i0.pos >>= fun _ => pyNext it >>= fun r => match r with
      | none => pure (.done .next)
      | some v => letOwnedTupleGo (.Name x0 p0) it v >>= fun _ => assign (.Name x0 p0) env v >>= fun _ => eval i1 env >>= fun x => standAt i1.pos >>= fun _ => foldedSetIterable i1 env x >>= fun x => holding [x] (pyIter x) >>= fun y => runOwn (.compStart (.ListComp elt [⟨.Name x0 p0, i0, [], 0⟩, ⟨.Name x1 p1, i1, [], 0⟩, ⟨.Name x2 p2, i2, [], 0⟩] scope pos) 1 y acc env) env >>= fun _ =>
        again (.compLoop (.ListComp elt [⟨.Name x0 p0, i0, [], 0⟩, ⟨.Name x1 p1, i1, [], 0⟩, ⟨.Name x2 p2, i2, [], 0⟩] scope pos) 0 it acc env)) := by rfl
theorem compTurn_31 : compTurn (.ListComp elt [⟨.Name x0 p0, i0, [], 0⟩, ⟨.Name x1 p1, i1, [], 0⟩, ⟨.Name x2 p2, i2, [], 0⟩] scope pos) 1 it acc env = (standAt i1.pos >>= fun _ => pyNext it >>= fun r => match r with
      | none => pure (.done .next)
      | some v => letOwnedTupleGo (.Name x1 p1) it v >>= fun _ => assign (.Name x1 p1) env v >>= fun _ => eval i2 env >>= fun x => standAt i2.pos >>= fun _ => foldedSetIterable i2 env x >>= fun x => holding [x] (pyIter x) >>= fun y => runOwn (.compStart (.ListComp elt [⟨.Name x0 p0, i0, [], 0⟩, ⟨.Name x1 p1, i1, [], 0⟩, ⟨.Name x2 p2, i2, [], 0⟩] scope pos) 2 y acc env) env >>= fun _ =>
        again (.compLoop (.ListComp elt [⟨.Name x0 p0, i0, [], 0⟩, ⟨.Name x1 p1, i1, [], 0⟩, ⟨.Name x2 p2, i2, [], 0⟩] scope pos) 1 it acc env)) := by rfl
theorem compTurn_32 : compTurn (.ListComp elt [⟨.Name x0 p0, i0, [], 0⟩, ⟨.Name x1 p1, i1, [], 0⟩, ⟨.Name x2 p2, i2, [], 0⟩] scope pos) 2 it acc env = (standAt i2.pos >>= fun _ => pyNext it >>= fun r => match r with
      | none => pure (.done .next)
      | some v => letOwnedTupleGo (.Name x2 p2) it v >>= fun _ => assign (.Name x2 p2) env v >>= fun _ => (do let _ ← call (.builtin "list.append") [acc, ← eval elt env]) >>= fun _ =>
        again (.compLoop (.ListComp elt [⟨.Name x0 p0, i0, [], 0⟩, ⟨.Name x1 p1, i1, [], 0⟩, ⟨.Name x2 p2, i2, [], 0⟩] scope pos) 2 it acc env)) := by rfl
theorem compTurn_30' : compTurn (.ListComp elt [⟨.Name x0 p0, i0, [], 0⟩, ⟨.Name x1 p1, i1, [], 0⟩, ⟨.Name x2 p2, i2, [], 0⟩] scope pos) 0 it acc env = (standAt i0.pos >>= fun _ => pyNext it >>= fun r => match r with
      | none => pure (.done .next)
      | some v => letOwnedTupleGo (.Name x0 p0) it v >>= fun _ => assign (.Name x0 p0) env v >>= fun _ => (do
          let x ← eval i1 env
          standAt i1.pos
          let x ← foldedSetIterable i1 env x
          let _ ← runOwn (.compStart (.ListComp elt [⟨.Name x0 p0, i0, [], 0⟩, ⟨.Name x1 p1, i1, [], 0⟩, ⟨.Name x2 p2, i2, [], 0⟩] scope pos) 1 (← holding [x] (pyIter x)) acc env) env) >>= fun _ =>
        again (.compLoop (.ListComp elt [⟨.Name x0 p0, i0, [], 0⟩, ⟨.Name x1 p1, i1, [], 0⟩, ⟨.Name x2 p2, i2, [], 0⟩] scope pos) 0 it acc env)) := by
  rw [compTurn_30]
  simp only [bind_assoc, pure_bind]
theorem compTurn_31' : compTurn (.ListComp elt [⟨.Name x0 p0, i0, [], 0⟩, ⟨.Name x1 p1, i1, [], 0⟩, ⟨.Name x2 p2, i2, [], 0⟩] scope pos) 1 it acc env = (standAt i1.pos >>= fun _ => pyNext it >>= fun r => match r with
      | none => pure (.done .next)
      | some v => letOwnedTupleGo (.Name x1 p1) it v >>= fun _ => assign (.Name x1 p1) env v >>= fun _ => (do
          let x ← eval i2 env
          standAt i2.pos
          let x ← foldedSetIterable i2 env x
          let _ ← runOwn (.compStart (.ListComp elt [⟨.Name x0 p0, i0, [], 0⟩, ⟨.Name x1 p1, i1, [], 0⟩, ⟨.Name x2 p2, i2, [], 0⟩] scope pos) 2 (← holding [x] (pyIter x)) acc env) env) >>= fun _ =>
        again (.compLoop (.ListComp elt [⟨.Name x0 p0, i0, [], 0⟩, ⟨.Name x1 p1, i1, [], 0⟩, ⟨.Name x2 p2, i2, [], 0⟩] scope pos) 1 it acc env)) := by
  rw [compTurn_31]
  simp only [bind_assoc, pure_bind]
end
section
variable {w : World} {dp un : Nat} {gd : Option (List Code)} {cn : Str} {cs : Scope} {a : Addr} {ccd : Value} {cl : List (Str × Addr)} {outer : List Env} {A₀ : Around} {base h₀ : Heap} {L : Addr} {m : Str → Option Value} {news : List (Addr × Obj)} {s : Shared}
    {Q E : Value → Shared → Prop} {pT : Program} {lT : List Str} {mean : ExcName → Option Value} {mg mb : Str → Option Value}
noncomputable def RiffsAt (rs : List (Addr × Obj)) : Prop := ∀ (i : Nat) (r : List Int), riffs[i]? = some r → ∃ ra t1 t2 t3, rs[i]? = some (ra, tupO [.int (r.getD 0 0) t1, .int (r.getD 1 0) t2, .int (r.getD 2 0) t3])
noncomputable def tri2 (a b : Int) (k : Nat) : List (List Int) := (List.range k).map fun c : Nat => [a, b, b + 1 + (c : Int)]
noncomputable def tri1 (a : Int) (k : Nat) : List (List Int) := (List.range k).flatMap fun j : Nat => tri2 a (a + 1 + (j : Int)) (5 - (a + 1 + (j : Int))).toNat
noncomputable def tri0 (k : Nat) : List (List Int) := (List.range k).flatMap fun i : Nat => tri1 (0 + (i : Int)) (5 - (0 + (i : Int))).toNat
theorem tri0_riffs : tri0 6 = riffs := by decide +kernel
theorem tri2_succ (a b : Int) (k : Nat) : tri2 a b (k + 1) = tri2 a b k ++ [[a, b, b + 1 + (k : Int)]] := by
  unfold tri2; rw [List.range_succ, List.map_append]; rfl
theorem tri1_succ (a : Int) (j : Nat) : tri1 a (j + 1) = tri1 a j ++ tri2 a (a + 1 + (j : Int)) (5 - (a + 1 + (j : Int))).toNat := by
  unfold tri1; rw [List.range_succ, List.flatMap_append]; simp
theorem tri0_succ (i : Nat) : tri0 (i + 1) = tri0 i ++ tri1 (0 + (i : Int)) (5 - (0 + (i : Int))).toNat := by
  unfold tri0; rw [List.range_succ, List.flatMap_append]; simp
theorem tri2_len (a b : Int) (k : Nat) : (tri2 a b k).length = k := by unfold tri2; rw [List.length_map, List.length_range]
theorem tri1_len {a : Int} (ha : 0 ≤ a) (j : Nat) : (tri1 a j).length ≤ 5 * j := by
  induction j with
  | zero => simp [tri1]
  | succ j ih => rw [tri1_succ, List.length_append, tri2_len]; omega
theorem tri0_len (i : Nat) : (tri0 i).length ≤ 25 * i := by
  induction i with
  | zero => simp [tri0]
  | succ i ih =>
    rw [tri0_succ, List.length_append]
    have := tri1_len (a := 0 + (i : Int)) (by omega) (5 - (0 + (i : Int))).toNat
    omega
/-- tuples of ints as they stand in a ledger -/
noncomputable def TupsAt (ls : List (List Int)) (ys : List Value) (rs : List (Addr × Obj)) : Prop := ys = rs.map (fun p => Value.ref p.1) ∧ rs.length = ls.length ∧ ∀ (i : Nat) (r : List Int), ls[i]? = some r → ∃ ra t1 t2 t3, rs[i]? = some (ra, tupO [.int (r.getD 0 0) t1, .int (r.getD 1 0) t2, .int (r.getD 2 0) t3])
theorem TupsAt.snoc {ls : List (List Int)} {ys : List Value} {rs : List (Addr × Obj)} {r : Addr} {x y z : Int} {t1 t2 t3 : Tok} (h : TupsAt ls ys rs) : TupsAt (ls ++ [[x, y, z]]) (ys ++ [.ref r]) (rs ++ [(r, tupO [.int x t1, .int y t2, .int z t3])]) := by
  obtain ⟨h1, h2, h3⟩ := h
  refine ⟨by rw [h1, List.map_append]; rfl, by rw [List.length_append, List.length_append, h2]; rfl, fun i q hq => ?_⟩
  rcases Nat.lt_trichotomy i ls.length with hl | hl | hl
  · rw [List.getElem?_append_left hl] at hq
    obtain ⟨ra, u1, u2, u3, e⟩ := h3 i q hq
    exact ⟨ra, u1, u2, u3, by rw [List.getElem?_append_left (by omega)]; exact e⟩
  · subst hl
    rw [List.getElem?_append_right (Nat.le_refl _), Nat.sub_self] at hq
    cases hq
    exact ⟨r, t1, t2, t3, by rw [List.getElem?_append_right (by omega), h2, Nat.sub_self]; rfl⟩
  · have : (ls ++ [[x, y, z]])[i]? = none := List.getElem?_eq_none (by rw [List.length_append, List.length_singleton]; omega)
    rw [this] at hq; cases hq
theorem range_up {x : Int} (h0 : 0 ≤ x) (h5 : x ≤ 5) : Builtin.Range.small (x + 1) 6 1 = true ∧ Builtin.Range.rangeSize (x + 1) 6 1 = (((5 - x).toNat : Nat) : Int) := by
  rcases ilt7 h0 (Int.le_trans h5 (by decide)) with rfl | rfl | rfl | rfl | rfl | rfl | rfl <;> first | decide | exact absurd h5 (by decide)
theorem TupsAt.len {ls : List (List Int)} {ys : List Value} {rs : List (Addr × Obj)} (h : TupsAt ls ys rs) : ys.length = ls.length := by
  rw [h.1, List.length_map, h.2.1]
theorem riffles_spec (B : Below A₀ base outer h₀) (F : Fr h₀ L s.heap m) (X : (hd.heap_39 w.params).In h₀) (N : News h₀ L s.heap news) (T : Top pT lT mean mg mb h₀) (hk : cs.kind = .function) (hdp : dp + 3 < recursionLimit) (hu : un + 20 < cLine)
    (ret : ∀ r rs n h' tk', Fr h₀ L h' m → News h₀ L h' ((r, listOf ((rs.map fun p => Value.ref p.1)).toArray n) :: (rs ++ news)) → (∀ p ∈ rs ++ news, p.1 ≠ r) → rs.length = 20 → RiffsAt rs → Q (.ref r) { s with heap := h', toks := tk' }) :
    wpAny (model PR w) (ktrTop dp un gd cn cs L a ccd cl outer) (call (.ref 131) []) Q E s := by
  refine wpAny_call ?_
  k_dflt cell_enter
  rename_i g0 L0 h1 FG F0 N0 B0 X0 T0
  walk_at "go"
  refine comp_open (cl := []) F0 ?hclos ?hcell rfl ?hnames ?hs ?_
  case hclos => with_unfolding_all rfl
  case hcell => decide
  case hnames => decide
  case hs => intro _; rfl
  walk_at "go"
  refine RangeThen.intro (n := 6) (by assumption) (by decide) (by decide) (by assumption) (by assumption) rfl ?_
  intro I C D oC h tk F1 hC N1 off dist lD
  refine comp_level (fun i mC ys n₁ => ∃ rs, n₁ = rs ++ news ∧ TupsAt (tri0 i) ys rs) (compTurn_30' ..) rfl rfl rfl (N1 _ (.head _)).1 F1 hC N1 off dist ⟨[], rfl, rfl, rfl, fun i r hr => by simp [tri0] at hr⟩ ?_ ?_
  · intro i ti oI mC1 oC1 ys n₁ h1 tk1 E1 hi hJ11 hC1 F1 N1 off
    refine hide ?_
    intro G9
    obtain ⟨rs, rfl, hT⟩ := hJ11
    (try k_unfold)
    generalize hmA : (fun y => if y = Str.ofString "a" then some (Value.int (0 + (i : Int)) ti) else mC1 y) = mA at hC1
    have hA : mA (Str.ofString "a") = some (.int (0 + (i : Int)) ti) := by rw [← hmA]; simp
    clear hmA
    obtain ⟨av, hav⟩ : ∃ av : Int, av = 0 + (i : Int) := ⟨_, rfl⟩
    have ha0 : 0 ≤ av := by omega
    have ha5 : av ≤ 5 := by omega
    rw [← hav] at hA
    refine comp_inner F1 rfl ?hs ?_
    case hs => intro _; rfl
    walk_at "go"
    rename_i hR1 F2 N2 up2
    clear up2
    refine RangeThen.intro (n := (5 - av).toNat) hR1 (range_up ha0 ha5).1 (range_up ha0 ha5).2 F2 N2 rfl ?_
    intro I1 h2 F2 N2 lI1
    have d1 : (@Ne Nat I1 C) ∧ (@Ne Nat I1 D) ∧ (@Ne Nat C D) := ⟨Nat.ne_of_gt (lI1 _ (.tail _ (.head _))), Nat.ne_of_gt (lI1 _ (.tail _ (.tail _ (.head _)))), dist.2.2⟩
    have dI : I ≠ I1 := Nat.ne_of_lt (lI1 _ (.head _))
    have N2' : News g0 L0 h2 ((I1, _) :: (C, oC1) :: (D, LCg.lst ys) :: (I, oI) :: (rs ++ news)) := cb_drop N2 (by
      intro p hp
      simp only [List.mem_cons] at hp ⊢
      rcases hp with h | h | h | h | h
      · exact .inl h
      · exact .inr (.inr (.inl h))
      · exact .inr (.inr (.inr (.inl h)))
      · exact .inr (.inl h)
      · exact .inr (.inr (.inr (.inr h))))
    refine comp_level (fun j mC ys n₁ => mC (Str.ofString "a") = some (.int av ti) ∧ ∃ rs, n₁ = (I, oI) :: (rs ++ news) ∧ TupsAt (tri0 i ++ tri1 av j) ys rs ∧ ∀ p ∈ rs ++ news, p.1 ≠ I) (compTurn_31' ..) rfl rfl rfl (N2 _ (.head _)).1 F2 hC1 N2' (LCg.Off3.of ?_) d1 ⟨hA, rs, rfl, (by rw [show tri1 av 0 = [] from rfl, List.append_nil]; exact hT), fun p hp => (off.mem p hp).1⟩ ?_ ?_
    · intro p hp
      rcases List.mem_cons.mp hp with rfl | hp
      · exact ⟨dI, dist.1, dist.2.1⟩
      · exact ⟨Nat.ne_of_lt (lI1 p (.tail _ (.tail _ (.tail _ hp)))), (off.mem p hp).2.1, (off.mem p hp).2.2⟩
    · intro j tj oI1 mC2 oC2 ys n₁ h3 tk3 E3 hj hJ11 hC2 F3 N3 off2
      refine hide ?_
      intro G9
      obtain ⟨hA2, rs, rfl, hT, hoI⟩ := hJ11
      (try k_unfold)
      generalize hmB : (fun y => if y = Str.ofString "b" then some (Value.int (av + 1 + (j : Int)) tj) else mC2 y) = mB at hC2
      have hB3 : mB (Str.ofString "b") = some (.int (av + 1 + (j : Int)) tj) := by rw [← hmB]; simp
      have hA3 : mB (Str.ofString "a") = some (.int av ti) := by rw [← hmB]; exact hA2
      clear hmB
      obtain ⟨bv, hbv⟩ : ∃ bv : Int, bv = av + 1 + (j : Int) := ⟨_, rfl⟩
      have hb0 : 0 ≤ bv := by omega
      have hb5 : bv ≤ 5 := by omega
      rw [← hbv] at hB3
      refine comp_inner F3 rfl ?hs3 ?_
      case hs3 => intro _; rfl
      walk_at "go"
      rename_i hR2 F4 N4 up4
      clear up4
      refine RangeThen.intro (n := (5 - bv).toNat) hR2 (range_up hb0 hb5).1 (range_up hb0 hb5).2 F4 N4 rfl ?_
      intro I2 h4 F4 N4 lI2
      have d2 : (@Ne Nat I2 C) ∧ (@Ne Nat I2 D) ∧ (@Ne Nat C D) := ⟨Nat.ne_of_gt (lI2 _ (.tail _ (.head _))), Nat.ne_of_gt (lI2 _ (.tail _ (.tail _ (.head _)))), dist.2.2⟩
      have dI2 : I1 ≠ I2 := Nat.ne_of_lt (lI2 _ (.head _))
      have N4' : News g0 L0 h4 ((I2, _) :: (C, oC2) :: (D, LCg.lst ys) :: (I1, oI1) :: (I, oI) :: (rs ++ news)) := cb_drop N4 (by
        intro p hp
        simp only [List.mem_cons] at hp ⊢
        rcases hp with h | h | h | h | h | h
        · exact .inl h
        · exact .inr (.inr (.inl h))
        · exact .inr (.inr (.inr (.inl h)))
        · exact .inr (.inl h)
        · exact .inr (.inr (.inr (.inr (.inl h))))
        · exact .inr (.inr (.inr (.inr (.inr h)))))
      refine comp_level (fun k mC ys n₁ => mC (Str.ofString "a") = some (.int av ti) ∧ mC (Str.ofString "b") = some (.int bv tj) ∧ ∃ rs, n₁ = (I1, oI1) :: (I, oI) :: (rs ++ news) ∧ TupsAt (tri0 i ++ tri1 av j ++ tri2 av bv k) ys rs ∧ (∀ p ∈ rs ++ news, p.1 ≠ I) ∧ (∀ p ∈ rs ++ news, p.1 ≠ I1)) (compTurn_32 ..) rfl rfl rfl (N4 _ (.head _)).1 F4 hC2 N4' (LCg.Off3.of ?_) d2 ⟨hA3, hB3, rs, rfl, (by rw [show tri2 av bv 0 = [] from rfl, List.append_nil]; exact hT), hoI, fun p hp => (off2.mem p (.tail _ hp)).1⟩ ?_ ?_
      · intro p hp
        rcases List.mem_cons.mp hp with rfl | hp
        · exact ⟨dI2, d1.1, d1.2.1⟩
        · exact ⟨Nat.ne_of_lt (lI2 p (.tail _ (.tail _ (.tail _ hp)))), (off2.mem p hp).2.1, (off2.mem p hp).2.2⟩
      · intro k tk2 oI2 mC3 oC3 ys n₁ h5 tk5 E5 hk3 hJ11 hC3 F5 N5 off3
        refine hide ?_
        intro G9
        obtain ⟨hA4, hB4, rs, rfl, hT, hoI, hoI1⟩ := hJ11
        (try k_unfold)
        generalize hmC : (fun y => if y = Str.ofString "c" then some (Value.int (bv + 1 + (k : Int)) tk2) else mC3 y) = mC at hC3
        have hC5 : mC (Str.ofString "c") = some (.int (bv + 1 + (k : Int)) tk2) := by rw [← hmC]; simp
        have hB5 : mC (Str.ofString "b") = some (.int bv tj) := by rw [← hmC]; exact hB4
        have hA5 : mC (Str.ofString "a") = some (.int av ti) := by rw [← hmC]; exact hA4
        clear hmC
        obtain ⟨T1, hT1⟩ : ∃ t, t = (I1, oI1) :: (I, oI) :: (rs ++ news) := ⟨_, rfl⟩
        rw [← hT1] at N5 off3
        refine wpAny_bind ?_
        walk_at "go"
        rename_i R7 h7 F7 N7 l7
        have hyl : ys.length ≤ 1000 := by
          rw [hT.len, List.length_append, List.length_append, tri2_len]
          have e1 := tri0_len i
          have e2 := tri1_len ha0 j
          omega
        have zI := N7 _ (.tail _ (.head _))
        have zC := N7 _ (.tail _ (.tail _ (.head _)))
        have zD := N7 _ (.tail _ (.tail _ (.tail _ (.head _))))
        have zR := N7 _ (.head _)
        refine wpAny_bind (append_at (hsz := by show ys.toArray.size ≤ sizeLine; rw [List.size_toArray, sizeLine_eq]; omega) zD.1 fun h8 hs8 hD8 => ?_)
        refine wpAny_pure ⟨h8, _, mC, oC3, ys ++ [.ref R7], (I1, oI1) :: (I, oI) :: ((rs ++ [(R7, tupO [.int av ti, .int bv tj, .int (bv + 1 + (k : Int)) tk2])]) ++ news), rfl, F7.change hs8 zD.2.1 zD.2.2, hC3, ?_, ?_, hA5, hB5, _, rfl, ?_, ?_, ?_⟩
        · intro p hp
          simp only [List.mem_cons, List.mem_append, List.mem_nil_iff, or_false] at hp
          have base : ∀ p, p ∈ T1 → h8.get? p.1 = some p.2 ∧ p.1 ≠ L0 ∧ g0.get? p.1 = none := fun p hp => by
            have z := N7 p (.tail _ (.tail _ (.tail _ (.tail _ hp))))
            exact ⟨hs8.extBut _ _ (off3.mem p hp).2.2 z.1, z.2⟩
          rcases hp with rfl | rfl | rfl | h | h | (h | h) | h
          · exact ⟨hs8.extBut _ _ d2.2.1 zI.1, zI.2⟩
          · exact ⟨hs8.extBut _ _ d2.2.2 zC.1, zC.2⟩
          · exact ⟨hD8.trans (congrArg some (LCg.lst_snoc ys _)), zD.2⟩
          · exact base p (by rw [hT1]; simp [h])
          · exact base p (by rw [hT1]; simp [h])
          · exact base p (by rw [hT1]; simp [h])
          · subst h; exact ⟨hs8.extBut _ _ (Nat.ne_of_gt l7.2.2.1) zR.1, zR.2⟩
          · exact base p (by rw [hT1]; simp [h])
        · refine LCg.Off3.of fun p hp => ?_
          simp only [List.mem_cons, List.mem_append, List.mem_nil_iff, or_false] at hp
          rcases hp with h | h | (h | h) | h
          · exact off3.mem p (by rw [hT1]; simp [h])
          · exact off3.mem p (by rw [hT1]; simp [h])
          · exact off3.mem p (by rw [hT1]; simp [h])
          · subst h; exact ⟨Nat.ne_of_gt l7.1, Nat.ne_of_gt l7.2.1, Nat.ne_of_gt l7.2.2.1⟩
          · exact off3.mem p (by rw [hT1]; simp [h])
        · rw [tri2_succ, ← List.append_assoc]
          exact hT.snoc
        · intro p hp
          simp only [List.mem_cons, List.mem_append, List.mem_nil_iff, or_false] at hp
          rcases hp with (h | h) | h
          · exact hoI p (List.mem_append_left _ h)
          · subst h; exact Nat.ne_of_gt (allLt_lt _ l7.2.2.2 (I, oI) (by rw [hT1]; simp))
          · exact hoI p (List.mem_append_right _ h)
        · intro p hp
          simp only [List.mem_cons, List.mem_append, List.mem_nil_iff, or_false] at hp
          rcases hp with (h | h) | h
          · exact hoI1 p (List.mem_append_left _ h)
          · subst h; exact Nat.ne_of_gt (allLt_lt _ l7.2.2.2 (I1, oI1) (by rw [hT1]; simp))
          · exact hoI1 p (List.mem_append_right _ h)
      · intro mC3 oC3 ys n₁ h5 tk5 hJ6 hC3 F5 N5 off3
        refine hide ?_
        intro G9
        obtain ⟨hA4, hB4, rs, rfl, hT, hoI, hoI1⟩ := hJ6
        (try k_unfold)
        (try dsimp only)
        refine ⟨h5, tk5, mC3, oC3, ys, (I, oI) :: (rs ++ news), rfl, F5, hC3, cb_drop N5 ?_, LCg.Off3.of ?_, hA4, rs, rfl, ?_, hoI⟩
        · intro p hp
          simp only [List.mem_cons] at hp ⊢
          rcases hp with h | h | h | h | h
          · exact .inr (.inr (.inl h))
          · exact .inl h
          · exact .inr (.inl h)
          · exact .inr (.inr (.inr (.inl h)))
          · exact .inr (.inr (.inr (.inr h)))
        · intro p hp
          have z := off3.mem p (.tail _ hp)
          rcases List.mem_cons.mp hp with rfl | hp
          · exact ⟨dI, dist.1, dist.2.1⟩
          · exact ⟨hoI1 p hp, z.2.1, z.2.2⟩
        · rw [List.append_assoc] at hT
          rw [tri1_succ, ← hbv]
          exact hT
    · intro mC2 oC2 ys n₁ h3 tk3 hJ6 hC2 F3 N3 off2
      refine hide ?_
      intro G9
      obtain ⟨hA2, rs, rfl, hT, hoI⟩ := hJ6
      (try k_unfold)
      (try dsimp only)
      refine ⟨h3, tk3, mC2, oC2, ys, rs ++ news, rfl, F3, hC2, cb_drop N3 ?_, LCg.Off3.of ?_, rs, rfl, ?_⟩
      · intro p hp
        simp only [List.mem_cons] at hp ⊢
        rcases hp with h | h | h | h
        · exact .inr (.inr (.inl h))
        · exact .inl h
        · exact .inr (.inl h)
        · exact .inr (.inr (.inr h))
      · intro p hp
        have z := off2.mem p (.tail _ hp)
        exact ⟨hoI p hp, z.2.1, z.2.2⟩
      · rw [tri0_succ, ← hav]
        exact hT
  · intro mC1 oC1 ys n₁ h1 tk1 hJ6 hC1 F1 N1 off
    refine hide ?_
    intro G9
    obtain ⟨rs, rfl, hT⟩ := hJ6
    (try k_unfold)
    (try dsimp only)
    refine ⟨h1, tk1, oC1, mC1, ys, rs ++ news, rfl, F1, hC1, N1, off, fun h'' F'' N'' => ?_⟩
    rw [tri0_riffs] at hT
    walk_at "go"
    rename_i kF kN _ _
    obtain ⟨e1, e2, e3⟩ := hT
    subst e1
    exact ret D rs _ _ _ kF kN (fun p hp => (off.mem p hp).2.2) e2 e3
end
end
section
example : True := by
  k_with_none
  w_top off
  trivial

example : True := by
  k_with "go" => ((repeat' (first | ((first | (with_reducible show wpAny _ _ (exec (Stmt.Assign _ _ _) _) _ _ _) | (with_reducible show wpAny _ _ (exec (Stmt.Expr _ _) _) _ _ _) | (with_reducible show wpAny _ _ (exec (Stmt.If _ _ _ _) _) _ _ _) | (with_reducible show wpAny _ _ (exec (Stmt.AugAssign _ _ _ _) _) _ _ _) | (with_reducible show wpAny _ _ (exec (Stmt.Return _ _) _) _ _ _) | (with_reducible show wpAny _ _ (eval (Expr.Call _ _ _ _) _) _ _ _)); k_fold) | ((fail_if_success (with_reducible show wpAny _ _ (exec (Stmt.For _ _ _ _ _) _) _ _ _)); (fail_if_success (with_reducible show wpAny _ _ (pyIter _) _ _ _)); (first | (k_unfold; (try dsimp only)) | (k_end; wrow_close) | walk1 | (dsimp only; walk1) | (leave1; walk_say "STEP leave1"; try dsimp only))))); (all_goals (repeat (first | clear ek | clear qk))))
  k_with "getMethod ref" => (k_here; (with_reducible show wpAny _ _ (getMethod (Value.ref _) (Str.ofString "items") _) _ _ _); k_dflt (refine' isD_items_m ?zzk1 ?zzk2 ?zzk3 ?_; (case zzk1 => k_asm); (case zzk2 => k_mem); (case zzk3 => with_reducible assumption); k_whole))
  k_with "call builtin:dict.items" => (k_here; (with_reducible show wpAny _ _ (call (Value.builtin "dict.items") [Value.ref _]) _ _ _); k_dflt (refine' isD_items ?zzk0 ?zzk1 ?zzk2 ?zzk3 ?zzk4 ?_; (case zzk0 => k_asm); (case zzk1 => k_asm); (case zzk2 => k_mem); (case zzk3 => with_reducible assumption); (case zzk4 => with_reducible assumption); k_whole); intro _ _ _ _ _; (try k_sweep))
  k_with "setItem ref int" => (k_here; (with_reducible show wpAny _ _ (setItem (Value.ref _) (Value.int _ _) (Value.int _ _)) _ _ _); k_dflt (refine' isD_set ?zzk0 ?zzk1 ?zzk2 ?zzk3 ?zzk4 ?_; (case zzk0 => k_asm); (case zzk1 => k_asm); (case zzk2 => k_updF); (case zzk3 => with_reducible assumption); (case zzk4 => omega); k_whole); intro _ _ _ _ _; (try k_sweep))
  k_with "compareOp In" => (k_here; (with_reducible show wpAny _ _ (compareOp CmpOp.In (Value.int _ _) (Value.ref _)) _ _ _); k_dflt (refine' isD_in ?zzk1 ?zzk2 ?zzk3 ?zzk4 ?_; (case zzk1 => k_asm); (case zzk2 => k_mem); (case zzk3 => with_reducible assumption); (case zzk4 => with_reducible assumption); k_whole))
  k_with "getItem ref int" => (k_here; (with_reducible show wpAny _ _ (getItem (Value.ref _) (Value.int _ _)) _ _ _); k_dflt (refine' isD_getItem ?zzk1 ?zzk2 ?zzk3 ?zzk4 ?zzk5 ?_; (case zzk1 => k_asm); (case zzk2 => k_mem); (case zzk3 => with_reducible assumption); (case zzk4 => with_reducible assumption); (case zzk5 => with_reducible assumption); k_whole); intro _)
  trivial
section
variable {w : World} {dp un : Nat} {gd : Option (List Code)} {cn : Str} {cs : Scope} {a : Addr} {ccd : Value} {cl : List (Str × Addr)} {outer : List Env} {A₀ : Around} {base h₀ : Heap} {L : Addr} {m : Str → Option Value} {news : List (Addr × Obj)} {s : Shared}
    {Q E : Value → Shared → Prop} {pT : Program} {lT : List Str} {mean : ExcName → Option Value} {mg mb : Str → Option Value}
/-- the matrix of falls, as it stands in a ledger -/
noncomputable def BehindAt (B : Int → Int → Bool) (news : List (Addr × Obj)) (vs : List Value) : Prop := ∀ x : Int, 0 ≤ x → x ≤ 5 → ∃ br row n, vs[x.toNat]? = some (.ref br) ∧ (br, listOf (List.toArray row) n) ∈ news ∧ ∀ y : Int, 0 ≤ y → y ≤ 5 → row[y.toNat]? = some (.bool (B x y))
example : True := by
  k_with "enterC" => (refine' code_defC ?zzk1 ?zzk2 ?zzk3 ?zzk4 ?zzk5 ?zzkA ?zzkF ?zzkK ?zzk6 ?zzk7 ?zzk8 ?zzk9 ?zzkB ?zzkD ?_ ?zzc2 ?zzc3 ?zzc4; (case zzkA => exact rfl); (case zzkF => exact rfl); (case zzkK => assumption); (case zzk1 => k_asm); (case zzk2 => k_asm); (case zzk3 => k_asm); (case zzk4 => k_asm); (case zzk5 => k_asm); (case zzk6 => k_is); (case zzk7 => k_is); (case zzk8 => (first | exact roomK (by assumption) rfl | ktr_room)); (case zzk9 => exact BindsTo.of_eq rfl); (case zzkB => exact rfl); (case zzkD => decide +kernel); (case zzc2 => exact rfl); (case zzc3 => exact rfl); (case zzc4 => exact rfl); k_whole; intro _ _ _ _ _ _ _ N' Y' B' _ _ _; k_cells Y'; (try simp only [List.cons_append, List.nil_append] at N'); (try dsimp only); (try k_lift B'); (try k_fold))
  k_with "call ref" => (k_here; (with_reducible show wpAny _ _ (call (Value.ref 131) _) _ _ _); k_dflt ((show wpAny _ _ (call (Value.ref 131) []) _ _ _); refine' riffles_spec ?zzk1 ?zzk2 ?zzk3 ?zzk4 ?zzk5 ?zzk6 ?zzk7 ?zzk8 ?_; (case zzk1 => k_asm); (case zzk2 => k_asm); (case zzk3 => k_asm); (case zzk4 => k_asm); (case zzk5 => k_asm); (case zzk6 => exact rfl); (case zzk7 => (first | exact roomK (by assumption) rfl | ktr_room)); (case zzk8 => (first | exact roomK (by assumption) rfl | ktr_units)); k_whole); intro _ _ _ _ _ _ _ _ _ _; (try dsimp only); (try k_sweep))
  trivial
theorem val_item {A : Around} {value slice : Expr} {l : Addr} {vs : List Value} {ln : Nat} {k : Int} {u : Tok} {v : Value} {Q : Value → Shared → Prop} (N : News h₀ L s.heap news) (hm : (l, listOf (List.toArray vs) ln) ∈ news) (h0 : 0 ≤ k) (h1 : k < 100) (hx : vs[k.toNat]? = some v) (h : Q v s)
    (hs : subscripted slice false (.ref l) (.int k u) = operate [.ref l, .int k u] (getItem (.ref l) (.int k u)) := by with_unfolding_all rfl) :
    wpAny (model PR w) A (subscriptTail value slice (.ref l) (.int k u)) Q E s :=
  have hl : s.heap.IsList l (List.toArray vs) := ⟨_, (N _ hm).1, rfl, _, rfl⟩
  tail_any hl.typeIs slot_list_getitem.lookup (wpAny_getItem_list hl h0 (by omega) (by simpa using hx) h) hs
theorem int_item {A : Around} {value slice : Expr} {l : Addr} {us : List Value} {ns : List Int} {ln : Nat} {k v : Int} {u : Tok} {Q : Value → Shared → Prop} (N : News h₀ L s.heap news) (hm : (l, listOf (List.toArray us) ln) ∈ news) (hi : IntsAre us ns) (h0 : 0 ≤ k) (h1 : k < 100) (hx : ns[k.toNat]? = some v) (h : ∀ t, Q (.int v t) s)
    (hs : subscripted slice false (.ref l) (.int k u) = operate [.ref l, .int k u] (getItem (.ref l) (.int k u)) := by with_unfolding_all rfl) :
    wpAny (model PR w) A (subscriptTail value slice (.ref l) (.int k u)) Q E s := by
  obtain ⟨t, ht⟩ := hi.get k.toNat v hx
  exact val_item N hm h0 h1 ht (h t) hs
theorem isD_made {d : Addr} {o : Obj} {g : Obj → List (Addr × Obj)} {k v : Int} {tk tv : Tok} {Q : Value → Shared → Prop} (F : Fr h₀ L s.heap m) (N : News h₀ L s.heap news) (U : UpdF d o news g) (hd : o.IsDictOf (PySem.intKind PR w) [])
    (h : ∀ h' o' tk', Fr h₀ L h' m → News h₀ L h' (g o') → IsD w o' [(k, v)] → Q (.ref d) { s with heap := h', toks := tk' }) : KdnMade PR w (PySem.intKind PR w) d Q [(.int k tk, .int v tv)] s :=
  kdn_made_intF F N U hd rfl (by show List.Nodup [k]; simp) rfl fun h' o' F' N' a b => h h' o' _ F' N' ⟨_, a, b⟩
example : True := by
  k_with "eval Dict" => (k_here; (with_reducible show wpAny _ _ (eval (Expr.Dict [some _] [_] _) _) _ _ _); k_dflt (refine' kdn_eval (knd := PySem.intKind PR _) ?zzF ?zzN ?zzb ?zza ?zzl ?zze ?zzn ?_; (case zzF => k_asm); (case zzN => k_asm); (case zzb => exact Top.nolimit (by k_asm)); (case zza => exact rfl); (case zzl => exact rfl); (case zze => exact List.cons_ne_nil _ _); (case zzn => exact Nat.le_of_ble_eq_true rfl)); intro _ _ _ _ _ _ _ _)
  k_with "KdnMade" => (k_here; k_dflt (refine' isD_made ?zzF ?zzN ?zzU ?zzd ?_; (case zzF => k_asm); (case zzN => k_asm); (case zzU => k_updF); (case zzd => with_reducible assumption); k_whole); intro _ _ _ _ N' _; (try dsimp only at N'); (try k_sweep))
  k_with "item" => (k_here; (with_reducible show wpAny _ _ (subscriptTail _ _ (Value.ref _) (Value.int _ _)) _ _ _); k_dflt (first | (refine' int_item ?zzk1 ?zzk2 ?zzk3 ?zzk4 ?zzk5 ?zzk6 ?_ ?zzk7; (case zzk1 => k_asm); (case zzk2 => k_mem); (case zzk3 => with_reducible assumption); (case zzk4 => with_reducible assumption); (case zzk5 => with_reducible assumption); (case zzk6 => with_reducible assumption); (case zzk7 => with_unfolding_all rfl); k_whole; intro _) | (refine' val_item ?zzk1 ?zzk2 ?zzk3 ?zzk4 ?zzk5 ?_ ?zzk6; (case zzk1 => k_asm); (case zzk2 => k_mem); (case zzk3 => with_reducible assumption); (case zzk4 => with_reducible assumption); (case zzk5 => with_reducible assumption); (case zzk6 => with_unfolding_all rfl); k_whole)))
  k_with "subscriptTail Name Name ref int" => walk_at "item"
  k_with "subscriptTail Name BinOp ref int" => walk_at "item"
  k_with "subscriptTail Name Subscript ref int" => walk_at "item"
  k_with "subscriptTail Subscript Subscript ref int" => walk_at "item"
  k_with "sub" => ((repeat (refine List.forall_mem_cons.mpr ⟨by k_mem, ?_⟩)); (intro _ hp9); (repeat (first | exact hp9 | refine List.mem_cons_of_mem _ ?_)))
  k_with "subscriptTail Name Name ref int" => (k_here; (with_reducible show wpAny _ _ (subscriptTail _ _ (Value.ref _) (Value.int _ _)) _ _ _); k_dflt (refine' tup_item ?zzk1 ?zzk2 ?zzk3 ?zzk4 ?zzk5 ?_ ?zzk6; (case zzk1 => k_asm); (case zzk2 => k_mem); (case zzk3 => with_reducible assumption); (case zzk4 => with_reducible assumption); (case zzk5 => with_reducible assumption); (case zzk6 => with_unfolding_all rfl); k_whole))
  k_with "call ref" => (k_here; (with_reducible show wpAny _ _ (call (Value.ref 112) [Value.ref _, Value.ref _]) _ _ _); k_dflt (refine' concat_ints ?zzk1 ?zzk2 ?zzk3 ?zzk4 ?zzk5 ?zzk6 ?zzk7 ?zzk8 ?zzx ?zzxi ?zzy ?zzyi ?zzlx ?zzly ?_; (case zzk1 => k_asm); (case zzk2 => k_asm); (case zzk3 => k_asm); (case zzk4 => k_asm); (case zzk5 => k_asm); (case zzk6 => exact rfl); (case zzk7 => (first | exact roomK (by assumption) rfl | ktr_room)); (case zzk8 => (first | exact roomK (by assumption) rfl | ktr_units)); (case zzx => k_mem); (case zzxi => first | with_reducible assumption | exact IntsAre.cons _ _ IntsAre.nil); (case zzy => k_mem); (case zzyi => first | with_reducible assumption | exact IntsAre.cons _ _ IntsAre.nil); (case zzlx => (simp only [List.length_append, List.length_cons, List.length_nil, List.length_take, List.length_drop]; omega)); (case zzly => (simp only [List.length_append, List.length_cons, List.length_nil, List.length_take, List.length_drop]; omega)); k_whole); intro _ _ _ _ _ _ l1 _; (try k_lt l1); (try dsimp only); (try k_sweep))
  k_with "call ref" => (k_here; (with_reducible show wpAny _ _ (call (Value.ref 105) [Value.int _ _, Value.int _ _]) _ _ _); k_dflt (refine' or__spec ?zzk1 ?zzk2 ?zzk3 ?zzk4 ?zzk5 ?zzk6 ?zzk7 ?zzk8  ?_; (case zzk1 => k_asm); (case zzk2 => k_asm); (case zzk3 => k_asm); (case zzk4 => k_asm); (case zzk5 => k_asm); (case zzk6 => exact rfl); (case zzk7 => (first | exact roomK (by assumption) rfl | ktr_room)); (case zzk8 => (first | exact roomK (by assumption) rfl | ktr_units)); k_whole); intro _ _ _ _ _; (try dsimp only); (try k_sweep))
  k_with "call ref" => (k_here; (with_reducible show wpAny _ _ (call (Value.ref 91) [Value.int _ _, Value.int _ _]) _ _ _); k_dflt (refine' lshift_spec ?zzk1 ?zzk2 ?zzk3 ?zzk4 ?zzk5 ?zzk6 ?zzk7 ?zzk8 ?zzx0 ?zzx1 ?zzx2 ?zzx3 ?_; (case zzk1 => k_asm); (case zzk2 => k_asm); (case zzk3 => k_asm); (case zzk4 => k_asm); (case zzk5 => k_asm); (case zzk6 => exact rfl); (case zzk7 => (first | exact roomK (by assumption) rfl | ktr_room)); (case zzk8 => (first | exact roomK (by assumption) rfl | ktr_units)); (case zzx0 => first | with_reducible assumption | omega); (case zzx1 => first | with_reducible assumption | omega); (case zzx2 => first | with_reducible assumption | omega); (case zzx3 => first | with_reducible assumption | omega); k_whole); intro _ _ _ _ _; (try dsimp only); (try k_sweep))
  k_with "call ref" => (k_here; (with_reducible show wpAny _ _ (call (Value.ref 98) [Value.int _ _, Value.int _ _]) _ _ _); k_dflt (refine' mul_spec ?zzk1 ?zzk2 ?zzk3 ?zzk4 ?zzk5 ?zzk6 ?zzk7 ?zzk8 ?zzx0 ?zzx1 ?zzx2 ?zzx3 ?_; (case zzk1 => k_asm); (case zzk2 => k_asm); (case zzk3 => k_asm); (case zzk4 => k_asm); (case zzk5 => k_asm); (case zzk6 => exact rfl); (case zzk7 => (first | exact roomK (by assumption) rfl | ktr_room)); (case zzk8 => (first | exact roomK (by assumption) rfl | ktr_units)); (case zzx0 => first | with_reducible assumption | omega); (case zzx1 => first | with_reducible assumption | omega); (case zzx2 => first | with_reducible assumption | omega); (case zzx3 => first | with_reducible assumption | omega); k_whole); intro _ _ _ _ _; (try dsimp only); (try k_sweep))
  k_with "call ref" => (k_here; (with_reducible show wpAny _ _ (call (Value.ref 56) [Value.ref _, Value.ref _]) _ _ _); k_dflt (refine' add_func_stats_spec ?zzk1 ?zzk2 ?zzk3 ?zzk4 ?zzk5 ?zzk6 ?zzk7 ?zzk8 ?zzx0 ?zzx1 ?zzx2 ?zzx3 ?zzx4 ?zzx5 ?zzx6 ?zzx7 ?zzx8 ?_; (case zzk1 => k_asm); (case zzk2 => k_asm); (case zzk3 => k_asm); (case zzk4 => k_asm); (case zzk5 => k_asm); (case zzk6 => exact rfl); (case zzk7 => (first | exact roomK (by assumption) rfl | ktr_room)); (case zzk8 => (first | exact roomK (by assumption) rfl | ktr_units)); (case zzx0 => k_mem); (case zzx1 => k_mem); (case zzx2 => k_mem); (case zzx3 => with_reducible assumption); (case zzx4 => with_reducible assumption); (case zzx5 => omega); (case zzx6 => k_mem); (case zzx7 => with_reducible assumption); (case zzx8 => with_reducible assumption); k_whole); intro _ _ _ _ _ _ _ _ _ _ _ _ _ _ _; (try dsimp only); (try k_sweep))
  trivial
theorem KeyOk.mono {news' : List (Addr × Obj)} {xs ys : List Value} {q : KeyR} (h : KeyOk w news xs ys q) (hs : ∀ p ∈ news, p ∈ news') : KeyOk w news' xs ys q := by
  obtain ⟨⟨t, u, hm⟩, r⟩ := h
  exact ⟨⟨t, u, hs _ hm⟩, r⟩
theorem keys_mono {n1 n2 n3 : List (Addr × Obj)} {xs ys : List Value} {ks : List KeyR} (h : ∀ q ∈ ks, KeyOk w n1 xs ys q) (hs : ∀ p ∈ n1, p ∈ n2) (ht : ∀ p ∈ n2, p ∈ n3) : ∀ q ∈ ks, KeyOk w n3 xs ys q := fun q hq => (h q hq).mono fun p hp => ht p (hs p hp)
theorem sub_cons {n1 n2 : List (Addr × Obj)} {q : Addr × Obj} (h : ∀ p ∈ n1, p ∈ n2) : ∀ p ∈ n1, p ∈ q :: n2 := fun p hp => .tail _ (h p hp)
example : True := by
  k_with "call ref" => (k_here; (with_reducible show wpAny _ _ (call (Value.ref 35) [Value.ref _, Value.ref _, Value.ref _]) _ _ _); k_dflt (refine' compare_spec ?zzk1 ?zzk2 ?zzk3 ?zzk4 ?zzk5 ?zzk6 ?zzk7 ?zzk8 ?zzx0 ?zzx1 ?zzx2 ?zzx3 ?zzx4 ?zzx5 ?_; (case zzk1 => k_asm); (case zzk2 => k_asm); (case zzk3 => k_asm); (case zzk4 => k_asm); (case zzk5 => k_asm); (case zzk6 => exact rfl); (case zzk7 => (first | exact roomK (by assumption) rfl | ktr_room)); (case zzk8 => (first | exact roomK (by assumption) rfl | ktr_units)); (case zzx0 => k_mem); (case zzx1 => k_mem); (case zzx3 => k_mem); (case zzx4 => k_mem); (case zzx5 => (refine keys_mono (by with_reducible assumption) (by with_reducible assumption) ?_; (repeat (first | exact fun p hp => hp | refine sub_cons ?_)))); (case zzx2 => k_mem); k_whole); intro _ _ _ _ _; (try dsimp only); (try k_sweep))
  k_with "call ref" => (k_here; (with_reducible show wpAny _ _ (call (Value.ref 84) [Value.int _ _, Value.int _ _]) _ _ _); k_dflt (refine' gt_spec ?zzk1 ?zzk2 ?zzk3 ?zzk4 ?zzk5 ?zzk6 ?zzk7 ?zzk8 ?_; (case zzk1 => k_asm); (case zzk2 => k_asm); (case zzk3 => k_asm); (case zzk4 => k_asm); (case zzk5 => k_asm); (case zzk6 => exact rfl); (case zzk7 => (first | exact roomK (by assumption) rfl | ktr_room)); (case zzk8 => (first | exact roomK (by assumption) rfl | ktr_units)); k_whole); intro _ _ _ _; (try dsimp only); (try k_sweep))
  k_with "call ref" => (k_here; (with_reducible show wpAny _ _ (call (Value.ref 77) [Value.int _ _, Value.int _ _]) _ _ _); k_dflt (refine' lt_spec ?zzk1 ?zzk2 ?zzk3 ?zzk4 ?zzk5 ?zzk6 ?zzk7 ?zzk8 ?_; (case zzk1 => k_asm); (case zzk2 => k_asm); (case zzk3 => k_asm); (case zzk4 => k_asm); (case zzk5 => k_asm); (case zzk6 => exact rfl); (case zzk7 => (first | exact roomK (by assumption) rfl | ktr_room)); (case zzk8 => (first | exact roomK (by assumption) rfl | ktr_units)); k_whole); intro _ _ _ _; (try dsimp only); (try k_sweep))
  trivial
theorem told_spec {Bf : Int → Int → Bool} {r j dj kl : Addr} {ras kas : List Addr} {cells : Nat → List Value} {keys : Nat → Nat → List KeyR} {rn nn n1 : Nat} {hh : Int} {tk1 : Tok} (B : Below A₀ base outer h₀) (F : Fr h₀ L s.heap m) (X : (hd.heap_39 w.params).In h₀) (N : News h₀ L s.heap news) (T : Top pT lT mean mg mb h₀) (hk : cs.kind = .function) (hdp : dp + 20 < recursionLimit) (hu : un + 100 < cLine)
    (hr : (r, listOf (ras.map Value.ref).toArray rn) ∈ news) (hra : ras.length = 6) (hrow : ∀ i ra, ras[i]? = some ra → (ra, tupO (cells i)) ∈ news)
    (hj : (j, instObj 38 dj) ∈ news) (hdj : (dj, dictOf [⟨hh, .str (Str.ofString "comp_select_list") tk1, .ref kl⟩] nn) ∈ news) (hkl : (kl, listOf (kas.map Value.ref).toArray n1) ∈ news)
    (hkas : ∀ a b, a < 6 → b < 6 → (keys a b).map (·.ka) = kas) (hkeys : ∀ a b, a < 6 → b < 6 → ∀ q ∈ keys a b, KeyOk w news (cells a) (cells b) q)
    (hBf : ∀ a b : Nat, a < 6 → b < 6 → Bf a b = (decide (0 < cmpRes (keys a b)) && decide (cmpRes (keys b a) < 0)))
    (ret : ∀ e d o t1 t2 t3 t4 h' tk', Fr h₀ L h' m → News h₀ L h' ((e, tupO [.int (toldRes Bf).cc t1, .int (toldRes Bf).nc t2, .int (toldRes Bf).tt t3, .int (toldRes Bf).ct t4, .ref d]) :: (d, o) :: news) → (∀ p ∈ news, p.1 < d) → d < e → (d == sysModules) = false → IsD w o (toldRes Bf).c → Q (.ref e) { s with heap := h', toks := tk' }) :
    wpAny (model PR w) (ktrTop dp un gd cn cs L a ccd cl outer) (call (.ref 136) [.ref r, .ref j]) Q E s := by
  refine wpAny_call ?_
  k_dflt walk_at "enterC"
  rename_i g0 L0 h1 tk0 FG F0 X0 T0 l0 oj or' dj' dr'
  have N0 := N'
  have N1 : News _ _ _ ((L0 + 1 + 1, oj) :: (L0 + 1, or') :: news) := N0
  refine let_A ?_
  intro A1
  walk_at "go"
  refine' Assign_ListComp_cell (lo := listOf (ras.map Value.ref).toArray rn) (its := ras.map Value.ref) (ln := rn) (ax := r) (fun i ys n₁ => ys.length = i ∧ ∃ bs, n₁ = bs ++ ((L0 + 1 + 1, oj) :: (L0 + 1, or') :: news) ∧ ∀ x, x < i → ∃ br row n, ys[x]? = some (.ref br) ∧ (br, listOf (List.toArray row) n) ∈ bs ∧ ∀ y, y < 6 → row[y]? = some (.bool (Bf (x : Int) (y : Int)))) rfl F0 N0 rfl ?hsw ?hclos ?hcell ?hpc rfl ?hnames ?hx ?hy ?hp ?hiter ?hm rfl rfl ?hsz ?hj ?turn ?done ?hs
  case hsw => with_unfolding_all rfl
  case hclos => with_unfolding_all rfl
  case hcell => intro k; rfl
  case hpc => intro h; rfl
  case hnames => decide
  case hx => rfl
  case hy => rfl
  case hp => rfl
  case hm => exact .tail _ (.tail _ hr)
  case hsz => rw [List.length_map, hra]; decide
  case hs => intro _; rfl
  case hj => exact ⟨rfl, [], rfl, fun x hx => absurd hx (Nat.not_lt_zero _)⟩
  case hiter => intro Q' hq; walk_at "go"; exact hq
  case turn =>
    intro i v I oI C oC K oK D ys n₁ h tk E' hv hJ15 hoK F1 N1 hof hrm hdist
    refine hide ?_
    intro G9
    obtain ⟨hyl, bs, rfl, hys⟩ := hJ15
    have hi6 : i < 6 := by
      have := (List.getElem?_eq_some_iff.mp hv).1
      rw [List.length_map, hra] at this; exact this
    rw [List.getElem?_map] at hv
    obtain ⟨ra, hra', rfl⟩ := Option.map_eq_some_iff.mp hv
    obtain ⟨T1, hT1⟩ : ∃ t, t = bs ++ ((L0 + 1 + 1, oj) :: (L0 + 1, or') :: news) := ⟨_, rfl⟩
    have hnT : ∀ p ∈ news, p ∈ T1 := fun p hp => by rw [hT1]; exact List.mem_append_right _ (.tail _ (.tail _ hp))
    have hjT : (L0 + 1 + 1, oj) ∈ T1 := by rw [hT1]; exact List.mem_append_right _ (.head _)
    have hrT : (L0 + 1, or') ∈ T1 := by rw [hT1]; exact List.mem_append_right _ (.tail _ (.head _))
    have hrlT := hnT _ hr
    rw [← hT1] at N1 hof
    (try k_unfold)
    (try dsimp only)
    refine' ListComp_inv (ax := r) (its := ras.map Value.ref) (ln := rn) (fun k zs n₂ => n₂ = (I, oI) :: (C, oC) :: (K, oK) :: (D, LCg.lst ys) :: T1 ∧ zs = (List.range k).map (fun y : Nat => Value.bool (Bf (i : Int) (y : Int)))) rfl F1 N1 ?hclos2 ?hcell2 rfl ?hnames2 ?hx2 ?hiter2 ?hm2 ?hsz2 ?hj2 ?turn2 ?done2 ?hs2
    case hclos2 => with_unfolding_all rfl
    case hcell2 => decide
    case hnames2 => decide
    case hx2 => rfl
    case hiter2 => intro Q' hq; walk_at "go"; exact hq
    case hm2 => exact .tail _ (.tail _ (.tail _ (.tail _ hrlT)))
    case hsz2 => rw [List.length_map, hra]; decide
    case hs2 => intro _; rfl
    case hj2 => exact ⟨rfl, rfl⟩
    case turn2 =>
      intro k v I2 oI2 C2 oC2 D2 m2 zs n₂ h2 tk2 E2 hv2 hJ14 hC2 hm2 F2 N2 hof2 hdist2
      refine hide ?_
      intro G9
      obtain ⟨rfl, rfl⟩ := hJ14
      have hk6 : k < 6 := by
        have := (List.getElem?_eq_some_iff.mp hv2).1
        rw [List.length_map, hra] at this; exact this
      rw [List.getElem?_map] at hv2
      obtain ⟨rb, hrb, rfl⟩ := Option.map_eq_some_iff.mp hv2
      have m1 := hnT _ (hrow _ _ hra')
      have m2 := hnT _ (hrow _ _ hrb)
      have m3 := hnT _ hj
      have m4 := hnT _ hdj
      have m5 : (kl, listOf ((keys i k).map fun q => Value.ref q.ka).toArray n1) ∈ T1 := by
        have := hnT _ hkl
        rw [← hkas i k hi6 hk6, List.map_map] at this
        exact this
      have m6 : (kl, listOf ((keys k i).map fun q => Value.ref q.ka).toArray n1) ∈ T1 := by
        have := hnT _ hkl
        rw [← hkas k i hk6 hi6, List.map_map] at this
        exact this
      have c1 := hkeys i k hi6 hk6
      have c2 := hkeys k i hk6 hi6
      (try k_unfold)
      (try dsimp only)
      have hBe := hBf i k hi6 hk6
      walk_at "go"
      · have hgt : 0 < cmpRes (keys i k) := by assumption
        rw [decide_eq_true hgt, Bool.true_and] at hBe
        rw [← hBe]
        refine LCg.CompEnd.intro (by k_asm) (by assumption) _ (fun p hp => hp) hof2 (Or.inr ⟨_, .tail _ (.tail _ (.tail _ (.tail _ hrlT))), rfl, _, rfl⟩) ⟨rfl, ?_⟩
        rw [List.range_succ, List.map_append]; rfl
      · have hgt : ¬ 0 < cmpRes (keys i k) := by assumption
        rw [show decide (0 < cmpRes (keys i k)) = Bf (i : Int) (k : Int) by rw [hBe, decide_eq_false hgt, Bool.false_and]]
        refine LCg.CompEnd.intro (by k_asm) (by assumption) _ (fun p hp => hp) hof2 (Or.inr ⟨_, .tail _ (.tail _ (.tail _ (.tail _ hrlT))), rfl, _, rfl⟩) ⟨rfl, ?_⟩
        rw [List.range_succ, List.map_append]; rfl
    case done2 =>
      intro D2 zs n₂ h2 tk2 hJ5 F2 N2 ho2
      refine hide ?_
      intro G9
      obtain ⟨rfl, rfl⟩ := hJ5
      (try k_unfold)
      (try dsimp only)
      refine CE.intro (news₂ := (D2, LCg.lst ((List.range (ras.map Value.ref).length).map (fun y : Nat => Value.bool (Bf (i : Int) (y : Int))))) :: T1) F2 N2 ⟨by rw [List.length_append, hyl]; rfl, (D2, _) :: bs, by rw [hT1]; rfl, ?_⟩ ?_ ?_ (.tail _ hrlT)
      · intro x hx
        rcases Nat.lt_succ_iff_lt_or_eq.mp hx with hx | rfl
        · obtain ⟨br, row, n, e1, e2, e3⟩ := hys x hx
          exact ⟨br, row, n, by rw [List.getElem?_append_left (by omega)]; exact e1, .tail _ e2, e3⟩
        · refine ⟨D2, _, _, by rw [List.getElem?_append_right (by omega), hyl, Nat.sub_self]; rfl, .head _, ?_⟩
          intro y hy
          rw [List.length_map, hra, List.getElem?_map, List.getElem?_range hy]; rfl
      · intro p hp
        simp only [List.mem_cons] at hp ⊢
        rcases hp with h | h | h | h | h | h <;> simp [h]
      · intro p hp
        rcases List.mem_cons.mp hp with rfl | hp
        · exact ⟨Ne.symm ho2.1, Ne.symm ho2.2.1, Ne.symm ho2.2.2.1, Ne.symm ho2.2.2.2.1⟩
        · exact hof p hp
  case done =>
    intro bh vs n₁ hB0 tkB hJ5 F1 N1 ho
    refine hide ?_
    intro G9
    obtain ⟨hvl, bs, rfl, hvs⟩ := hJ5
    (try k_unfold)
    (try dsimp only)
    have hB : BehindAt Bf bs vs := by
      intro x h0 h5
      obtain ⟨br, row, n, e1, e2, e3⟩ := hvs x.toNat (by rw [List.length_map, hra]; omega)
      refine ⟨br, row, n, e1, e2, fun y y0 y5 => ?_⟩
      have := e3 y.toNat (by omega)
      rw [show ((x.toNat : Nat) : Int) = x by omega, show ((y.toNat : Nat) : Int) = y by omega] at this
      exact this
    obtain ⟨n, hn⟩ : ∃ n, n = vs.length := ⟨_, rfl⟩
    replace N1 : News _ _ _ ((bh, listOf (List.toArray vs) n) :: (bs ++ news)) := cb_drop N1 (by
      intro p hp
      rcases List.mem_cons.mp hp with rfl | hp
      · rw [hn]; exact .head _
      · rcases List.mem_append.mp hp with hp | hp
        · exact .tail _ (List.mem_append_left _ hp)
        · exact .tail _ (List.mem_append_right _ (.tail _ (.tail _ hp))))
    have l2 : ∀ p ∈ bs ++ news, p.1 ≠ bh := fun p hp => ho p (by
      rcases List.mem_append.mp hp with hp | hp
      · exact List.mem_append_left _ hp
      · exact List.mem_append_right _ (.tail _ (.tail _ hp)))
    clear hvs ho hvl
    walk_at "go"
    refine For_turns (by k_asm) ?_
    walk_at "go"
    rename_i d0 _ o0 lo0 _ _ hi0 fi0 ld0 e0 _ le0 _ rr rs rn' _ _ F2 N2 lr hrl hR
    have hD0 : IsD w o0 (entK Bf 0).c := ⟨_, hi0, fi0⟩
    obtain ⟨tail, htail⟩ : ∃ t, t = (rr, listOf ((rs.map fun p => Value.ref p.1)).toArray rn') :: (bh, listOf (List.toArray vs) n) :: (rs ++ (bs ++ news)) := ⟨_, rfl⟩
    have hrr : (rr, listOf ((rs.map fun p => Value.ref p.1)).toArray rn') ∈ tail := by rw [htail]; exact .head _
    have hbh : (bh, listOf (List.toArray vs) n) ∈ tail := by rw [htail]; exact .tail _ (.head _)
    have hrs : ∀ p ∈ rs, p ∈ tail := fun p hp => by rw [htail]; exact .tail _ (.tail _ (List.mem_append_left _ hp))
    have hbs : ∀ p ∈ bs, p ∈ tail := fun p hp => by rw [htail]; exact .tail _ (.tail _ (List.mem_append_right _ (List.mem_append_left _ hp)))
    have hnt : ∀ p ∈ news, p ∈ tail := fun p hp => by rw [htail]; exact .tail _ (.tail _ (List.mem_append_right _ (List.mem_append_right _ hp)))
    have N3 : News _ _ _ ((e0, tupO [.int 0 tkB, .int 0 (tkB + 1), .int 0 (tkB + 1 + 1), .int 0 (tkB + 1 + 1 + 1), .ref d0]) :: (d0, o0) :: tail) := cb_drop N2 (by
      intro p hp
      rw [htail] at hp
      simp only [List.mem_cons, List.mem_append] at hp ⊢
      rcases hp with h | h | h | h | h | h | h <;> simp [h])
    have hi1 : ∀ i, i < 20 → ∃ r, riffs[i]? = some r := by intro i hi; exact ⟨_, List.getElem?_eq_getElem (by exact hi)⟩
    clear N2 lr
    refine list_loopA (fun i m₁ n₁ => (∃ e d o t1 t2 t3 t4, n₁ = (e, tupO [.int (entK Bf i).cc t1, .int (entK Bf i).nc t2, .int (entK Bf i).tt t3, .int (entK Bf i).ct t4, .ref d]) :: (d, o) :: tail ∧ IsD w o (entK Bf i).c ∧ (d == sysModules) = false ∧ m₁ (Str.ofString "entry") = some (.ref e) ∧ (∀ p ∈ news, p.1 < d) ∧ d < e) ∧ m₁ (Str.ofString "behind") = some (.ref bh)) rfl (by k_asm) N3 (.tail _ (.tail _ hrr)) rfl rfl ⟨⟨e0, d0, o0, _, _, _, _, rfl, hD0, lo0, rfl, (fun p hp => allLt_lt _ ld0.2 p (List.mem_append_right _ hp)), le0.1⟩, rfl⟩ ?_ ?_
    · intro R9 E9 S9 hP9 I i it v m₁ n₁ h tk hI hv hJ14 ho hit F₁ N₁ hR9
      refine hide ?_
      intro G9
      obtain ⟨⟨e, d, o, t1, t2, t3, t4, rfl, hDo, hlo, hm1, hnd, hde⟩, hm2⟩ := hJ14
      have hi20 : i < 20 := by
        have := (List.getElem?_eq_some_iff.mp hv).1
        rw [List.length_map, hrl] at this; exact this
      obtain ⟨r, hri⟩ := hi1 i hi20
      obtain ⟨ra, u1, u2, u3, hra⟩ := hR i r hri
      have hvv : v = .ref ra := by
        rw [List.getElem?_map, hra] at hv; exact (Option.some.inj hv).symm
      subst hvv
      have hram := hrs _ (List.mem_of_getElem? hra)
      obtain ⟨hr3, hrb, hl6, hlb⟩ := riff_facts r (List.mem_of_getElem? hri)
      replace F₁ := Fr.put (k := Str.ofString "entry") F₁ hm1
      replace F₁ := Fr.put (k := Str.ofString "behind") F₁ hm2
      (try k_unfold)
      (try dsimp only)
      walk_at "go"
      walk1
      walk_at "go"
      rename_i hR0 F3 N4 up0
      refine range_loopA (n := 3) (fun k m₁ n₁ => (∃ l us ln, n₁ = (l, listOf (List.toArray us) ln) :: (I, it) :: (e, tupO [.int (entK Bf i).cc t1, .int (entK Bf i).nc t2, .int (entK Bf i).tt t3, .int (entK Bf i).ct t4, .ref d]) :: (d, o) :: tail ∧ IntsAre us (lineK r k) ∧ m₁ (Str.ofString "line") = some (.ref l)) ∧ m₁ (Str.ofString "entry") = some (.ref e) ∧ m₁ (Str.ofString "behind") = some (.ref bh) ∧ m₁ (Str.ofString "riffle") = some (.ref ra)) rfl hR0 (by decide) (by decide) F3 N4 ⟨⟨_, _, _, rfl, IntsAre.cons _ _ (IntsAre.cons _ _ (IntsAre.cons _ _ IntsAre.nil)), rfl⟩, rfl, rfl, rfl⟩ ?_ ?_
      · intro R8 E8 S8 hP8 I2 k it2 m₂ n₂ tt h2 tk2 hI2 hk3 hJ14 ho2 F₂ N₂ hR8
        refine hide ?_
        intro G9
        obtain ⟨⟨l, us, ln, rfl, hus, hml⟩, hme, hmb, hmr⟩ := hJ14
        have hlk := lineK_len r k
        obtain ⟨uk, huk⟩ := three_items r u1 u2 u3 k hk3
        have hk0 : (0 : Int) ≤ 0 + (k : Int) := by omega
        have hk1 : (0 : Int) + (k : Int) < 100 := by omega
        obtain ⟨hb0, hb5⟩ := hrb k hk3
        replace F₂ := Fr.put (k := Str.ofString "line") F₂ hml
        replace F₂ := Fr.put (k := Str.ofString "riffle") F₂ hmr
        replace F₂ := Fr.put (k := Str.ofString "entry") F₂ hme
        replace F₂ := Fr.put (k := Str.ofString "behind") F₂ hmb
        (try k_unfold)
        (try dsimp only)
        walk_at "go"
        refine hR8 _ _ _ _ _ (by k_asm) (by k_asm) ⟨⟨_, _, _, rfl, (by
          have hz := ‹IntsAre _ ((List.take _ _ ++ [0 + (k : Int)]) ++ List.drop _ _)›
          rw [Int.zero_add] at hz
          exact hz), rfl⟩, rfl, rfl, rfl⟩ (by k_mem) (by walk_at "sub") (by exact List.forall_mem_cons.mpr ⟨by k_ne, fun p hp => ho2 p (.tail _ hp)⟩) keep0
      · intro m₂ n₂ h2 tk2 hJ4 F₂ N₂
        refine hide ?_
        intro G9
        obtain ⟨⟨l, us, ln, rfl, hus, hml⟩, hme, hmb, hmr⟩ := hJ4
        replace F₂ := Fr.put (k := Str.ofString "line") F₂ hml
        replace F₂ := Fr.put (k := Str.ofString "entry") F₂ hme
        replace F₂ := Fr.put (k := Str.ofString "behind") F₂ hmb
        (try k_unfold)
        change IntsAre us (lineOf r) at hus
        (try dsimp only)
        walk_at "go"
        walk1
        walk_at "go"
        rename_i hR1 F5 N5 up1
        refine range_loopA (n := 5) (fun g m₁ n₁ => n₁ = (l, listOf (List.toArray us) ln) :: (I, it) :: (e, tupO [.int (entK Bf i).cc t1, .int (entK Bf i).nc t2, .int (entK Bf i).tt t3, .int (entK Bf i).ct t4, .ref d]) :: (d, o) :: tail ∧ (∃ t, m₁ (Str.ofString "mask") = some (.int (gapK Bf (lineOf r) g).1 t)) ∧ (∃ t, m₁ (Str.ofString "falls") = some (.int (gapK Bf (lineOf r) g).2.1 t)) ∧ (∃ t, m₁ (Str.ofString "places") = some (.int (gapK Bf (lineOf r) g).2.2 t)) ∧ m₁ (Str.ofString "line") = some (.ref l) ∧ m₁ (Str.ofString "entry") = some (.ref e) ∧ m₁ (Str.ofString "behind") = some (.ref bh)) rfl hR1 (by decide) (by decide) F5 (cb_drop N5 (by walk_at "sub")) ⟨rfl, ⟨_, rfl⟩, ⟨_, rfl⟩, ⟨_, rfl⟩, rfl, rfl, rfl⟩ ?_ ?_
        · intro R8 E8 S8 hP8 I3 g it3 m₃ n₃ tt h3 tk3 hI3 hg5 hJ14 ho3 F₃ N₃ hR8
          refine hide ?_
          intro G9
          obtain ⟨rfl, ⟨tm, hmm⟩, ⟨tf, hmf⟩, ⟨tp, hmp⟩, hml, hme, hmb⟩ := hJ14
          obtain ⟨hg0, hg1, hn1, hg2, hg3, hn2⟩ := gap_items hl6 hg5
          obtain ⟨hx0, hx5⟩ := hlb g (by omega)
          obtain ⟨hy0, hy5⟩ := hlb (g + 1) (by omega)
          obtain ⟨br, row, rown, hbv, hbm, hrow⟩ := hB _ hx0 hx5
          have hyv := hrow _ hy0 hy5
          have hbm' := hbs _ hbm
          have hx6 : (lineOf r).getD g 0 < 100 := by omega
          have hy6 : (lineOf r).getD (g + 1) 0 < 100 := by omega
          replace F₃ := Fr.put (k := Str.ofString "mask") F₃ hmm
          replace F₃ := Fr.put (k := Str.ofString "falls") F₃ hmf
          replace F₃ := Fr.put (k := Str.ofString "places") F₃ hmp
          replace F₃ := Fr.put (k := Str.ofString "line") F₃ hml
          replace F₃ := Fr.put (k := Str.ofString "entry") F₃ hme
          replace F₃ := Fr.put (k := Str.ofString "behind") F₃ hmb
          (try k_unfold)
          (try dsimp only)
          walk_at "go"
          · have hgk := gapK_true (B := Bf) (l := lineOf r) (g := g) (by assumption)
            refine hR8 _ _ _ _ _ (by k_asm) (by k_asm) ⟨rfl, ⟨_, (by rw [hgk]; rfl)⟩, ⟨_, (by rw [hgk]; rfl)⟩, ⟨_, (by rw [hgk]; rfl)⟩, rfl, rfl, rfl⟩ (by k_mem) (by walk_at "sub") (by exact ho3) keep0
          · have hgk := gapK_false (B := Bf) (l := lineOf r) (g := g) (by assumption)
            refine hR8 _ _ _ _ _ (by k_asm) (by k_asm) ⟨rfl, ⟨_, (by rw [hgk]; rfl)⟩, ⟨_, (by rw [hgk]; rfl)⟩, ⟨_, (by rw [hgk]; rfl)⟩, rfl, rfl, rfl⟩ (by k_mem) (by walk_at "sub") (by exact ho3) keep0
        · intro m₃ n₃ h3 tk3 hJ4 F₃ N₃
          refine hide ?_
          intro G9
          obtain ⟨rfl, ⟨tm, hmm⟩, ⟨tf, hmf⟩, ⟨tp, hmp⟩, hml, hme, hmb⟩ := hJ4
          have hbd := gapK_bd Bf (lineOf r) 5
          have hp0 : 0 ≤ (gapK Bf (lineOf r) 5).2.2 := hbd.1
          have hp1 : (gapK Bf (lineOf r) 5).2.2 < 100 := by have := hbd.2; omega
          have hcl : (entK Bf i).c.length ≤ 1000 := by have := entK_len Bf i; omega
          replace F₃ := Fr.put (k := Str.ofString "mask") F₃ hmm
          replace F₃ := Fr.put (k := Str.ofString "falls") F₃ hmf
          replace F₃ := Fr.put (k := Str.ofString "places") F₃ hmp
          replace F₃ := Fr.put (k := Str.ofString "entry") F₃ hme
          replace F₃ := Fr.put (k := Str.ofString "behind") F₃ hmb
          (try k_unfold)
          (try dsimp only)
          walk_at "go"
          rename_i l1 l2 lo9 hD9 h9 F9 N9
          have hes := entK_succ (B := Bf) hri
          have hI9 := l1 (I, it) (by k_mem)
          (try dsimp only at hR9)
          rw [hes] at hR9
          refine hR9 _ _ _ _ _ F9 N9 ⟨⟨_, _, _, _, _, _, _, rfl, hD9, lo9, rfl, (fun p hp => l1 p (by (repeat (refine List.mem_cons_of_mem _ ?_)); exact hnt p hp)), l2⟩, rfl⟩ (by k_mem) (by walk_at "sub") (by exact List.forall_mem_cons.mpr ⟨Nat.ne_of_gt (Nat.lt_trans hI9 l2), List.forall_mem_cons.mpr ⟨Nat.ne_of_gt hI9, fun p hp => ho p (.tail _ (.tail _ hp))⟩⟩) (keep1 (.tail _ (.tail _ hrr)))
    · intro m₁ n₁ h tk hJ4 F₁ N₁
      refine hide ?_
      intro G9
      obtain ⟨⟨e, d, o, t1, t2, t3, t4, rfl, hDo, hlo, hm1, hnd, hde⟩, hm2⟩ := hJ4
      have hlen : (rs.map fun p => Value.ref p.1).length = riffs.length := by rw [List.length_map, hrl]; rfl
      rw [hlen] at N₁ hDo
      replace F₁ := Fr.put (k := Str.ofString "entry") F₁ hm1
      (try k_unfold)
      (try dsimp only)
      walk_at "go"
      exact ret e d o t1 t2 t3 t4 _ _ (by k_asm) (cb_drop (by assumption) (List.forall_mem_cons.mpr ⟨.head _, List.forall_mem_cons.mpr ⟨.tail _ (.head _), fun p hp => .tail _ (.tail _ (hnt p hp))⟩⟩)) hnd hde hlo hDo
end
end
section
example : True := by
  k_with_none
  w_top off
  trivial

example : True := by
  k_with "go" => ((repeat' (first | ((first | (with_reducible show wpAny _ _ (exec (Stmt.Assign _ _ _) _) _ _ _) | (with_reducible show wpAny _ _ (exec (Stmt.Expr _ _) _) _ _ _) | (with_reducible show wpAny _ _ (exec (Stmt.If _ _ _ _) _) _ _ _) | (with_reducible show wpAny _ _ (exec (Stmt.AugAssign _ _ _ _) _) _ _ _) | (with_reducible show wpAny _ _ (exec (Stmt.Return _ _) _) _ _ _) | (with_reducible show wpAny _ _ (eval (Expr.Call _ _ _ _) _) _ _ _)); k_fold) | ((fail_if_success (with_reducible show wpAny _ _ (exec (Stmt.For _ _ _ _ _) _) _ _ _)); (fail_if_success (with_reducible show wpAny _ _ (pyIter _) _ _ _)); (first | (k_unfold; (try dsimp only)) | (k_end; wrow_close) | walk1 | (dsimp only; walk1) | (leave1; walk_say "STEP leave1"; try dsimp only))))); (all_goals (repeat (first | clear ek | clear qk))))
  k_with "getMethod ref" => (k_here; (with_reducible show wpAny _ _ (getMethod (Value.ref _) (Str.ofString "items") _) _ _ _); k_dflt (refine' isD_items_m ?zzk1 ?zzk2 ?zzk3 ?_; (case zzk1 => k_asm); (case zzk2 => k_mem); (case zzk3 => with_reducible assumption); k_whole))
  k_with "call builtin:dict.items" => (k_here; (with_reducible show wpAny _ _ (call (Value.builtin "dict.items") [Value.ref _]) _ _ _); k_dflt (refine' isD_items ?zzk0 ?zzk1 ?zzk2 ?zzk3 ?zzk4 ?_; (case zzk0 => k_asm); (case zzk1 => k_asm); (case zzk2 => k_mem); (case zzk3 => with_reducible assumption); (case zzk4 => with_reducible assumption); k_whole); intro _ _ _ _ _; (try k_sweep))
  k_with "setItem ref int" => (k_here; (with_reducible show wpAny _ _ (setItem (Value.ref _) (Value.int _ _) (Value.int _ _)) _ _ _); k_dflt (refine' isD_set ?zzk0 ?zzk1 ?zzk2 ?zzk3 ?zzk4 ?_; (case zzk0 => k_asm); (case zzk1 => k_asm); (case zzk2 => k_updF); (case zzk3 => with_reducible assumption); (case zzk4 => omega); k_whole); intro _ _ _ _ _; (try k_sweep))
  k_with "compareOp In" => (k_here; (with_reducible show wpAny _ _ (compareOp CmpOp.In (Value.int _ _) (Value.ref _)) _ _ _); k_dflt (refine' isD_in ?zzk1 ?zzk2 ?zzk3 ?zzk4 ?_; (case zzk1 => k_asm); (case zzk2 => k_mem); (case zzk3 => with_reducible assumption); (case zzk4 => with_reducible assumption); k_whole))
  k_with "getItem ref int" => (k_here; (with_reducible show wpAny _ _ (getItem (Value.ref _) (Value.int _ _)) _ _ _); k_dflt (refine' isD_getItem ?zzk1 ?zzk2 ?zzk3 ?zzk4 ?zzk5 ?_; (case zzk1 => k_asm); (case zzk2 => k_mem); (case zzk3 => with_reducible assumption); (case zzk4 => with_reducible assumption); (case zzk5 => with_reducible assumption); k_whole); intro _)
  trivial
/-! ## sorted by a key: the very order that comes, as the sort's own decision tree tells it -/
section
variable {α : Type}
/-- the tree's end when its questions are answered by lt -/
noncomputable def kasRun (lt : Nat → Nat → Bool) : KasT α → α
  | .ret a => a
  | .ask i j k => kasRun lt (k (lt i j))
/-- all questions lie below n -/
noncomputable def kasIn (n : Nat) : KasT α → Bool
  | .ret _ => true
  | .ask i j k => Nat.blt i n && Nat.blt j n && kasIn n (k true) && kasIn n (k false)
theorem kas_pure {cmp : Nat → Nat → (Bool → Shared → Prop) → Shared → Prop} {lt : Nat → Nat → Bool} {n : Nat} {Q : α → Shared → Prop} (hc : ∀ i j C s, i < n → j < n → C (lt i j) s → cmp i j C s) :
    ∀ (t : KasT α) (s : Shared), kasIn n t = true → Q (kasRun lt t) s → t.kasWp cmp Q s
  | .ret _, _, _, h => h
  | .ask i j k, s, hi, h => by
    simp only [kasIn, Bool.and_eq_true, Nat.blt_eq] at hi
    refine hc i j _ s hi.1.1.1 hi.1.1.2 (kas_pure hc (k (lt i j)) s ?_ h)
    cases lt i j
    · exact hi.2
    · exact hi.1.2
end
noncomputable def skOut (b : Bool) (lt : Nat → Nat → Bool) (vs : List Value) : List Value :=
  let out := (kasRun lt (kas_sort vs.length)).toList.map fun i => (if b then vs.reverse else vs).getD i Value.none
  if b then out.reverse else out
noncomputable def SkEnd (h₀ : Heap) (L : Addr) (m : Str → Option Value) (need : List (Addr × Obj)) (k : Value) (s₁ : Shared) (v : Value) (s₂ : Shared) : Prop :=
  ∃ h' tk, s₂ = { s₁ with heap := h', toks := tk } ∧ v = k ∧ Fr h₀ L h' m ∧ News h₀ L h' need
theorem SkEnd.intro {h₀ h' : Heap} {L : Addr} {m : Str → Option Value} {need news' : List (Addr × Obj)} {k : Value} {s₁ : Shared} {tk : Nat} (F : Fr h₀ L h' m) (N : News h₀ L h' news') (hn : ∀ p ∈ need, p ∈ news') :
    SkEnd h₀ L m need k s₁ k { s₁ with heap := h', toks := tk } := ⟨h', tk, rfl, rfl, F, fun p hp => N p (hn p hp)⟩
/-- the sort's own comparison of two keys answers r and changes nothing -/
noncomputable def KeyLtIs (prog : Program) (w : World) (u v : Value) (r : Bool) : Prop := ∀ (A : Around) (Q : Bool → Shared → Prop) (E : Value → Shared → Prop) (s : Shared), Q r s → wpAny (model prog w) A (keyLt' oneType' u v) Q E s
theorem zip_getD : ∀ (xs ys : List Value), xs.length = ys.length → ∀ i, (xs.zip ys).getD i (Value.none, Value.none) = (xs.getD i Value.none, ys.getD i Value.none) := by
  intro xs
  induction xs with
  | nil => intro ys h i; cases ys with
    | nil => simp
    | cons y ys => simp at h
  | cons x xs ih =>
    intro ys h i
    cases ys with
    | nil => simp at h
    | cons y ys =>
      cases i with
      | zero => rfl
      | succ i =>
        have := ih ys (by simpa using h) i
        simpa using this
theorem zip_rev : ∀ (xs ys : List Value), xs.length = ys.length → (xs.zip ys).reverse = xs.reverse.zip ys.reverse := by
  intro xs
  induction xs with
  | nil => intro ys h; simp
  | cons x xs ih =>
    intro ys h
    cases ys with
    | nil => simp at h
    | cons y ys =>
      have h' : xs.length = ys.length := by simpa using h
      rw [List.zip_cons_cons, List.reverse_cons, List.reverse_cons, List.reverse_cons, ih ys h', List.zip_append (by simpa using h')]
      rfl
theorem sk_item {keys : Array Value} {vs : List Value} {b : Bool} (hl : keys.toList.length = vs.length) (i : Nat) :
    kas_item (if b then (keys.zip vs.toArray).reverse else keys.zip vs.toArray) i = ((if b then keys.toList.reverse else keys.toList).getD i Value.none, (if b then vs.reverse else vs).getD i Value.none) := by
  have ha : ∀ (it : Array Keyed), kas_item it i = it.toList.getD i (Value.none, Value.none) := by
    intro it
    by_cases h : i < it.size
    · simp [kas_item, Array.getD, List.getD, h]
    · simp [kas_item, Array.getD, List.getD, h]
  rw [ha]
  cases b with
  | false =>
    simp only [Bool.false_eq_true, if_false]
    rw [ksk_zip]
    exact zip_getD _ _ hl i
  | true =>
    simp only [if_true]
    rw [Array.toList_reverse, ksk_zip, zip_rev _ _ hl]
    exact zip_getD _ _ (by simpa using hl) i
section
variable {prog : Program} {w : World} {A : Around} {E : Value → Shared → Prop} {s : Shared} {h₀ : Heap} {L : Addr} {m : Str → Option Value} {news : List (Addr × Obj)} {a kS : Addr} {b : Bool} {vs kv : List Value} {keys : Array Value} {e e1 : Nat} {P : PySem.Fin → Shared → Prop} {T : Value} {lt : Nat → Nat → Bool}
theorem sk_tail {st : SortSt} (F : Fr h₀ L s.heap m) (N : News h₀ L s.heap (news ++ [(kS, seqObj "list" keys e), (a, seqObj "list" #[] e1)])) (hka : kS ≠ a) (hnk : ∀ p ∈ news, p.1 ≠ kS) (hna : ∀ p ∈ news, p.1 ≠ a)
    (hsz : keys.size ≤ 64) (hfl : failedOf st = none) {out : List Value} (ho : (if b then ((arrOf st).map (·.2)).reverse else (arrOf st).map (·.2)) = out.toArray) (hol : out.length ≤ 64)
    (h : ∀ h' tk c, Fr h₀ L h' m → News h₀ L h' ((a, seqObj "list" out.toArray c) :: news) → P (.done (.ret .none)) { s with heap := h', toks := tk }) :
    wpAny (model prog w) A (ksk_tail a b e1 (.ref kS) st) P E s := by
  have nk := N (kS, seqObj "list" keys e) (List.mem_append_right _ (.head _))
  have na := N (a, seqObj "list" #[] e1) (List.mem_append_right _ (.tail _ (.head _)))
  have Nn : News h₀ L s.heap news := fun p hp => N p (List.mem_append_left _ hp)
  have s1 := Heap.SameBut.update s.heap kS (Obj.mapSeq fun _ => (#[] : Array Value))
  have na1 : (s.heap.update kS (Obj.mapSeq fun _ => (#[] : Array Value))).get? a = some (seqObj "list" #[] e1) := (s1.2 a hka.symm).trans na.1
  have s2 := Heap.SameBut.update (s.heap.update kS (Obj.mapSeq fun _ => (#[] : Array Value))) a (Obj.mapSeq fun _ => out.toArray)
  obtain ⟨c2, hc2⟩ : ∃ c2, ((s.heap.update kS (Obj.mapSeq fun _ => (#[] : Array Value))).update a (Obj.mapSeq fun _ => out.toArray)).get? a = some (seqObj "list" out.toArray c2) := ⟨_, get?_update_seq na1 fun _ => out.toArray⟩
  have N2 := ksk_news (ksk_news Nn s1 hnk) s2 hna
  unfold ksk_tail
  try dsimp only
  refine wpAny_bind (listUpdate_at nk.1 rfl ?_ (by rw [sizeLine_eq]; omega) (Nat.zero_le _))
  refine wpAny_bind (wpAny_letGo ?_)
  refine wpAny_bind (seqEpoch_at na1 rfl ?_)
  rw [ho]
  refine wpAny_bind (listUpdate_at na1 rfl ?_ (Nat.zero_le _) (by rw [List.size_toArray, sizeLine_eq]; omega))
  rw [hfl]
  simp only [bne_self_eq_false, Bool.false_eq_true, if_false]
  refine wpAny_pure (h _ _ c2 (ksk_fr (ksk_fr F s1 nk.2.1 nk.2.2) s2 na.2.1 na.2.2) fun p hp => ?_)
  rcases List.mem_cons.mp hp with rfl | hp
  · exact ⟨hc2, na.2⟩
  · exact N2 p hp
theorem sk_end (F : Fr h₀ L s.heap m) (N : News h₀ L s.heap (news ++ [(kS, seqObj "list" keys e), (a, seqObj "list" #[] e1)])) (hka : kS ≠ a) (hnk : ∀ p ∈ news, p.1 ≠ kS) (hna : ∀ p ∈ news, p.1 ≠ a)
    (hkv : keys = kv.toArray) (hlen : kv.length = vs.length) (h2 : 2 ≤ vs.length) (h64 : vs.length < 64) (hT : ∀ v ∈ kv, ∀ h, Looks (model prog w) h (typeOf v) T) (hT1 : (T != Value.type "tuple") = true) (hT2 : (T == T) = true)
    (hin : kasIn vs.length (kas_sort vs.length) = true) (hlt : ∀ i j, i < vs.length → j < vs.length → KeyLtIs prog w ((if b then kv.reverse else kv).getD i Value.none) ((if b then kv.reverse else kv).getD j Value.none) (lt i j))
    (hol : (skOut b lt vs).length ≤ 64)
    (h : ∀ h' tk c, Fr h₀ L h' m → News h₀ L h' ((a, seqObj "list" (skOut b lt vs).toArray c) :: news) → P (.done (.ret .none)) { s with heap := h', toks := tk }) :
    wpAny (model prog w) A (ksk_end a b vs.toArray e1 (.ref kS) keys) P E s := by
  have hkl : keys.toList = kv := by rw [hkv]
  have hsz : keys.size = vs.length := by rw [hkv, List.size_toArray, hlen]
  have step : ∀ t : Sem PySem.Fin, wpAny (model prog w) A t P E s → wpAny (model prog w) A (if b = true then (do let _ ← rule "list.sort.reverse"; t) else t) P E s := by
    intro t ht
    split
    · exact wpAny_bind (wpAny_rule ht)
    · exact ht
  unfold ksk_end
  try dsimp only
  refine step _ ?_
  have h2' : ¬ vs.toArray.size < 2 := by rw [List.size_toArray]; omega
  rw [if_neg h2', if_neg h2']
  refine wpAny_bind ?_
  rw [hkv]
  refine kas_kind (by omega) (fun v hv => hT v hv _) hT1 hT2 ?_
  have hit : (if b = true then (kv.toArray.zip vs.toArray).reverse else kv.toArray.zip vs.toArray).size = vs.length := by
    have : (kv.toArray.zip vs.toArray).size = vs.length := by rw [Array.size_zip, List.size_toArray, List.size_toArray, hlen, Nat.min_self]
    cases b
    · simpa using this
    · simpa using this
  have est : SortSt.mk' oneType' (if b = true then (kv.toArray.zip vs.toArray).reverse else kv.toArray.zip vs.toArray) #[] 7 none = kas_st oneType' (if b = true then (kv.toArray.zip vs.toArray).reverse else kv.toArray.zip vs.toArray) (List.toArray (List.range vs.length)) := by
    have e := kas_range (if b = true then (kv.toArray.zip vs.toArray).reverse else kv.toArray.zip vs.toArray)
    rw [hit] at e
    show _ = SortSt.mk' oneType' ((List.toArray (List.range vs.length)).map (kas_item _)) #[] 7 none
    rw [e]
  have run := kas_runs (prog := prog) (w := w) (A := A) (κ := oneType') (it := (if b = true then (kv.toArray.zip vs.toArray).reverse else kv.toArray.zip vs.toArray)) (E := E) (s := s)
    (Q := fun _ st' s' => s' = s ∧ arrOf st' = (kasRun lt (kas_sort vs.length)).map (kas_item (if b = true then (kv.toArray.zip vs.toArray).reverse else kv.toArray.zip vs.toArray)) ∧ failedOf st' = none) (G := fun p s' => s' = s ∧ p = kasRun lt (kas_sort vs.length))
    h2 h64 (fun p' st' s' a1 a2 a3 a4 => ⟨a4.1, by rw [← a4.2]; exact a2, a3⟩)
    (kas_pure (n := vs.length) (lt := lt) (fun i j C s' hi hj hC => by
      unfold kas_cmp
      rw [sk_item (by simpa using hlen), sk_item (by simpa using hlen)]
      exact hlt i j hi hj _ _ _ _ hC) _ _ hin ⟨rfl, rfl⟩)
  rw [est]
  refine wpAny_bind (wpAny_mono run ?_ fun _ _ e => e)
  rintro ⟨⟨⟩, st'⟩ s' ⟨rfl, har, hf⟩
  try dsimp only
  refine sk_tail F N hka hnk hna (by omega) hf (out := skOut b lt vs) ?_ hol h
  have e1 : (arrOf st').map (·.2) = (((kasRun lt (kas_sort vs.length)).toList.map fun i => (if b then vs.reverse else vs).getD i Value.none)).toArray := by
    apply Array.toList_inj.mp
    rw [har, Array.map_map, Array.toList_map]
    refine List.map_congr_left fun i _ => ?_
    show (kas_item _ i).2 = _
    rw [sk_item (by simpa using hlen)]
  rw [e1]
  unfold skOut
  cases b
  · rfl
  · simp
end
section
variable {prog : Program} {w : World} {A : Around} {E : Value → Shared → Prop} {s : Shared} {h₀ : Heap} {L : Addr} {m : Str → Option Value} {news : List (Addr × Obj)} {a kS : Addr} {b : Bool} {vs kv : List Value} {keys : Array Value} {e e1 : Nat} {P : PySem.Fin → Shared → Prop} {T : Value} {lt : Nat → Nat → Bool}
/-- what the sort's end asks of the keys -/
structure SkAsk (prog : Program) (w : World) (b : Bool) (kv vs : List Value) (T : Value) (lt : Nat → Nat → Bool) : Prop where
  len : kv.length = vs.length
  two : 2 ≤ vs.length
  lid : vs.length < 64
  typ : ∀ v ∈ kv, ∀ h, Looks (model prog w) h (typeOf v) T
  ntup : (T != Value.type "tuple") = true
  slf : (T == T) = true
  inn : kasIn vs.length (kas_sort vs.length) = true
  ask : ∀ i j, i < vs.length → j < vs.length → KeyLtIs prog w ((if b then kv.reverse else kv).getD i Value.none) ((if b then kv.reverse else kv).getD j Value.none) (lt i j)
  out : (skOut b lt vs).length ≤ 64
theorem sk_rest {f : Value} (F : Fr h₀ L s.heap m) (N : News h₀ L s.heap (news ++ [(kS, seqObj "list" #[] 0), (a, seqObj "list" #[] e1)])) (hka : kS ≠ a) (hnk : ∀ p ∈ news, p.1 ≠ kS) (hna : ∀ p ∈ news, p.1 ≠ a)
    (K : SkAsk prog w b kv vs T lt)
    (turn : ∀ (i : Nat) (v : Value) (k : Value), vs[i]? = some v → kv[i]? = some k → ∀ (h : Heap) (tk : Nat) (own : List (Addr × Obj)), Fr h₀ L h m → News h₀ L h (news ++ own) →
      wpAny (model prog w) A (call f [v]) (SkEnd h₀ L m (news ++ own) k { s with heap := h, toks := tk }) (fun _ _ => False) { s with heap := h, toks := tk })
    (h : ∀ h' tk c, Fr h₀ L h' m → News h₀ L h' ((a, seqObj "list" (skOut b lt vs).toArray c) :: news) → P (.done (.ret .none)) { s with heap := h', toks := tk }) :
    wpAny (model prog w) A (ksk_rest a f b vs.toArray e1 (.ref kS)) P E s := by
  have hlen := K.len
  have h64 := K.lid
  unfold ksk_rest
  refine wpAny_bind (wpAny_rule ?_)
  first
    | rw [List.forIn_toArray]
    | (rw [← Array.forIn_toList]; simp only [List.toList_toArray])
    | rw [← Array.forIn_toList]
  refine wpAny_bind (ksk_fold (fun i s' => ∃ h' tk kA e, s' = { s with heap := h', toks := tk } ∧ Fr h₀ L h' m ∧ News h₀ L h' (news ++ [(kS, seqObj "list" kA e), (a, seqObj "list" #[] e1)]) ∧ kA.toList = kv.take i) vs 0 s
    ⟨s.heap, s.toks, #[], 0, rfl, F, N, by simp⟩ ?step ?done)
  case step =>
    rintro j x s' hx ⟨h', tk, kA, e, rfl, F', N', hk⟩
    simp only [Nat.zero_add] at hk ⊢
    have hj : j < vs.length := (List.getElem?_eq_some_iff.mp hx).1
    obtain ⟨k, hkj⟩ : ∃ k, kv[j]? = some k := ⟨_, List.getElem?_eq_getElem (by omega)⟩
    have hz : kA.size ≤ vs.length := by
      have h1 := congrArg List.length hk
      rw [Array.length_toList, List.length_take] at h1
      omega
    refine wpAny_bind (wpAny_attempt (wpAny_mono (turn j x k hx hkj h' tk _ F' N') (fun v s'' he => ?_) fun _ _ hF => hF.elim))
    obtain ⟨g, tk2, rfl, rfl, F2, N2⟩ := he
    try dsimp only
    have nk := N2 (kS, seqObj "list" kA e) (List.mem_append_right _ (.head _))
    have na := N2 (a, seqObj "list" #[] e1) (List.mem_append_right _ (.tail _ (.head _)))
    have s1 := Heap.SameBut.update g kS (Obj.mapSeq (·.push v))
    obtain ⟨c2, hc2⟩ : ∃ c2, (g.update kS (Obj.mapSeq (·.push v))).get? kS = some (seqObj "list" (kA.push v) c2) := ⟨_, get?_update_seq nk.1 (·.push v)⟩
    have ek : kv.take (j + 1) = kv.take j ++ [v] := by rw [List.take_add_one, hkj]; simp
    have ea : (kA.push v).toList = kA.toList ++ [v] := by simp
    refine wpAny_bind (listUpdate_at nk.1 rfl ?_ (by rw [sizeLine_eq]; omega) (Nat.le_trans (Nat.le_of_eq (Array.size_push ..)) (by rw [sizeLine_eq]; omega)))
    refine wpAny_pure ⟨rfl, _, _, kA.push v, c2, rfl, ksk_fr F2 s1 nk.2.1 nk.2.2, fun p hp => ?_, by rw [ea, ek, hk]⟩
    rcases List.mem_append.mp hp with hp | hp
    · exact ksk_news (fun q hq => N2 q (List.mem_append_left _ hq)) s1 hnk p hp
    · rcases List.mem_cons.mp hp with rfl | hp
      · exact ⟨hc2, nk.2⟩
      · rw [List.mem_singleton.mp hp]
        exact ⟨(s1.2 a hka.symm).trans na.1, na.2⟩
  case done =>
    rintro s' ⟨h', tk, kA, e, rfl, F', N', hk⟩
    have hk' : kA = kv.toArray := by
      have e3 : kv.take (0 + vs.length) = kv := List.take_of_length_le (by omega)
      rw [e3] at hk
      rw [← hk]
    have nk := N' (kS, seqObj "list" kA e) (List.mem_append_right _ (.head _))
    try dsimp only
    refine wpAny_bind (listItems_at nk.1 rfl ?_)
    exact sk_end F' N' hka hnk hna hk' K.len K.two K.lid K.typ K.ntup K.slf K.inn K.ask K.out fun h3 tk3 c F3 N3 => h h3 tk3 c F3 N3

theorem sk_sort {f : Value} {n : Nat} (F : Fr h₀ L s.heap m) (N : News h₀ L s.heap news) (ho : s.heap.get? a = some (seqObj "list" vs.toArray n)) (haL : a ≠ L) (ha0 : h₀.get? a = none) (hna : ∀ p ∈ news, p.1 ≠ a)
    (K : SkAsk prog w b kv vs T lt)
    (turn : ∀ (i : Nat) (v : Value) (k : Value), vs[i]? = some v → kv[i]? = some k → ∀ (h : Heap) (tk : Nat) (own : List (Addr × Obj)), Fr h₀ L h m → News h₀ L h (news ++ own) →
      wpAny (model prog w) A (call f [v]) (SkEnd h₀ L m (news ++ own) k { s with heap := h, toks := tk }) (fun _ _ => False) { s with heap := h, toks := tk })
    (h : ∀ h' tk c, Fr h₀ L h' m → News h₀ L h' ((a, seqObj "list" (skOut b lt vs).toArray c) :: news) → P (.done (.ret .none)) { s with heap := h', toks := tk }) :
    wpAny (model prog w) A (ksk_tree a f b) P E s := by
  have h64 := K.lid
  have ha : a < s.heap.objs.size := Heap.lt_size ho
  have s1 := Heap.SameBut.update s.heap a (Obj.mapSeq fun _ => (#[] : Array Value))
  obtain ⟨e1, ho1⟩ : ∃ e1, (s.heap.update a (Obj.mapSeq fun _ => (#[] : Array Value))).get? a = some (seqObj "list" #[] e1) := ⟨_, get?_update_seq ho fun _ => #[]⟩
  have F1 := ksk_fr F s1 haL ha0
  have N1 := ksk_news N s1 hna
  have hkS : ((s.heap.update a (Obj.mapSeq fun _ => (#[] : Array Value))).push (seqObj "tuple" vs.toArray 0)).objs.size = s.heap.objs.size + 1 := by rw [size_push', Heap.size_update]
  have hLk : L < ((s.heap.update a (Obj.mapSeq fun _ => (#[] : Array Value))).push (seqObj "tuple" vs.toArray 0)).objs.size := (F1.push _).ns.lt
  unfold ksk_tree
  refine wpAny_bind (listItems_at ho rfl ?_)
  refine wpAny_bind (listUpdate_at ho rfl ?_ (by rw [List.size_toArray, sizeLine_eq]; omega) (Nat.zero_le _))
  refine wpAny_bind (seqEpoch_at ho1 rfl ?_)
  refine wpAny_bind (wpAny_newTuple ?_ (by show vs.length ≤ _; rw [sizeLine_eq]; omega))
  refine wpAny_bind (wpAny_newList ?_ (Nat.zero_le _))
  refine wpAny_holding ?_
  refine sk_rest (s := { s with heap := ((s.heap.update a (Obj.mapSeq fun _ => (#[] : Array Value))).push (seqObj "tuple" vs.toArray 0)).push (seqObj "list" #[] 0) }) (kS := ((s.heap.update a (Obj.mapSeq fun _ => (#[] : Array Value))).push (seqObj "tuple" vs.toArray 0)).objs.size)
    ((F1.push _).push _) (fun p hp => ?_) (by rw [hkS]; exact Nat.ne_of_gt (Nat.lt_succ_of_lt ha)) (fun p hp => by rw [hkS]; exact Nat.ne_of_lt (Nat.lt_succ_of_lt (Heap.lt_size (N p hp).1))) hna K turn h
  rcases List.mem_append.mp hp with hp | hp
  · exact ⟨Heap.get?_push_of_some _ (Heap.get?_push_of_some _ (N1 p hp).1), (N1 p hp).2⟩
  · rcases List.mem_cons.mp hp with rfl | hp
    · exact ⟨Heap.get?_push_size _ rfl, Nat.ne_of_gt hLk, Heap.get?_none_of_le (Nat.le_trans F.above (Nat.le_of_lt hLk))⟩
    · rw [List.mem_singleton.mp hp]
      exact ⟨Heap.get?_push_of_some _ (Heap.get?_push_of_some _ ho1), haL, ha0⟩
end
section
variable {prog : Program} {w : World} {A : Around} {E : Value → Shared → Prop} {s : Shared} {h₀ : Heap} {L l : Addr} {m : Str → Option Value} {news : List (Addr × Obj)} {b : Bool} {vs kv : List Value} {Q : Value → Shared → Prop} {T : Value} {lt : Nat → Nat → Bool}
theorem sk_sorted {q : Addr} (F : Fr h₀ L s.heap m) (N : News h₀ L s.heap news) (hl : s.heap.IsList l vs.toArray) (K : SkAsk prog w b kv vs T lt)
    (turn : ∀ (i : Nat) (v : Value) (k : Value), vs[i]? = some v → kv[i]? = some k → ∀ (h : Heap) (tk : Nat) (own : List (Addr × Obj)), Fr h₀ L h m → News h₀ L h (news ++ own) →
      wpAny (model prog w) A.in1.in1 (call (.ref q) [v]) (SkEnd h₀ L m (news ++ own) k { s with heap := h, toks := tk }) (fun _ _ => False) { s with heap := h, toks := tk })
    (h : ∀ D h' tk c, Fr h₀ L h' m → News h₀ L h' ((D, listOf (skOut b lt vs).toArray c) :: news) → (∀ q ∈ news, q.1 < D) → Q (.ref D) { s with heap := h', toks := tk }) :
    wpAny (model prog w) A (call (.builtin "sorted") [.ref l] [(Str.ofString "key", .ref q), (Str.ofString "reverse", .bool b)]) Q E s := by
  have h64 := K.lid
  refine call_function_entry_kw kind_sorted plain_sorted entry_sorted (ksk_s2 _ _ _) ?_
  unfold Builtin.«sorted»
  refine wpAny_bind (m := checkCount "sorted" 1 1 _) (wpAny_pure ?_)
  refine wpAny_bind (collect_list hl ?_ (by rw [sizeLine_eq]; omega))
  refine wpAny_bind (wpAny_newList ?_ (by rw [sizeLine_eq]; omega))
  have hsz : ((s.heap.push (seqObj "list" #[] 0)).update s.heap.objs.size (Obj.mapSeq (· ++ vs.toArray))).objs.size = s.heap.objs.size + 1 := by
    rw [Heap.size_update, size_push']
  have hoL : (((s.heap.push (seqObj "list" #[] 0)).update s.heap.objs.size (Obj.mapSeq (· ++ vs.toArray))).push (seqObj "list" vs.toArray 0)).get? (s.heap.objs.size + 1) = some (seqObj "list" vs.toArray 0) := by
    rw [← hsz]; exact Heap.get?_push_size _ rfl
  have keep : ∀ b o, s.heap.get? b = some o → (((s.heap.push (seqObj "list" #[] 0)).update s.heap.objs.size (Obj.mapSeq (· ++ vs.toArray))).push (seqObj "list" vs.toArray 0)).get? b = some o := fun b o q => by
    have hlt : b < s.heap.objs.size := Heap.lt_size q
    rw [Heap.get?_push_ne _ _ _ (by rw [hsz]; exact Nat.ne_of_lt (Nat.lt_succ_of_lt hlt)), Heap.get?_update_ne _ _ _ _ (Nat.ne_of_lt hlt), Heap.get?_push_ne _ _ _ (Nat.ne_of_lt hlt)]
    exact q
  have hL : L < s.heap.objs.size := F.ns.lt
  show wpAny _ _ _ _ _ { s with heap := ((s.heap.push (seqObj "list" #[] 0)).update s.heap.objs.size (Obj.mapSeq (· ++ vs.toArray))).push (seqObj "list" vs.toArray 0) }
  rw [hsz]
  refine wpAny_bind (wpAny_holding (wpAny_call_entry_kw slot_list_sort ⟨_, hoL, rfl⟩ entry_list_sort ?body (ksk_l2 _ _ _)))
  case body =>
    have ht' := ksk_t2 q (s.heap.objs.size + 1) b
    show wpAny (model prog w) A.in1.in1 (Builtin.«list.sort» ⟨[.ref (s.heap.objs.size + 1)], [(Str.ofString "key", .ref q), (Str.ofString "reverse", .bool b)]⟩) _ _ _
    rw [ht']
    refine sk_sort (s := { s with heap := ((s.heap.push (seqObj "list" #[] 0)).update s.heap.objs.size (Obj.mapSeq (· ++ vs.toArray))).push (seqObj "list" vs.toArray 0) })
      (F.kept keep) (N.grown keep) hoL (Nat.ne_of_gt (Nat.lt_succ_of_lt hL)) (Heap.get?_none_of_le (Nat.le_trans F.above (Nat.le_succ_of_le (Nat.le_of_lt hL))))
      (fun p hp => Nat.ne_of_lt (Nat.lt_succ_of_lt (Heap.lt_size (N p hp).1))) K turn fun h' tk c F' N' => ⟨_, rfl, ?_⟩
    exact wpAny_pure ⟨_, rfl, h _ h' tk c F' N' (fun q hq => Nat.lt_succ_of_lt (Heap.lt_size (N q hq).1))⟩
end
end
section
example : True := by
  k_with_none
  w_top off
  trivial

example : True := by
  k_with "go" => ((repeat' (first | ((first | (with_reducible show wpAny _ _ (exec (Stmt.Assign _ _ _) _) _ _ _) | (with_reducible show wpAny _ _ (exec (Stmt.Expr _ _) _) _ _ _) | (with_reducible show wpAny _ _ (exec (Stmt.If _ _ _ _) _) _ _ _) | (with_reducible show wpAny _ _ (exec (Stmt.AugAssign _ _ _ _) _) _ _ _) | (with_reducible show wpAny _ _ (exec (Stmt.Return _ _) _) _ _ _) | (with_reducible show wpAny _ _ (eval (Expr.Call _ _ _ _) _) _ _ _)); k_fold) | ((fail_if_success (with_reducible show wpAny _ _ (exec (Stmt.For _ _ _ _ _) _) _ _ _)); (fail_if_success (with_reducible show wpAny _ _ (pyIter _) _ _ _)); (first | (k_unfold; (try dsimp only)) | (k_end; wrow_close) | walk1 | (dsimp only; walk1) | (leave1; walk_say "STEP leave1"; try dsimp only))))); (all_goals (repeat (first | clear ek | clear qk))))
  k_with "getMethod ref" => (k_here; (with_reducible show wpAny _ _ (getMethod (Value.ref _) (Str.ofString "items") _) _ _ _); k_dflt (refine' isD_items_m ?zzk1 ?zzk2 ?zzk3 ?_; (case zzk1 => k_asm); (case zzk2 => k_mem); (case zzk3 => with_reducible assumption); k_whole))
  k_with "call builtin:dict.items" => (k_here; (with_reducible show wpAny _ _ (call (Value.builtin "dict.items") [Value.ref _]) _ _ _); k_dflt (refine' isD_items ?zzk0 ?zzk1 ?zzk2 ?zzk3 ?zzk4 ?_; (case zzk0 => k_asm); (case zzk1 => k_asm); (case zzk2 => k_mem); (case zzk3 => with_reducible assumption); (case zzk4 => with_reducible assumption); k_whole); intro _ _ _ _ _; (try k_sweep))
  k_with "setItem ref int" => (k_here; (with_reducible show wpAny _ _ (setItem (Value.ref _) (Value.int _ _) (Value.int _ _)) _ _ _); k_dflt (refine' isD_set ?zzk0 ?zzk1 ?zzk2 ?zzk3 ?zzk4 ?_; (case zzk0 => k_asm); (case zzk1 => k_asm); (case zzk2 => k_updF); (case zzk3 => with_reducible assumption); (case zzk4 => omega); k_whole); intro _ _ _ _ _; (try k_sweep))
  k_with "compareOp In" => (k_here; (with_reducible show wpAny _ _ (compareOp CmpOp.In (Value.int _ _) (Value.ref _)) _ _ _); k_dflt (refine' isD_in ?zzk1 ?zzk2 ?zzk3 ?zzk4 ?_; (case zzk1 => k_asm); (case zzk2 => k_mem); (case zzk3 => with_reducible assumption); (case zzk4 => with_reducible assumption); k_whole))
  k_with "getItem ref int" => (k_here; (with_reducible show wpAny _ _ (getItem (Value.ref _) (Value.int _ _)) _ _ _); k_dflt (refine' isD_getItem ?zzk1 ?zzk2 ?zzk3 ?zzk4 ?zzk5 ?_; (case zzk1 => k_asm); (case zzk2 => k_mem); (case zzk3 => with_reducible assumption); (case zzk4 => with_reducible assumption); (case zzk5 => with_reducible assumption); k_whole); intro _)
  trivial
/-! ## the sort of six is stable: by the tree of its questions -/
noncomputable def skRow (u : Nat) (st : Bool) (rv r : Nat × Nat) : Nat × Nat :=
  bif r.1.testBit u then (r.1 ||| rv.1, r.2 ||| (rv.2 ||| (bif st || r.2.testBit u then rv.1 else 0))) else r
noncomputable def skAdd (u v : Nat) (st : Bool) (rows : List (Nat × Nat)) : List (Nat × Nat) := rows.map (skRow u st (rows.getD v (0, 0)))
noncomputable def skAdj (rows : List (Nat × Nat)) : List Nat → Bool
  | [] => true
  | x :: r => (match r with
    | [] => true
    | y :: _ => (bif Nat.blt x y then (rows.getD x (0, 0)).1.testBit y else (rows.getD x (0, 0)).2.testBit y)) && skAdj rows r
noncomputable def skPerm (l : List Nat) : Bool := l.length == 6 && l.all fun x => Nat.blt x 6
noncomputable def skChk (rows : List (Nat × Nat)) : KasT (Array Nat) → Bool
  | .ret p => skPerm p.toList && skAdj rows p.toList
  | .ask i j k => bif (rows.getD i (0, 0)).2.testBit j then skChk rows (k true) else bif (rows.getD j (0, 0)).1.testBit i then skChk rows (k false) else skChk (skAdd i j true rows) (k true) && skChk (skAdd j i false rows) (k false)
noncomputable def skRows0 : List (Nat × Nat) := [(1, 0), (2, 0), (4, 0), (8, 0), (16, 0), (32, 0)]
theorem skChk6 : skChk skRows0 (kas_sort 6) = true := by decide +kernel
noncomputable def RowsOk (f : Nat → Int) (rows : List (Nat × Nat)) : Prop := ∀ x y, ((rows.getD x (0, 0)).1.testBit y = true → f x ≤ f y) ∧ ((rows.getD x (0, 0)).2.testBit y = true → f x < f y)
theorem skAdd_getD (u v : Nat) (st : Bool) (rows : List (Nat × Nat)) (x : Nat) : (skAdd u v st rows).getD x (0, 0) = skRow u st (rows.getD v (0, 0)) (rows.getD x (0, 0)) := by
  unfold skAdd
  rw [List.getD_eq_getElem?_getD, List.getElem?_map, List.getD_eq_getElem?_getD (l := rows) (i := x)]
  cases rows[x]? with
  | none => simp [skRow]
  | some q => rfl
theorem rowsOk_add {f : Nat → Int} {rows : List (Nat × Nat)} {u v : Nat} {st : Bool} (h : RowsOk f rows) (hle : f u ≤ f v) (hst : st = true → f u < f v) : RowsOk f (skAdd u v st rows) := by
  intro x y
  rw [skAdd_getD]
  unfold skRow
  cases hu : (rows.getD x (0, 0)).1.testBit u with
  | false => simpa using h x y
  | true =>
    have h1 := (h x u).1 hu
    simp only [cond_true, Nat.testBit_or, Bool.or_eq_true]
    refine ⟨fun hy => ?_, fun hy => ?_⟩
    · rcases hy with hy | hy
      · exact (h x y).1 hy
      · have := (h v y).1 hy; omega
    · rcases hy with hy | hy | hy
      · exact (h x y).2 hy
      · have := (h v y).2 hy; omega
      · cases hs : (st || (rows.getD x (0, 0)).2.testBit u) with
        | false => rw [hs] at hy; simp at hy
        | true =>
          rw [hs] at hy
          have h2 := (h v y).1 hy
          rcases Bool.or_eq_true _ _ ▸ hs with hs | hs
          · have := hst hs; omega
          · have := (h x u).2 hs; omega
noncomputable def SkAdjP (T : Nat → Nat → Prop) : List Nat → Prop
  | [] => True
  | x :: r => (match r with
    | [] => True
    | y :: _ => T x y) ∧ SkAdjP T r
theorem skAdj_sound {f : Nat → Int} {rows : List (Nat × Nat)} (h : RowsOk f rows) : ∀ l : List Nat, skAdj rows l = true → SkAdjP (fun x y => f x < f y ∨ (f x = f y ∧ x < y)) l
  | [], _ => trivial
  | x :: r, ha => by
    simp only [skAdj, Bool.and_eq_true] at ha
    refine ⟨?_, skAdj_sound h r ha.2⟩
    cases r with
    | nil => trivial
    | cons y r =>
      have h1 := ha.1
      dsimp only at h1 ⊢
      cases hb : Nat.blt x y with
      | true =>
        rw [hb] at h1
        have h2 := (h x y).1 h1
        have h3 : x < y := Nat.blt_eq.mp hb
        rcases Int.lt_or_eq_of_le h2 with h4 | h4
        · exact .inl h4
        · exact .inr ⟨h4, h3⟩
      | false =>
        rw [hb] at h1
        exact .inl ((h x y).2 h1)
theorem adj_pairwise {T : Nat → Nat → Prop} (ht : ∀ x y z, T x y → T y z → T x z) : ∀ l : List Nat, SkAdjP T l → l.Pairwise T
  | [], _ => List.Pairwise.nil
  | x :: r, h => by
    have ih := adj_pairwise ht r h.2
    refine List.Pairwise.cons ?_ ih
    cases r with
    | nil => intro y hy; cases hy
    | cons y r =>
      have h1 : T x y := h.1
      intro z hz
      rcases List.mem_cons.mp hz with rfl | hz
      · exact h1
      · exact ht _ _ _ h1 (List.rel_of_pairwise_cons ih hz)
theorem skChk_sound {f : Nat → Int} : ∀ (t : KasT (Array Nat)) (rows : List (Nat × Nat)), RowsOk f rows → skChk rows t = true → skPerm (kasRun (fun i j => decide (f i < f j)) t).toList = true ∧ SkAdjP (fun x y => f x < f y ∨ (f x = f y ∧ x < y)) (kasRun (fun i j => decide (f i < f j)) t).toList
  | .ret p, rows, h, hc => by
    simp only [skChk, Bool.and_eq_true] at hc
    exact ⟨hc.1, skAdj_sound h _ hc.2⟩
  | .ask i j k, rows, h, hc => by
    simp only [skChk] at hc
    simp only [kasRun]
    cases h1 : (rows.getD i (0, 0)).2.testBit j with
    | true =>
      rw [h1] at hc
      rw [decide_eq_true ((h i j).2 h1)]
      exact skChk_sound (k true) rows h hc
    | false =>
      cases h2 : (rows.getD j (0, 0)).1.testBit i with
      | true =>
        rw [h1, h2] at hc
        rw [decide_eq_false (Int.not_lt.mpr ((h j i).1 h2))]
        exact skChk_sound (k false) rows h hc
      | false =>
        rw [h1, h2] at hc
        simp only [cond_false, Bool.and_eq_true] at hc
        by_cases hlt : f i < f j
        · rw [decide_eq_true hlt]
          exact skChk_sound (k true) _ (rowsOk_add h (Int.le_of_lt hlt) fun _ => hlt) hc.1
        · rw [decide_eq_false hlt]
          exact skChk_sound (k false) _ (rowsOk_add h (Int.not_lt.mp hlt) fun hf => by cases hf) hc.2
theorem rowsOk0 (f : Nat → Int) : RowsOk f skRows0 := by
  intro x y
  have hz : ∀ n, (skRows0.getD n (0, 0)).1 = if n < 6 then 2 ^ n else 0 := by
    intro n
    by_cases hn : n < 6
    · rw [if_pos hn]
      have := lt6 n hn
      rcases this with rfl | rfl | rfl | rfl | rfl | rfl <;> rfl
    · rw [if_neg hn, List.getD_eq_getElem?_getD, List.getElem?_eq_none (by show 6 ≤ n; omega)]; rfl
  have hw : ∀ n, (skRows0.getD n (0, 0)).2 = 0 := by
    intro n
    by_cases hn : n < 6
    · have := lt6 n hn
      rcases this with rfl | rfl | rfl | rfl | rfl | rfl <;> rfl
    · rw [List.getD_eq_getElem?_getD, List.getElem?_eq_none (by show 6 ≤ n; omega)]; rfl
  rw [hz, hw]
  refine ⟨fun h => ?_, fun h => by simp at h⟩
  by_cases hn : x < 6
  · rw [if_pos hn, Nat.testBit_two_pow] at h
    have : x = y := by simpa using h
    subst this; exact Int.le_refl _
  · rw [if_neg hn] at h; simp at h
theorem kas6 (f : Nat → Int) : let p := (kasRun (fun i j => decide (f i < f j)) (kas_sort 6)).toList
    p.length = 6 ∧ (∀ i ∈ p, i < 6) ∧ p.Pairwise (fun x y => f x < f y ∨ (f x = f y ∧ x < y)) := by
  obtain ⟨h1, h2⟩ := skChk_sound (f := f) (kas_sort 6) skRows0 (rowsOk0 f) skChk6
  simp only [skPerm, Bool.and_eq_true, beq_iff_eq, List.all_eq_true, Nat.blt_eq] at h1
  exact ⟨h1.1, h1.2, adj_pairwise (fun x y z a b => by
    rcases a with a | ⟨a1, a2⟩ <;> rcases b with b | ⟨b1, b2⟩
    · exact .inl (Int.lt_trans a b)
    · exact .inl (b1 ▸ a)
    · exact .inl (a1 ▸ b)
    · exact .inr ⟨a1.trans b1, Nat.lt_trans a2 b2⟩) _ h2⟩
noncomputable def skK {α : Type} (d : α) (b : Bool) (lt : Nat → Nat → Bool) (o : List α) : List α :=
  let out := (kasRun lt (kas_sort 6)).toList.map fun i => (if b then o.reverse else o).getD i d
  if b then out.reverse else out
noncomputable def ordLt (G : Nat → Int) (b : Bool) (o : List Nat) (i j : Nat) : Bool := decide (G ((if b then o.reverse else o).getD i 0) < G ((if b then o.reverse else o).getD j 0))
noncomputable def ordStep (G : Nat → Int) (b : Bool) (o : List Nat) : List Nat := skK 0 b (ordLt G b o) o
theorem ordStep_ok {G : Nat → Int} {b : Bool} {o : List Nat} {R : Nat → Nat → Prop} (ho : o.length = 6) (hp : o.Pairwise R) :
    (ordStep G b o).length = 6 ∧ (∀ k ∈ ordStep G b o, k ∈ o) ∧ (ordStep G b o).Pairwise (fun x y => (if b then G y < G x else G x < G y) ∨ (G x = G y ∧ R x y)) := by
  obtain ⟨h1, h2, h3⟩ := kas6 fun i => G ((if b then o.reverse else o).getD i 0)
  unfold ordStep skK
  show (if b = true then _ else _ : List Nat).length = 6 ∧ _
  unfold ordLt
  generalize (kasRun (fun i j => decide (G ((if b = true then o.reverse else o).getD i 0) < G ((if b = true then o.reverse else o).getD j 0))) (kas_sort 6)).toList = p at h1 h2 h3 ⊢
  dsimp only
  cases b with
  | false =>
    simp only [Bool.false_eq_true, if_false] at h3 ⊢
    refine ⟨by rw [List.length_map, h1], fun k hk => ?_, ?_⟩
    · obtain ⟨i, hi, rfl⟩ := List.mem_map.mp hk
      have := h2 i hi
      rw [List.getD_eq_getElem?_getD, List.getElem?_eq_getElem (by omega)]
      exact List.getElem_mem _
    · rw [List.pairwise_map]
      refine h3.imp_of_mem fun {x y} hx hy hxy => ?_
      rcases hxy with h | ⟨h, hlt⟩
      · exact .inl h
      · refine .inr ⟨h, ?_⟩
        have a1 := h2 x hx
        have a2 := h2 y hy
        rw [List.getD_eq_getElem?_getD, List.getElem?_eq_getElem (by omega), List.getD_eq_getElem?_getD, List.getElem?_eq_getElem (by omega)]
        exact List.pairwise_iff_getElem.mp hp x y (by omega) (by omega) hlt
  | true =>
    simp only [if_true] at h3 ⊢
    refine ⟨by rw [List.length_reverse, List.length_map, h1], fun k hk => ?_, ?_⟩
    · rw [List.mem_reverse] at hk
      obtain ⟨i, hi, rfl⟩ := List.mem_map.mp hk
      have := h2 i hi
      rw [List.getD_eq_getElem?_getD, List.getElem?_eq_getElem (by rw [List.length_reverse]; omega)]
      exact List.mem_reverse.mp (List.getElem_mem _)
    · rw [List.pairwise_reverse, List.pairwise_map]
      refine h3.imp_of_mem fun {x y} hx hy hxy => ?_
      rcases hxy with h | ⟨h, hlt⟩
      · exact .inl h
      · refine .inr ⟨h.symm, ?_⟩
        have a1 := h2 x hx
        have a2 := h2 y hy
        rw [List.getD_eq_getElem?_getD, List.getElem?_eq_getElem (by rw [List.length_reverse]; omega), List.getD_eq_getElem?_getD, List.getElem?_eq_getElem (by rw [List.length_reverse]; omega)]
        have hr := List.pairwise_reverse.mpr (hp.imp (S := fun a b => R a b) fun h => h)
        rw [Option.getD_some, Option.getD_some, List.getElem_reverse, List.getElem_reverse]
        exact List.pairwise_iff_getElem.mp hp _ _ (by omega) (by omega) (by omega)
noncomputable def ordK (G : Nat → Nat → Int) (way : Nat → Int) : Nat → List Nat
  | 0 => [0, 1, 2, 3, 4, 5]
  | i + 1 => ordStep (G i) (decide (way i < 0)) (ordK G way i)
noncomputable def ordR (G : Nat → Nat → Int) (way : Nat → Int) : Nat → Nat → Nat → Prop
  | 0 => fun x y => x < y
  | i + 1 => fun x y => (if decide (way i < 0) then G i y < G i x else G i x < G i y) ∨ (G i x = G i y ∧ ordR G way i x y)
theorem ordK_ok (G : Nat → Nat → Int) (way : Nat → Int) (i : Nat) : (ordK G way i).length = 6 ∧ (∀ k ∈ ordK G way i, k < 6) ∧ (ordK G way i).Pairwise (ordR G way i) := by
  induction i with
  | zero => exact (by decide : ([0, 1, 2, 3, 4, 5] : List Nat).length = 6 ∧ (∀ k ∈ [0, 1, 2, 3, 4, 5], k < 6) ∧ List.Pairwise (fun x y : Nat => x < y) [0, 1, 2, 3, 4, 5])
  | succ i ih =>
    obtain ⟨h1, h2, h3⟩ := ordStep_ok (G := G i) (b := decide (way i < 0)) ih.1 ih.2.2
    exact ⟨h1, fun k hk => ih.2.1 k (h2 k hk), h3⟩
theorem kasIn6 : kasIn 6 (kas_sort 6) = true := by decide +kernel
theorem ints_map {us : List Value} {ns : List Int} (h : IntsAre us ns) : ∀ p : List Nat, (∀ i ∈ p, i < ns.length) → IntsAre (p.map fun i => us.getD i Value.none) (p.map fun i => ns.getD i 0)
  | [], _ => IntsAre.nil
  | i :: p, hp => by
    have hi := hp i (.head _)
    obtain ⟨t, ht⟩ := h.get i (ns[i]) (List.getElem?_eq_getElem hi)
    simp only [List.map_cons]
    rw [List.getD_eq_getElem?_getD, ht, List.getD_eq_getElem?_getD, List.getElem?_eq_getElem hi]
    exact IntsAre.cons _ _ (ints_map h p fun j hj => hp j (.tail _ hj))
theorem ints_rev {us : List Value} {ns : List Int} (h : IntsAre us ns) : IntsAre us.reverse ns.reverse := by
  induction h with
  | nil => exact IntsAre.nil
  | cons n t h ih => rw [List.reverse_cons, List.reverse_cons]; exact ksk_snoc ih
theorem skOut_ints {us : List Value} {o : List Nat} {G : Nat → Int} {b : Bool} (hus : IntsAre us (o.map fun k : Nat => (k : Int))) (ho : o.length = 6) :
    IntsAre (skOut b (ordLt G b o) us) ((ordStep G b o).map fun k : Nat => (k : Int)) := by
  obtain ⟨h1, h2, h3⟩ := kas6 fun i => G ((if b then o.reverse else o).getD i 0)
  have hl : us.length = 6 := by rw [hus.length, List.length_map, ho]
  have hn : (o.map fun k : Nat => (k : Int)).length = 6 := by rw [List.length_map, ho]
  have hg : ∀ (o' : List Nat), o'.length = 6 → ∀ p : List Nat, (∀ i ∈ p, i < 6) → (p.map fun i => (o'.map fun k : Nat => (k : Int)).getD i 0) = (p.map fun i => o'.getD i 0).map fun k : Nat => (k : Int) := by
    intro o' ho' p hp
    rw [List.map_map]
    refine List.map_congr_left fun i hi => ?_
    have := hp i hi
    rw [Function.comp_apply, List.getD_eq_getElem?_getD, List.getElem?_map, List.getElem?_eq_getElem (by omega), List.getD_eq_getElem?_getD, List.getElem?_eq_getElem (by omega)]
    rfl
  unfold skOut ordStep skK ordLt
  rw [hl]
  generalize (kasRun (fun i j => decide (G ((if b = true then o.reverse else o).getD i 0) < G ((if b = true then o.reverse else o).getD j 0))) (kas_sort 6)).toList = p at h1 h2 h3 ⊢
  dsimp only
  cases b with
  | false =>
    simp only [Bool.false_eq_true, if_false]
    rw [← hg o ho p h2]
    exact ints_map hus p (by rw [hn]; exact h2)
  | true =>
    simp only [if_true]
    rw [List.map_reverse, ← hg o.reverse (by rw [List.length_reverse]; exact ho) p h2, List.map_reverse]
    exact ints_rev (ints_map (ints_rev hus) p (by rw [List.length_reverse, hn]; exact h2))
theorem skOut_len {us : List Value} {G : Nat → Int} {b : Bool} {o : List Nat} (hl : us.length = 6) : (skOut b (ordLt G b o) us).length ≤ 64 := by
  obtain ⟨h1, h2, h3⟩ := kas6 fun i => G ((if b then o.reverse else o).getD i 0)
  unfold skOut ordLt
  rw [hl]
  dsimp only
  rw [Array.length_toList] at h1
  clear h2 h3
  cases b
  · simp only [Bool.false_eq_true, if_false] at h1 ⊢
    rw [List.length_map, Array.length_toList]; omega
  · simp only [if_true] at h1 ⊢
    rw [List.length_reverse, List.length_map, Array.length_toList]; omega
end
section
example : True := by
  k_with_none
  w_top off
  trivial

example : True := by
  k_with "go" => ((repeat' (first | ((first | (with_reducible show wpAny _ _ (exec (Stmt.Assign _ _ _) _) _ _ _) | (with_reducible show wpAny _ _ (exec (Stmt.Expr _ _) _) _ _ _) | (with_reducible show wpAny _ _ (exec (Stmt.If _ _ _ _) _) _ _ _) | (with_reducible show wpAny _ _ (exec (Stmt.AugAssign _ _ _ _) _) _ _ _) | (with_reducible show wpAny _ _ (exec (Stmt.Return _ _) _) _ _ _) | (with_reducible show wpAny _ _ (eval (Expr.Call _ _ _ _) _) _ _ _)); k_fold) | ((fail_if_success (with_reducible show wpAny _ _ (exec (Stmt.For _ _ _ _ _) _) _ _ _)); (fail_if_success (with_reducible show wpAny _ _ (pyIter _) _ _ _)); (first | (k_unfold; (try dsimp only)) | (k_end; wrow_close) | walk1 | (dsimp only; walk1) | (leave1; walk_say "STEP leave1"; try dsimp only))))); (all_goals (repeat (first | clear ek | clear qk))))
  k_with "getMethod ref" => (k_here; (with_reducible show wpAny _ _ (getMethod (Value.ref _) (Str.ofString "items") _) _ _ _); k_dflt (refine' isD_items_m ?zzk1 ?zzk2 ?zzk3 ?_; (case zzk1 => k_asm); (case zzk2 => k_mem); (case zzk3 => with_reducible assumption); k_whole))
  k_with "call builtin:dict.items" => (k_here; (with_reducible show wpAny _ _ (call (Value.builtin "dict.items") [Value.ref _]) _ _ _); k_dflt (refine' isD_items ?zzk0 ?zzk1 ?zzk2 ?zzk3 ?zzk4 ?_; (case zzk0 => k_asm); (case zzk1 => k_asm); (case zzk2 => k_mem); (case zzk3 => with_reducible assumption); (case zzk4 => with_reducible assumption); k_whole); intro _ _ _ _ _; (try k_sweep))
  k_with "setItem ref int" => (k_here; (with_reducible show wpAny _ _ (setItem (Value.ref _) (Value.int _ _) (Value.int _ _)) _ _ _); k_dflt (refine' isD_set ?zzk0 ?zzk1 ?zzk2 ?zzk3 ?zzk4 ?_; (case zzk0 => k_asm); (case zzk1 => k_asm); (case zzk2 => k_updF); (case zzk3 => with_reducible assumption); (case zzk4 => omega); k_whole); intro _ _ _ _ _; (try k_sweep))
  k_with "compareOp In" => (k_here; (with_reducible show wpAny _ _ (compareOp CmpOp.In (Value.int _ _) (Value.ref _)) _ _ _); k_dflt (refine' isD_in ?zzk1 ?zzk2 ?zzk3 ?zzk4 ?_; (case zzk1 => k_asm); (case zzk2 => k_mem); (case zzk3 => with_reducible assumption); (case zzk4 => with_reducible assumption); k_whole))
  k_with "getItem ref int" => (k_here; (with_reducible show wpAny _ _ (getItem (Value.ref _) (Value.int _ _)) _ _ _); k_dflt (refine' isD_getItem ?zzk1 ?zzk2 ?zzk3 ?zzk4 ?zzk5 ?_; (case zzk1 => k_asm); (case zzk2 => k_mem); (case zzk3 => with_reducible assumption); (case zzk4 => with_reducible assumption); (case zzk5 => with_reducible assumption); k_whole); intro _)
  trivial
section
variable {w : World} {dp un : Nat} {gd : Option (List Code)} {cn : Str} {cs : Scope} {a : Addr} {ccd : Value} {cl : List (Str × Addr)} {outer : List Env} {A₀ : Around} {base h₀ : Heap} {L : Addr} {m : Str → Option Value} {news : List (Addr × Obj)} {s : Shared}
    {Q E : Value → Shared → Prop} {pT : Program} {lT : List Str} {mean : ExcName → Option Value} {mg mb : Str → Option Value}


example : True := by
  k_with "enterC" => (refine' code_defC ?zzk1 ?zzk2 ?zzk3 ?zzk4 ?zzk5 ?zzkA ?zzkF ?zzkK ?zzk6 ?zzk7 ?zzk8 ?zzk9 ?zzkB ?zzkD ?_ ?zzc2 ?zzc3 ?zzc4; (case zzkA => exact rfl); (case zzkF => exact rfl); (case zzkK => assumption); (case zzk1 => k_asm); (case zzk2 => k_asm); (case zzk3 => k_asm); (case zzk4 => k_asm); (case zzk5 => k_asm); (case zzk6 => k_is); (case zzk7 => k_is); (case zzk8 => (first | exact roomK (by assumption) rfl | ktr_room)); (case zzk9 => exact BindsTo.of_eq rfl); (case zzkB => exact rfl); (case zzkD => decide +kernel); (case zzc2 => exact rfl); (case zzc3 => exact rfl); (case zzc4 => exact rfl); k_whole; intro _ _ _ _ _ _ _ N' Y' B' _ _ _; k_cells Y'; (try simp only [List.cons_append, List.nil_append] at N'); (try dsimp only); (try k_lift B'); (try k_fold))
  k_with "item" => (k_here; (with_reducible show wpAny _ _ (subscriptTail _ _ (Value.ref _) (Value.int _ _)) _ _ _); k_dflt (first | (refine' int_item ?zzk1 ?zzk2 ?zzk3 ?zzk4 ?zzk5 ?zzk6 ?_ ?zzk7; (case zzk1 => k_asm); (case zzk2 => k_mem); (case zzk3 => with_reducible assumption); (case zzk4 => with_reducible assumption); (case zzk5 => with_reducible assumption); (case zzk6 => with_reducible assumption); (case zzk7 => with_unfolding_all rfl); k_whole; intro _) | (refine' val_item ?zzk1 ?zzk2 ?zzk3 ?zzk4 ?zzk5 ?_ ?zzk6; (case zzk1 => k_asm); (case zzk2 => k_mem); (case zzk3 => with_reducible assumption); (case zzk4 => with_reducible assumption); (case zzk5 => with_reducible assumption); (case zzk6 => with_unfolding_all rfl); k_whole)))
  k_with "subscriptTail Name Name ref int" => walk_at "item"
  k_with "subscriptTail Subscript Name ref int" => walk_at "item"
  k_with "subscriptTail Name Name ref int" => (k_here; (with_reducible show wpAny _ _ (subscriptTail _ _ (Value.ref _) (Value.int _ _)) _ _ _); k_dflt (refine' tup_item ?zzk1 ?zzk2 ?zzk3 ?zzk4 ?zzk5 ?_ ?zzk6; (case zzk1 => k_asm); (case zzk2 => k_mem); (case zzk3 => with_reducible assumption); (case zzk4 => with_reducible assumption); (case zzk5 => with_reducible assumption); (case zzk6 => with_unfolding_all rfl); k_whole))
  k_with "subscriptTail Subscript Name ref int" => (k_here; (with_reducible show wpAny _ _ (subscriptTail _ _ (Value.ref _) (Value.int _ _)) _ _ _); k_dflt (refine' tup_item ?zzk1 ?zzk2 ?zzk3 ?zzk4 ?zzk5 ?_ ?zzk6; (case zzk1 => k_asm); (case zzk2 => k_mem); (case zzk3 => with_reducible assumption); (case zzk4 => with_reducible assumption); (case zzk5 => with_reducible assumption); (case zzk6 => with_unfolding_all rfl); k_whole))
  k_with "sub" => ((repeat (refine List.forall_mem_cons.mpr ⟨by k_mem, ?_⟩)); (intro _ hp9); (repeat (first | exact hp9 | refine List.mem_cons_of_mem _ ?_)))
  trivial
structure ColOk (w : World) (cells : Nat → List Value) (c : Int) (G : Nat → Int) (T : Value) : Prop where
  c0 : 0 ≤ c
  c1 : c < 100
  has : ∀ k, k < 6 → ∃ v, (cells k)[c.toNat]? = some v
  typ : ∀ k, k < 6 → ∀ v, (cells k)[c.toNat]? = some v → ∀ h, Looks (model PR w) h (typeOf v) T
  ntup : (T != Value.type "tuple") = true
  slf : (T == T) = true
  lt : ∀ a b, a < 6 → b < 6 → ∀ u v, (cells a)[c.toNat]? = some u → (cells b)[c.toNat]? = some v → KeyLtIs PR w u v (decide (G a < G b))
noncomputable def colv (cells : Nat → List Value) (c : Int) (k : Nat) : Value := ((cells k)[c.toNat]?).getD .none
theorem ColOk.at {cells : Nat → List Value} {c : Int} {G : Nat → Int} {T : Value} (H : ColOk w cells c G T) {k : Nat} (hk : k < 6) : (cells k)[c.toNat]? = some (colv cells c k) := by
  obtain ⟨v, hv⟩ := H.has k hk
  unfold colv
  rw [hv]; rfl
theorem map_colv {cells : Nat → List Value} {c : Int} {o : List Nat} {i : Nat} (hi : i < o.length) : (o.map (colv cells c)).getD i Value.none = colv cells c (o.getD i 0) := by
  rw [List.getD_eq_getElem?_getD, List.getElem?_map, List.getElem?_eq_getElem hi, List.getD_eq_getElem?_getD, List.getElem?_eq_getElem hi]; rfl
theorem getD_mem {o : List Nat} {i : Nat} (hi : i < o.length) : o.getD i 0 ∈ o := by
  rw [List.getD_eq_getElem?_getD, List.getElem?_eq_getElem hi]; exact List.getElem_mem _
theorem mk_ask {cells : Nat → List Value} {c : Int} {G : Nat → Int} {T : Value} (H : ColOk w cells c G T) {o : List Nat} {us : List Value} (hus : IntsAre us (o.map fun k : Nat => (k : Int))) (ho : o.length = 6) (h6 : ∀ k ∈ o, k < 6) (b : Bool) :
    SkAsk PR w b (o.map (colv cells c)) us T (ordLt G b o) := by
  have hl : us.length = 6 := by rw [hus.length, List.length_map, ho]
  refine ⟨by rw [List.length_map, ho, hl], by omega, by omega, fun v hv h => ?_, H.ntup, H.slf, by rw [hl]; exact kasIn6, fun i j hi hj => ?_, skOut_len hl⟩
  · obtain ⟨k, hk, rfl⟩ := List.mem_map.mp hv
    exact H.typ k (h6 k hk) _ (H.at (h6 k hk)) h
  · rw [hl] at hi hj
    cases b with
    | false =>
      simp only [Bool.false_eq_true, if_false]
      rw [map_colv (by omega), map_colv (by omega)]
      have a1 := h6 _ (getD_mem (o := o) (i := i) (by omega))
      have a2 := h6 _ (getD_mem (o := o) (i := j) (by omega))
      exact H.lt _ _ a1 a2 _ _ (H.at a1) (H.at a2)
    | true =>
      simp only [if_true]
      rw [← List.map_reverse, map_colv (by rw [List.length_reverse]; omega), map_colv (by rw [List.length_reverse]; omega)]
      have a1 := h6 _ (List.mem_reverse.mp (getD_mem (o := o.reverse) (i := i) (by rw [List.length_reverse]; omega)))
      have a2 := h6 _ (List.mem_reverse.mp (getD_mem (o := o.reverse) (i := j) (by rw [List.length_reverse]; omega)))
      exact H.lt _ _ a1 a2 _ _ (H.at a1) (H.at a2)
noncomputable def lamQ : Str := Str.ofString "_law_order" ++ Str.ofString ".<locals>." ++ Str.ofString "<lambda>"
theorem order_spec {r kl : Addr} {ras : List Addr} {cells : Nat → List Value} {kq : Nat → Addr} {col way : Nat → Int} {G : Nat → Nat → Int} {Ty : Nat → Value} {rn n1 : Nat} (B : Below A₀ base outer h₀) (F : Fr h₀ L s.heap m) (X : (hd.heap_39 w.params).In h₀) (N : News h₀ L s.heap ((121, tabObj #[]) :: news)) (T : Top pT lT mean mg mb h₀) (C : CodeHd h₀ 125 121) (hk : cs.kind = .function) (hdp : dp + 20 < recursionLimit) (hu : un + 100 < cLine)
    (hn121 : ∀ p ∈ news, p.1 ≠ 121) (hr : (r, listOf (ras.map Value.ref).toArray rn) ∈ news) (hra : ras.length = 6) (hrow : ∀ i ra, ras[i]? = some ra → (ra, tupO (cells i)) ∈ news)
    (hkl : (kl, listOf #[Value.ref (kq 2), Value.ref (kq 1), Value.ref (kq 0)] n1) ∈ news) (hkq : ∀ i, i < 3 → ∃ u v, (kq i, tupO [.int (col i) u, .int (way i) v]) ∈ news) (hcol : ∀ i, i < 3 → ColOk w cells (col i) (G i) (Ty i))
    (ret : ∀ r us n ps h' tk', Fr h₀ L h' m → News h₀ L h' ((r, listOf (List.toArray us) n) :: (121, tabObj ps) :: news) → (∀ p ∈ news, p.1 < r) → IntsAre us ((ordK G way 3).map fun k : Nat => (k : Int)) → Q (.ref r) { s with heap := h', toks := tk' }) :
    wpAny (model PR w) (ktrTop dp un gd cn cs L a ccd cl outer) (call (.ref 126) [.ref r, .ref kl]) Q E s := by
  refine wpAny_call ?_
  k_dflt walk_at "enterC"
  rename_i g0 L0 h1 tk0 FG F0 X0 T0 l0 o1 o2 d1 d2
  have N0 := N'
  have hC0 : ∃ v, o1.data = .cell v := ⟨_, d1⟩
  have hR0 : o2.data = .cell (some (.ref r)) := by rw [d2]; rfl
  obtain ⟨cv0, d1'⟩ := hC0
  clear d1 d2
  have C0 := C.keeps FG.keep
  walk_at "go"
  refine For_turns (by k_asm) ?_
  walk_at "go"
  rename_i od _ l1 _ D _ F1 N1 l2
  obtain ⟨m1, hm1, hm2⟩ : ∃ m1 : Str → Option Value, Fr g0 L0 _ m1 ∧ m1 (Str.ofString "order") = some (.ref od) := ⟨_, F1, rfl⟩
  clear F1
  refine list_loopA (fun i m₁ n₁ => ∃ od us n oC cv tail, L0 + 1 + 1 < od ∧ n₁ = (D, listOf #[Value.ref (kq 0), Value.ref (kq 1), Value.ref (kq 2)] 0) :: (od, listOf (List.toArray us) n) :: (L0 + 1 + 1, oC) :: (L0 + 1, o2) :: tail ∧ IntsAre us ((ordK G way i).map fun k : Nat => (k : Int)) ∧ oC.data = .cell cv ∧ m₁ (Str.ofString "order") = some (.ref od) ∧
      ((i = 0 ∧ tail = (121, tabObj #[]) :: news) ∨ (0 < i ∧ ∃ c' oc vs t, L0 + 1 + 1 < c' ∧ oc.data = .fields vs ∧ vs[1]? = some (.str lamQ t) ∧ tail = (121, tabObj #[rawInt 76, rawInt 34, .ref c']) :: (c', oc) :: news ))) rfl hm1 N1 (.head _) rfl rfl ⟨od, _, _, o1, cv0, _, l1.1, rfl, IntsAre.cons _ _ (IntsAre.cons _ _ (IntsAre.cons _ _ (IntsAre.cons _ _ (IntsAre.cons _ _ (IntsAre.cons _ _ IntsAre.nil))))), d1', hm2, Or.inl ⟨rfl, rfl⟩⟩ ?_ ?_
  · intro R9 E9 S9 hP9 I i it v m₁ n₁ h tk hI hv hJ14 ho hit F₁ N₁ hR9
    refine hide ?_
    intro G9
    obtain ⟨od, us, n, oC, cv, tail, hod, rfl, hus, hoC, hmo, hcase⟩ := hJ14
    have hi3 : i < 3 := by simpa using (List.getElem?_eq_some_iff.mp hv).1
    have hvv : v = .ref (kq i) := by
      have h3 : i = 0 ∨ i = 1 ∨ i = 2 := by omega
      rcases h3 with rfl | rfl | rfl <;> exact (Option.some.inj hv).symm
    subst hvv
    obtain ⟨ku, kv, hkm⟩ := hkq i hi3
    have hcl := hcol i hi3
    obtain ⟨ci, hci⟩ : ∃ c, c = col i := ⟨_, rfl⟩
    obtain ⟨wi, hwi⟩ : ∃ c, c = way i := ⟨_, rfl⟩
    rw [← hci, ← hwi] at hkm
    replace F₁ := Fr.put (k := Str.ofString "order") F₁ hmo
    (try k_unfold)
    rcases hcase with ⟨rfl, rfl⟩ | ⟨hi0, c0, oc0, vs0, t0, hc0, hoc0, hvs0, rfl⟩
    · have q1 := ltN l2.2.1
      have q2 := ltN hod
      have q3 := ltN (hI (D, _) (.head _))
      have q4 : (121 : Nat) < L0 := l0 _ (.head _)
      have q5 : ∀ p ∈ news, p.1 ≠ L0 + 1 + 1 := fun p hp => by have := ltN (l0 p (.tail _ hp)); exact Nat.ne_of_lt (by omega)
      dsimp only at q1 q2 q3 ⊢
      walk_at "go"
      obtain ⟨ho6, hlt6, _⟩ := ordK_ok G way 0
      show wpAny _ _ (call (.builtin "sorted") [.ref od] [(Str.ofString "key", .ref _), (Str.ofString "reverse", .bool _)]) _ _ _
      refine sk_sorted (by k_asm) (by k_asm) ⟨_, (News.get (by k_asm) (by k_mem)), rfl, _, rfl⟩ (mk_ask (hci ▸ hcl : ColOk w cells ci _ _) hus ho6 hlt6 _) ?_ ?_
      · intro i' v' k' hv' hk' h' tk' own' F' N'
        obtain ⟨κ, hκ, rfl⟩ : ∃ κ, (ordK G way 0)[i']? = some κ ∧ k' = colv cells ci κ := by
          rw [List.getElem?_map] at hk'
          obtain ⟨κ, h1, h2⟩ := Option.map_eq_some_iff.mp hk'
          exact ⟨κ, h1, h2.symm⟩
        have hκ6 := hlt6 κ (List.mem_of_getElem? hκ)
        obtain ⟨tκ, htκ⟩ := hus.get i' (κ : Int) (by rw [List.getElem?_map, hκ]; rfl)
        have hve : v' = .int (κ : Int) tκ := Option.some.inj (hv'.symm.trans htκ)
        subst hve
        clear hv' hk' htκ
        obtain ⟨ra, hra1⟩ : ∃ ra, ras[κ]? = some ra := ⟨_, List.getElem?_eq_getElem (by omega)⟩
        have hra2 := hrow κ ra hra1
        have g1 : (0 : Int) ≤ (κ : Int) := by omega
        have g2 : (κ : Int) < 100 := by omega
        have g3 : (ras.map Value.ref)[(κ : Int).toNat]? = some (.ref ra) := by rw [Int.toNat_natCast, List.getElem?_map, hra1]; rfl
        have g4 : 0 ≤ ci := hci ▸ hcl.c0
        have g5 : ci < 100 := hci ▸ hcl.c1
        have g6 : (cells κ)[ci.toNat]? = some (colv cells ci κ) := ColOk.at (hci ▸ hcl) hκ6
        simp only [List.cons_append] at N' ⊢
        have hr' : (r, listOf (ras.map Value.ref).toArray rn) ∈ news ++ own' := List.mem_append_left _ hr
        have hra3 : (ra, tupO (cells κ)) ∈ news ++ own' := List.mem_append_left _ hra2
        generalize news ++ own' = nx at N' hr' hra3 ⊢
        walk_at "go"
        exact SkEnd.intro (by k_asm) (by k_asm) (fun p hp => hp)
      · intro D' h' tk' c' F' N' l'
        have qI := ltN (l' (I, it) (by k_mem))
        have qC := ltN (l' (L0 + 1 + 1, _) (by k_mem))
        walk_at "go"
        rename_i o9 d9 _ _ f9 c9 oc9 vs9 t9 _ _ _ e1 e2 l9 _ _ _ _ _
        refine hR9 _ _ _ _ _ (by k_asm) (by k_asm) ⟨D', skOut (decide (wi < 0)) (ordLt (G 0) (decide (wi < 0)) (ordK G way 0)) us, c', o9, _, _, qC, rfl, (by rw [hwi]; exact skOut_ints hus ho6), d9, rfl, Or.inr ⟨Nat.succ_pos _, c9, oc9, vs9, t9, (ltN l9.2.2.2.1), e1, e2, rfl⟩⟩ (by k_mem) (by walk_at "sub") ?_ (keep1 (by k_mem))
        exact List.forall_mem_cons.mpr ⟨ho _ (.head _), List.forall_mem_cons.mpr ⟨Nat.ne_of_gt qI, List.forall_mem_cons.mpr ⟨ho (L0 + 1 + 1, oC) (.tail _ (.tail _ (.head _))), List.forall_mem_cons.mpr ⟨ho (L0 + 1, o2) (.tail _ (.tail _ (.tail _ (.head _)))), List.forall_mem_cons.mpr ⟨ho (121, tabObj #[]) (.tail _ (.tail _ (.tail _ (.tail _ (.head _))))), List.forall_mem_cons.mpr ⟨Nat.ne_of_gt l9.1, fun p hp => ho p (.tail _ (.tail _ (.tail _ (.tail _ (.tail _ hp)))))⟩⟩⟩⟩⟩⟩
    · have q1 := ltN l2.2.1
      have q2 := ltN hod
      have q3 := ltN (hI (D, _) (.head _))
      have q4 : (121 : Nat) < L0 := l0 _ (.head _)
      have q5 : ∀ p ∈ news, p.1 ≠ L0 + 1 + 1 := fun p hp => by have := ltN (l0 p (.tail _ hp)); exact Nat.ne_of_lt (by omega)
      have q6 := ltN hc0
      dsimp only at q1 q2 q3 ⊢
      walk_at "go"
      obtain ⟨ho6, hlt6, _⟩ := ordK_ok G way i
      show wpAny _ _ (call (.builtin "sorted") [.ref od] [(Str.ofString "key", .ref _), (Str.ofString "reverse", .bool _)]) _ _ _
      refine sk_sorted (by k_asm) (by k_asm) ⟨_, (News.get (by k_asm) (by k_mem)), rfl, _, rfl⟩ (mk_ask (hci ▸ hcl : ColOk w cells ci _ _) hus ho6 hlt6 _) ?_ ?_
      · intro i' v' k' hv' hk' h' tk' own' F' N'
        obtain ⟨κ, hκ, rfl⟩ : ∃ κ, (ordK G way i)[i']? = some κ ∧ k' = colv cells ci κ := by
          rw [List.getElem?_map] at hk'
          obtain ⟨κ, h1, h2⟩ := Option.map_eq_some_iff.mp hk'
          exact ⟨κ, h1, h2.symm⟩
        have hκ6 := hlt6 κ (List.mem_of_getElem? hκ)
        obtain ⟨tκ, htκ⟩ := hus.get i' (κ : Int) (by rw [List.getElem?_map, hκ]; rfl)
        have hve : v' = .int (κ : Int) tκ := Option.some.inj (hv'.symm.trans htκ)
        subst hve
        clear hv' hk' htκ
        obtain ⟨ra, hra1⟩ : ∃ ra, ras[κ]? = some ra := ⟨_, List.getElem?_eq_getElem (by omega)⟩
        have hra2 := hrow κ ra hra1
        have g1 : (0 : Int) ≤ (κ : Int) := by omega
        have g2 : (κ : Int) < 100 := by omega
        have g3 : (ras.map Value.ref)[(κ : Int).toNat]? = some (.ref ra) := by rw [Int.toNat_natCast, List.getElem?_map, hra1]; rfl
        have g4 : 0 ≤ ci := hci ▸ hcl.c0
        have g5 : ci < 100 := hci ▸ hcl.c1
        have g6 : (cells κ)[ci.toNat]? = some (colv cells ci κ) := ColOk.at (hci ▸ hcl) hκ6
        simp only [List.cons_append] at N' ⊢
        have hr' : (r, listOf (ras.map Value.ref).toArray rn) ∈ news ++ own' := List.mem_append_left _ hr
        have hra3 : (ra, tupO (cells κ)) ∈ news ++ own' := List.mem_append_left _ hra2
        generalize news ++ own' = nx at N' hr' hra3 ⊢
        walk_at "go"
        exact SkEnd.intro (by k_asm) (by k_asm) (fun p hp => hp)
      · intro D' h' tk' c' F' N' l'
        have qI := ltN (l' (I, it) (by k_mem))
        have qC := ltN (l' (L0 + 1 + 1, _) (by k_mem))
        walk_at "go"
        refine hR9 _ _ _ _ _ (by k_asm) (by k_asm) ⟨D', skOut (decide (wi < 0)) (ordLt (G i) (decide (wi < 0)) (ordK G way i)) us, c', _, some (.int ci ku), _, qC, rfl, (by rw [hwi]; exact skOut_ints hus ho6), (by assumption), rfl, Or.inr ⟨Nat.succ_pos _, c0, oc0, vs0, t0, hc0, hoc0, hvs0, rfl⟩⟩ (by k_mem) (by walk_at "sub") ?_ (keep1 (by k_mem))
        exact List.forall_mem_cons.mpr ⟨ho _ (.head _), List.forall_mem_cons.mpr ⟨Nat.ne_of_gt qI, List.forall_mem_cons.mpr ⟨ho (L0 + 1 + 1, oC) (.tail _ (.tail _ (.head _))), fun p hp => ho p (.tail _ (.tail _ (.tail _ hp)))⟩⟩⟩
  · intro m₁ n₁ h tk hJ4 F₁ N₁
    refine hide ?_
    intro G9
    obtain ⟨od, us, n, oC, cv, tail, hod, rfl, hus, hoC, hmo, hcase⟩ := hJ4
    have hlen : [Value.ref (kq 0), Value.ref (kq 1), Value.ref (kq 2)].length = 3 := rfl
    rw [hlen] at hus
    replace F₁ := Fr.put (k := Str.ofString "order") F₁ hmo
    obtain ⟨ps, hps, hnt⟩ : ∃ ps, (121, tabObj ps) ∈ tail ∧ ∀ p ∈ news, p ∈ tail := by
      rcases hcase with ⟨_, rfl⟩ | ⟨_, c0, oc0, vs0, t0, _, _, _, rfl⟩
      · exact ⟨_, .head _, fun p hp => .tail _ hp⟩
      · exact ⟨_, .head _, fun p hp => .tail _ (.tail _ hp)⟩
    have N2 : News g0 L0 h ((od, listOf (List.toArray us) n) :: (121, tabObj ps) :: news) := cb_drop N₁ (by
      intro p hp
      rcases List.mem_cons.mp hp with rfl | hp
      · exact .tail _ (.head _)
      · rcases List.mem_cons.mp hp with rfl | hp
        · exact .tail _ (.tail _ (.tail _ (.tail _ hps)))
        · exact .tail _ (.tail _ (.tail _ (.tail _ (hnt p hp)))))
    clear N₁ hcase hps hnt
    (try k_unfold)
    (try dsimp only)
    walk_at "go"
    refine ret od us n ps _ _ (by k_asm) (by k_asm) (fun p hp => ?_) hus
    have := ltN (l0 p (.tail _ hp))
    have := ltN hod
    exact show (@LT.lt Nat _ p.1 od) by omega
end
end
section
example : True := by
  k_with_none
  w_top off
  trivial

example : True := by
  k_with "go" => ((repeat' (first | ((first | (with_reducible show wpAny _ _ (exec (Stmt.Assign _ _ _) _) _ _ _) | (with_reducible show wpAny _ _ (exec (Stmt.Expr _ _) _) _ _ _) | (with_reducible show wpAny _ _ (exec (Stmt.If _ _ _ _) _) _ _ _) | (with_reducible show wpAny _ _ (exec (Stmt.AugAssign _ _ _ _) _) _ _ _) | (with_reducible show wpAny _ _ (exec (Stmt.Return _ _) _) _ _ _) | (with_reducible show wpAny _ _ (eval (Expr.Call _ _ _ _) _) _ _ _)); k_fold) | ((fail_if_success (with_reducible show wpAny _ _ (exec (Stmt.For _ _ _ _ _) _) _ _ _)); (fail_if_success (with_reducible show wpAny _ _ (pyIter _) _ _ _)); (first | (k_unfold; (try dsimp only)) | (k_end; wrow_close) | walk1 | (dsimp only; walk1) | (leave1; walk_say "STEP leave1"; try dsimp only))))); (all_goals (repeat (first | clear ek | clear qk))))
  k_with "getMethod ref" => (k_here; (with_reducible show wpAny _ _ (getMethod (Value.ref _) (Str.ofString "items") _) _ _ _); k_dflt (refine' isD_items_m ?zzk1 ?zzk2 ?zzk3 ?_; (case zzk1 => k_asm); (case zzk2 => k_mem); (case zzk3 => with_reducible assumption); k_whole))
  k_with "call builtin:dict.items" => (k_here; (with_reducible show wpAny _ _ (call (Value.builtin "dict.items") [Value.ref _]) _ _ _); k_dflt (refine' isD_items ?zzk0 ?zzk1 ?zzk2 ?zzk3 ?zzk4 ?_; (case zzk0 => k_asm); (case zzk1 => k_asm); (case zzk2 => k_mem); (case zzk3 => with_reducible assumption); (case zzk4 => with_reducible assumption); k_whole); intro _ _ _ _ _; (try k_sweep))
  k_with "setItem ref int" => (k_here; (with_reducible show wpAny _ _ (setItem (Value.ref _) (Value.int _ _) (Value.int _ _)) _ _ _); k_dflt (refine' isD_set ?zzk0 ?zzk1 ?zzk2 ?zzk3 ?zzk4 ?_; (case zzk0 => k_asm); (case zzk1 => k_asm); (case zzk2 => k_updF); (case zzk3 => with_reducible assumption); (case zzk4 => omega); k_whole); intro _ _ _ _ _; (try k_sweep))
  k_with "compareOp In" => (k_here; (with_reducible show wpAny _ _ (compareOp CmpOp.In (Value.int _ _) (Value.ref _)) _ _ _); k_dflt (refine' isD_in ?zzk1 ?zzk2 ?zzk3 ?zzk4 ?_; (case zzk1 => k_asm); (case zzk2 => k_mem); (case zzk3 => with_reducible assumption); (case zzk4 => with_reducible assumption); k_whole))
  k_with "getItem ref int" => (k_here; (with_reducible show wpAny _ _ (getItem (Value.ref _) (Value.int _ _)) _ _ _); k_dflt (refine' isD_getItem ?zzk1 ?zzk2 ?zzk3 ?zzk4 ?zzk5 ?_; (case zzk1 => k_asm); (case zzk2 => k_mem); (case zzk3 => with_reducible assumption); (case zzk4 => with_reducible assumption); (case zzk5 => with_reducible assumption); k_whole); intro _)
  trivial
section
variable {w : World} {dp un : Nat} {gd : Option (List Code)} {cn : Str} {cs : Scope} {a : Addr} {ccd : Value} {cl : List (Str × Addr)} {outer : List Env} {A₀ : Around} {base h₀ : Heap} {L : Addr} {m : Str → Option Value} {news : List (Addr × Obj)} {s : Shared}
    {Q E : Value → Shared → Prop} {pT : Program} {lT : List Str} {mean : ExcName → Option Value} {mg mb : Str → Option Value}
theorem sliceApplied_2of3 {prog : Program} {A : Around} {sl : Addr} {u : Tok} {Q : Int × Int × Nat → Shared → Prop} {E : Value → Shared → Prop} (hs : s.heap.IsSliceOf sl .none (.int 2 u) .none) (h : Q ((0 : Int), 1, 2) s) :
    wpAny (model prog w) A (Builtin.Slice.sliceApplied (.ref sl) (pure ((3 : Nat) : Int))) Q E s := by
  obtain ⟨os, hos, hcs, hds⟩ := id hs
  unfold Builtin.Slice.sliceApplied Builtin.Slice.sliceFields
  refine wpAny_bind (wpAny_bind (wpAny_field hos hds (x := .none) rfl (wpAny_bind (wpAny_field hos hds (x := .int 2 u) rfl (wpAny_bind (wpAny_field hos hds (x := .none) rfl (wpAny_pure ?_)))))))
  refine wpAny_bind (slicePart_none ?_)
  show wpAny _ _ (if ((1 : Int) == 0) = true then _ else _) _ _ s
  rw [if_neg (by decide)]
  refine wpAny_bind (slicePart_none (wpAny_bind (slicePart_int (wpAny_bind (wpAny_pure ?_)))))
  exact wpAny_pure h
theorem getItem_tuple_2of3 {prog : Program} {A : Around} {E : Value → Shared → Prop} {t sl : Addr} {x y z : Value} {u : Tok} {Q : Value → Shared → Prop} (ht : IsTup s.heap t #[x, y, z]) (hs : s.heap.IsSliceOf sl .none (.int 2 u) .none)
    (h : Q (.ref s.heap.objs.size) { s with heap := s.heap.push (tupO [x, y]) }) :
    wpAny (model prog w) A (getItem (.ref t) (.ref sl)) Q E s := by
  have hdrop : sizeOk (.seq #[x, y]) := by show 2 ≤ sizeLine; rw [sizeLine_eq]; omega
  obtain ⟨os, hos, hcs, hds⟩ := id hs
  have hTs : s.TypeIs (.ref sl) "slice" := ⟨os, hos, hcs⟩
  unfold getItem
  try with_reducible refine wpAny_holding ?_
  first | refine wpAny_bind (wpAny_pure ?_) | skip
  refine wpAny_bind (wpAny_sequenceKey ht.typeIs (by decide) ?_)
  refine wpAny_bind (wpAny_callSpecial?_slot (name := Str.ofString "__getitem__") ht.typeIs slot_tuple_getitem
    (wpAny_call_entry slot_tuple_getitem ht.typeIs entry_tuple_getitem ?_ (args_tuple_getitem _ _)))
  show wpAny _ _ (Builtin.Tuple.tupleItemsOf (.ref t) >>= _) _ _ s
  refine wpAny_bind (tupleItemsOf_ ht ?_)
  refine wpAny_bind (wpAny_typeOf hTs ?_)
  rw [if_pos (by decide)]
  refine wpAny_bind (sliceApplied_2of3 hs ?_)
  show wpAny _ _ (if ((0 : Int) == 0 && (1 : Int) == 1 && 2 == 3) = true then _ else _) _ _ s
  rw [if_neg (by decide)]
  first
    | exact wpAny_bind (m := Builtin.Tuple.tupleExact _) (wpAny_newObj_type (wpAny_pure ⟨_, rfl, wpAny_pure h⟩) hdrop)
    | exact wpAny_bind (m := Builtin.Tuple.tupleExact _) (wpAny_newObj_type (wpAny_bind (wpAny_pure (wpAny_pure ⟨_, rfl, wpAny_pure h⟩))) hdrop)
    | exact wpAny_bind (wpAny_bind (m := Builtin.Tuple.tupleExact _) (wpAny_newObj_type (wpAny_pure (wpAny_pure ⟨_, rfl, wpAny_pure h⟩)) hdrop))
    | exact wpAny_bind (wpAny_bind (m := Builtin.Tuple.tupleExact _) (wpAny_newObj_type (wpAny_pure ⟨_, rfl, wpAny_pure h⟩) hdrop))
theorem slice_2of3 {A : Around} {E : Value → Shared → Prop} {value slice : Expr} {t : Addr} {x y z : Value} {u : Tok} {Q : Value → Shared → Prop}
    (F : Fr h₀ L s.heap m) (N : News h₀ L s.heap news) (hm : (t, tupO [x, y, z]) ∈ news)
    (h : ∀ D h', Fr h₀ L h' m → News h₀ L h' ((D, tupO [x, y]) :: news) → (∀ p ∈ news, p.1 < D) → Q (.ref D) { s with heap := h' })
    (hs : subscripted slice false (.ref t) (.ref s.heap.objs.size) = operate [.ref s.heap.objs.size, .ref t] (getItem (.ref t) (.ref s.heap.objs.size)) := by with_unfolding_all rfl)
    (hg : ∀ r, letTemporaryGo value (.ref t) r = pure () := by intro _; with_unfolding_all rfl) :
    wpAny (model PR w) A (subscriptTail value slice (.ref t) (.ref s.heap.objs.size)) Q E { s with heap := s.heap.push { cls := .type "slice", data := .fields #[.none, .int 2 u, .none] } } := by
  have ht : IsTup s.heap t #[x, y, z] := ⟨_, (N _ hm).1, rfl, _, rfl⟩
  have ht' : IsTup (s.heap.push { cls := .type "slice", data := .fields #[.none, .int 2 u, .none] }) t #[x, y, z] := ht.keeps fun _ _ e => Heap.get?_push_of_some _ e
  refine subscriptTail_ops (s := { s with heap := s.heap.push { cls := .type "slice", data := .fields #[.none, .int 2 u, .none] } }) ht'.typeIs slot_tuple_getitem.lookup
    (getItem_tuple_2of3 ht' (Heap.IsSliceOf.new ..) ?_) hs hg
  have N1 := News.push (F.push { cls := .type "slice", data := .fields #[.none, .int 2 u, .none] }) (N.grown fun _ _ e => Heap.get?_push_of_some _ e) (tupO [x, y])
  rw [Heap.size_push] at N1
  show Q (.ref (s.heap.push _).objs.size) _
  rw [Heap.size_push]
  exact h _ _ ((F.push _).push _) N1 fun p hp => Nat.lt_succ_of_lt (Heap.lt_size (N p hp).1)
example : True := by
  k_with "subscriptTail Name Slice ref ref" => (k_here; (with_reducible show wpAny _ _ (subscriptTail _ (PySem.Expr.Slice none _ none _) (Value.ref _) (Value.ref _)) _ _ _); k_dflt (refine' slice_2of3 ?zzF ?zzN ?zzm ?_ ?zzs ?zzg; (case zzF => k_asm); (case zzN => k_asm); (case zzm => k_mem); (case zzs => with_unfolding_all rfl); (case zzg => kmk_pure); k_whole); intro _ _ _ _ l1; (try k_lt l1); (try k_sweep))
  trivial
noncomputable def srcK : Nat → Str
  | 0 => "~" | 1 => "~" | 2 => "~" | 3 => "a" | 4 => "a" | 5 => "b" | 6 => "b" | _ => ""
noncomputable def linK : Nat → Int
  | 0 => 0 | 1 => 0 | 2 => 7 | 3 => 0 | 4 => -1 | 5 => 10 | 6 => 9 | _ => 0
noncomputable def namK : Nat → Str
  | 0 => "<f>" | 1 => "<f" | 2 => "<f>" | 3 => "f" | 4 => "f" | 5 => "<g>" | 6 => "<g>" | _ => "<f>"
noncomputable def texK : Nat → Str
  | 0 => "{f}" | 1 => "<f" | 2 => "~:7(<f>)" | 3 => "a:0(f)" | 4 => "a:-1(f)" | 5 => "b:10(<g>)" | 6 => "b:9(<g>)" | _ => ":0(<f>)"
noncomputable def intT (n : Int) : Str := ⟨((if n < 0 then [45] else []) ++ (Str.ofString (toString ((n.natAbs : Nat) : Int))).cps.toList).toArray⟩
section
open Builtin Builtin.Str
theorem after_intZ {M : Model} {A : Around} {E : Value → Shared → Prop} {s : Shared} {l : List Nat} {p : List Value} {r : List Nat}
    {f : Nat → List Value × Writer × List Nat → Sem (ForInStep (List Value × Writer × List Nat))} {Q : List Value × Writer × List Nat → Shared → Prop}
    {w : Writer} {T : Str} {N : Nat} {o : Option Value} {c : Percent} {n : Int} {d : List Nat} (g : KPc.Good w T N) (h1 : c.alt = false) (h2 : c.type = 100) (h3 : c.prec = none) (hl : (intT n).length ≤ 12)
    (hd : d = (Str.ofString (toString ((n.natAbs : Nat) : Int))).cps.toList) (ho : o = none) (h : ∀ w', KPc.Good w' (T ++ intT n) (N + 12) → wpAny M A (forIn l (p, w', r) f) Q E s) :
    wpAny M A (forIn l (p, w.add ⟨(percentInt c (decide (n < 0)) d).toArray⟩ o, r) f) Q E s := by
  have e : percentInt c (decide (n < 0)) d = (intT n).cps.toList := by
    unfold percentInt intT
    by_cases hn : n < 0 <;> simp [h1, h2, h3, hd, hn]
  rw [e]
  exact KPc.after_str g hl (KPc.obj_none ho) h
end
local macro_rules | `(tactic| kpt_piece) => `(tactic| (refine after_intZ (by kpc_g) rfl rfl rfl (by with_reducible assumption) rfl (by kpc_none) ?_; intro _ _))
theorem fstd_mod {A : Around} {E : Value → Shared → Prop} {x : Addr} {y z tx : Str} {n : Int} {t1 t2 t3 tf : Tok} {Q : Value → Shared → Prop}
   (N : News h₀ L s.heap news) (hx : (x, tupO [.str y t1, .int n t2, .str z t3]) ∈ news)
   (hy : y.length ≤ 1000000) (hz : z.length ≤ 1000000) (hn : (intT n).length ≤ 12) (h0 : -1000 ≤ n) (h1 : n < 1000) (ht : y ++ Str.ofString ":" ++ intT n ++ Str.ofString "(" ++ z ++ Str.ofString ")" = tx)
   (h : ∀ t' k, Q (.str tx t') { s with toks := k }) :
   wpAny (model PR w) A (binaryOp .Mod (.str (Str.ofString "%s:%d(%s)") tf) (.ref x)) Q E s := by
  subst ht
  refine' KPt.mod_tuple N hx ?F ?m ?_
  case F => kpt_eq
  case m => kpt_run
  exact h
noncomputable def FmtIs (y : Str) (n : Int) (z tx : Str) : Prop := y.length ≤ 1000000 ∧ z.length ≤ 1000000 ∧ (intT n).length ≤ 12 ∧ (-1000 ≤ n ∧ n < 1000) ∧ y ++ Str.ofString ":" ++ intT n ++ Str.ofString "(" ++ z ++ Str.ofString ")" = tx
noncomputable def EqNo (y : Str) (n : Int) : Prop := PySem.SeqAt.shaped (PyData.tuple [PyData.str y, PyData.int n]) = true ∧ (PyData.tuple [PyData.str y, PyData.int n]).eqv (PyData.tuple [PyData.str (Str.ofString "~"), PyData.int 0]) = false
theorem eqno_use {A : Around} {E : Value → Shared → Prop} {y : Str} {n : Int} {D Z : Addr} {t1 t2 u1 u2 : Tok} {Q : Value → Shared → Prop} (he : EqNo y n) (hA : A.units + 80 < cLine) (_X : (hd.heap_39 w.params).In h₀) (F : Fr h₀ L s.heap m) (N : News h₀ L s.heap news) (h1 : (D, tupO [.str y t1, .int n t2]) ∈ news) (h2 : (Z, tupO [.str (Str.ofString "~") u1, .int 0 u2]) ∈ news) (hq : Q (.bool false) s) :
    wpAny (model PR w) A (compareOp .Eq (.ref D) (.ref Z)) Q E s := by
  k_dflt (refine eq_dataH (by ke_read) (by ke_read) he.1 (by decide +kernel) (by ke_room) ?_)
  rw [he.2]; exact hq
theorem fmt_use {A : Around} {E : Value → Shared → Prop} {x : Addr} {y z tx : Str} {n : Int} {t1 t2 t3 tf : Tok} {Q : Value → Shared → Prop} (hf : FmtIs y n z tx) (N : News h₀ L s.heap news) (hx : (x, tupO [.str y t1, .int n t2, .str z t3]) ∈ news) (h : ∀ t' k, Q (.str tx t') { s with toks := k }) :
    wpAny (model PR w) A (binaryOp .Mod (.str (Str.ofString "%s:%d(%s)") tf) (.ref x)) Q E s := fstd_mod N hx hf.1 hf.2.1 hf.2.2.1 hf.2.2.2.1.1 hf.2.2.2.1.2 hf.2.2.2.2 h
example : True := by
  k_with "compareOp Eq ref ref" => (k_here; (with_reducible show wpAny _ _ (compareOp CmpOp.Eq (Value.ref _) (Value.ref _)) _ _ _); k_dflt (refine' eqno_use ?zzE ?zzA ?zzX ?zzF ?zzN ?zza ?zzb ?_; (case zzE => with_reducible assumption); (case zzA => (first | exact roomK (by assumption) rfl | ktr_units)); (case zzX => k_asm); (case zzF => k_asm); (case zzN => k_asm); (case zza => k_mem); (case zzb => k_mem); k_whole))
  k_with "binaryOp Mod str ref" => (k_here; (with_reducible show wpAny _ _ (binaryOp Operator.Mod (Value.str _ _) (Value.ref _)) _ _ _); k_dflt (refine' fmt_use ?zzE ?zzN ?zza ?_; (case zzE => with_reducible assumption); (case zzN => k_asm); (case zza => k_mem)); intro _ _)
  trivial
theorem fstd_open {x : Addr} {y z tx : Str} {n : Int} {t1 t2 t3 : Tok} (he : EqNo y n) (hf : FmtIs y n z tx) (B : Below A₀ base outer h₀) (F : Fr h₀ L s.heap m) (X : (hd.heap_39 w.params).In h₀) (N : News h₀ L s.heap news) (T : Top pT lT mean mg mb h₀) (hk : cs.kind = .function) (hdp : dp + 3 < recursionLimit) (hu : un + 100 < cLine)
    (hx : (x, tupO [.str y t1, .int n t2, .str z t3]) ∈ news)
    (ret : ∀ t h' tk', Fr h₀ L h' m → News h₀ L h' news → Q (.str tx t) { s with heap := h', toks := tk' }) :
    wpAny (model PR w) (ktrTop dp un gd cn cs L a ccd cl outer) (call (.ref 49) [.ref x]) Q E s := by
  refine wpAny_call ?_
  k_dflt cell_enter
  walk_at "go"
  first
      | exact ret _ _ _ (by k_asm) (by k_asm)
      | exact ret _ _ _ (by k_asm) (cb_drop (by assumption) fun p hp => .tail _ hp)
      | exact ret _ _ _ (by k_asm) (cb_drop (by assumption) fun p hp => .tail _ (.tail _ hp))
      | exact ret _ _ _ (by k_asm) (cb_drop (by assumption) fun p hp => .tail _ (.tail _ (.tail _ hp)))
      | (trace_state; fail)
theorem fstd_spec {κ : Nat} (hκ : κ < 8) {x : Addr} {t1 t2 t3 : Tok} (B : Below A₀ base outer h₀) (F : Fr h₀ L s.heap m) (X : (hd.heap_39 w.params).In h₀) (N : News h₀ L s.heap news) (T : Top pT lT mean mg mb h₀) (hk : cs.kind = .function) (hdp : dp + 3 < recursionLimit) (hu : un + 100 < cLine)
    (hx : (x, tupO [.str (srcK κ) t1, .int (linK κ) t2, .str (namK κ) t3]) ∈ news)
    (ret : ∀ t h' tk', Fr h₀ L h' m → News h₀ L h' news → Q (.str (texK κ) t) { s with heap := h', toks := tk' }) :
    wpAny (model PR w) (ktrTop dp un gd cn cs L a ccd cl outer) (call (.ref 49) [.ref x]) Q E s := by
  have hc := (by decide : ∀ κ, κ < 8 → κ = 0 ∨ κ = 1 ∨ κ = 2 ∨ κ = 3 ∨ κ = 4 ∨ κ = 5 ∨ κ = 6 ∨ κ = 7) κ hκ
  rcases hc with rfl | rfl | rfl | rfl | rfl | rfl | rfl | rfl
  · have hx' : (x, tupO [.str (Str.ofString "~") t1, .int (0) t2, .str (Str.ofString "<f>") t3]) ∈ news := hx
    have ret' : ∀ t h' tk', Fr h₀ L h' m → News h₀ L h' news → Q (.str (Str.ofString "{f}") t) { s with heap := h', toks := tk' } := ret
    clear hx ret
    refine wpAny_call ?_
    k_dflt cell_enter
    walk_at "go"
    first
      | exact ret' _ _ _ (by k_asm) (by k_asm)
      | exact ret' _ _ _ (by k_asm) (cb_drop (by assumption) fun p hp => .tail _ hp)
      | exact ret' _ _ _ (by k_asm) (cb_drop (by assumption) fun p hp => .tail _ (.tail _ hp))
      | exact ret' _ _ _ (by k_asm) (cb_drop (by assumption) fun p hp => .tail _ (.tail _ (.tail _ hp)))
      | (trace_state; fail)
  · have hx' : (x, tupO [.str (Str.ofString "~") t1, .int (0) t2, .str (Str.ofString "<f") t3]) ∈ news := hx
    have ret' : ∀ t h' tk', Fr h₀ L h' m → News h₀ L h' news → Q (.str (Str.ofString "<f") t) { s with heap := h', toks := tk' } := ret
    clear hx ret
    refine wpAny_call ?_
    k_dflt cell_enter
    walk_at "go"
    first
      | exact ret' _ _ _ (by k_asm) (by k_asm)
      | exact ret' _ _ _ (by k_asm) (cb_drop (by assumption) fun p hp => .tail _ hp)
      | exact ret' _ _ _ (by k_asm) (cb_drop (by assumption) fun p hp => .tail _ (.tail _ hp))
      | exact ret' _ _ _ (by k_asm) (cb_drop (by assumption) fun p hp => .tail _ (.tail _ (.tail _ hp)))
      | (trace_state; fail)
  · exact fstd_open ⟨by decide +kernel, by decide +kernel⟩ ⟨by decide +kernel, by decide +kernel, by decide +kernel, by decide, by decide +kernel⟩ B F X N T hk hdp hu hx ret
  · exact fstd_open ⟨by decide +kernel, by decide +kernel⟩ ⟨by decide +kernel, by decide +kernel, by decide +kernel, by decide, by decide +kernel⟩ B F X N T hk hdp hu hx ret
  · exact fstd_open ⟨by decide +kernel, by decide +kernel⟩ ⟨by decide +kernel, by decide +kernel, by decide +kernel, by decide, by decide +kernel⟩ B F X N T hk hdp hu hx ret
  · exact fstd_open ⟨by decide +kernel, by decide +kernel⟩ ⟨by decide +kernel, by decide +kernel, by decide +kernel, by decide, by decide +kernel⟩ B F X N T hk hdp hu hx ret
  · exact fstd_open ⟨by decide +kernel, by decide +kernel⟩ ⟨by decide +kernel, by decide +kernel, by decide +kernel, by decide, by decide +kernel⟩ B F X N T hk hdp hu hx ret
  · exact fstd_open ⟨by decide +kernel, by decide +kernel⟩ ⟨by decide +kernel, by decide +kernel, by decide +kernel, by decide, by decide +kernel⟩ B F X N T hk hdp hu hx ret
end
end
section
example : True := by
  k_with_none
  w_top off
  trivial

example : True := by
  k_with "go" => ((repeat' (first | ((first | (with_reducible show wpAny _ _ (exec (Stmt.Assign _ _ _) _) _ _ _) | (with_reducible show wpAny _ _ (exec (Stmt.Expr _ _) _) _ _ _) | (with_reducible show wpAny _ _ (exec (Stmt.If _ _ _ _) _) _ _ _) | (with_reducible show wpAny _ _ (exec (Stmt.AugAssign _ _ _ _) _) _ _ _) | (with_reducible show wpAny _ _ (exec (Stmt.Return _ _) _) _ _ _) | (with_reducible show wpAny _ _ (eval (Expr.Call _ _ _ _) _) _ _ _)); k_fold) | ((fail_if_success (with_reducible show wpAny _ _ (exec (Stmt.For _ _ _ _ _) _) _ _ _)); (fail_if_success (with_reducible show wpAny _ _ (pyIter _) _ _ _)); (first | (k_unfold; (try dsimp only)) | (k_end; wrow_close) | walk1 | (dsimp only; walk1) | (leave1; walk_say "STEP leave1"; try dsimp only))))); (all_goals (repeat (first | clear ek | clear qk))))
  k_with "getMethod ref" => (k_here; (with_reducible show wpAny _ _ (getMethod (Value.ref _) (Str.ofString "items") _) _ _ _); k_dflt (refine' isD_items_m ?zzk1 ?zzk2 ?zzk3 ?_; (case zzk1 => k_asm); (case zzk2 => k_mem); (case zzk3 => with_reducible assumption); k_whole))
  k_with "call builtin:dict.items" => (k_here; (with_reducible show wpAny _ _ (call (Value.builtin "dict.items") [Value.ref _]) _ _ _); k_dflt (refine' isD_items ?zzk0 ?zzk1 ?zzk2 ?zzk3 ?zzk4 ?_; (case zzk0 => k_asm); (case zzk1 => k_asm); (case zzk2 => k_mem); (case zzk3 => with_reducible assumption); (case zzk4 => with_reducible assumption); k_whole); intro _ _ _ _ _; (try k_sweep))
  k_with "setItem ref int" => (k_here; (with_reducible show wpAny _ _ (setItem (Value.ref _) (Value.int _ _) (Value.int _ _)) _ _ _); k_dflt (refine' isD_set ?zzk0 ?zzk1 ?zzk2 ?zzk3 ?zzk4 ?_; (case zzk0 => k_asm); (case zzk1 => k_asm); (case zzk2 => k_updF); (case zzk3 => with_reducible assumption); (case zzk4 => omega); k_whole); intro _ _ _ _ _; (try k_sweep))
  k_with "compareOp In" => (k_here; (with_reducible show wpAny _ _ (compareOp CmpOp.In (Value.int _ _) (Value.ref _)) _ _ _); k_dflt (refine' isD_in ?zzk1 ?zzk2 ?zzk3 ?zzk4 ?_; (case zzk1 => k_asm); (case zzk2 => k_mem); (case zzk3 => with_reducible assumption); (case zzk4 => with_reducible assumption); k_whole))
  k_with "getItem ref int" => (k_here; (with_reducible show wpAny _ _ (getItem (Value.ref _) (Value.int _ _)) _ _ _); k_dflt (refine' isD_getItem ?zzk1 ?zzk2 ?zzk3 ?zzk4 ?zzk5 ?_; (case zzk1 => k_asm); (case zzk2 => k_mem); (case zzk3 => with_reducible assumption); (case zzk4 => with_reducible assumption); (case zzk5 => with_reducible assumption); k_whole); intro _)
  trivial
section
variable {w : World} {dp un : Nat} {gd : Option (List Code)} {cn : Str} {cs : Scope} {a : Addr} {ccd : Value} {cl : List (Str × Addr)} {outer : List Env} {A₀ : Around} {base h₀ : Heap} {L : Addr} {m : Str → Option Value} {news : List (Addr × Obj)} {s : Shared}
    {Q E : Value → Shared → Prop} {pT : Program} {lT : List Str} {mean : ExcName → Option Value} {mg mb : Str → Option Value}

example : True := by
  k_with "call ref" => (k_here; (with_reducible show wpAny _ _ (call (Value.ref 131) _) _ _ _); k_dflt ((show wpAny _ _ (call (Value.ref 131) []) _ _ _); refine' riffles_spec ?zzk1 ?zzk2 ?zzk3 ?zzk4 ?zzk5 ?zzk6 ?zzk7 ?zzk8 ?_; (case zzk1 => k_asm); (case zzk2 => k_asm); (case zzk3 => k_asm); (case zzk4 => k_asm); (case zzk5 => k_asm); (case zzk6 => exact rfl); (case zzk7 => (first | exact roomK (by assumption) rfl | ktr_room)); (case zzk8 => (first | exact roomK (by assumption) rfl | ktr_units)); k_whole); intro _ _ _ _ _ _ _ _ _ _; (try k_sweep))
  k_with "item" => (k_here; (with_reducible show wpAny _ _ (subscriptTail _ _ (Value.ref _) (Value.int _ _)) _ _ _); k_dflt (first | (refine' int_item ?zzk1 ?zzk2 ?zzk3 ?zzk4 ?zzk5 ?zzk6 ?_ ?zzk7; (case zzk1 => k_asm); (case zzk2 => k_mem); (case zzk3 => with_reducible assumption); (case zzk4 => with_reducible assumption); (case zzk5 => with_reducible assumption); (case zzk6 => with_reducible assumption); (case zzk7 => with_unfolding_all rfl); k_whole; intro _) | (refine' val_item ?zzk1 ?zzk2 ?zzk3 ?zzk4 ?zzk5 ?_ ?zzk6; (case zzk1 => k_asm); (case zzk2 => k_mem); (case zzk3 => with_reducible assumption); (case zzk4 => with_reducible assumption); (case zzk5 => with_reducible assumption); (case zzk6 => with_unfolding_all rfl); k_whole)))
  k_with "subscriptTail Name Name ref int" => walk_at "item"
  k_with "subscriptTail Name BinOp ref int" => walk_at "item"
  k_with "subscriptTail Name Subscript ref int" => walk_at "item"
  k_with "sub" => ((repeat (refine List.forall_mem_cons.mpr ⟨by k_mem, ?_⟩)); (intro _ hp9); (repeat (first | exact hp9 | refine List.mem_cons_of_mem _ ?_)))
  trivial
noncomputable def fallK (o : List Nat) : Nat → List Int
  | 0 => []
  | i + 1 => if (((o.take i).map fun k : Nat => (k : Int)).any fun x => x == ((o.getD i 0 : Nat) : Int) + 1) = true ∧ ((o.getD i 0 : Nat) : Int) ≠ 2 then fallK o i ++ [((o.getD i 0 : Nat) : Int)] else fallK o i
theorem fallK_yes {o : List Nat} {i κ : Nat} (h : o[i]? = some κ) (h1 : (((o.take i).map fun k : Nat => (k : Int)).any fun x => x == (κ : Int) + 1) = true) (h2 : (κ : Int) ≠ 2) : fallK o (i + 1) = fallK o i ++ [(κ : Int)] := by
  have e : o.getD i 0 = κ := by rw [List.getD_eq_getElem?_getD, h]; rfl
  show (if _ then _ else _) = _
  rw [e, if_pos ⟨h1, h2⟩]
theorem fallK_two {o : List Nat} {i κ : Nat} (h : o[i]? = some κ) (h2 : (κ : Int) = 2) : fallK o (i + 1) = fallK o i := by
  have e : o.getD i 0 = κ := by rw [List.getD_eq_getElem?_getD, h]; rfl
  show (if _ then _ else _) = _
  rw [e, if_neg fun h => h.2 h2]
theorem fallK_no {o : List Nat} {i κ : Nat} (h : o[i]? = some κ) (h1 : (((o.take i).map fun k : Nat => (k : Int)).any fun x => x == (κ : Int) + 1) = false) : fallK o (i + 1) = fallK o i := by
  have e : o.getD i 0 = κ := by rw [List.getD_eq_getElem?_getD, h]; rfl
  show (if _ then _ else _) = _
  rw [e, if_neg fun h => by rw [h1] at h; exact absurd h.1 (by decide)]
theorem fallK_len (o : List Nat) (i : Nat) : (fallK o i).length ≤ i := by
  induction i with
  | zero => exact Nat.le_refl _
  | succ i ih =>
    show (if _ then _ else _ : List Int).length ≤ _
    split
    · rw [List.length_append, List.length_singleton]; omega
    · omega
theorem take_snoc {o : List Nat} {i κ : Nat} (h : o[i]? = some κ) : ((o.take (i + 1)).map fun k : Nat => (k : Int)) = ((o.take i).map fun k : Nat => (k : Int)) ++ [(κ : Int)] := by
  rw [List.take_add_one, h, List.map_append]; rfl
theorem isD_get_m {A : Around} {d : Addr} {od : Obj} {c : List (Int × Int)} {pl : Sem Bool} {Q : Value × List Value → Shared → Prop} (N : News h₀ L s.heap news) (hm : (d, od) ∈ news) (hD : IsD w od c) (h : Q (.builtin "dict.get", [.ref d]) s) :
    wpAny (model PR w) A (getMethod (.ref d) (Str.ofString "get") pl) Q E s := by
  obtain ⟨kvs, hD, hP⟩ := hD
  exact kdl_method PySem.F.slot_dict_get PySem.F.type_dict_get N hm hD h
example : True := by
  k_with "getMethod ref" => (k_here; (with_reducible show wpAny _ _ (getMethod (Value.ref _) (Str.ofString "get") _) _ _ _); k_dflt (refine' isD_get_m ?zzk1 ?zzk2 ?zzk3 ?_; (case zzk1 => k_asm); (case zzk2 => k_mem); (case zzk3 => with_reducible assumption); k_whole))
  k_with "call builtin:dict.get" => (k_here; (with_reducible show wpAny _ _ (call (Value.builtin "dict.get") [Value.ref _, Value.int _ _, Value.int _ _]) _ _ _); k_dflt (refine' kdf_get2 ?zzT ?_; (case zzT => exact isD_tab (by k_asm) (by k_mem) (by with_reducible assumption) (by with_reducible assumption))); intro _)
  trivial
theorem three_eq {r : List Int} (h : r.length = 3) : [r.getD 0 0, r.getD 1 0, r.getD 2 0] = r := by
  match r, h with
  | [a, b, c], _ => rfl
theorem in_riffle {A : Around} {ra : Addr} {r : List Int} {u1 u2 u3 : Tok} {k : Int} {t : Tok} {Q : Value → Shared → Prop} (N : News h₀ L s.heap news) (hm : (ra, tupO [.int (r.getD 0 0) u1, .int (r.getD 1 0) u2, .int (r.getD 2 0) u3]) ∈ news) (h3 : r.length = 3) (h : Q (.bool (r.any fun x => x == k)) s) :
    wpAny (model PR w) A (compareOp .In (.int k t) (.ref ra)) Q E s := by
  refine in_tuple_ints (ns := r) (items := List.toArray [Value.int (r.getD 0 0) u1, .int (r.getD 1 0) u2, .int (r.getD 2 0) u3]) ⟨_, (N _ hm).1, rfl, _, rfl⟩ ?_ h
  have e := three_eq h3
  have : IntsAre [Value.int (r.getD 0 0) u1, .int (r.getD 1 0) u2, .int (r.getD 2 0) u3] [r.getD 0 0, r.getD 1 0, r.getD 2 0] := IntsAre.cons _ _ (IntsAre.cons _ _ (IntsAre.cons _ _ IntsAre.nil))
  rw [e] at this
  exact this
example : True := by
  k_with "compareOp In int ref" => (k_here; (with_reducible show wpAny _ _ (compareOp CmpOp.In (Value.int _ _) (Value.ref _)) _ _ _); k_dflt (refine' in_riffle ?zzN ?zzm ?zzl ?_; (case zzN => k_asm); (case zzm => k_mem); (case zzl => with_reducible assumption); k_whole))
  trivial
theorem in_fall {A : Around} {fa : Addr} {fu : List Value} {f : List Int} {fn : Nat} {k : Int} {t : Tok} {Q : Value → Shared → Prop} (N : News h₀ L s.heap news) (hm : (fa, listOf (List.toArray fu) fn) ∈ news) (hi : IntsAre fu f) (h : Q (.bool (f.any fun x => x == k)) s) :
    wpAny (model PR w) A (compareOp .In (.int k t) (.ref fa)) Q E s := in_list_ints ⟨_, (N _ hm).1, rfl, _, rfl⟩ hi h
example : True := by
  k_with "compareOp In int ref" => (k_here; (with_reducible show wpAny _ _ (compareOp CmpOp.In (Value.int _ _) (Value.ref _)) _ _ _); k_dflt (refine' in_fall ?zzN ?zzm ?zzi ?_; (case zzN => k_asm); (case zzm => k_mem); (case zzi => with_reducible assumption); k_whole))
  trivial
theorem len_fall {A : Around} {fa : Addr} {fu : List Value} {f : List Int} {fn : Nat} {Q : Value → Shared → Prop} (N : News h₀ L s.heap news) (hm : (fa, listOf (List.toArray fu) fn) ∈ news) (hi : IntsAre fu f) (hl : f.length ≤ 6) (h : Q (.int (f.length : Int) (s.toks + 1)) { s with toks := s.toks + 1 + 1 }) :
    wpAny (model PR w) A (call (.builtin "len") [.ref fa]) Q E s := by
  have hz : ((List.toArray fu).size : Int) = (f.length : Int) := by rw [List.size_toArray, hi.length]
  refine len_list ⟨_, (N _ hm).1, rfl, _, rfl⟩ (by rw [hz]; omega) ?_
  rw [hz]; exact h
example : True := by
  k_with "call builtin:len" => (k_here; (with_reducible show wpAny _ _ (call (Value.builtin "len") [Value.ref _]) _ _ _); k_dflt (refine' len_fall ?zzN ?zzm ?zzi ?zzl ?_; (case zzN => k_asm); (case zzm => k_mem); (case zzi => with_reducible assumption); (case zzl => with_reducible assumption); k_whole))
  trivial
noncomputable def lineD (r : List Int) : Nat → List Int × Int × Int
  | 0 => ([], 0, 3)
  | p + 1 => if (r.any fun x => x == (p : Int)) = true then ((lineD r p).1 ++ [(lineD r p).2.1], (lineD r p).2.1 + 1, (lineD r p).2.2) else ((lineD r p).1 ++ [(lineD r p).2.2], (lineD r p).2.1, (lineD r p).2.2 + 1)
theorem lineD_yes {r : List Int} {p : Nat} (h : (r.any fun x => x == (p : Int)) = true) : lineD r (p + 1) = ((lineD r p).1 ++ [(lineD r p).2.1], (lineD r p).2.1 + 1, (lineD r p).2.2) := by
  show (if _ then _ else _) = _
  rw [if_pos h]
theorem lineD_no {r : List Int} {p : Nat} (h : (r.any fun x => x == (p : Int)) = false) : lineD r (p + 1) = ((lineD r p).1 ++ [(lineD r p).2.2], (lineD r p).2.1, (lineD r p).2.2 + 1) := by
  show (if _ then _ else _) = _
  rw [if_neg (by rw [h]; decide)]
theorem lineD_len (r : List Int) (p : Nat) : (lineD r p).1.length = p := by
  induction p with
  | zero => rfl
  | succ p ih =>
    show (if _ then _ else _ : List Int × Int × Int).1.length = _
    split <;> (show (_ ++ [_] : List Int).length = _; rw [List.length_append, List.length_singleton, ih])
noncomputable abbrev MaskC (f : List Int) (x y : Int) : Prop := (2 < x ∧ y < 3) ∨ (y = x + 1 ∧ (f.any fun z => z == x) = true)
noncomputable def maskD (f l : List Int) : Nat → Int
  | 0 => 0
  | g + 1 => if MaskC f (l.getD g 0) (l.getD (g + 1) 0) then maskD f l g + 2 ^ g else maskD f l g
theorem maskD_yes {f l : List Int} {g : Nat} {x y : Int} (hx : x = l.getD g 0) (hy : y = l.getD (g + 1) 0) (h : MaskC f x y) : maskD f l (g + 1) = maskD f l g + 1 * 2 ^ ((0 : Int) + (g : Int)).toNat := by
  rw [Int.one_mul, Int.zero_add, Int.toNat_natCast]
  show (if _ then _ else _) = _
  rw [if_pos (by rw [← hx, ← hy]; exact h)]
theorem maskD_no {f l : List Int} {g : Nat} {x y : Int} (hx : x = l.getD g 0) (hy : y = l.getD (g + 1) 0) (h : ¬ MaskC f x y) : maskD f l (g + 1) = maskD f l g := by
  show (if _ then _ else _) = _
  rw [if_neg (by rw [← hx, ← hy]; exact h)]
noncomputable def dueStep (f : List Int) (c : List (Int × Int)) (r : List Int) : List (Int × Int) :=
  let mk := maskD f (lineD r 6).1 5
  kdfPut c mk (kdfLook c mk 0 + 1)
noncomputable def dueTab (f : List Int) (i : Nat) : List (Int × Int) := (riffs.take i).foldl (dueStep f) []
noncomputable def dueM (f : List Int) : Int := (f.map fun k => k % 3 + 1).sum
theorem dueTab_succ {f : List Int} {i : Nat} {r : List Int} (h : riffs[i]? = some r) : dueTab f (i + 1) = dueStep f (dueTab f i) r := by
  unfold dueTab
  rw [List.take_add_one, h]; simp
theorem dueTab_len (f : List Int) (i : Nat) : (dueTab f i).length ≤ i := by
  induction i with
  | zero => simp [dueTab]
  | succ i ih =>
    cases h : riffs[i]? with
    | none =>
      have : riffs.length ≤ i := List.getElem?_eq_none_iff.mp h
      have e : dueTab f (i + 1) = dueTab f i := by
        unfold dueTab
        rw [List.take_of_length_le (by omega), List.take_of_length_le (by omega)]
      rw [e]; omega
    | some r =>
      rw [dueTab_succ h]
      have := kdfPut_le (dueTab f i) (maskD f (lineD r 6).1 5) (kdfLook (dueTab f i) (maskD f (lineD r 6).1 5) 0 + 1)
      show (kdfPut _ _ _).length ≤ _
      omega
example : True := by
  k_with "goC" => repeat' (first | ((fail_if_success (with_reducible show wpAny _ _ (eval (Expr.ListComp _ _ _ _) _) _ _ _)); (first | (k_unfold; (try dsimp only)) | (k_end; wrow_close) | walk1 | (dsimp only; walk1) | (leave1; walk_say "STEP leave1"; try dsimp only))))
  k_with "forR" => ((rename Fr _ _ _ _ => lF'); (with_unfolding_all refine' For_invVF lF' ?zzk1 ?zzk2 ?_; (case zzk1 => exact rfl); (case zzk2 => exact rfl); k_whole))
  trivial
theorem dueM_bd (f : List Int) : 0 ≤ (f.map fun k => k % 3 + 1).sum ∧ (f.map fun k => k % 3 + 1).sum ≤ 3 * (f.length : Int) := by
  induction f with
  | nil => decide
  | cons k f ih =>
    rw [List.map_cons, List.sum_cons, List.length_cons, Int.natCast_add]
    have : ((1 : Nat) : Int) = 1 := rfl
    omega
theorem due_spec {ol : Addr} {us : List Value} {o : List Nat} {on : Nat} (B : Below A₀ base outer h₀) (F : Fr h₀ L s.heap m) (X : (hd.heap_39 w.params).In h₀) (N : News h₀ L s.heap news) (T : Top pT lT mean mg mb h₀) (hk : cs.kind = .function) (hdp : dp + 20 < recursionLimit) (hu : un + 100 < cLine)
    (hol : (ol, listOf (List.toArray us) on) ∈ news) (hus : IntsAre us (o.map fun k : Nat => (k : Int))) (ho6 : o.length = 6) (hlt : ∀ k ∈ o, k < 6)
    (ret : ∀ e d ob t1 t2 t3 t4 h' tk', Fr h₀ L h' m → News h₀ L h' ((e, tupO [.int 20 t1, .int (30 + 10 * ((fallK o 6).length : Int)) t2, .int (90 + 20 * dueM (fallK o 6)) t3, .int (510 + 180 * dueM (fallK o 6) + 20 * dueM (fallK o 6) * dueM (fallK o 6)) t4, .ref d]) :: (d, ob) :: news) → (∀ p ∈ news, p.1 < d) → d < e → (d == sysModules) = false → IsD w ob (dueTab (fallK o 6) 20) → Q (.ref e) { s with heap := h', toks := tk' }) :
    wpAny (model PR w) (ktrTop dp un gd cn cs L a ccd cl outer) (call (.ref 141) [.ref ol]) Q E s := by
  refine wpAny_call ?_
  k_dflt cell_enter
  rename_i g0 L0 h1 FG F0 N0 B0 X0 T0
  refine let_A ?_
  intro A1
  walk_at "go"
  refine For_turns (by k_asm) ?_
  walk_at "go"
  rename_i sa _ l1 fa _ l2 d0 _ od0 lo0 hs0 fs0 hi0 fi0 l3 D _ l4 _ _ _ _ F1 N1
  have a1 : AllLt fa news := l2.2
  have a2 : AllLt d0 news := l3.2.2
  have a3 := ltN l2.1
  have a4 := ltN l3.1
  have a5 := ltN l3.2.1
  have hoN : (ol, listOf (List.toArray us) on) ∈ (fa, listOf (List.toArray []) 0) :: (sa, listOf (List.toArray []) 0) :: (d0, od0) :: news := .tail _ (.tail _ (.tail _ hol))
  refine list_loopA (fun i m₁ n₁ => ∃ su sn fu fn, n₁ = (fa, listOf (List.toArray fu) fn) :: (sa, listOf (List.toArray su) sn) :: (d0, od0) :: news ∧ IntsAre fu (fallK o i) ∧ IntsAre su ((o.take i).map fun k : Nat => (k : Int)) ∧ m₁ (Str.ofString "seen") = some (.ref sa) ∧ m₁ (Str.ofString "fall") = some (.ref fa) ∧ m₁ (Str.ofString "table") = some (.ref d0)) rfl F1 (cb_drop N1 (by
    intro p hp
    simp only [List.mem_cons] at hp ⊢
    rcases hp with h | h | h | h
    · exact .inr (.inr (.inl h))
    · exact .inr (.inr (.inr (.inl h)))
    · exact .inr (.inl h)
    · exact .inr (.inr (.inr (.inr h))))) hoN rfl rfl ⟨[], 0, [], 0, rfl, IntsAre.nil, IntsAre.nil, rfl, rfl, rfl⟩ ?_ ?_
  · intro R9 E9 S9 hP9 I i it v m₁ n₁ h tk hI hv hJ14 ho hit F₁ N₁ hE9
    refine hide ?_
    intro G9
    obtain ⟨su, sn, fu, fn, rfl, hfu, hsu, hm1, hm2, hm3⟩ := hJ14
    have hi6 : i < 6 := by
      have := (List.getElem?_eq_some_iff.mp hv).1
      rw [hus.length, List.length_map, ho6] at this; exact this
    obtain ⟨κ, hκ⟩ : ∃ κ, o[i]? = some κ := ⟨_, List.getElem?_eq_getElem (by omega)⟩
    have hκ6 := hlt κ (List.mem_of_getElem? hκ)
    obtain ⟨tκ, htκ⟩ := hus.get i (κ : Int) (by rw [List.getElem?_map, hκ]; rfl)
    have hve : v = .int (κ : Int) tκ := Option.some.inj (hv.symm.trans htκ)
    subst hve
    clear hv htκ
    replace F₁ := Fr.put (k := Str.ofString "seen") F₁ hm1
    replace F₁ := Fr.put (k := Str.ofString "fall") F₁ hm2
    replace F₁ := Fr.put (k := Str.ofString "table") F₁ hm3
    have hIf := ltN (hI (fa, _) (.head _))
    have hIs := ltN (hI (sa, _) (.tail _ (.head _)))
    have hId := ltN (hI (d0, _) (.tail _ (.tail _ (.head _))))
    have hIn : ∀ p ∈ news, p.1 < I := fun p hp => hI p (.tail _ (.tail _ (.tail _ hp)))
    have hk0 : (0 : Int) ≤ (κ : Int) := by omega
    have hk1 : (κ : Int) < 6 := by omega
    have hfz : (List.toArray fu).size ≤ sizeLine := by rw [List.size_toArray, hfu.length, sizeLine_eq]; have := fallK_len o i; omega
    have hsz : (List.toArray su).size ≤ sizeLine := by rw [List.size_toArray, hsu.length, sizeLine_eq, List.length_map, List.length_take]; omega
    (try k_unfold)
    dsimp only at hIf hIs hId ⊢
    walk_at "go"
    · rename News _ _ _ _ => N9
      rw [List.push_toArray, List.push_toArray] at N9
      refine hE9 _ _ _ _ _ (by k_asm) N9 ⟨su ++ [.int (κ : Int) tκ], _, fu ++ [.int (κ : Int) tκ], _, rfl, (by rw [fallK_yes hκ (by assumption) (by assumption)]; exact ksk_snoc hfu), (by rw [take_snoc hκ]; exact ksk_snoc hsu), rfl, rfl, rfl⟩ (by k_mem) (by walk_at "sub") (by exact off_map ho rfl) (keep1 (.tail _ (.tail _ (.tail _ hol))))
    · rename News _ _ _ _ => N9
      rw [List.push_toArray] at N9
      refine hE9 _ _ _ _ _ (by k_asm) N9 ⟨su ++ [.int (κ : Int) tκ], _, _, _, rfl, (by rw [fallK_two hκ (by assumption)]; exact hfu), (by rw [take_snoc hκ]; exact ksk_snoc hsu), rfl, rfl, rfl⟩ (by k_mem) (by walk_at "sub") (by exact off_map ho rfl) (keep1 (.tail _ (.tail _ (.tail _ hol))))
    · rename News _ _ _ _ => N9
      rw [List.push_toArray] at N9
      refine hE9 _ _ _ _ _ (by k_asm) N9 ⟨su ++ [.int (κ : Int) tκ], _, _, _, rfl, (by rw [fallK_no hκ (by assumption)]; exact hfu), (by rw [take_snoc hκ]; exact ksk_snoc hsu), rfl, rfl, rfl⟩ (by k_mem) (by walk_at "sub") (by exact off_map ho rfl) (keep1 (.tail _ (.tail _ (.tail _ hol))))
  · intro m₁ n₁ h tk hJ4 F₁ N₁
    refine hide ?_
    intro G9
    obtain ⟨su, sn, fu, fn, rfl, hfu, hsu, hm1, hm2, hm3⟩ := hJ4
    have hl6 : us.length = 6 := by rw [hus.length, List.length_map, ho6]
    rw [hl6] at hfu
    replace F₁ := Fr.put (k := Str.ofString "fall") F₁ hm2
    replace F₁ := Fr.put (k := Str.ofString "table") F₁ hm3
    replace N₁ : News _ _ _ ((fa, listOf (List.toArray fu) fn) :: (d0, od0) :: news) := cb_drop N₁ (by
      intro p hp
      simp only [List.mem_cons] at hp ⊢
      rcases hp with h | h | h
      · exact .inl h
      · exact .inr (.inr (.inl h))
      · exact .inr (.inr (.inr h)))
    clear N1 hsu hm1
    (try k_unfold)
    (try dsimp only)
    walk_at "go"
    refine For_turns (by k_asm) ?_
    walk_at "go"
    rename_i rr rs rn _ _ F2 N2 lr hrl hR
    have hD0 : IsD w od0 (dueTab (fallK o 6) 0) := ⟨_, hi0, fi0⟩
    obtain ⟨tail, htail⟩ : ∃ t, t = (rr, listOf ((rs.map fun p => Value.ref p.1)).toArray rn) :: (fa, listOf (List.toArray fu) fn) :: (rs ++ news) := ⟨_, rfl⟩
    have hrr : (rr, listOf ((rs.map fun p => Value.ref p.1)).toArray rn) ∈ tail := by rw [htail]; exact .head _
    have hfm : (fa, listOf (List.toArray fu) fn) ∈ tail := by rw [htail]; exact .tail _ (.head _)
    have hrs : ∀ p ∈ rs, p ∈ tail := fun p hp => by rw [htail]; exact .tail _ (.tail _ (List.mem_append_left _ hp))
    have hnt : ∀ p ∈ news, p ∈ tail := fun p hp => by rw [htail]; exact .tail _ (.tail _ (List.mem_append_right _ hp))
    have hnd : ∀ p ∈ tail, p.1 ≠ d0 := by
      have hdd := N2 (d0, od0) (.tail _ (List.mem_append_right _ (.tail _ (.head _))))
      intro p hp
      rw [htail] at hp
      simp only [List.mem_cons, List.mem_append] at hp
      rcases hp with rfl | rfl | hp | hp
      · exact Ne.symm (lr (d0, od0) (List.mem_append_right _ (.tail _ (.head _))))
      · exact Nat.ne_of_lt a4
      · intro e
        have hp2 := N2 p (.tail _ (List.mem_append_left _ hp))
        obtain ⟨j, hj, hpj⟩ := List.getElem_of_mem hp
        obtain ⟨ra, t1, t2, t3, hra⟩ := hR j (riffs[j]'(by rw [hrl] at hj; exact hj)) (List.getElem?_eq_getElem _)
        rw [List.getElem?_eq_getElem hj] at hra
        have hpe := Option.some.inj hra
        rw [hpj] at hpe
        have e1 := hp2.1
        rw [e, hdd.1, hpe] at e1
        obtain ⟨es, ep, hx, _⟩ := hi0
        have e2 : od0 = tupO _ := Option.some.inj e1
        rw [e2] at hx
        exact absurd (Value.type.inj hx.1) (by decide)
      · exact Nat.ne_of_lt (allLt_lt _ a2 p hp)
    have N3 : News _ _ _ ((d0, od0) :: tail) := cb_drop N2 (by
      intro p hp
      rw [htail] at hp
      simp only [List.mem_cons, List.mem_append] at hp ⊢
      rcases hp with h | h | h | h | h <;> simp [h])
    have hi1 : ∀ i, i < 20 → ∃ r, riffs[i]? = some r := by intro i hi; exact ⟨_, List.getElem?_eq_getElem (by exact hi)⟩
    clear N2 lr
    refine list_loopA (fun i m₁ n₁ => (∃ ob, n₁ = (d0, ob) :: tail ∧ IsD w ob (dueTab (fallK o 6) i)) ∧ m₁ (Str.ofString "fall") = some (.ref fa) ∧ m₁ (Str.ofString "table") = some (.ref d0)) rfl (by k_asm) N3 (.tail _ hrr) rfl rfl ⟨⟨od0, rfl, hD0⟩, rfl, rfl⟩ ?_ ?_
    · intro R9 E9 S9 hP9 I i it v m₁ n₁ h tk hI hv hJ14 ho hit F₁ N₁ hE9
      refine hide ?_
      intro G9
      obtain ⟨⟨ob, rfl, hDo⟩, hm1, hm2⟩ := hJ14
      have hi20 : i < 20 := by
        have := (List.getElem?_eq_some_iff.mp hv).1
        rw [List.length_map, hrl] at this; exact this
      obtain ⟨r, hri⟩ := hi1 i hi20
      obtain ⟨ra, u1, u2, u3, hra⟩ := hR i r hri
      have hvv : v = .ref ra := by
        rw [List.getElem?_map, hra] at hv; exact (Option.some.inj hv).symm
      subst hvv
      have hram := hrs _ (List.mem_of_getElem? hra)
      replace F₁ := Fr.put (k := Str.ofString "fall") F₁ hm1
      replace F₁ := Fr.put (k := Str.ofString "table") F₁ hm2
      (try k_unfold)
      (try dsimp only)
      walk_at "go"
      walk1
      walk_at "go"
      rename_i la _ lla _ _ _ _ _ _ _ _ _ _ _ _ _ _ _ hR0 F3 N4 up0
      have c1 := ltN lla.1
      have c2 := ltN lla.2.1
      have c3 : AllLt la tail := lla.2.2
      obtain ⟨hr3, _, _, _⟩ := riff_facts r (List.mem_of_getElem? hri)
      refine range_loopA (n := 6) (fun p m₁ n₁ => (∃ lu ln, n₁ = (la, listOf (List.toArray lu) ln) :: (I, it) :: (d0, ob) :: tail ∧ IntsAre lu (lineD r p).1) ∧ (∃ t, m₁ (Str.ofString "former") = some (.int (lineD r p).2.1 t)) ∧ (∃ t, m₁ (Str.ofString "latter") = some (.int (lineD r p).2.2 t)) ∧ (∃ t, m₁ (Str.ofString "mask") = some (.int 0 t)) ∧ m₁ (Str.ofString "line") = some (.ref la) ∧ m₁ (Str.ofString "riffle") = some (.ref ra) ∧ m₁ (Str.ofString "fall") = some (.ref fa) ∧ m₁ (Str.ofString "table") = some (.ref d0)) rfl hR0 (by decide) (by decide) F3 (cb_drop N4 (by walk_at "sub")) ⟨⟨[], 0, rfl, IntsAre.nil⟩, ⟨_, rfl⟩, ⟨_, rfl⟩, ⟨_, rfl⟩, rfl, rfl, rfl, rfl⟩ ?_ ?_
      · intro R9 E9 S9 hP9 I2 p it2 m₂ n₂ tt h2 tk2 hI2 hp6 hJ14 ho2 F₂ N₂ hE9
        refine hide ?_
        intro G9
        obtain ⟨⟨lu, ln, rfl, hlu⟩, ⟨tf, hmf⟩, ⟨tl, hml⟩, ⟨tm, hmm⟩, hmL, hmr, hm1, hm2⟩ := hJ14
        replace F₂ := Fr.put (k := Str.ofString "former") F₂ hmf
        replace F₂ := Fr.put (k := Str.ofString "latter") F₂ hml
        replace F₂ := Fr.put (k := Str.ofString "mask") F₂ hmm
        replace F₂ := Fr.put (k := Str.ofString "line") F₂ hmL
        replace F₂ := Fr.put (k := Str.ofString "riffle") F₂ hmr
        replace F₂ := Fr.put (k := Str.ofString "fall") F₂ hm1
        replace F₂ := Fr.put (k := Str.ofString "table") F₂ hm2
        have hlz : (List.toArray lu).size ≤ sizeLine := by rw [List.size_toArray, hlu.length, sizeLine_eq, lineD_len]; omega
        have c4 := ltN (hI2 (la, _) (.head _))
        have c5 := ltN (hI2 (I, _) (.tail _ (.head _)))
        (try k_unfold)
        dsimp only at c4 c5 ⊢
        walk_at "go"
        · rename News _ _ _ _ => N9
          rw [List.push_toArray] at N9
          have e := lineD_yes (r := r) (p := p) (by rw [← Int.zero_add (p : Int)]; assumption)
          refine hE9 _ _ _ _ _ (by k_asm) N9 ⟨⟨lu ++ [.int (lineD r p).2.1 tf], _, rfl, by rw [e]; exact ksk_snoc hlu⟩, ⟨_, by rw [e]; rfl⟩, ⟨_, by rw [e]; rfl⟩, ⟨_, rfl⟩, rfl, rfl, rfl, rfl⟩ (by k_mem) (by walk_at "sub") (by exact off_map ho2 rfl) keep0
        · rename News _ _ _ _ => N9
          rw [List.push_toArray] at N9
          have e := lineD_no (r := r) (p := p) (by rw [← Int.zero_add (p : Int)]; assumption)
          refine hE9 _ _ _ _ _ (by k_asm) N9 ⟨⟨lu ++ [.int (lineD r p).2.2 tl], _, rfl, by rw [e]; exact ksk_snoc hlu⟩, ⟨_, by rw [e]; rfl⟩, ⟨_, by rw [e]; rfl⟩, ⟨_, rfl⟩, rfl, rfl, rfl, rfl⟩ (by k_mem) (by walk_at "sub") (by exact off_map ho2 rfl) keep0
      · intro m₂ n₂ h2 tk2 hJ4 F₂ N₂
        refine hide ?_
        intro G9
        obtain ⟨⟨lu, ln, rfl, hlu⟩, ⟨tf, hmf⟩, ⟨tl, hml⟩, ⟨tm, hmm⟩, hmL, hmr, hm1, hm2⟩ := hJ4
        replace F₂ := Fr.put (k := Str.ofString "mask") F₂ hmm
        replace F₂ := Fr.put (k := Str.ofString "line") F₂ hmL
        replace F₂ := Fr.put (k := Str.ofString "fall") F₂ hm1
        replace F₂ := Fr.put (k := Str.ofString "table") F₂ hm2
        (try k_unfold)
        (try dsimp only)
        walk_at "go"
        walk1
        walk_at "go"
        rename_i hR1 F5 N5 up1
        have hl6 : (lineD r 6).1.length = 6 := lineD_len r 6
        obtain ⟨ll, hll⟩ : ∃ ll, ll = (lineD r 6).1 := ⟨_, rfl⟩
        obtain ⟨ff, hff⟩ : ∃ ff, ff = fallK o 6 := ⟨_, rfl⟩
        rw [← hll] at hlu hl6
        have hfu' := hfu
        rw [← hff] at hfu'
        refine range_loopA (n := 5) (fun g m₁ n₁ => n₁ = (la, listOf (List.toArray lu) ln) :: (I, it) :: (d0, ob) :: tail ∧ (∃ t, m₁ (Str.ofString "mask") = some (.int (maskD ff ll g) t)) ∧ m₁ (Str.ofString "line") = some (.ref la) ∧ m₁ (Str.ofString "fall") = some (.ref fa) ∧ m₁ (Str.ofString "table") = some (.ref d0)) rfl hR1 (by decide) (by decide) F5 (cb_drop N5 (by walk_at "sub")) ⟨rfl, ⟨_, rfl⟩, rfl, rfl, rfl⟩ ?_ ?_
        · intro R9 E9 S9 hP9 I3 g it3 m₃ n₃ tt h3 tk3 hI3 hg5 hJ14 ho3 F₃ N₃ hE9
          refine hide ?_
          intro G9
          obtain ⟨rfl, ⟨tm, hmm⟩, hmL, hm1, hm2⟩ := hJ14
          obtain ⟨hg0, hg1, hn1, hg2, hg3, hn2⟩ := gap_items hl6 hg5
          replace F₃ := Fr.put (k := Str.ofString "mask") F₃ hmm
          replace F₃ := Fr.put (k := Str.ofString "line") F₃ hmL
          replace F₃ := Fr.put (k := Str.ofString "fall") F₃ hm1
          replace F₃ := Fr.put (k := Str.ofString "table") F₃ hm2
          obtain ⟨xx, hxx⟩ : ∃ x, x = ll.getD g 0 := ⟨_, rfl⟩
          obtain ⟨yy, hyy⟩ : ∃ x, x = ll.getD (g + 1) 0 := ⟨_, rfl⟩
          rw [← hxx] at hn1
          rw [← hyy] at hn2
          (try k_unfold)
          (try dsimp only)
          walk_at "go"
          all_goals first
            | (have e := maskD_yes (f := ff) hxx hyy (by first | exact Or.inl ⟨by assumption, by assumption⟩ | exact Or.inr ⟨by assumption, by assumption⟩)
               refine hE9 _ _ _ _ _ (by k_asm) (by k_asm) ⟨rfl, ⟨_, by rw [e]; rfl⟩, rfl, rfl, rfl⟩ (by k_mem) (by walk_at "sub") (by exact ho3) keep0)
            | (have e := maskD_no (f := ff) hxx hyy (by rintro (⟨m1, m2⟩ | ⟨m1, m2⟩) <;> first | exact absurd m1 (by assumption) | exact absurd m2 (by assumption) | exact absurd m2 (by rw [Bool.not_eq_true]; assumption))
               refine hE9 _ _ _ _ _ (by k_asm) (by k_asm) ⟨rfl, ⟨_, by rw [e]; rfl⟩, rfl, rfl, rfl⟩ (by k_mem) (by walk_at "sub") (by exact ho3) keep0)
        · intro m₃ n₃ h3 tk3 hJ4 F₃ N₃
          refine hide ?_
          intro G9
          obtain ⟨rfl, ⟨tm, hmm⟩, hmL, hm1, hm2⟩ := hJ4
          have hcl : (dueTab (fallK o 6) i).length ≤ 1000 := by have := dueTab_len (fallK o 6) i; omega
          have hcl2 : (dueTab (fallK o 6) i).length ≤ 16777216 := by omega
          replace F₃ := Fr.put (k := Str.ofString "mask") F₃ hmm
          replace F₃ := Fr.put (k := Str.ofString "fall") F₃ hm1
          replace F₃ := Fr.put (k := Str.ofString "table") F₃ hm2
          have c6 := ltN (hI (d0, _) (.head _))
          (try k_unfold)
          dsimp only at c6 ⊢
          walk_at "go"
          refine hE9 _ _ _ _ _ (by k_asm) (by k_asm) ⟨⟨_, rfl, (by rw [dueTab_succ hri]; show IsD w _ (dueStep _ _ _); unfold dueStep; rw [← hll, ← hff] at *; assumption)⟩, rfl, rfl⟩ (by k_mem) (by walk_at "sub") (by exact off_map ho rfl) (keep1 (.tail _ hrr))
    · intro m₁ n₁ h tk hJ4 F₁ N₁
      refine hide ?_
      intro G9
      obtain ⟨⟨ob, rfl, hDo⟩, hm1, hm2⟩ := hJ4
      have hlen : (rs.map fun p => Value.ref p.1).length = 20 := by rw [List.length_map, hrl]
      rw [hlen] at hDo
      replace F₁ := Fr.put (k := Str.ofString "fall") F₁ hm1
      replace F₁ := Fr.put (k := Str.ofString "table") F₁ hm2
      have hfl := fallK_len o 6
      obtain ⟨ff, hff⟩ : ∃ ff, ff = fallK o 6 := ⟨_, rfl⟩
      rw [← hff] at hfu hDo hfl ret
      (try k_unfold)
      (try dsimp only)
      walk_at "goC"
      refine' ListComp_inv (ax := fa) (its := fu) (ln := fn) (fun k ys n₂ => n₂ = (d0, ob) :: tail ∧ IntsAre ys ((ff.take k).map fun z => z % 3 + 1)) rfl (by k_asm) (by k_asm) ?hclos2 ?hcell2 rfl ?hnames2 ?hx2 ?hiter2 ?hm2 ?hsz2 ?hj2 ?turn2 ?done2 ?hs2
      case hclos2 => with_unfolding_all rfl
      case hcell2 => decide
      case hnames2 => decide
      case hx2 => rfl
      case hiter2 => intro Q' hq; walk_at "go"; exact hq
      case hm2 => exact .tail _ hfm
      case hsz2 => rw [hfu.length]; omega
      case hs2 => intro _; rfl
      case hj2 => exact ⟨rfl, IntsAre.nil⟩
      case turn2 =>
        intro k v I2 oI2 C2 oC2 D2 m2 zs n₂ h2 tk2 E2 hv2 hJ14 hC2 hm2 F2 N2 hof2 hdist2
        refine hide ?_
        intro G9
        obtain ⟨rfl, hzs⟩ := hJ14
        have hk2 : k < ff.length := by rw [← hfu.length]; exact (List.getElem?_eq_some_iff.mp hv2).1
        obtain ⟨z, hz⟩ : ∃ z, ff[k]? = some z := ⟨_, List.getElem?_eq_getElem hk2⟩
        obtain ⟨tz, htz⟩ := hfu.get k z hz
        have hve : v = .int z tz := Option.some.inj (hv2.symm.trans htz)
        subst hve
        (try k_unfold)
        (try dsimp only)
        walk_at "go"
        rw [Int.fmod_eq_emod_of_nonneg z (by decide)]
        refine LCg.CompEnd.intro (by k_asm) (by assumption) _ (fun p hp => hp) hof2 (Or.inr ⟨_, .tail _ hfm, rfl, _, rfl⟩) ⟨rfl, ?_⟩
        rw [List.take_add_one, hz, List.map_append]
        exact ksk_snoc hzs
      case done2 =>
        intro D2 zs n₂ h2 tk2 hJ5 F2 N2 ho2
        refine hide ?_
        intro G9
        obtain ⟨rfl, hzs⟩ := hJ5
        rw [List.take_of_length_le (by rw [hfu.length]; exact Nat.le_refl _)] at hzs
        have hbd := dueM_bd ff
        obtain ⟨ms, hms⟩ : ∃ ms, ms = ff.map fun z => z % 3 + 1 := ⟨_, rfl⟩
        rw [← hms] at hzs hbd
        have hb0 : 0 ≤ ms.sum := hbd.1
        have hb1 : ms.sum ≤ 18 := by omega
        clear hbd
        have hdm : dueM ff = ms.sum := by rw [hms]; rfl
        rw [hdm] at ret
        (try k_unfold)
        (try dsimp only)
        walk_at "go"
        rename News g0 L0 _ ((D2, _) :: _) => N9
        have hde := Heap.lt_size (N9 (d0, ob) (.tail _ (.head _))).1
        exact ret _ d0 ob _ _ _ _ _ _ (by k_asm) (cb_drop (by assumption) (List.forall_mem_cons.mpr ⟨.head _, List.forall_mem_cons.mpr ⟨.tail _ (.tail _ (.head _)), fun p hp => .tail _ (.tail _ (.tail _ (hnt p hp)))⟩⟩)) (fun p hp => allLt_lt _ a2 p hp) hde lo0 hDo
end
end
section
example : True := by
  k_with_none
  w_top off
  trivial

example : True := by
  k_with "go" => ((repeat' (first | ((first | (with_reducible show wpAny _ _ (exec (Stmt.Assign _ _ _) _) _ _ _) | (with_reducible show wpAny _ _ (exec (Stmt.Expr _ _) _) _ _ _) | (with_reducible show wpAny _ _ (exec (Stmt.If _ _ _ _) _) _ _ _) | (with_reducible show wpAny _ _ (exec (Stmt.AugAssign _ _ _ _) _) _ _ _) | (with_reducible show wpAny _ _ (exec (Stmt.Return _ _) _) _ _ _) | (with_reducible show wpAny _ _ (eval (Expr.Call _ _ _ _) _) _ _ _)); k_fold) | ((fail_if_success (with_reducible show wpAny _ _ (exec (Stmt.For _ _ _ _ _) _) _ _ _)); (fail_if_success (with_reducible show wpAny _ _ (pyIter _) _ _ _)); (first | (k_unfold; (try dsimp only)) | (k_end; wrow_close) | walk1 | (dsimp only; walk1) | (leave1; walk_say "STEP leave1"; try dsimp only))))); (all_goals (repeat (first | clear ek | clear qk))))
  k_with "getMethod ref" => (k_here; (with_reducible show wpAny _ _ (getMethod (Value.ref _) (Str.ofString "items") _) _ _ _); k_dflt (refine' isD_items_m ?zzk1 ?zzk2 ?zzk3 ?_; (case zzk1 => k_asm); (case zzk2 => k_mem); (case zzk3 => with_reducible assumption); k_whole))
  k_with "call builtin:dict.items" => (k_here; (with_reducible show wpAny _ _ (call (Value.builtin "dict.items") [Value.ref _]) _ _ _); k_dflt (refine' isD_items ?zzk0 ?zzk1 ?zzk2 ?zzk3 ?zzk4 ?_; (case zzk0 => k_asm); (case zzk1 => k_asm); (case zzk2 => k_mem); (case zzk3 => with_reducible assumption); (case zzk4 => with_reducible assumption); k_whole); intro _ _ _ _ _; (try k_sweep))
  k_with "setItem ref int" => (k_here; (with_reducible show wpAny _ _ (setItem (Value.ref _) (Value.int _ _) (Value.int _ _)) _ _ _); k_dflt (refine' isD_set ?zzk0 ?zzk1 ?zzk2 ?zzk3 ?zzk4 ?_; (case zzk0 => k_asm); (case zzk1 => k_asm); (case zzk2 => k_updF); (case zzk3 => with_reducible assumption); (case zzk4 => omega); k_whole); intro _ _ _ _ _; (try k_sweep))
  k_with "compareOp In" => (k_here; (with_reducible show wpAny _ _ (compareOp CmpOp.In (Value.int _ _) (Value.ref _)) _ _ _); k_dflt (refine' isD_in ?zzk1 ?zzk2 ?zzk3 ?zzk4 ?_; (case zzk1 => k_asm); (case zzk2 => k_mem); (case zzk3 => with_reducible assumption); (case zzk4 => with_reducible assumption); k_whole))
  k_with "getItem ref int" => (k_here; (with_reducible show wpAny _ _ (getItem (Value.ref _) (Value.int _ _)) _ _ _); k_dflt (refine' isD_getItem ?zzk1 ?zzk2 ?zzk3 ?zzk4 ?zzk5 ?_; (case zzk1 => k_asm); (case zzk2 => k_mem); (case zzk3 => with_reducible assumption); (case zzk4 => with_reducible assumption); (case zzk5 => with_reducible assumption); k_whole); intro _)
  trivial
section
variable {w : World} {dp un : Nat} {gd : Option (List Code)} {cn : Str} {cs : Scope} {a : Addr} {ccd : Value} {cl : List (Str × Addr)} {outer : List Env} {A₀ : Around} {base h₀ : Heap} {L : Addr} {m : Str → Option Value} {news : List (Addr × Obj)} {s : Shared}
    {Q E : Value → Shared → Prop} {pT : Program} {lT : List Str} {mean : ExcName → Option Value} {mg mb : Str → Option Value}

example : True := by
  k_with "item" => (k_here; (with_reducible show wpAny _ _ (subscriptTail _ _ (Value.ref _) (Value.int _ _)) _ _ _); k_dflt (first | (refine' int_item ?zzk1 ?zzk2 ?zzk3 ?zzk4 ?zzk5 ?zzk6 ?_ ?zzk7; (case zzk1 => k_asm); (case zzk2 => k_mem); (case zzk3 => with_reducible assumption); (case zzk4 => with_reducible assumption); (case zzk5 => with_reducible assumption); (case zzk6 => with_reducible assumption); (case zzk7 => with_unfolding_all rfl); k_whole; intro _) | (refine' val_item ?zzk1 ?zzk2 ?zzk3 ?zzk4 ?zzk5 ?_ ?zzk6; (case zzk1 => k_asm); (case zzk2 => k_mem); (case zzk3 => with_reducible assumption); (case zzk4 => with_reducible assumption); (case zzk5 => with_reducible assumption); (case zzk6 => with_unfolding_all rfl); k_whole)))
  k_with "sub" => ((repeat (refine List.forall_mem_cons.mpr ⟨by k_mem, ?_⟩)); (intro _ hp9); (repeat (first | exact hp9 | refine List.mem_cons_of_mem _ ?_)))
  trivial
theorem pick_sub {α : Type} {xs : Array α} {v : α} {l : List Nat} (h : v ∈ l.filterMap (xs[·]?)) : v ∈ xs.toList := by
  obtain ⟨i, _, hi⟩ := List.mem_filterMap.mp h
  obtain ⟨hlt, rfl⟩ := Array.getElem?_eq_some_iff.mp hi
  exact Array.getElem_mem_toList hlt
theorem slice_step {A : Around} {E : Value → Shared → Prop} {value slice : Expr} {sl : Addr} {vs : List Value} {ns : List Int} {a b c : Int} {ta tb tc : Tok} {ops : List Value} {Q : Value → Shared → Prop} (F : Fr h₀ L s.heap m) (N : News h₀ L s.heap news) (hsl : h₀.IsList sl vs.toArray) (hvs : IntsAre vs ns) (hns : ns.length ≤ 63) (h0 : some c ≠ some 0)
    (h : ∀ D zs ms h', Fr h₀ L h' m → News h₀ L h' ((D, listOf (List.toArray zs) 0) :: news) → (∀ p ∈ news, p.1 < D) → IntsAre zs ms → ms.length ≤ 63 → Q (.ref D) { s with heap := h' })
    (hs : subscripted slice false (.ref sl) (.ref s.heap.objs.size) = operate ops (getItem (.ref sl) (.ref s.heap.objs.size))) (ht : ∀ r, letTemporaryGo value (.ref sl) r = pure ()) :
    wpAny (model PR w) A (subscriptTail value slice (.ref sl) (.ref s.heap.objs.size)) Q E { s with heap := s.heap.push { cls := .type "slice", data := .fields #[.int a ta, .int b tb, .int c tc] } } := by
  have hz : (List.toArray vs).size ≤ 63 := by rw [List.size_toArray, hvs.length]; exact hns
  refine kmk_slice3_lit (its := vs.toArray) (lo := some a) (hi := some b) (st := some c) F N (hsl.at fun o e => F.keep _ _ e) (IsPart.int _ _) (IsPart.int _ _) (IsPart.int _ _) h0 rfl ?_ hs ht (by rw [sizeLine_eq]; omega)
  intro D h' F' N' l1
  refine h D _ _ h' F' N' l1 (intsAre_map _ fun v hv => ?_) ?_
  · refine hvs.all v ?_
    unfold slicePick at hv
    rw [List.toList_toArray] at hv
    have := pick_sub hv
    simpa using this
  · rw [List.length_map, Array.length_toList]
    exact Nat.le_trans (slicePick_size_le _ _ _ _) hz
example : True := by
  k_with "subscriptTail Name Slice ref ref" => (k_here; (with_reducible show wpAny _ _ (subscriptTail _ (PySem.Expr.Slice _ _ (some _) _) (Value.ref _) (Value.ref _)) _ _ _); k_dflt (refine' slice_step ?zzF ?zzN ?zza ?zzb ?zzc ?zzd ?_ ?zzs ?zzt; (case zzF => k_asm); (case zzN => k_asm); (case zza => with_reducible assumption); (case zzb => with_reducible assumption); (case zzc => with_reducible assumption); (case zzd => decide); (case zzs => with_unfolding_all rfl); (case zzt => kmk_pure); k_whole); intro _ _ _ _ _ _ l1 _ _; (try k_lt l1); (try k_sweep))
  trivial
noncomputable def KindsAt (R : List (Addr × Obj)) (kt : Addr) : Prop := ∃ q : Nat → Addr, (kt, tupO [.ref (q 0), .ref (q 1), .ref (q 2), .ref (q 3), .ref (q 4), .ref (q 5), .ref (q 6), .ref (q 7)]) ∈ R ∧ ∀ κ, κ < 8 → ∃ t1 t2 t3 t4, (q κ, tupO [.str (srcK κ) t1, .int (linK κ) t2, .str (namK κ) t3, .str (texK κ) t4]) ∈ R
theorem kinds_of {R : List (Addr × Obj)} {kt q0 q1 q2 q3 q4 q5 q6 q7 : Addr} {a0 b0 c0 d0 a1 b1 c1 d1 a2 b2 c2 d2 a3 b3 c3 d3 a4 b4 c4 d4 a5 b5 c5 d5 a6 b6 c6 d6 a7 b7 c7 d7 : Tok} (h : (kt, tupO [.ref q0, .ref q1, .ref q2, .ref q3, .ref q4, .ref q5, .ref q6, .ref q7]) ∈ R)
    (h0 : (q0, tupO [.str "~" a0, .int 0 b0, .str "<f>" c0, .str "{f}" d0]) ∈ R) (h1 : (q1, tupO [.str "~" a1, .int 0 b1, .str "<f" c1, .str "<f" d1]) ∈ R) (h2 : (q2, tupO [.str "~" a2, .int 7 b2, .str "<f>" c2, .str "~:7(<f>)" d2]) ∈ R) (h3 : (q3, tupO [.str "a" a3, .int 0 b3, .str "f" c3, .str "a:0(f)" d3]) ∈ R)
    (h4 : (q4, tupO [.str "a" a4, .int (-1) b4, .str "f" c4, .str "a:-1(f)" d4]) ∈ R) (h5 : (q5, tupO [.str "b" a5, .int 10 b5, .str "<g>" c5, .str "b:10(<g>)" d5]) ∈ R) (h6 : (q6, tupO [.str "b" a6, .int 9 b6, .str "<g>" c6, .str "b:9(<g>)" d6]) ∈ R) (h7 : (q7, tupO [.str "" a7, .int 0 b7, .str "<f>" c7, .str ":0(<f>)" d7]) ∈ R) : KindsAt R kt := by
  refine ⟨fun κ => [q0, q1, q2, q3, q4, q5, q6, q7].getD κ 0, h, fun κ hκ => ?_⟩
  rcases lt8 κ hκ with rfl | rfl | rfl | rfl | rfl | rfl | rfl | rfl
  · exact ⟨_, _, _, _, h0⟩
  · exact ⟨_, _, _, _, h1⟩
  · exact ⟨_, _, _, _, h2⟩
  · exact ⟨_, _, _, _, h3⟩
  · exact ⟨_, _, _, _, h4⟩
  · exact ⟨_, _, _, _, h5⟩
  · exact ⟨_, _, _, _, h6⟩
  · exact ⟨_, _, _, _, h7⟩
theorem KindsAt.item {R : List (Addr × Obj)} {kt : Addr} (h : KindsAt R kt) {κ : Nat} (hκ : κ < 8) : ∃ xs q t1 t2 t3 t4, (kt, tupO xs) ∈ R ∧ xs[κ]? = some (.ref q) ∧ (q, tupO [.str (srcK κ) t1, .int (linK κ) t2, .str (namK κ) t3, .str (texK κ) t4]) ∈ R := by
  obtain ⟨q, hk, hq⟩ := h
  obtain ⟨t1, t2, t3, t4, hm⟩ := hq κ hκ
  refine ⟨_, q κ, t1, t2, t3, t4, hk, ?_, hm⟩
  have hc := lt8 κ hκ
  rcases hc with rfl | rfl | rfl | rfl | rfl | rfl | rfl | rfl <;> rfl
theorem things_start {g0 h : Heap} {L0 D tl pl : Addr} {oD o1 o2 : Obj} {R : List (Addr × Obj)} (N : News g0 L0 h ((D, oD) :: (pl, o1) :: (tl, o2) :: R)) : ∃ R', R' = R ∧ News g0 L0 h ((tl, o2) :: (pl, o1) :: R') :=
  ⟨R, rfl, cb_drop N fun p hp => by
    simp only [List.mem_cons] at hp ⊢
    rcases hp with h | h | h
    · exact .inr (.inr (.inl h))
    · exact .inr (.inl h)
    · exact .inr (.inr (.inr h))⟩
/-- a row: the values of its seven columns -/
noncomputable def RowIs (x : Int) (k : Nat) (cells : List Value) : Prop := ∃ t1 t2 t3 t4 t5 t6 t7, cells = [.int ((x.fdiv 8).fmod 3) t1, .int (x.fdiv 24) t2, .str (srcK (x.fmod 8).toNat) t3, .int (linK (x.fmod 8).toNat) t4, .str (namK (x.fmod 8).toNat) t5, .str (texK (x.fmod 8).toNat) t6, .int (k : Int) t7]
noncomputable def RowsAt (xs : List Int) (us : List Value) (S : List (Addr × Obj)) : Prop := us.length = xs.length ∧ ∀ i x, xs[i]? = some x → ∃ ra cells, us[i]? = some (.ref ra) ∧ (ra, tupO cells) ∈ S ∧ RowIs x i cells
theorem fmod8 (x : Int) : 0 ≤ x.fmod 8 ∧ x.fmod 8 < 8 := by
  rw [Int.fmod_eq_emod_of_nonneg x (by decide)]
  omega
theorem kinds_item {A : Around} {E : Value → Shared → Prop} {value slice : Expr} {R S : List (Addr × Obj)} {kt : Addr} {x : Int} {u : Tok} {Q : Value → Shared → Prop} (N : News h₀ L s.heap news) (hK : KindsAt R kt) (hR : ∀ p ∈ R, p ∈ S) (hS : ∀ p ∈ S, p ∈ news)
    (h : ∀ q t1 t2 t3 t4, (q, tupO [.str (srcK (x.fmod 8).toNat) t1, .int (linK (x.fmod 8).toNat) t2, .str (namK (x.fmod 8).toNat) t3, .str (texK (x.fmod 8).toNat) t4]) ∈ S → Q (.ref q) s)
    (hs : subscripted slice false (.ref kt) (.int (x.fmod 8) u) = operate [.ref kt, .int (x.fmod 8) u] (getItem (.ref kt) (.int (x.fmod 8) u)) := by with_unfolding_all rfl) :
    wpAny (model PR w) A (subscriptTail value slice (.ref kt) (.int (x.fmod 8) u)) Q E s := by
  obtain ⟨h0, h8⟩ := fmod8 x
  obtain ⟨xs, q, t1, t2, t3, t4, hk, hx, hq⟩ := hK.item (κ := (x.fmod 8).toNat) (by omega)
  exact tup_item N (hS _ (hR _ hk)) h0 (by omega) hx (h q t1 t2 t3 t4 (hR _ hq)) hs
theorem fstd8_spec {z : Int} {x : Addr} {t1 t2 t3 : Tok} (B : Below A₀ base outer h₀) (F : Fr h₀ L s.heap m) (X : (hd.heap_39 w.params).In h₀) (N : News h₀ L s.heap news) (T : Top pT lT mean mg mb h₀) (hk : cs.kind = .function) (hdp : dp + 3 < recursionLimit) (hu : un + 100 < cLine)
    (hx : (x, tupO [.str (srcK (z.fmod 8).toNat) t1, .int (linK (z.fmod 8).toNat) t2, .str (namK (z.fmod 8).toNat) t3]) ∈ news)
    (ret : ∀ t h' tk', Fr h₀ L h' m → News h₀ L h' news → Q (.str (texK (z.fmod 8).toNat) t) { s with heap := h', toks := tk' }) :
    wpAny (model PR w) (ktrTop dp un gd cn cs L a ccd cl outer) (call (.ref 49) [.ref x]) Q E s :=
  fstd_spec (κ := (z.fmod 8).toNat) (by have := fmod8 z; omega) B F X N T hk hdp hu hx ret
example : True := by
  k_with "subscriptTail Name BinOp ref int" => (k_here; (with_reducible show wpAny _ _ (subscriptTail _ _ (Value.ref _) (Value.int _ _)) _ _ _); k_dflt (refine' kinds_item ?zzN ?zzk ?zzr ?zzm ?_ ?zzs; (case zzN => k_asm); (case zzk => with_reducible assumption); (case zzr => with_reducible assumption); (case zzm => (intro _ hp9; (repeat (first | exact hp9 | refine List.mem_cons_of_mem _ ?_)))); (case zzs => with_unfolding_all rfl); k_whole); intro _ _ _ _ _ _)
  k_with "call ref" => (k_here; (with_reducible show wpAny _ _ (call (Value.ref 49) [Value.ref _]) _ _ _); k_dflt (refine' fstd8_spec ?zzk1 ?zzk2 ?zzk3 ?zzk4 ?zzk5 ?zzk6 ?zzk7 ?zzk8 ?zzx1 ?_; (case zzk1 => k_asm); (case zzk2 => k_asm); (case zzk3 => k_asm); (case zzk4 => k_asm); (case zzk5 => k_asm); (case zzk6 => exact rfl); (case zzk7 => (first | exact roomK (by assumption) rfl | ktr_room)); (case zzk8 => (first | exact roomK (by assumption) rfl | ktr_units)); (case zzx1 => k_mem); k_whole); intro _ _ _ _ _; (try k_sweep))
  trivial
theorem rowIs_mk (x : Int) (k : Nat) (t1 t2 t3 t4 t5 t6 t7 : Tok) : RowIs x k [.int ((x.fdiv 8).fmod 3) t1, .int (x.fdiv 24) t2, .str (srcK (x.fmod 8).toNat) t3, .int (linK (x.fmod 8).toNat) t4, .str (namK (x.fmod 8).toNat) t5, .str (texK (x.fmod 8).toNat) t6, .int (0 + (k : Int)) t7] :=
  ⟨t1, t2, t3, t4, t5, t6, t7, by rw [Int.zero_add]⟩
theorem RowsAt.snoc {xs : List Int} {us : List Value} {S S' : List (Addr × Obj)} {k : Nat} {x : Int} {ra : Addr} {cells : List Value} (h : RowsAt xs us S) (hxs : xs.length = k) (hS : ∀ p ∈ S, p ∈ S') (hm : (ra, tupO cells) ∈ S') (hr : RowIs x k cells) : RowsAt (xs ++ [x]) (us ++ [.ref ra]) S' := by
  refine ⟨by rw [List.length_append, List.length_append, h.1]; rfl, fun i y hy => ?_⟩
  rcases Nat.lt_trichotomy i xs.length with hl | hl | hl
  · rw [List.getElem?_append_left hl] at hy
    obtain ⟨rb, cb, e1, e2, e3⟩ := h.2 i y hy
    exact ⟨rb, cb, by rw [List.getElem?_append_left (by rw [h.1]; exact hl)]; exact e1, hS _ e2, e3⟩
  · subst hl
    rw [List.getElem?_append_right (Nat.le_refl _), Nat.sub_self] at hy
    cases hy
    exact ⟨ra, cells, by rw [List.getElem?_append_right (by rw [h.1]; exact Nat.le_refl _), h.1, Nat.sub_self]; rfl, hm, by rw [hxs]; exact hr⟩
  · have : (xs ++ [x])[i]? = none := List.getElem?_eq_none (by rw [List.length_append, List.length_singleton]; omega)
    rw [this] at hy; cases hy
theorem RowsAt.mono {xs : List Int} {us : List Value} {S S' : List (Addr × Obj)} (h : RowsAt xs us S) (hS : ∀ p ∈ S, p ∈ S') : RowsAt xs us S' :=
  ⟨h.1, fun i y hy => let ⟨rb, cb, e1, e2, e3⟩ := h.2 i y hy; ⟨rb, cb, e1, hS _ e2, e3⟩⟩
theorem things_spec {sl : Addr} {vs : List Value} {ns : List Int} (B : Below A₀ base outer h₀) (F : Fr h₀ L s.heap m) (X : (hd.heap_39 w.params).In h₀) (N : News h₀ L s.heap news) (T : Top pT lT mean mg mb h₀) (hk : cs.kind = .function) (hdp : dp + 20 < recursionLimit) (hu : un + 150 < cLine)
    (hsl : h₀.IsList sl vs.toArray) (hvs : IntsAre vs ns) (hns : ns.length ≤ 63)
    (ret : ∀ rt tl pl us1 c1 us2 c2 S xs h' tk', Fr h₀ L h' m → News h₀ L h' ((rt, tupO [.ref tl, .ref pl]) :: (tl, listOf (List.toArray us1) c1) :: (pl, listOf (List.toArray us2) c2) :: S) → (∀ p ∈ news, p ∈ S) → xs.length = 6 → RowsAt xs us1 S → RowsAt xs us2 S → Q (.ref rt) { s with heap := h', toks := tk' }) :
    wpAny (model PR w) (ktrTop dp un gd cn cs L a ccd cl outer) (call (.ref 119) [.ref sl]) Q E s := by
  refine wpAny_call ?_
  k_dflt cell_enter
  rename_i g0 L0 h1 FG F0 N0 B0 X0 T0
  have hsl0 : g0.IsList sl vs.toArray := hsl.at fun o e => FG.keep _ _ e
  refine let_A ?_
  intro A1
  walk_at "go"
  walk1
  walk_at "go"
  rename_i q0 _ _ q1 _ _ q2 _ _ q3 _ _ q4 _ _ q5 _ _ q6 _ _ q7 _ _ kt _ lkt _ _ tl _ ltl pl _ lpl D _ lD _ _ _ _ _ _ _ _ _ _ hR0 F3 N4 up3
  obtain ⟨R, hRe, N5⟩ := things_start N4
  have hK : KindsAt R kt := by
    rw [hRe]
    exact kinds_of (.head _) (.tail _ (.tail _ (.tail _ (.tail _ (.tail _ (.tail _ (.tail _ (.tail _ (.head _))))))))) (.tail _ (.tail _ (.tail _ (.tail _ (.tail _ (.tail _ (.tail _ (.head _)))))))) (.tail _ (.tail _ (.tail _ (.tail _ (.tail _ (.tail _ (.head _))))))) (.tail _ (.tail _ (.tail _ (.tail _ (.tail _ (.head _)))))) (.tail _ (.tail _ (.tail _ (.tail _ (.head _))))) (.tail _ (.tail _ (.tail _ (.head _)))) (.tail _ (.tail _ (.head _))) (.tail _ (.head _))
  have hRt : ∀ p ∈ R, p.1 < tl := by rw [hRe]; exact allLt_lt _ ltl
  have hRn : ∀ p ∈ news, p ∈ R := by rw [hRe]; exact fun p hp => .tail _ (.tail _ (.tail _ (.tail _ (.tail _ (.tail _ (.tail _ (.tail _ (.tail _ (hp)))))))))
  have htp := ltN lpl.1
  clear hRe N4 up3
  refine range_loopA (n := 6) (fun k m₁ n₁ => ∃ us1 c1 us2 c2 S xs, n₁ = (tl, listOf (List.toArray us1) c1) :: (pl, listOf (List.toArray us2) c2) :: S ∧ (∀ p ∈ R, p ∈ S) ∧ (∀ p ∈ S, p.1 ≠ tl) ∧ (∀ p ∈ S, p.1 ≠ pl) ∧ xs.length = k ∧ RowsAt xs us1 S ∧ RowsAt xs us2 S ∧ m₁ (Str.ofString "told") = some (.ref tl) ∧ m₁ (Str.ofString "plain") = some (.ref pl) ∧ m₁ (Str.ofString "kinds") = some (.ref kt) ∧ m₁ (Str.ofString "script") = some (.ref sl)) rfl hR0 (by decide) (by decide) F3 N5 ⟨[], 0, [], 0, R, [], rfl, fun p hp => hp, fun p hp => Nat.ne_of_lt (hRt p hp), fun p hp => Nat.ne_of_lt (Nat.lt_trans (hRt p hp) htp), rfl, ⟨rfl, fun i x h => by cases h⟩, ⟨rfl, fun i x h => by cases h⟩, rfl, rfl, rfl, rfl⟩ ?_ ?_
  · intro R9 E9 S9 hP9 I k it m₁ n₁ tt h tk hI hk6 hJ14 ho F₁ N₁ hR9
    refine hide ?_
    intro G9
    obtain ⟨us1, c1, us2, c2, S, xs, rfl, hRS, hSt, hSp, hxs, hu1, hu2, hmt, hmp, hmk, hms⟩ := hJ14
    replace F₁ := Fr.put (k := Str.ofString "told") F₁ hmt
    replace F₁ := Fr.put (k := Str.ofString "plain") F₁ hmp
    replace F₁ := Fr.put (k := Str.ofString "kinds") F₁ hmk
    replace F₁ := Fr.put (k := Str.ofString "script") F₁ hms
    have hk0 : (0 : Int) ≤ 0 + (k : Int) := by omega
    have hk1 : (0 : Int) + (k : Int) < 6 := by omega
    have hz1 : (List.toArray us1).size ≤ sizeLine := by rw [List.size_toArray, hu1.1, hxs, sizeLine_eq]; omega
    have hz2 : (List.toArray us2).size ≤ sizeLine := by rw [List.size_toArray, hu2.1, hxs, sizeLine_eq]; omega
    have e1 := ltN (hI (tl, _) (.head _))
    have e2 := ltN (hI (pl, _) (.tail _ (.head _)))
    (try k_unfold)
    dsimp only at e1 e2 ⊢
    walk_at "go"
    rename_i ms _ _ _ _ _ _ _ _ _ _ _ _ _ _ _ _ _ _ _ _ _ _ _ _ _ _ _ _ _ _ d1 _ ld1 _ d2 _ ld2 _ F9 N9
    rw [List.push_toArray, List.push_toArray] at N9
    refine hR9 _ _ _ _ _ (by k_asm) N9 ⟨us1 ++ [.ref d1], _, us2 ++ [.ref d2], _, (d2, _) :: (d1, _) :: S, xs ++ [[13, -21, 40, 22, 54, 36].getD ((0 : Int) + (k : Int)).toNat 0 + ms.sum], rfl, fun p hp => .tail _ (.tail _ (hRS p hp)),
      List.forall_mem_cons.mpr ⟨Nat.ne_of_gt ld2.2.2.2.2.2.1, List.forall_mem_cons.mpr ⟨Nat.ne_of_gt ld1.2.2.2.2.1, hSt⟩⟩, List.forall_mem_cons.mpr ⟨Nat.ne_of_gt ld2.2.2.2.2.2.2.1, List.forall_mem_cons.mpr ⟨Nat.ne_of_gt ld1.2.2.2.2.2.1, hSp⟩⟩,
      (by rw [List.length_append, hxs]; rfl), hu1.snoc hxs (fun p hp => .tail _ (.tail _ hp)) (.tail _ (.head _)) (rowIs_mk _ k _ _ _ _ _ _ _), hu2.snoc hxs (fun p hp => .tail _ (.tail _ hp)) (.head _) (rowIs_mk _ k _ _ _ _ _ _ _), rfl, rfl, rfl, rfl⟩ (by k_mem) (by walk_at "sub")
      (List.forall_mem_cons.mpr ⟨ho (tl, listOf (List.toArray us1) c1) (.head _), List.forall_mem_cons.mpr ⟨ho (pl, listOf (List.toArray us2) c2) (.tail _ (.head _)), List.forall_mem_cons.mpr ⟨Nat.ne_of_gt ld2.2.2.2.2.1, List.forall_mem_cons.mpr ⟨Nat.ne_of_gt ld1.2.2.2.1, fun p hp => ho p (.tail _ (.tail _ hp))⟩⟩⟩⟩) keep0
  · intro m₁ n₁ h tk hJ4 F₁ N₁
    refine hide ?_
    intro G9
    obtain ⟨us1, c1, us2, c2, S, xs, rfl, hRS, hSt, hSp, hxs, hu1, hu2, hmt, hmp, hmk, hms⟩ := hJ4
    replace F₁ := Fr.put (k := Str.ofString "told") F₁ hmt
    replace F₁ := Fr.put (k := Str.ofString "plain") F₁ hmp
    (try k_unfold)
    (try dsimp only)
    walk_at "go"
    exact ret _ tl pl us1 c1 us2 c2 S xs _ _ (by k_asm) (by assumption) (fun p hp => hRS p (hRn p hp)) hxs hu1 hu2
end
end
section
example : True := by
  k_with_none
  w_top off
  trivial

example : True := by
  k_with "go" => ((repeat' (first | ((first | (with_reducible show wpAny _ _ (exec (Stmt.Assign _ _ _) _) _ _ _) | (with_reducible show wpAny _ _ (exec (Stmt.Expr _ _) _) _ _ _) | (with_reducible show wpAny _ _ (exec (Stmt.If _ _ _ _) _) _ _ _) | (with_reducible show wpAny _ _ (exec (Stmt.AugAssign _ _ _ _) _) _ _ _) | (with_reducible show wpAny _ _ (exec (Stmt.Return _ _) _) _ _ _) | (with_reducible show wpAny _ _ (eval (Expr.Call _ _ _ _) _) _ _ _)); k_fold) | ((fail_if_success (with_reducible show wpAny _ _ (exec (Stmt.For _ _ _ _ _) _) _ _ _)); (fail_if_success (with_reducible show wpAny _ _ (pyIter _) _ _ _)); (first | (k_unfold; (try dsimp only)) | (k_end; wrow_close) | walk1 | (dsimp only; walk1) | (leave1; walk_say "STEP leave1"; try dsimp only))))); (all_goals (repeat (first | clear ek | clear qk))))
  k_with "getMethod ref" => (k_here; (with_reducible show wpAny _ _ (getMethod (Value.ref _) (Str.ofString "items") _) _ _ _); k_dflt (refine' isD_items_m ?zzk1 ?zzk2 ?zzk3 ?_; (case zzk1 => k_asm); (case zzk2 => k_mem); (case zzk3 => with_reducible assumption); k_whole))
  k_with "call builtin:dict.items" => (k_here; (with_reducible show wpAny _ _ (call (Value.builtin "dict.items") [Value.ref _]) _ _ _); k_dflt (refine' isD_items ?zzk0 ?zzk1 ?zzk2 ?zzk3 ?zzk4 ?_; (case zzk0 => k_asm); (case zzk1 => k_asm); (case zzk2 => k_mem); (case zzk3 => with_reducible assumption); (case zzk4 => with_reducible assumption); k_whole); intro _ _ _ _ _; (try k_sweep))
  k_with "setItem ref int" => (k_here; (with_reducible show wpAny _ _ (setItem (Value.ref _) (Value.int _ _) (Value.int _ _)) _ _ _); k_dflt (refine' isD_set ?zzk0 ?zzk1 ?zzk2 ?zzk3 ?zzk4 ?_; (case zzk0 => k_asm); (case zzk1 => k_asm); (case zzk2 => k_updF); (case zzk3 => with_reducible assumption); (case zzk4 => omega); k_whole); intro _ _ _ _ _; (try k_sweep))
  k_with "compareOp In" => (k_here; (with_reducible show wpAny _ _ (compareOp CmpOp.In (Value.int _ _) (Value.ref _)) _ _ _); k_dflt (refine' isD_in ?zzk1 ?zzk2 ?zzk3 ?zzk4 ?_; (case zzk1 => k_asm); (case zzk2 => k_mem); (case zzk3 => with_reducible assumption); (case zzk4 => with_reducible assumption); k_whole))
  k_with "getItem ref int" => (k_here; (with_reducible show wpAny _ _ (getItem (Value.ref _) (Value.int _ _)) _ _ _); k_dflt (refine' isD_getItem ?zzk1 ?zzk2 ?zzk3 ?zzk4 ?zzk5 ?_; (case zzk1 => k_asm); (case zzk2 => k_mem); (case zzk3 => with_reducible assumption); (case zzk4 => with_reducible assumption); (case zzk5 => with_reducible assumption); k_whole); intro _)
  trivial
/-! ## the plain law -/
noncomputable def matN : List Nat → Nat
  | [] => 0
  | y :: r => (r.foldr (fun x a => a ||| 2 ^ (6 * x + y)) 0) ||| matN r
noncomputable def maskGo (M : Nat) : List Nat → Nat
  | [] => 0
  | c :: cs => (M >>> c) % 2 + 2 * maskGo M cs
noncomputable def cidxOf (l : List Int) : List Nat := (List.range 5).map fun g => 6 * (l.getD g 0).toNat + (l.getD (g + 1) 0).toNat
noncomputable def cidx : List (List Nat) := [[1,8,15,22,29],[1,9,20,16,29],[1,9,22,26,17],[1,9,22,29,32],[3,19,8,16,29],[3,19,10,26,17],[3,19,10,29,32],[3,22,25,8,17],[3,22,25,11,32],[3,22,29,31,8],[18,1,8,16,29],[18,1,10,26,17],[18,1,10,29,32],[18,4,25,8,17],[18,4,25,11,32],[18,4,29,31,8],[22,24,1,8,17],[22,24,1,11,32],[22,24,5,31,8],[22,29,30,1,8]]
theorem cidx_eq : riffs.map (fun r => cidxOf (lineOf r)) = cidx := by decide +kernel
noncomputable def ins (x : Nat) : List Nat → List Nat
  | [] => [x]
  | y :: l => bif Nat.ble x y then x :: y :: l else y :: ins x l
noncomputable def isort : List Nat → List Nat
  | [] => []
  | x :: l => ins x (isort l)
noncomputable def eqN : List Nat → List Nat → Bool
  | [], [] => true
  | x :: l, y :: k => Nat.beq x y && eqN l k
  | _, _ => false
noncomputable def fN (o : List Nat) : Nat → List Nat
  | 0 => []
  | i + 1 => bif (o.take i).elem (o.getD i 0 + 1) && !(Nat.beq (o.getD i 0) 2) then fN o i ++ [o.getD i 0] else fN o i
noncomputable def enumN : Nat → List (List Nat)
  | 0 => [[]]
  | n + 1 => (enumN n).flatMap fun l => ((List.range 6).filter fun x => !l.elem x).map fun x => x :: l
noncomputable def selK : Nat := (List.range 36).foldr (fun n a => bif Nat.blt 2 (n / 6) && Nat.blt (n % 6) 3 then a ||| 2 ^ n else a) 0
noncomputable def selD (c0 c1 c3 c4 : Bool) : Nat := (bif c0 then 2 ^ 1 else 0) ||| ((bif c1 then 2 ^ 8 else 0) ||| ((bif c3 then 2 ^ 22 else 0) ||| ((bif c4 then 2 ^ 29 else 0) ||| selK)))
noncomputable def bN (b : Bool) : Nat := bif b then 1 else 0
noncomputable def popN (m : Nat) : Nat := bN (m.testBit 0) + bN (m.testBit 1) + bN (m.testBit 2) + bN (m.testBit 3) + bN (m.testBit 4)
noncomputable def wtN (m : Nat) : Nat := bN (m.testBit 0) + 2 * bN (m.testBit 1) + 3 * bN (m.testBit 2) + 4 * bN (m.testBit 3) + 5 * bN (m.testBit 4)
noncomputable def dueL : List (List Nat) := [[0,1,2,2,4,4,4,5,8,8,9,9,10,10,16,17,18,18,20,21],[1,2,3,4,5,5,6,8,9,9,10,10,11,12,17,18,19,20,21,22],[2,4,5,6,8,9,10,10,12,13,16,17,18,18,20,20,21,24,25,26],[3,5,6,7,9,10,11,12,13,14,17,18,19,20,21,22,24,25,26,28],[1,2,3,4,5,5,6,8,9,9,10,10,11,12,17,18,19,20,21,22],[2,3,5,5,6,7,9,9,10,10,11,11,13,13,18,19,21,21,22,23],[4,5,6,9,10,10,11,12,13,14,17,18,19,20,21,21,22,25,26,27],[5,6,7,10,11,11,13,13,14,15,18,19,21,21,22,23,25,26,27,29],[2,4,5,6,8,9,10,10,12,13,16,17,18,18,20,20,21,24,25,26],[4,5,6,9,10,10,11,12,13,14,17,18,19,20,21,21,22,25,26,27],[8,9,10,10,12,13,18,18,20,20,21,21,22,22,24,25,26,26,28,29],[9,10,11,12,13,14,19,20,21,21,22,22,23,25,26,26,27,28,29,30],[3,5,6,7,9,10,11,12,13,14,17,18,19,20,21,22,24,25,26,28],[5,6,7,10,11,11,13,13,14,15,18,19,21,21,22,23,25,26,27,29],[9,10,11,12,13,14,19,20,21,21,22,22,23,25,26,26,27,28,29,30],[10,11,13,13,14,15,21,21,22,22,23,23,26,27,27,27,29,29,30,31]]
noncomputable def dueOf (c0 c1 c3 c4 : Bool) : List Nat := dueL.getD (bN c0 + 2 * bN c1 + 4 * bN c3 + 8 * bN c4) []
noncomputable def cntB (c0 c1 c3 c4 : Bool) : Nat := bN c0 + bN c1 + bN c3 + bN c4
noncomputable def wgtB (c0 c1 c3 c4 : Bool) : Nat := bN c0 + 2 * bN c1 + bN c3 + 2 * bN c4
theorem due16 : ∀ c0 c1 c3 c4 : Bool, isort (cidx.map (maskGo (selD c0 c1 c3 c4))) = dueOf c0 c1 c3 c4 ∧ ((dueOf c0 c1 c3 c4).map popN).sum = 30 + 10 * cntB c0 c1 c3 c4 ∧ ((dueOf c0 c1 c3 c4).map wtN).sum = 90 + 20 * wgtB c0 c1 c3 c4 ∧ ((dueOf c0 c1 c3 c4).map fun m => wtN m * wtN m).sum = 510 + 180 * wgtB c0 c1 c3 c4 + 20 * wgtB c0 c1 c3 c4 * wgtB c0 c1 c3 c4 := by decide +kernel
noncomputable def chkO (o : List Nat) : Bool :=
  eqN (isort (cidx.map (maskGo (matN o)))) (dueOf ((fN o 6).elem 0) ((fN o 6).elem 1) ((fN o 6).elem 3) ((fN o 6).elem 4)) &&
  (Nat.beq (fN o 6).length (cntB ((fN o 6).elem 0) ((fN o 6).elem 1) ((fN o 6).elem 3) ((fN o 6).elem 4)) &&
  Nat.beq ((fN o 6).map fun k => k % 3 + 1).sum (wgtB ((fN o 6).elem 0) ((fN o 6).elem 1) ((fN o 6).elem 3) ((fN o 6).elem 4)))
theorem chkAll : (enumN 6).all chkO = true := by decide +kernel
-- soundness
theorem ins_perm (x : Nat) : ∀ l : List Nat, (ins x l).Perm (x :: l)
  | [] => List.Perm.refl _
  | y :: l => by
    unfold ins
    cases Nat.ble x y with
    | true => exact List.Perm.refl _
    | false => exact ((ins_perm x l).cons y).trans (List.Perm.swap x y l)
theorem isort_perm : ∀ l : List Nat, (isort l).Perm l
  | [] => List.Perm.refl _
  | x :: l => (ins_perm x (isort l)).trans ((isort_perm l).cons x)
theorem eqN_eq : ∀ l k : List Nat, eqN l k = true → l = k
  | [], [], _ => rfl
  | x :: l, y :: k, h => by
    simp only [eqN, Bool.and_eq_true, Nat.beq_eq] at h
    rw [h.1, eqN_eq l k h.2]
  | [], _ :: _, h => by simp [eqN] at h
  | _ :: _, [], h => by simp [eqN] at h
noncomputable def mk5 (b0 b1 b2 b3 b4 : Bool) : Nat := bN b0 + 2 * (bN b1 + 2 * (bN b2 + 2 * (bN b3 + 2 * bN b4)))
theorem bit_bN (M c : Nat) : (M >>> c) % 2 = bN (M.testBit c) := by
  rw [Nat.shiftRight_eq_div_pow, ← Nat.toNat_testBit]
  cases M.testBit c <;> rfl
theorem maskGo5 (M c0 c1 c2 c3 c4 : Nat) : maskGo M [c0, c1, c2, c3, c4] = mk5 (M.testBit c0) (M.testBit c1) (M.testBit c2) (M.testBit c3) (M.testBit c4) := by
  simp only [maskGo, bit_bN, mk5]; omega
noncomputable def gl (l : List Int) (g : Nat) : Int := l.getD g 0
theorem gapT (B : Int → Int → Bool) (l : List Int) : gapK B l 5 =
    (((mk5 (B (l.getD 0 0) (l.getD 1 0)) (B (l.getD 1 0) (l.getD 2 0)) (B (l.getD 2 0) (l.getD 3 0)) (B (l.getD 3 0) (l.getD 4 0)) (B (l.getD 4 0) (l.getD 5 0)) : Nat) : Int),
     ((popN (mk5 (B (l.getD 0 0) (l.getD 1 0)) (B (l.getD 1 0) (l.getD 2 0)) (B (l.getD 2 0) (l.getD 3 0)) (B (l.getD 3 0) (l.getD 4 0)) (B (l.getD 4 0) (l.getD 5 0))) : Nat) : Int),
     ((wtN (mk5 (B (l.getD 0 0) (l.getD 1 0)) (B (l.getD 1 0) (l.getD 2 0)) (B (l.getD 2 0) (l.getD 3 0)) (B (l.getD 3 0) (l.getD 4 0)) (B (l.getD 4 0) (l.getD 5 0))) : Nat) : Int)) := by
  simp only [gapK]
  generalize B (l.getD 0 0) (l.getD 1 0) = b0
  generalize B (l.getD 1 0) (l.getD 2 0) = b1
  generalize B (l.getD 2 0) (l.getD 3 0) = b2
  generalize B (l.getD 3 0) (l.getD 4 0) = b3
  generalize B (l.getD 4 0) (l.getD 5 0) = b4
  revert b0 b1 b2 b3 b4
  decide +kernel
theorem maskT (f l : List Int) : maskD f l 5 = ((mk5 (decide (MaskC f (l.getD 0 0) (l.getD 1 0))) (decide (MaskC f (l.getD 1 0) (l.getD 2 0))) (decide (MaskC f (l.getD 2 0) (l.getD 3 0))) (decide (MaskC f (l.getD 3 0) (l.getD 4 0))) (decide (MaskC f (l.getD 4 0) (l.getD 5 0))) : Nat) : Int) := by
  have e : ∀ g, maskD f l (g + 1) = if decide (MaskC f (l.getD g 0) (l.getD (g + 1) 0)) = true then maskD f l g + 2 ^ g else maskD f l g := fun g => by
    show (if _ then _ else _) = _
    simp only [decide_eq_true_eq]
  rw [e 4, e 3, e 2, e 1, e 0, show maskD f l 0 = 0 from rfl]
  generalize decide (MaskC f (l.getD 0 0) (l.getD (0 + 1) 0)) = b0
  generalize decide (MaskC f (l.getD 1 0) (l.getD (1 + 1) 0)) = b1
  generalize decide (MaskC f (l.getD 2 0) (l.getD (2 + 1) 0)) = b2
  generalize decide (MaskC f (l.getD 3 0) (l.getD (3 + 1) 0)) = b3
  generalize decide (MaskC f (l.getD 4 0) (l.getD (4 + 1) 0)) = b4
  revert b0 b1 b2 b3 b4
  decide +kernel
noncomputable def bOf (M : Nat) (x y : Int) : Bool := M.testBit (6 * x.toNat + y.toNat)
noncomputable def tabStep (c : List (Int × Int)) (m : Int) : List (Int × Int) := kdfPut c m (kdfLook c m 0 + 1)
theorem mask_told (M : Nat) (l : List Int) : mk5 (bOf M (l.getD 0 0) (l.getD 1 0)) (bOf M (l.getD 1 0) (l.getD 2 0)) (bOf M (l.getD 2 0) (l.getD 3 0)) (bOf M (l.getD 3 0) (l.getD 4 0)) (bOf M (l.getD 4 0) (l.getD 5 0)) = maskGo M (cidxOf l) :=
  (maskGo5 ..).symm
theorem told_fold (M : Nat) : ∀ (rs : List (List Int)) (e : Ent), rs.foldl (entStep (bOf M)) e =
    ⟨(rs.length : Int) + e.cc, (((rs.map fun r => popN (maskGo M (cidxOf (lineOf r)))).sum : Nat) : Int) + e.nc, (((rs.map fun r => wtN (maskGo M (cidxOf (lineOf r)))).sum : Nat) : Int) + e.tt,
      (((rs.map fun r => wtN (maskGo M (cidxOf (lineOf r))) * wtN (maskGo M (cidxOf (lineOf r)))).sum : Nat) : Int) + e.ct, (rs.map fun r => ((maskGo M (cidxOf (lineOf r)) : Nat) : Int)).foldl tabStep e.c⟩
  | [], e => by simp
  | r :: rs, e => by
    have h : entStep (bOf M) e r = ⟨1 + e.cc, ((popN (maskGo M (cidxOf (lineOf r))) : Nat) : Int) + e.nc, ((wtN (maskGo M (cidxOf (lineOf r))) : Nat) : Int) + e.tt, ((wtN (maskGo M (cidxOf (lineOf r))) : Nat) : Int) * ((wtN (maskGo M (cidxOf (lineOf r))) : Nat) : Int) + e.ct, tabStep e.c ((maskGo M (cidxOf (lineOf r)) : Nat) : Int)⟩ := by
      unfold entStep
      rw [gapT, mask_told]
      rfl
    rw [List.foldl_cons, told_fold M rs, h]
    simp only [List.map_cons, List.sum_cons, List.length_cons, List.foldl_cons, Ent.mk.injEq, Int.natCast_add, Int.natCast_mul]
    refine ⟨by omega, by omega, by omega, by omega, trivial⟩
theorem told_plain (M : Nat) : toldRes (bOf M) = ⟨20, (((cidx.map (maskGo M)).map popN).sum : Nat), (((cidx.map (maskGo M)).map wtN).sum : Nat), (((cidx.map (maskGo M)).map fun m => wtN m * wtN m).sum : Nat), ((cidx.map (maskGo M)).map fun m : Nat => (m : Int)).foldl tabStep []⟩ := by
  unfold toldRes
  rw [told_fold]
  simp only [Int.add_zero, ← cidx_eq, List.map_map, Function.comp_def]
  rfl
theorem lineD_eq : ∀ r ∈ riffs, (lineD r 6).1 = lineOf r := by decide +kernel
theorem dueTab_plain (f : List Int) (D : Nat) (h : ∀ x y : Nat, x < 6 → y < 6 → D.testBit (6 * x + y) = decide (MaskC f (x : Int) (y : Int))) :
    dueTab f 20 = ((cidx.map (maskGo D)).map fun m : Nat => (m : Int)).foldl tabStep [] := by
  unfold dueTab
  have e : riffs.take 20 = riffs := rfl
  rw [e, ← cidx_eq, List.map_map, List.map_map, List.foldl_map]
  have key : ∀ (rs : List (List Int)) (c : List (Int × Int)), (∀ r ∈ rs, r ∈ riffs) → rs.foldl (dueStep f) c = rs.foldl (fun c r => tabStep c ((maskGo D (cidxOf (lineOf r)) : Nat) : Int)) c := by
    intro rs
    induction rs with
    | nil => intro c _; rfl
    | cons r rs ih =>
      intro c hr
      rw [List.foldl_cons, List.foldl_cons, ih _ fun q hq => hr q (.tail _ hq)]
      congr 1
      have hrr := hr r (.head _)
      obtain ⟨_, _, hl6, hlb⟩ := riff_facts r hrr
      show tabStep c (maskD f (lineD r 6).1 5) = _
      rw [lineD_eq r hrr, maskT]
      have hb : ∀ g, g < 5 → decide (MaskC f ((lineOf r).getD g 0) ((lineOf r).getD (g + 1) 0)) = D.testBit (6 * ((lineOf r).getD g 0).toNat + ((lineOf r).getD (g + 1) 0).toNat) := by
        intro g hg
        have h1 := hlb g (by omega)
        have h2 := hlb (g + 1) (by omega)
        have := h ((lineOf r).getD g 0).toNat ((lineOf r).getD (g + 1) 0).toNat (by omega) (by omega)
        rw [Int.toNat_of_nonneg h1.1, Int.toNat_of_nonneg h2.1] at this
        exact this.symm
      rw [hb 0 (by decide), hb 1 (by decide), hb 2 (by decide), hb 3 (by decide), hb 4 (by decide)]
      rw [← maskGo5]
      rfl
  exact key riffs [] fun r hr => hr
theorem look_nil (k d : Int) : kdfLook [] k d = d := rfl
theorem look_cons (p : Int × Int) (c : List (Int × Int)) (k d : Int) : kdfLook (p :: c) k d = if p.1 = k then p.2 else kdfLook c k d := by
  unfold kdfLook
  rw [List.find?_cons]
  by_cases h : p.1 = k
  · rw [decide_eq_true h, if_pos h]; rfl
  · rw [decide_eq_false h, if_neg h]
theorem has_cons (p : Int × Int) (c : List (Int × Int)) (k : Int) : kdfHas (p :: c) k = (decide (p.1 = k) || kdfHas c k) := by
  unfold kdfHas; rw [List.any_cons]
theorem has_iff (c : List (Int × Int)) (k : Int) : kdfHas c k = true ↔ k ∈ c.map (·.1) := by
  unfold kdfHas
  rw [List.any_eq_true, List.mem_map]
  exact ⟨fun ⟨p, hp, h⟩ => ⟨p, hp, by simpa using h⟩, fun ⟨p, hp, h⟩ => ⟨p, hp, by simpa using h⟩⟩
noncomputable def setV (k v : Int) (p : Int × Int) : Int × Int := if decide (p.1 = k) then (p.1, v) else p
theorem setV_fst (k v : Int) (p : Int × Int) : (setV k v p).1 = p.1 := by unfold setV; split <;> rfl
theorem put_yes {c : List (Int × Int)} {k : Int} (v : Int) (h : kdfHas c k = true) : kdfPut c k v = c.map (setV k v) := by
  unfold kdfPut
  unfold kdfHas at h
  rw [if_pos h]; rfl
theorem keys_put (c : List (Int × Int)) (k v : Int) : (kdfPut c k v).map (·.1) = if kdfHas c k then c.map (·.1) else c.map (·.1) ++ [k] := by
  cases h : kdfHas c k with
  | true =>
    rw [put_yes v h, if_pos rfl, List.map_map]
    exact List.map_congr_left fun p _ => setV_fst k v p
  | false => rw [kdfPut_new h, if_neg (by decide), List.map_append]; rfl
theorem look_set (k v j d : Int) : ∀ c : List (Int × Int), kdfHas c k = true → kdfLook (c.map (setV k v)) j d = if j = k then v else kdfLook c j d
  | [], h => by simp [kdfHas] at h
  | p :: c, h => by
    rw [List.map_cons, look_cons, look_cons, setV_fst]
    by_cases hp : p.1 = k
    · have e : (setV k v p).2 = v := by unfold setV; rw [if_pos (by simpa using hp)]
      rw [e]
      by_cases hj : j = k
      · rw [if_pos (by rw [hp, hj]), if_pos hj]
      · rw [if_neg (by rw [hp]; exact fun q => hj q.symm), if_neg hj, if_neg (by rw [hp]; exact fun q => hj q.symm)]
        by_cases hc : kdfHas c k = true
        · rw [look_set k v j d c hc, if_neg hj]
        · have : c.map (setV k v) = c := by
            have hn : ∀ q ∈ c, setV k v q = q := fun q hq => by
              unfold setV
              rw [if_neg]
              intro hqk
              exact hc ((has_iff c k).mpr (List.mem_map.mpr ⟨q, hq, by simpa using hqk⟩))
            rw [List.map_congr_left hn, List.map_id']
          rw [this]
    · have e : setV k v p = p := by unfold setV; rw [if_neg (by simpa using hp)]
      rw [e]
      have hc : kdfHas c k = true := by rw [has_cons, decide_eq_false hp, Bool.false_or] at h; exact h
      by_cases hpj : p.1 = j
      · rw [if_pos hpj, if_neg (by rw [← hpj]; exact hp), if_pos hpj]
      · rw [if_neg hpj, look_set k v j d c hc]
        by_cases hj : j = k
        · rw [if_pos hj, if_pos hj]
        · rw [if_neg hj, if_neg hj, if_neg hpj]
theorem look_append (k v j d : Int) : ∀ c : List (Int × Int), kdfHas c k = false → kdfLook (c ++ [(k, v)]) j d = if j = k then v else kdfLook c j d
  | [], _ => by
    show kdfLook ((k, v) :: []) j d = _
    rw [look_cons]
    by_cases hj : j = k
    · rw [if_pos hj.symm, if_pos hj]
    · rw [if_neg (fun q => hj q.symm), if_neg hj]
  | p :: c, h => by
    rw [has_cons, Bool.or_eq_false_iff, decide_eq_false_iff_not] at h
    rw [List.cons_append, look_cons, look_cons, look_append k v j d c h.2]
    by_cases hj : j = k
    · rw [if_neg (by rw [hj]; exact h.1), if_pos hj, if_pos hj]
    · rw [if_neg hj, if_neg hj]
theorem look_put (c : List (Int × Int)) (k v j d : Int) : kdfLook (kdfPut c k v) j d = if j = k then v else kdfLook c j d := by
  cases h : kdfHas c k with
  | true => rw [put_yes v h]; exact look_set k v j d c h
  | false => rw [kdfPut_new h]; exact look_append k v j d c h
theorem sum_set (k v : Int) : ∀ c : List (Int × Int), (c.map (·.1)).Nodup → kdfHas c k = true → ((c.map (setV k v)).map (·.2)).sum = (c.map (·.2)).sum - kdfLook c k 0 + v
  | [], _, h => by simp [kdfHas] at h
  | p :: c, hn, h => by
    rw [List.map_cons, List.nodup_cons] at hn
    rw [List.map_cons, List.map_cons, List.sum_cons, List.map_cons, List.sum_cons, look_cons]
    by_cases hp : p.1 = k
    · have e : (setV k v p).2 = v := by unfold setV; rw [if_pos (by simpa using hp)]
      have : c.map (setV k v) = c := by
        have hn' : ∀ q ∈ c, setV k v q = q := fun q hq => by
          unfold setV
          rw [if_neg]
          intro hqk
          exact hn.1 (List.mem_map.mpr ⟨q, hq, by rw [hp]; simpa using hqk⟩)
        rw [List.map_congr_left hn', List.map_id']
      rw [e, this, if_pos hp]; omega
    · have e : setV k v p = p := by unfold setV; rw [if_neg (by simpa using hp)]
      have hc : kdfHas c k = true := by rw [has_cons, decide_eq_false hp, Bool.false_or] at h; exact h
      rw [e, sum_set k v c hn.2 hc, if_neg hp]; omega
/-- a table counts a list -/
structure TabI (c : List (Int × Int)) (l : List Int) : Prop where
  nd : (c.map (·.1)).Nodup
  look : ∀ k, kdfLook c k 0 = (l.count k : Int)
  mem : ∀ k, k ∈ c.map (·.1) ↔ k ∈ l
  sum : (c.map (·.2)).sum = (l.length : Int)
theorem TabI.snoc {c : List (Int × Int)} {l : List Int} (h : TabI c l) (k : Int) : TabI (tabStep c k) (l ++ [k]) := by
  unfold tabStep
  refine ⟨?_, fun j => ?_, fun j => ?_, ?_⟩
  · rw [keys_put]
    cases hk : kdfHas c k with
    | true => rw [if_pos rfl]; exact h.nd
    | false =>
      rw [if_neg (by decide)]
      refine List.nodup_append.mpr ⟨h.nd, by simp, fun a ha b hb => ?_⟩
      rw [List.mem_singleton.mp hb]
      intro e
      subst e
      rw [(has_iff c a).mpr ha] at hk
      cases hk
  · rw [look_put, List.count_append, List.count_singleton]
    by_cases hj : j = k
    · subst hj
      rw [if_pos rfl, h.look]; simp
    · rw [if_neg hj, h.look]
      have : (k == j) = false := by rw [beq_eq_false_iff_ne]; exact fun q => hj q.symm
      rw [this]; simp
  · rw [keys_put, List.mem_append, List.mem_singleton, ← h.mem j]
    cases hk : kdfHas c k with
    | true =>
      rw [if_pos rfl]
      exact ⟨.inl, fun hq => hq.elim id fun e => e ▸ (has_iff c k).mp hk⟩
    | false => rw [if_neg (by decide), List.mem_append, List.mem_singleton]
  · rw [List.length_append, List.length_singleton]
    cases hk : kdfHas c k with
    | true =>
      rw [put_yes _ hk, sum_set k _ c h.nd hk, h.sum]; omega
    | false =>
      rw [kdfPut_new hk, kdfLook_new hk, List.map_append, List.sum_append, h.sum]; simp
theorem tabI_fold : ∀ (l2 l1 : List Int) (c : List (Int × Int)), TabI c l1 → TabI (l2.foldl tabStep c) (l1 ++ l2)
  | [], l1, c, h => by simpa using h
  | k :: l2, l1, c, h => by
    rw [List.foldl_cons, show l1 ++ k :: l2 = (l1 ++ [k]) ++ l2 by simp]
    exact tabI_fold l2 _ _ (h.snoc k)
theorem tabI (l : List Int) : TabI (l.foldl tabStep []) l := by
  have := tabI_fold l [] [] ⟨by simp, fun k => by simp [kdfLook], fun k => by simp, by simp⟩
  simpa using this
/-- two tables that answer alike -/
noncomputable def TabEq (c1 c2 : List (Int × Int)) : Prop := c1.length = c2.length ∧ ∀ p ∈ c1, kdfHas c2 p.1 = true ∧ kdfLook c2 p.1 0 = p.2
theorem look_mem : ∀ (c : List (Int × Int)), (c.map (·.1)).Nodup → ∀ p ∈ c, kdfLook c p.1 0 = p.2
  | [], _, p, hp => by cases hp
  | q :: c, hn, p, hp => by
    rw [List.map_cons, List.nodup_cons] at hn
    rw [look_cons]
    rcases List.mem_cons.mp hp with rfl | hp
    · rw [if_pos rfl]
    · rw [if_neg (fun e => hn.1 (List.mem_map.mpr ⟨p, hp, e.symm⟩))]
      exact look_mem c hn.2 p hp
theorem tabEq_of {c1 c2 : List (Int × Int)} {l1 l2 : List Int} (h1 : TabI c1 l1) (h2 : TabI c2 l2) (hp : l1.Perm l2) : TabEq c1 c2 := by
  refine ⟨?_, fun p hp' => ?_⟩
  · have : (c1.map (·.1)).Perm (c2.map (·.1)) := (List.perm_ext_iff_of_nodup h1.nd h2.nd).mpr fun k => by rw [h1.mem, h2.mem]; exact hp.mem_iff
    have := this.length_eq
    simpa using this
  · have hm : p.1 ∈ c1.map (·.1) := List.mem_map.mpr ⟨p, hp', rfl⟩
    refine ⟨(has_iff c2 p.1).mpr ((h2.mem p.1).mpr (hp.mem_iff.mp ((h1.mem p.1).mp hm))), ?_⟩
    rw [h2.look, ← hp.count_eq, ← h1.look]
    exact look_mem c1 h1.nd p hp'
theorem mem_enum : ∀ (n : Nat) (o : List Nat), o.length = n → (∀ k ∈ o, k < 6) → o.Nodup → o ∈ enumN n
  | 0, o, h, _, _ => by
    rw [List.eq_nil_of_length_eq_zero h]; exact .head _
  | n + 1, [], h, _, _ => by cases h
  | n + 1, x :: o, h, h6, hn => by
    rw [List.nodup_cons] at hn
    show x :: o ∈ (enumN n).flatMap _
    rw [List.mem_flatMap]
    refine ⟨o, mem_enum n o (by simpa using h) (fun k hk => h6 k (.tail _ hk)) hn.2, List.mem_map.mpr ⟨x, List.mem_filter.mpr ⟨List.mem_range.mpr (h6 x (.head _)), ?_⟩, rfl⟩⟩
    simpa using hn.1
noncomputable def Before : List Nat → Nat → Nat → Prop
  | [], _, _ => False
  | y :: r, b, a => (b = y ∧ a ∈ r) ∨ Before r b a
theorem row_bit {y a b : Nat} (ha : a < 6) (hb : b < 6) (hy : y < 6) : ∀ r : List Nat, (∀ k ∈ r, k < 6) → ((r.foldr (fun x c => c ||| 2 ^ (6 * x + y)) 0).testBit (6 * a + b) = true ↔ b = y ∧ a ∈ r)
  | [], _ => by simp
  | x :: r, hr => by
    have hx := hr x (.head _)
    rw [List.foldr_cons, Nat.testBit_or, Bool.or_eq_true, row_bit ha hb hy r (fun k hk => hr k (.tail _ hk)), Nat.testBit_two_pow, List.mem_cons, decide_eq_true_eq]
    constructor
    · rintro (⟨h1, h2⟩ | h)
      · exact ⟨h1, .inr h2⟩
      · exact ⟨by omega, .inl (by omega)⟩
    · rintro ⟨h1, h2 | h2⟩
      · exact .inr (by omega)
      · exact .inl ⟨h1, h2⟩
theorem mat_bit {a b : Nat} (ha : a < 6) (hb : b < 6) : ∀ o : List Nat, (∀ k ∈ o, k < 6) → ((matN o).testBit (6 * a + b) = true ↔ Before o b a)
  | [], _ => by simp [matN, Before]
  | y :: r, h => by
    unfold matN
    rw [Nat.testBit_or, Bool.or_eq_true, row_bit ha hb (h y (.head _)) r (fun k hk => h k (.tail _ hk)), mat_bit ha hb r fun k hk => h k (.tail _ hk)]
    rfl
theorem before_rel {R : Nat → Nat → Prop} {a b : Nat} : ∀ o : List Nat, o.Pairwise R → Before o b a → R b a
  | [], _, h => h.elim
  | y :: r, hp, h => by
    rw [List.pairwise_cons] at hp
    rcases h with ⟨rfl, h⟩ | h
    · exact hp.1 a h
    · exact before_rel r hp.2 h
theorem before_total {a b : Nat} (hne : a ≠ b) : ∀ o : List Nat, a ∈ o → b ∈ o → Before o b a ∨ Before o a b
  | [], h, _ => by cases h
  | y :: r, ha, hb => by
    rcases List.mem_cons.mp ha with rfl | ha
    · rcases List.mem_cons.mp hb with hb | hb
      · exact absurd hb.symm hne
      · exact .inr (.inl ⟨rfl, hb⟩)
    · rcases List.mem_cons.mp hb with hb | hb
      · exact .inl (.inl ⟨hb, ha⟩)
      · rcases before_total hne r ha hb with h | h
        · exact .inl (.inr h)
        · exact .inr (.inr h)
theorem enum_all : ∀ o ∈ enumN 6, ∀ a, a < 6 → a ∈ o := by
  have h : (enumN 6).all (fun o => (List.range 6).all fun a => o.elem a) = true := by decide +kernel
  intro o ho a ha
  have h1 := List.all_eq_true.mp (List.all_eq_true.mp h o ho) a (List.mem_range.mpr ha)
  simpa using h1
theorem any_elem (l : List Nat) (k : Nat) : ((l.map fun n : Nat => (n : Int)).any fun x => x == ((k : Nat) : Int)) = l.elem k := by
  induction l with
  | nil => rfl
  | cons x l ih =>
    rw [List.map_cons, List.any_cons, ih, List.elem_cons]
    by_cases h : x = k
    · subst h; simp
    · have h1 : ((x : Int) == (k : Int)) = false := by rw [beq_eq_false_iff_ne]; omega
      have h2 : (k == x) = false := by rw [beq_eq_false_iff_ne]; omega
      rw [h1, h2, Bool.false_or]
theorem fall_fN (o : List Nat) (i : Nat) : fallK o i = (fN o i).map fun k : Nat => (k : Int) := by
  induction i with
  | zero => rfl
  | succ i ih =>
    show (if _ then _ else _) = List.map _ (bif _ then _ else _)
    have e := any_elem (o.take i) (o.getD i 0 + 1)
    rw [Int.natCast_add] at e
    have e1 : ((1 : Nat) : Int) = 1 := rfl
    rw [e1] at e
    rw [e, ih]
    cases h1 : (o.take i).elem (o.getD i 0 + 1) with
    | false => rw [if_neg (by simp)]; rfl
    | true =>
      by_cases h2 : o.getD i 0 = 2
      · rw [if_neg (by rw [h2]; simp), show Nat.beq (o.getD i 0) 2 = true from Nat.beq_eq.mpr h2]; rfl
      · rw [if_pos ⟨rfl, by omega⟩]
        have : Nat.beq (o.getD i 0) 2 = false := by
          cases hb : Nat.beq (o.getD i 0) 2 with
          | false => rfl
          | true => exact absurd (Nat.beq_eq.mp hb) h2
        rw [this]
        show _ = List.map _ (fN o i ++ [o.getD i 0])
        rw [List.map_append]; rfl
theorem two_not (o : List Nat) (i : Nat) : (fN o i).elem 2 = false := by
  induction i with
  | zero => rfl
  | succ i ih =>
    show List.elem 2 (bif _ then _ else _) = false
    cases h1 : ((o.take i).elem (o.getD i 0 + 1) && !(Nat.beq (o.getD i 0) 2)) with
    | false => exact ih
    | true =>
      rw [Bool.and_eq_true, Bool.not_eq_true'] at h1
      show List.elem 2 (fN o i ++ [o.getD i 0]) = false
      have h2 : o.getD i 0 ≠ 2 := fun e => by
        have := h1.2
        rw [Nat.beq_eq.mpr e] at this; cases this
      have ih' : 2 ∉ fN o i := by simpa using ih
      have : 2 ∉ fN o i ++ [o.getD i 0] := by
        rw [List.mem_append, List.mem_singleton]
        rintro (h | h)
        · exact ih' h
        · exact h2 h.symm
      simpa using this
theorem selD_bit : ∀ c0 c1 c3 c4 : Bool, ∀ x, x < 6 → ∀ y, y < 6 → (selD c0 c1 c3 c4).testBit (6 * x + y) = ((Nat.blt 2 x && Nat.blt y 3) || (Nat.beq y (x + 1) && ((Nat.beq x 0 && c0) || ((Nat.beq x 1 && c1) || ((Nat.beq x 3 && c3) || (Nat.beq x 4 && c4)))))) := by decide +kernel
theorem selB : ∀ c0 c1 c3 c4 c5 : Bool, ∀ x, x < 6 → ∀ y, y < 6 → ((Nat.blt 2 x && Nat.blt y 3) || (Nat.beq y (x + 1) && ((Nat.beq x 0 && c0) || ((Nat.beq x 1 && c1) || ((Nat.beq x 3 && c3) || (Nat.beq x 4 && c4)))))) = decide ((2 < x ∧ y < 3) ∨ (y = x + 1 ∧ [c0, c1, false, c3, c4, c5].getD x false = true)) := by decide +kernel
theorem sel_key (s : Nat → Bool) (hs : s 2 = false) {x y : Nat} (hx : x < 6) (hy : y < 6) : ((Nat.blt 2 x && Nat.blt y 3) || (Nat.beq y (x + 1) && ((Nat.beq x 0 && s 0) || ((Nat.beq x 1 && s 1) || ((Nat.beq x 3 && s 3) || (Nat.beq x 4 && s 4)))))) = decide ((2 < x ∧ y < 3) ∨ (y = x + 1 ∧ s x = true)) := by
  have e : [s 0, s 1, false, s 3, s 4, s 5].getD x false = s x := by
    rw [← hs]
    rcases (by decide : ∀ x, x < 6 → x = 0 ∨ x = 1 ∨ x = 2 ∨ x = 3 ∨ x = 4 ∨ x = 5) x hx with h | h | h | h | h | h <;> (rw [h]; rfl)
  rw [selB (s 0) (s 1) (s 3) (s 4) (s 5) x hx y hy, e]
theorem selD_mask (o : List Nat) {x y : Nat} (hx : x < 6) (hy : y < 6) : (selD ((fN o 6).elem 0) ((fN o 6).elem 1) ((fN o 6).elem 3) ((fN o 6).elem 4)).testBit (6 * x + y) = decide (MaskC (fallK o 6) (x : Int) (y : Int)) := by
  rw [selD_bit _ _ _ _ x hx y hy]
  have e : (MaskC (fallK o 6) (x : Int) (y : Int)) ↔ ((2 < x ∧ y < 3) ∨ (y = x + 1 ∧ (fN o 6).elem x = true)) := by
    unfold MaskC
    rw [fall_fN, any_elem]
    constructor
    · rintro (h | h)
      · exact .inl (by omega)
      · exact .inr ⟨by omega, h.2⟩
    · rintro (h | h)
      · exact .inl (by omega)
      · exact .inr ⟨by omega, h.2⟩
  rw [decide_eq_decide.mpr e]
  exact sel_key (fun x => (fN o 6).elem x) (two_not o 6) hx hy
theorem perm_of {o : List Nat} (h : chkO o = true) : (cidx.map (maskGo (matN o))).Perm (cidx.map (maskGo (selD ((fN o 6).elem 0) ((fN o 6).elem 1) ((fN o 6).elem 3) ((fN o 6).elem 4)))) := by
  unfold chkO at h
  rw [Bool.and_eq_true] at h
  have e := eqN_eq _ _ h.1
  have d := (due16 ((fN o 6).elem 0) ((fN o 6).elem 1) ((fN o 6).elem 3) ((fN o 6).elem 4)).1
  have p1 := isort_perm (cidx.map (maskGo (matN o)))
  have p2 := isort_perm (cidx.map (maskGo (selD ((fN o 6).elem 0) ((fN o 6).elem 1) ((fN o 6).elem 3) ((fN o 6).elem 4))))
  generalize isort (cidx.map (maskGo (matN o))) = a at e p1
  generalize isort (cidx.map (maskGo (selD ((fN o 6).elem 0) ((fN o 6).elem 1) ((fN o 6).elem 3) ((fN o 6).elem 4)))) = b at d p2
  rw [e, ← d] at p1
  exact p1.symm.trans p2
theorem sum_map_cast (l : List Nat) : (l.map fun k : Nat => (k : Int)).sum = ((l.sum : Nat) : Int) := by
  induction l with
  | nil => rfl
  | cons x l ih => rw [List.map_cons, List.sum_cons, List.sum_cons, ih, Int.natCast_add]
theorem perm_sum {l k : List Nat} (f : Nat → Nat) (h : l.Perm k) : (l.map f).sum = (k.map f).sum := by
  have := (h.map f)
  exact this.sum_nat
theorem plain_law {o : List Nat} (hl : o.length = 6) (h6 : ∀ k ∈ o, k < 6) (hn : o.Nodup) :
    (toldRes (bOf (matN o))).cc = 20 ∧ (toldRes (bOf (matN o))).nc = 30 + 10 * ((fallK o 6).length : Int) ∧ (toldRes (bOf (matN o))).tt = 90 + 20 * dueM (fallK o 6) ∧
    (toldRes (bOf (matN o))).ct = 510 + 180 * dueM (fallK o 6) + 20 * dueM (fallK o 6) * dueM (fallK o 6) ∧ TabEq (toldRes (bOf (matN o))).c (dueTab (fallK o 6) 20) ∧ ((toldRes (bOf (matN o))).c.map (·.2)).sum = 20 := by
  have hc := List.all_eq_true.mp chkAll o (mem_enum 6 o hl h6 hn)
  have hp := perm_of hc
  have hd := due16 ((fN o 6).elem 0) ((fN o 6).elem 1) ((fN o 6).elem 3) ((fN o 6).elem 4)
  have hs : (cidx.map (maskGo (selD ((fN o 6).elem 0) ((fN o 6).elem 1) ((fN o 6).elem 3) ((fN o 6).elem 4)))).Perm (dueOf ((fN o 6).elem 0) ((fN o 6).elem 1) ((fN o 6).elem 3) ((fN o 6).elem 4)) := by
    rw [← hd.1]; exact (isort_perm _).symm
  have ht := hp.trans hs
  unfold chkO at hc
  simp only [Bool.and_eq_true, Nat.beq_eq] at hc
  have hlen : (fallK o 6).length = cntB ((fN o 6).elem 0) ((fN o 6).elem 1) ((fN o 6).elem 3) ((fN o 6).elem 4) := by rw [fall_fN, List.length_map]; exact hc.2.1
  have hm : dueM (fallK o 6) = ((wgtB ((fN o 6).elem 0) ((fN o 6).elem 1) ((fN o 6).elem 3) ((fN o 6).elem 4) : Nat) : Int) := by
    rw [← hc.2.2, ← sum_map_cast]
    unfold dueM
    rw [fall_fN, List.map_map, List.map_map]
    refine congrArg List.sum (List.map_congr_left fun k _ => ?_)
    show (k : Int) % 3 + 1 = ((k % 3 + 1 : Nat) : Int)
    omega
  rw [told_plain, hlen, hm, dueTab_plain (fallK o 6) _ fun x y hx hy => selD_mask o hx hy]
  dsimp only
  refine ⟨rfl, ?_, ?_, ?_, ?_, ?_⟩
  · rw [perm_sum popN ht, hd.2.1]; omega
  · rw [perm_sum wtN ht, hd.2.2.1]; omega
  · rw [perm_sum (fun m => wtN m * wtN m) ht, hd.2.2.2]
    simp only [Int.natCast_add, Int.natCast_mul]
    rfl
  · exact tabEq_of (tabI _) (tabI _) (hp.map _)
  · rw [(tabI _).sum, List.length_map, List.length_map]; rfl
end
section
example : True := by
  k_with_none
  w_top off
  trivial

example : True := by
  k_with "go" => ((repeat' (first | ((first | (with_reducible show wpAny _ _ (exec (Stmt.Assign _ _ _) _) _ _ _) | (with_reducible show wpAny _ _ (exec (Stmt.Expr _ _) _) _ _ _) | (with_reducible show wpAny _ _ (exec (Stmt.If _ _ _ _) _) _ _ _) | (with_reducible show wpAny _ _ (exec (Stmt.AugAssign _ _ _ _) _) _ _ _) | (with_reducible show wpAny _ _ (exec (Stmt.Return _ _) _) _ _ _) | (with_reducible show wpAny _ _ (eval (Expr.Call _ _ _ _) _) _ _ _)); k_fold) | ((fail_if_success (with_reducible show wpAny _ _ (exec (Stmt.For _ _ _ _ _) _) _ _ _)); (fail_if_success (with_reducible show wpAny _ _ (pyIter _) _ _ _)); (first | (k_unfold; (try dsimp only)) | (k_end; wrow_close) | walk1 | (dsimp only; walk1) | (leave1; walk_say "STEP leave1"; try dsimp only))))); (all_goals (repeat (first | clear ek | clear qk))))
  k_with "getMethod ref" => (k_here; (with_reducible show wpAny _ _ (getMethod (Value.ref _) (Str.ofString "items") _) _ _ _); k_dflt (refine' isD_items_m ?zzk1 ?zzk2 ?zzk3 ?_; (case zzk1 => k_asm); (case zzk2 => k_mem); (case zzk3 => with_reducible assumption); k_whole))
  k_with "call builtin:dict.items" => (k_here; (with_reducible show wpAny _ _ (call (Value.builtin "dict.items") [Value.ref _]) _ _ _); k_dflt (refine' isD_items ?zzk0 ?zzk1 ?zzk2 ?zzk3 ?zzk4 ?_; (case zzk0 => k_asm); (case zzk1 => k_asm); (case zzk2 => k_mem); (case zzk3 => with_reducible assumption); (case zzk4 => with_reducible assumption); k_whole); intro _ _ _ _ _; (try k_sweep))
  k_with "setItem ref int" => (k_here; (with_reducible show wpAny _ _ (setItem (Value.ref _) (Value.int _ _) (Value.int _ _)) _ _ _); k_dflt (refine' isD_set ?zzk0 ?zzk1 ?zzk2 ?zzk3 ?zzk4 ?_; (case zzk0 => k_asm); (case zzk1 => k_asm); (case zzk2 => k_updF); (case zzk3 => with_reducible assumption); (case zzk4 => omega); k_whole); intro _ _ _ _ _; (try k_sweep))
  k_with "compareOp In" => (k_here; (with_reducible show wpAny _ _ (compareOp CmpOp.In (Value.int _ _) (Value.ref _)) _ _ _); k_dflt (refine' isD_in ?zzk1 ?zzk2 ?zzk3 ?zzk4 ?_; (case zzk1 => k_asm); (case zzk2 => k_mem); (case zzk3 => with_reducible assumption); (case zzk4 => with_reducible assumption); k_whole))
  k_with "getItem ref int" => (k_here; (with_reducible show wpAny _ _ (getItem (Value.ref _) (Value.int _ _)) _ _ _); k_dflt (refine' isD_getItem ?zzk1 ?zzk2 ?zzk3 ?zzk4 ?zzk5 ?_; (case zzk1 => k_asm); (case zzk2 => k_mem); (case zzk3 => with_reducible assumption); (case zzk4 => with_reducible assumption); (case zzk5 => with_reducible assumption); k_whole); intro _)
  trivial
/-! ## columns: how the values of a column compare -/
section
variable {w : World}
noncomputable def ColCmp (w : World) (cells : Nat → List Value) (c : Int) (G : Nat → Int) : Prop := ∀ a b, a < 6 → b < 6 → ∀ u v, (cells a)[c.toNat]? = some u → (cells b)[c.toNat]? = some v → CmpIs w .Lt u v (decide (G a < G b)) ∧ CmpIs w .Gt u v (decide (G b < G a))
theorem int_col {cells : Nat → List Value} {c : Int} {G : Nat → Int} (h0 : 0 ≤ c) (h1 : c < 100) (h : ∀ k, k < 6 → ∃ t, (cells k)[c.toNat]? = some (.int (G k) t)) : ColOk w cells c G (.type "int") ∧ ColCmp w cells c G := by
  refine ⟨⟨h0, h1, fun k hk => ?_, fun k hk v hv h' => ?_, by decide, by decide, fun a b ha hb u v hu hv => ?_⟩, fun a b ha hb u v hu hv => ?_⟩
  · obtain ⟨t, ht⟩ := h k hk; exact ⟨_, ht⟩
  · obtain ⟨t, ht⟩ := h k hk
    rw [ht] at hv; cases hv
    exact Looks.of_pure rfl
  · obtain ⟨t, ht⟩ := h a ha
    obtain ⟨t', ht'⟩ := h b hb
    rw [ht] at hu; cases hu
    rw [ht'] at hv; cases hv
    exact fun A Q E s hq => kat_lt_int hq
  · obtain ⟨t, ht⟩ := h a ha
    obtain ⟨t', ht'⟩ := h b hb
    rw [ht] at hu; cases hu
    rw [ht'] at hv; cases hv
    exact ⟨fun A Q E s hq => lt_int hq, fun A Q E s hq => gt_int hq⟩
theorem str_col {cells : Nat → List Value} {c : Int} {G : Nat → Int} {S : Nat → Str} (h0 : 0 ≤ c) (h1 : c < 100) (h : ∀ k, k < 6 → ∃ t, (cells k)[c.toNat]? = some (.str (S k) t)) (hr : ∀ a b, a < 6 → b < 6 → decide ((S a).cps.toList < (S b).cps.toList) = decide (G a < G b)) : ColOk w cells c G (.type "str") ∧ ColCmp w cells c G := by
  refine ⟨⟨h0, h1, fun k hk => ?_, fun k hk v hv h' => ?_, by decide, by decide, fun a b ha hb u v hu hv => ?_⟩, fun a b ha hb u v hu hv => ?_⟩
  · obtain ⟨t, ht⟩ := h k hk; exact ⟨_, ht⟩
  · obtain ⟨t, ht⟩ := h k hk
    rw [ht] at hv; cases hv
    exact Looks.of_pure rfl
  · obtain ⟨t, ht⟩ := h a ha
    obtain ⟨t', ht'⟩ := h b hb
    rw [ht] at hu; cases hu
    rw [ht'] at hv; cases hv
    exact fun A Q E s hq => kas_lt_str (by rw [hr a b ha hb]; exact hq)
  · obtain ⟨t, ht⟩ := h a ha
    obtain ⟨t', ht'⟩ := h b hb
    rw [ht] at hu; cases hu
    rw [ht'] at hv; cases hv
    refine ⟨fun A Q E s hq => lt_str (by rw [hr a b ha hb]; exact hq), fun A Q E s hq => P.gt_str (by rw [hr b a hb ha]; exact hq)⟩
noncomputable def rkS (κ : Nat) : Int := [3, 3, 3, 1, 1, 2, 2, 0].getD κ 0
noncomputable def rkN (κ : Nat) : Int := [1, 0, 1, 3, 3, 2, 2, 1].getD κ 0
noncomputable def rkT (κ : Nat) : Int := [6, 1, 7, 3, 2, 4, 5, 0].getD κ 0
theorem rkS_ok : ∀ a, a < 8 → ∀ b, b < 8 → decide ((srcK a).cps.toList < (srcK b).cps.toList) = decide (rkS a < rkS b) := by decide +kernel
theorem rkN_ok : ∀ a, a < 8 → ∀ b, b < 8 → decide ((namK a).cps.toList < (namK b).cps.toList) = decide (rkN a < rkN b) := by decide +kernel
theorem rkT_ok : ∀ a, a < 8 → ∀ b, b < 8 → decide ((texK a).cps.toList < (texK b).cps.toList) = decide (rkT a < rkT b) := by decide +kernel
noncomputable def colG (X : Nat → Int) (c : Int) (k : Nat) : Int :=
  if c = 0 then ((X k).fdiv 8).fmod 3 else if c = 1 then (X k).fdiv 24 else if c = 2 then rkS ((X k).fmod 8).toNat else if c = 3 then linK ((X k).fmod 8).toNat else if c = 4 then rkN ((X k).fmod 8).toNat else if c = 5 then rkT ((X k).fmod 8).toNat else (k : Int)
theorem col_ok {cells : Nat → List Value} {X : Nat → Int} (h : ∀ k, k < 6 → RowIs (X k) k (cells k)) {c : Int} (h0 : 0 ≤ c) (h1 : c ≤ 6) : ∃ T, ColOk w cells c (colG X c) T ∧ ColCmp w cells c (colG X c) := by
  have h8 : ∀ k, ((X k).fmod 8).toNat < 8 := fun k => by have := fmod8 (X k); omega
  have hc := ilt7 h0 h1
  rcases hc with rfl | rfl | rfl | rfl | rfl | rfl | rfl
  · exact ⟨_, int_col (by decide) (by decide) fun k hk => by obtain ⟨t1, t2, t3, t4, t5, t6, t7, e⟩ := h k hk; exact ⟨t1, by rw [e]; rfl⟩⟩
  · exact ⟨_, int_col (by decide) (by decide) fun k hk => by obtain ⟨t1, t2, t3, t4, t5, t6, t7, e⟩ := h k hk; exact ⟨t2, by rw [e]; rfl⟩⟩
  · exact ⟨_, str_col (S := fun k => srcK ((X k).fmod 8).toNat) (by decide) (by decide) (fun k hk => by obtain ⟨t1, t2, t3, t4, t5, t6, t7, e⟩ := h k hk; exact ⟨t3, by rw [e]; rfl⟩) fun a b _ _ => rkS_ok _ (h8 a) _ (h8 b)⟩
  · exact ⟨_, int_col (by decide) (by decide) fun k hk => by obtain ⟨t1, t2, t3, t4, t5, t6, t7, e⟩ := h k hk; exact ⟨t4, by rw [e]; rfl⟩⟩
  · exact ⟨_, str_col (S := fun k => namK ((X k).fmod 8).toNat) (by decide) (by decide) (fun k hk => by obtain ⟨t1, t2, t3, t4, t5, t6, t7, e⟩ := h k hk; exact ⟨t5, by rw [e]; rfl⟩) fun a b _ _ => rkN_ok _ (h8 a) _ (h8 b)⟩
  · exact ⟨_, str_col (S := fun k => texK ((X k).fmod 8).toNat) (by decide) (by decide) (fun k hk => by obtain ⟨t1, t2, t3, t4, t5, t6, t7, e⟩ := h k hk; exact ⟨t6, by rw [e]; rfl⟩) fun a b _ _ => rkT_ok _ (h8 a) _ (h8 b)⟩
  · exact ⟨_, int_col (by decide) (by decide) fun k hk => by obtain ⟨t1, t2, t3, t4, t5, t6, t7, e⟩ := h k hk; exact ⟨t7, by rw [e]; rfl⟩⟩
/-! ## the judge's answer is the order -/
noncomputable def KeyP (r1 r2 : List KeyR) : Prop := 0 < cmpRes r1 ∧ cmpRes r2 < 0
theorem keyP_cons {k : Addr} {c d x y : Int} {r1 r2 : List KeyR} (hd : d ≠ 0) : KeyP (⟨k, c, d, decide (x < y), decide (y < x)⟩ :: r1) (⟨k, c, d, decide (y < x), decide (x < y)⟩ :: r2) ↔ ((if decide (d < 0) then x < y else y < x) ∨ (y = x ∧ KeyP r1 r2)) := by
  unfold KeyP
  simp only [cmpRes, decide_eq_true_eq]
  rcases Int.lt_trichotomy x y with h | h | h
  · rw [if_pos h, if_neg (show ¬ y < x by omega), if_pos h]
    by_cases hn : d < 0
    · rw [if_pos hn]
      exact ⟨fun _ => .inl h, fun _ => by omega⟩
    · rw [if_neg hn]
      exact ⟨fun hq => by omega, fun hq => by omega⟩
  · subst h
    rw [if_neg (Int.lt_irrefl _), if_neg (Int.lt_irrefl _), if_neg (Int.lt_irrefl _), if_neg (Int.lt_irrefl _)]
    simp only [Int.lt_irrefl, ite_self, false_or, true_and]
  · rw [if_neg (show ¬ x < y by omega), if_pos h, if_pos h]
    by_cases hn : d < 0
    · rw [if_pos hn]
      exact ⟨fun hq => by omega, fun hq => by omega⟩
    · rw [if_neg hn]
      exact ⟨fun _ => .inl h, fun _ => by omega⟩
theorem keyP_nil : ¬ KeyP [] [] := fun h => absurd h.1 (by decide)
noncomputable def G3 (X : Nat → Int) (cF cO : Int) : Nat → Nat → Int
  | 0 => colG X 6
  | 1 => colG X cO
  | _ => colG X cF
noncomputable def way3 (w1 w2 : Int) : Nat → Int
  | 0 => 1
  | 1 => w2
  | _ => w1
noncomputable def keys3 (X : Nat → Int) (k1 k2 k3 : Addr) (cF cO w1 w2 : Int) (a b : Nat) : List KeyR :=
  [⟨k1, cF, w1, decide (colG X cF a < colG X cF b), decide (colG X cF b < colG X cF a)⟩, ⟨k2, cO, w2, decide (colG X cO a < colG X cO b), decide (colG X cO b < colG X cO a)⟩, ⟨k3, 6, 1, decide (colG X 6 a < colG X 6 b), decide (colG X 6 b < colG X 6 a)⟩]
theorem colG6 (X : Nat → Int) (k : Nat) : colG X 6 k = (k : Int) := rfl
theorem keys_ord {X : Nat → Int} {k1 k2 k3 : Addr} {cF cO w1 w2 : Int} (h1 : w1 ≠ 0) (h2 : w2 ≠ 0) (a b : Nat) : KeyP (keys3 X k1 k2 k3 cF cO w1 w2 a b) (keys3 X k1 k2 k3 cF cO w1 w2 b a) ↔ ordR (G3 X cF cO) (way3 w1 w2) 3 b a := by
  unfold keys3
  rw [keyP_cons h1, keyP_cons h2, keyP_cons (by decide)]
  simp only [ordR, G3, way3]
  have e : (colG X 6 b = colG X 6 a ∧ KeyP [] []) ↔ (colG X 6 b = colG X 6 a ∧ b < a) := by
    rw [colG6, colG6]
    exact ⟨fun h => absurd h.2 keyP_nil, fun h => by omega⟩
  rw [e]
theorem ordR_asymm {X : Nat → Int} {cF cO w1 w2 : Int} (a b : Nat) (h : ordR (G3 X cF cO) (way3 w1 w2) 3 a b) : ¬ ordR (G3 X cF cO) (way3 w1 w2) 3 b a := by
  have key : ∀ (i : Nat), ordR (G3 X cF cO) (way3 w1 w2) i a b → ¬ ordR (G3 X cF cO) (way3 w1 w2) i b a := by
    intro i
    induction i with
    | zero => exact fun h1 h2 => Nat.lt_asymm h1 h2
    | succ i ih =>
      rintro (h1 | ⟨h1, h2⟩) (h3 | ⟨h3, h4⟩)
      · split at h1 <;> split at h3 <;> first | omega | contradiction
      · split at h1 <;> omega
      · split at h3 <;> omega
      · exact ih h2 h4
  exact key 3 h
theorem bOf_keys {X : Nat → Int} {k1 k2 k3 : Addr} {cF cO w1 w2 : Int} (h1 : w1 ≠ 0) (h2 : w2 ≠ 0) {a b : Nat} (ha : a < 6) (hb : b < 6) :
    bOf (matN (ordK (G3 X cF cO) (way3 w1 w2) 3)) (a : Int) (b : Int) = (decide (0 < cmpRes (keys3 X k1 k2 k3 cF cO w1 w2 a b)) && decide (cmpRes (keys3 X k1 k2 k3 cF cO w1 w2 b a) < 0)) := by
  obtain ⟨ho6, hlt, hp⟩ := ordK_ok (G3 X cF cO) (way3 w1 w2) 3
  have hnd : (ordK (G3 X cF cO) (way3 w1 w2) 3).Nodup := hp.imp fun {x y} hxy e => by subst e; exact ordR_asymm _ _ hxy hxy
  have hall := enum_all _ (mem_enum 6 _ ho6 hlt hnd)
  have hk := keys_ord (X := X) (k1 := k1) (k2 := k2) (k3 := k3) (cF := cF) (cO := cO) h1 h2 a b
  unfold KeyP at hk
  have hm := mat_bit ha hb _ hlt
  unfold bOf
  rw [Int.toNat_natCast, Int.toNat_natCast]
  have hiff : (Before (ordK (G3 X cF cO) (way3 w1 w2) 3) b a) ↔ ordR (G3 X cF cO) (way3 w1 w2) 3 b a := by
    refine ⟨before_rel _ hp, fun hr => ?_⟩
    by_cases hab : a = b
    · subst hab; exact absurd hr (ordR_asymm _ _ hr)
    · rcases before_total hab _ (hall a ha) (hall b hb) with h | h
      · exact h
      · exact absurd hr (ordR_asymm _ _ (before_rel _ hp h))
  rw [Bool.eq_iff_iff, hm, hiff, ← hk, Bool.and_eq_true, decide_eq_true_eq, decide_eq_true_eq]
theorem ord_nodup (X : Nat → Int) (cF cO w1 w2 : Int) : (ordK (G3 X cF cO) (way3 w1 w2) 3).Nodup :=
  (ordK_ok (G3 X cF cO) (way3 w1 w2) 3).2.2.imp fun {x y} hxy e => by subst e; exact ordR_asymm _ _ hxy hxy
end
end
section
example : True := by
  k_with_none
  w_top off
  trivial

example : True := by
  k_with "go" => ((repeat' (first | ((first | (with_reducible show wpAny _ _ (exec (Stmt.Assign _ _ _) _) _ _ _) | (with_reducible show wpAny _ _ (exec (Stmt.Expr _ _) _) _ _ _) | (with_reducible show wpAny _ _ (exec (Stmt.If _ _ _ _) _) _ _ _) | (with_reducible show wpAny _ _ (exec (Stmt.AugAssign _ _ _ _) _) _ _ _) | (with_reducible show wpAny _ _ (exec (Stmt.Return _ _) _) _ _ _) | (with_reducible show wpAny _ _ (eval (Expr.Call _ _ _ _) _) _ _ _)); k_fold) | ((fail_if_success (with_reducible show wpAny _ _ (exec (Stmt.For _ _ _ _ _) _) _ _ _)); (fail_if_success (with_reducible show wpAny _ _ (pyIter _) _ _ _)); (first | (k_unfold; (try dsimp only)) | (k_end; wrow_close) | walk1 | (dsimp only; walk1) | (leave1; walk_say "STEP leave1"; try dsimp only))))); (all_goals (repeat (first | clear ek | clear qk))))
  k_with "getMethod ref" => (k_here; (with_reducible show wpAny _ _ (getMethod (Value.ref _) (Str.ofString "items") _) _ _ _); k_dflt (refine' isD_items_m ?zzk1 ?zzk2 ?zzk3 ?_; (case zzk1 => k_asm); (case zzk2 => k_mem); (case zzk3 => with_reducible assumption); k_whole))
  k_with "call builtin:dict.items" => (k_here; (with_reducible show wpAny _ _ (call (Value.builtin "dict.items") [Value.ref _]) _ _ _); k_dflt (refine' isD_items ?zzk0 ?zzk1 ?zzk2 ?zzk3 ?zzk4 ?_; (case zzk0 => k_asm); (case zzk1 => k_asm); (case zzk2 => k_mem); (case zzk3 => with_reducible assumption); (case zzk4 => with_reducible assumption); k_whole); intro _ _ _ _ _; (try k_sweep))
  k_with "setItem ref int" => (k_here; (with_reducible show wpAny _ _ (setItem (Value.ref _) (Value.int _ _) (Value.int _ _)) _ _ _); k_dflt (refine' isD_set ?zzk0 ?zzk1 ?zzk2 ?zzk3 ?zzk4 ?_; (case zzk0 => k_asm); (case zzk1 => k_asm); (case zzk2 => k_updF); (case zzk3 => with_reducible assumption); (case zzk4 => omega); k_whole); intro _ _ _ _ _; (try k_sweep))
  k_with "compareOp In" => (k_here; (with_reducible show wpAny _ _ (compareOp CmpOp.In (Value.int _ _) (Value.ref _)) _ _ _); k_dflt (refine' isD_in ?zzk1 ?zzk2 ?zzk3 ?zzk4 ?_; (case zzk1 => k_asm); (case zzk2 => k_mem); (case zzk3 => with_reducible assumption); (case zzk4 => with_reducible assumption); k_whole))
  k_with "getItem ref int" => (k_here; (with_reducible show wpAny _ _ (getItem (Value.ref _) (Value.int _ _)) _ _ _); k_dflt (refine' isD_getItem ?zzk1 ?zzk2 ?zzk3 ?zzk4 ?zzk5 ?_; (case zzk1 => k_asm); (case zzk2 => k_mem); (case zzk3 => with_reducible assumption); (case zzk4 => with_reducible assumption); (case zzk5 => with_reducible assumption); k_whole); intro _)
  trivial
/-! ## told == plain, entry == due -/
section
variable {w : World} {A : Around} {E : Value → Shared → Prop} {s : Shared} {h₀ : Heap} {L : Addr} {news : List (Addr × Obj)} {Q : Value → Shared → Prop}
theorem eq_true_int {A : Around} {s : Shared} {a b : Int} {t u : Tok} (h : a = b) : SeqAt.EqAt A s (.int a t) (.int b u) true := by
  have := SeqAt.EqAt.int_int (A := A) (s := s) a t b u
  rw [h] at this ⊢
  simpa using this
theorem eq_true_str {A : Around} {s : Shared} {a : Str} {t u : Tok} : SeqAt.EqAt A s (.str a t) (.str a u) true := by
  have := SeqAt.EqAt.str_str (A := A) (s := s) a t a u
  simpa using this
theorem range_all_true (n : Nat) : ((List.range n).all fun _ => true) = true := by
  rw [List.all_eq_true]; intro _ _; rfl
theorem eq_rows {A : Around} {x : Int} {k : Nat} {ra rb : Addr} {ca cb : List Value} (N : News h₀ L s.heap news) (ha : (ra, tupO ca) ∈ news) (hb : (rb, tupO cb) ∈ news) (ra' : RowIs x k ca) (rb' : RowIs x k cb) (hu : A.units < cLine) : SeqAt.EqAt A s (.ref ra) (.ref rb) true := by
  by_cases e : ra = rb
  · subst e; exact SeqAt.EqAt.same _
  · obtain ⟨t1, t2, t3, t4, t5, t6, t7, rfl⟩ := ra'
    obtain ⟨u1, u2, u3, u4, u5, u6, u7, rfl⟩ := rb'
    have h := SeqAt.RcAt.tuples (A := A) (s := s) (e := fun _ => true) ⟨_, (N _ ha).1, rfl, _, rfl⟩ ⟨_, (N _ hb).1, rfl, _, rfl⟩ hu (fun j h1 h2 => by
      have hj : j < 7 := h1
      have hc := lt7 j hj
      rcases hc with rfl | rfl | rfl | rfl | rfl | rfl | rfl
      · exact eq_true_int rfl
      · exact eq_true_int rfl
      · exact eq_true_str
      · exact eq_true_int rfl
      · exact eq_true_str
      · exact eq_true_str
      · exact eq_true_int rfl)
    rw [range_all_true] at h
    exact SeqAt.EqAt.of_refs e h
theorem rows_eq {tl pl : Addr} {us1 us2 : List Value} {c1 c2 : Nat} {xs : List Int} (N : News h₀ L s.heap news) (h1 : (tl, listOf (List.toArray us1) c1) ∈ news) (h2 : (pl, listOf (List.toArray us2) c2) ∈ news) (r1 : RowsAt xs us1 news) (r2 : RowsAt xs us2 news) (hu : A.units + 64 < cLine) (h : Q (.bool true) s) :
    wpAny (model PR w) A (compareOp .Eq (.ref tl) (.ref pl)) Q E s := by
  have hu1 : A.in1.units < cLine := by simp only [units_in1]; omega
  refine SeqAt.eq_listAt (e := fun _ => true) ⟨_, (N _ h1).1, rfl, _, rfl⟩ ⟨_, (N _ h2).1, rfl, _, rfl⟩ (by rw [List.size_toArray, List.size_toArray, r1.1, r2.1]) (by omega) (fun j g1 g2 => ?_) ?_
  · have hj : j < xs.length := by rw [← r1.1]; simpa using g1
    obtain ⟨ra, ca, a1, a2, a3⟩ := r1.2 j _ (List.getElem?_eq_getElem hj)
    obtain ⟨rb, cb, b1, b2, b3⟩ := r2.2 j _ (List.getElem?_eq_getElem hj)
    have e1 : us1.toArray[j] = .ref ra := by
      have := (List.getElem?_eq_some_iff.mp a1).2
      simpa using this
    have e2 : us2.toArray[j] = .ref rb := by
      have := (List.getElem?_eq_some_iff.mp b1).2
      simpa using this
    rw [e1, e2]
    exact eq_rows N a2 b2 a3 b3 hu1
  · rw [range_all_true]; exact h
theorem valueAt_flat {k : Int} : ∀ {kvs : List (Int × Value)} {D : List (PyData × PyData)}, PyProof.V.FlatPairs PyData.int kvs D → ∀ c : List (Int × Int), D = kdfD c → kdfHas c k = true → ∃ t, valueAt kvs k = some (.int (kdfLook c k 0) t) := by
  intro kvs D hf
  induction hf with
  | nil =>
    intro c hc hk
    cases c with
    | nil => simp [kdfHas] at hk
    | cons p r => simp [kdfD] at hc
  | @cons i v d kvs D hv _ ih =>
    intro c hc hk
    cases c with
    | nil => simp [kdfD] at hc
    | cons p r =>
      have hc' : (PyData.int i, d) = (PyData.int p.1, PyData.int p.2) ∧ D = kdfD r := by
        simp only [kdfD, List.map_cons, List.cons.injEq] at hc
        exact hc
      obtain ⟨e1, e2⟩ := hc'
      injection e1 with e3 e4
      injection e3 with e3
      subst e4
      obtain ⟨t, rfl⟩ := PyProof.V.Flat.int_inv hv
      rw [look_cons]
      unfold valueAt
      rw [List.find?_cons]
      by_cases hp : p.1 = k
      · rw [if_pos hp, decide_eq_true (show i = k by rw [e3, hp])]
        exact ⟨t, rfl⟩
      · rw [if_neg hp, decide_eq_false (show ¬ i = k by rw [e3]; exact hp)]
        refine ih r e2 ?_
        rw [has_cons, decide_eq_false hp, Bool.false_or] at hk
        exact hk
theorem hits_flat {A : Around} {kb : List (Int × Value)} {c2 : List (Int × Int)} (hb : PyProof.V.FlatPairs PyData.int kb (kdfD c2)) : ∀ {kvs : List (Int × Value)} {D : List (PyData × PyData)}, PyProof.V.FlatPairs PyData.int kvs D → ∀ c : List (Int × Int), D = kdfD c → (∀ p ∈ c, kdfHas c2 p.1 = true ∧ kdfLook c2 p.1 0 = p.2) → KeqHits A s kb kvs true := by
  intro kvs D hf
  induction hf with
  | nil => intro c hc hk; exact KeqHits.nil
  | @cons i v d kvs D hv _ ih =>
    intro c hc hk
    cases c with
    | nil => simp [kdfD] at hc
    | cons p r =>
      have hc' : (PyData.int i, d) = (PyData.int p.1, PyData.int p.2) ∧ D = kdfD r := by
        simp only [kdfD, List.map_cons, List.cons.injEq] at hc
        exact hc
      obtain ⟨e1, e2⟩ := hc'
      injection e1 with e3 e4
      injection e3 with e3
      subst e4
      obtain ⟨t, rfl⟩ := PyProof.V.Flat.int_inv hv
      obtain ⟨h1, h2⟩ := hk p (.head _)
      obtain ⟨u, hu⟩ := valueAt_flat hb c2 rfl h1
      rw [h2] at hu
      exact KeqHits.hit (e := true) (b := true) (by rw [e3]; exact hu) (eq_true_int rfl) (ih r e2 fun q hq => hk q (.tail _ hq))
theorem pairs_any {w' : World} {p p' : Program} {es : List DictEntry} {kvs : List (Int × Value)} (h : Pairs (PySem.intKind p w) es kvs) : Pairs (PySem.intKind p' w') es kvs := by
  induction h with
  | nil => exact .nil
  | cons h1 h2 _ ih => exact .cons h1 h2 ih
theorem dict_any {w' : World} {p p' : Program} {o : Obj} {kvs : List (Int × Value)} (h : o.IsDictOf (PySem.intKind p w) kvs) : o.IsDictOf (PySem.intKind p' w') kvs := by
  obtain ⟨es, ep, h1, h2, h3, h4, h5⟩ := h
  exact ⟨es, ep, h1, h2, h3, pairs_any h4, h5⟩
theorem eq_tabs {A : Around} {d d' : Addr} {o o' : Obj} {c c' : List (Int × Int)} (N : News h₀ L s.heap news) (hd : (d, o) ∈ news) (hd' : (d', o') ∈ news) (hD : IsD w o c) (hD' : IsD w o' c') (lo : (d == sysModules) = false) (lo' : (d' == sysModules) = false) (ht : TabEq c c') (hu : A.units < cLine) : SeqAt.EqAt A s (.ref d) (.ref d') true := by
  by_cases e : d = d'
  · subst e; exact SeqAt.EqAt.same _
  · obtain ⟨kvs, hk, hP⟩ := hD
    obtain ⟨kvs', hk', hP'⟩ := hD'
    have l1 : kvs.length = kvs'.length := by
      have a1 := hP.length
      have a2 := hP'.length
      rw [kdfD_length] at a1 a2
      have := ht.1
      omega
    refine SeqAt.EqAt.of_refs e fun prog w' E Q hq => ?_
    refine keq_eq (knd := PySem.intKind prog w') lo lo' (Heap.dictOf_iff.mpr ⟨o, (N _ hd).1, dict_any hk⟩) (Heap.dictOf_iff.mpr ⟨o', (N _ hd').1, dict_any hk'⟩) hu (fun _ => hits_flat hP' hP c rfl ht.2) ?_
    rw [l1]
    simpa using hq
theorem entry_eq {e e' d d' : Addr} {o o' : Obj} {c c' : List (Int × Int)} {i1 i2 i3 i4 j1 j2 j3 j4 : Int} {t1 t2 t3 t4 u1 u2 u3 u4 : Tok} (N : News h₀ L s.heap news) (he : (e, tupO [.int i1 t1, .int i2 t2, .int i3 t3, .int i4 t4, .ref d]) ∈ news) (he' : (e', tupO [.int j1 u1, .int j2 u2, .int j3 u3, .int j4 u4, .ref d']) ∈ news)
    (hd : (d, o) ∈ news) (hd' : (d', o') ∈ news) (hD : IsD w o c) (hD' : IsD w o' c') (lo : (d == sysModules) = false) (lo' : (d' == sysModules) = false) (ht : i1 = j1 ∧ i2 = j2 ∧ i3 = j3 ∧ i4 = j4 ∧ TabEq c c') (hu : A.units + 64 < cLine) (h : Q (.bool true) s) :
    wpAny (model PR w) A (compareOp .Eq (.ref e) (.ref e')) Q E s := by
  have hu1 : A.in1.units < cLine := by simp only [units_in1]; omega
  obtain ⟨q1, q2, q3, q4, q5⟩ := ht
  refine SeqAt.eq_tupleAt (e := fun _ => true) ⟨_, (N _ he).1, rfl, _, rfl⟩ ⟨_, (N _ he').1, rfl, _, rfl⟩ (by omega) (fun j g1 g2 => ?_) ?_
  · have hj : j < 5 := g1
    have hc := lt5 j hj
    rcases hc with rfl | rfl | rfl | rfl | rfl
    · exact eq_true_int q1
    · exact eq_true_int q2
    · exact eq_true_int q3
    · exact eq_true_int q4
    · exact eq_tabs N hd hd' hD hD' lo lo' q5 hu1
  · rw [range_all_true]; exact h
end
end
section
example : True := by
  k_with_none
  w_top off
  trivial

example : True := by
  k_with "go" => ((repeat' (first | ((first | (with_reducible show wpAny _ _ (exec (Stmt.Assign _ _ _) _) _ _ _) | (with_reducible show wpAny _ _ (exec (Stmt.Expr _ _) _) _ _ _) | (with_reducible show wpAny _ _ (exec (Stmt.If _ _ _ _) _) _ _ _) | (with_reducible show wpAny _ _ (exec (Stmt.AugAssign _ _ _ _) _) _ _ _) | (with_reducible show wpAny _ _ (exec (Stmt.Return _ _) _) _ _ _) | (with_reducible show wpAny _ _ (eval (Expr.Call _ _ _ _) _) _ _ _)); k_fold) | ((fail_if_success (with_reducible show wpAny _ _ (exec (Stmt.For _ _ _ _ _) _) _ _ _)); (fail_if_success (with_reducible show wpAny _ _ (pyIter _) _ _ _)); (first | (k_unfold; (try dsimp only)) | (k_end; wrow_close) | walk1 | (dsimp only; walk1) | (leave1; walk_say "STEP leave1"; try dsimp only))))); (all_goals (repeat (first | clear ek | clear qk))))
  k_with "getMethod ref" => (k_here; (with_reducible show wpAny _ _ (getMethod (Value.ref _) (Str.ofString "items") _) _ _ _); k_dflt (refine' isD_items_m ?zzk1 ?zzk2 ?zzk3 ?_; (case zzk1 => k_asm); (case zzk2 => k_mem); (case zzk3 => with_reducible assumption); k_whole))
  k_with "call builtin:dict.items" => (k_here; (with_reducible show wpAny _ _ (call (Value.builtin "dict.items") [Value.ref _]) _ _ _); k_dflt (refine' isD_items ?zzk0 ?zzk1 ?zzk2 ?zzk3 ?zzk4 ?_; (case zzk0 => k_asm); (case zzk1 => k_asm); (case zzk2 => k_mem); (case zzk3 => with_reducible assumption); (case zzk4 => with_reducible assumption); k_whole); intro _ _ _ _ _; (try k_sweep))
  k_with "setItem ref int" => (k_here; (with_reducible show wpAny _ _ (setItem (Value.ref _) (Value.int _ _) (Value.int _ _)) _ _ _); k_dflt (refine' isD_set ?zzk0 ?zzk1 ?zzk2 ?zzk3 ?zzk4 ?_; (case zzk0 => k_asm); (case zzk1 => k_asm); (case zzk2 => k_updF); (case zzk3 => with_reducible assumption); (case zzk4 => omega); k_whole); intro _ _ _ _ _; (try k_sweep))
  k_with "compareOp In" => (k_here; (with_reducible show wpAny _ _ (compareOp CmpOp.In (Value.int _ _) (Value.ref _)) _ _ _); k_dflt (refine' isD_in ?zzk1 ?zzk2 ?zzk3 ?zzk4 ?_; (case zzk1 => k_asm); (case zzk2 => k_mem); (case zzk3 => with_reducible assumption); (case zzk4 => with_reducible assumption); k_whole))
  k_with "getItem ref int" => (k_here; (with_reducible show wpAny _ _ (getItem (Value.ref _) (Value.int _ _)) _ _ _); k_dflt (refine' isD_getItem ?zzk1 ?zzk2 ?zzk3 ?zzk4 ?zzk5 ?_; (case zzk1 => k_asm); (case zzk2 => k_mem); (case zzk3 => with_reducible assumption); (case zzk4 => with_reducible assumption); (case zzk5 => with_reducible assumption); k_whole); intro _)
  trivial
example : True := by
  k_with "goL" => repeat' (first | ((fail_if_success (with_reducible show wpAny _ _ (call (Value.ref 119) _) _ _ _)); (fail_if_success (with_reducible show wpAny _ _ (call (Value.ref 136) _) _ _ _)); (fail_if_success (with_reducible show wpAny _ _ (call (Value.ref 126) _) _ _ _)); (fail_if_success (with_reducible show wpAny _ _ (call (Value.ref 141) _) _ _ _)); (fail_if_success (with_reducible show wpAny _ _ (call (Value.ref 70) _) _ _ _)); (fail_if_success (with_reducible show wpAny _ _ (compareOp CmpOp.Eq (Value.ref _) (Value.ref _)) _ _ _)); (first | (k_unfold; (try dsimp only)) | (k_end; wrow_close) | walk1 | (dsimp only; walk1) | (leave1; walk_say "STEP leave1"; try dsimp only))))
  k_with "goS" => repeat' (first | ((fail_if_success (with_reducible show wpAny _ _ (execs (List.cons _ _) _) _ _ _)); (fail_if_success (with_reducible show wpAny _ _ (call (Value.ref 119) _) _ _ _)); (fail_if_success (with_reducible show wpAny _ _ (call (Value.ref 136) _) _ _ _)); (fail_if_success (with_reducible show wpAny _ _ (call (Value.ref 126) _) _ _ _)); (fail_if_success (with_reducible show wpAny _ _ (call (Value.ref 141) _) _ _ _)); (fail_if_success (with_reducible show wpAny _ _ (call (Value.ref 70) _) _ _ _)); (fail_if_success (with_reducible show wpAny _ _ (compareOp CmpOp.Eq (Value.ref _) (Value.ref _)) _ _ _)); (first | (k_unfold; (try dsimp only)) | (k_end; wrow_close) | walk1 | (dsimp only; walk1) | (leave1; walk_say "STEP leave1"; try dsimp only))))
  trivial
theorem obj_ne {w : World} {h₀ h : Heap} {L : Addr} {news : List (Addr × Obj)} {P : Addr} {ps : Array Value} (N : News h₀ L h news) (hP : (P, tabObj ps) ∈ news) {p : Addr × Obj} (hp : p ∈ news) (hc : p.2.cls ≠ Value.none) : p.1 ≠ P := by
  intro e
  have h1 := (N p hp).1
  rw [e, (N _ hP).1] at h1
  have h2 := Option.some.inj h1
  rw [← h2] at hc
  exact hc rfl
theorem law_split {w : World} {h₀ h : Heap} {L : Addr} {rt tl pl : Addr} {us1 us2 : List Value} {c1 c2 : Nat} {S : List (Addr × Obj)} {xs : List Int} (N : News h₀ L h ((rt, tupO [.ref tl, .ref pl]) :: (tl, listOf (List.toArray us1) c1) :: (pl, listOf (List.toArray us2) c2) :: S)) (h121 : (121, tabObj #[]) ∈ S) (r1 : RowsAt xs us1 S) (r2 : RowsAt xs us2 S) :
    ∃ S', News h₀ L h ((121, tabObj #[]) :: (rt, tupO [.ref tl, .ref pl]) :: (tl, listOf (List.toArray us1) c1) :: (pl, listOf (List.toArray us2) c2) :: S') ∧ (∀ p ∈ (rt, tupO [.ref tl, .ref pl]) :: (tl, listOf (List.toArray us1) c1) :: (pl, listOf (List.toArray us2) c2) :: S', p.1 ≠ 121) ∧ RowsAt xs us1 S' ∧ RowsAt xs us2 S' := by
  have hm : (121, tabObj #[]) ∈ (rt, tupO [.ref tl, .ref pl]) :: (tl, listOf (List.toArray us1) c1) :: (pl, listOf (List.toArray us2) c2) :: S := .tail _ (.tail _ (.tail _ h121))
  have hr : ∀ us, RowsAt xs us S → RowsAt xs us (S.filter fun p => decide (p.1 ≠ 121)) := fun us r => ⟨r.1, fun i x hx => by
    obtain ⟨ra, ca, e1, e2, e3⟩ := r.2 i x hx
    refine ⟨ra, ca, e1, List.mem_filter.mpr ⟨e2, ?_⟩, e3⟩
    exact decide_eq_true (obj_ne (w := w) N hm (.tail _ (.tail _ (.tail _ e2))) (by intro h; cases h))⟩
  refine ⟨S.filter fun p => decide (p.1 ≠ 121), cb_drop N ?_, ?_, hr _ r1, hr _ r2⟩
  · intro p hp
    rcases List.mem_cons.mp hp with rfl | hp
    · exact hm
    · rcases List.mem_cons.mp hp with rfl | hp
      · exact .head _
      · rcases List.mem_cons.mp hp with rfl | hp
        · exact .tail _ (.head _)
        · rcases List.mem_cons.mp hp with rfl | hp
          · exact .tail _ (.tail _ (.head _))
          · exact .tail _ (.tail _ (.tail _ (List.mem_filter.mp hp).1))
  · intro p hp
    rcases List.mem_cons.mp hp with rfl | hp
    · exact obj_ne (w := w) N hm (.head _) (by intro h; cases h)
    · rcases List.mem_cons.mp hp with rfl | hp
      · exact obj_ne (w := w) N hm (.tail _ (.head _)) (by intro h; cases h)
      · rcases List.mem_cons.mp hp with rfl | hp
        · exact obj_ne (w := w) N hm (.tail _ (.tail _ (.head _))) (by intro h; cases h)
        · simpa using (List.mem_filter.mp hp).2
open Classical in
theorem rows_refs {xs : List Int} {us : List Value} {S : List (Addr × Obj)} (r : RowsAt xs us S) (h6 : xs.length = 6) : ∃ (ras : List Addr) (cells : Nat → List Value), us = ras.map Value.ref ∧ ras.length = 6 ∧ (∀ i ra, ras[i]? = some ra → (ra, tupO (cells i)) ∈ S) ∧ ∀ k, k < 6 → RowIs (xs.getD k 0) k (cells k) := by
  have hP : ∀ k : Nat, ∃ q : Addr × List Value, k < 6 → us[k]? = some (.ref q.1) ∧ (q.1, tupO q.2) ∈ S ∧ RowIs (xs.getD k 0) k q.2 := fun k => by
    by_cases hk : k < 6
    · obtain ⟨ra, ca, e1, e2, e3⟩ := r.2 k _ (List.getElem?_eq_getElem (by omega))
      refine ⟨(ra, ca), fun _ => ⟨e1, e2, ?_⟩⟩
      rw [List.getD_eq_getElem?_getD, List.getElem?_eq_getElem (by omega)]
      exact e3
    · exact ⟨(0, []), fun h => absurd h hk⟩
  refine ⟨(List.range 6).map fun k => (choose (hP k)).1, fun k => (choose (hP k)).2, ?_, by simp, fun i ra hi => ?_, fun k hk => (choose_spec (hP k) hk).2.2⟩
  · apply List.ext_getElem?
    intro k
    rw [List.map_map, List.getElem?_map]
    by_cases hk : k < 6
    · rw [(choose_spec (hP k) hk).1, List.getElem?_range hk]; rfl
    · rw [List.getElem?_eq_none (by rw [r.1]; omega), List.getElem?_eq_none (by simp; omega)]; rfl
  · rw [List.getElem?_map] at hi
    obtain ⟨k, hk, e⟩ := Option.map_eq_some_iff.mp hi
    have hk6 : i < 6 := by
      have := (List.getElem?_eq_some_iff.mp hk).1
      simpa using this
    rw [List.getElem?_range hk6] at hk
    cases hk
    rw [← e]
    exact (choose_spec (hP i) hk6).2.1
theorem law_split2 {w : World} {h₀ h : Heap} {L : Addr} {rt tl pl : Addr} {us1 us2 : List Value} {c1 c2 : Nat} {S : List (Addr × Obj)} {xs : List Int} (N : News h₀ L h ((rt, tupO [.ref tl, .ref pl]) :: (tl, listOf (List.toArray us1) c1) :: (pl, listOf (List.toArray us2) c2) :: S)) (h121 : (121, tabObj #[]) ∈ S) (r1 : RowsAt xs us1 S) (r2 : RowsAt xs us2 S) (h6 : xs.length = 6) :
    ∃ (S' : List (Addr × Obj)) (ras1 : List Addr) (cells1 : Nat → List Value) (ras2 : List Addr) (cells2 : Nat → List Value), News h₀ L h ((121, tabObj #[]) :: (rt, tupO [.ref tl, .ref pl]) :: (tl, listOf (List.toArray (ras1.map Value.ref)) c1) :: (pl, listOf (List.toArray (ras2.map Value.ref)) c2) :: S') ∧
      (RowsAt xs (ras1.map Value.ref) S' ∧ ras1.length = 6 ∧ (∀ i ra, ras1[i]? = some ra → (ra, tupO (cells1 i)) ∈ S') ∧ ∀ k, k < 6 → RowIs (xs.getD k 0) k (cells1 k)) ∧
      (RowsAt xs (ras2.map Value.ref) S' ∧ ras2.length = 6 ∧ (∀ i ra, ras2[i]? = some ra → (ra, tupO (cells2 i)) ∈ S') ∧ ∀ k, k < 6 → RowIs (xs.getD k 0) k (cells2 k)) := by
  obtain ⟨S', N2, _, q1, q2⟩ := law_split (w := w) N h121 r1 r2
  obtain ⟨ras1, cells1, rfl, a1, a2, a3⟩ := rows_refs q1 h6
  obtain ⟨ras2, cells2, rfl, b1, b2, b3⟩ := rows_refs q2 h6
  exact ⟨S', ras1, cells1, ras2, cells2, N2, ⟨q1, a1, a2, a3⟩, q2, b1, b2, b3⟩
theorem keyOk3 {w : World} {news : List (Addr × Obj)} {cells : Nat → List Value} {X : Nat → Int} {k1 k2 k3 : Addr} {cF cO w1 w2 : Int} (hri : ∀ k, k < 6 → RowIs (X k) k (cells k)) (hk1 : ∃ t u, (k1, tupO [.int cF t, .int w1 u]) ∈ news) (hk2 : ∃ t u, (k2, tupO [.int cO t, .int w2 u]) ∈ news) (hk3 : ∃ t u, (k3, tupO [.int 6 t, .int 1 u]) ∈ news)
    (hF : 0 ≤ cF ∧ cF ≤ 6) (hO : 0 ≤ cO ∧ cO ≤ 6) : ∀ a b, a < 6 → b < 6 → ∀ q ∈ keys3 X k1 k2 k3 cF cO w1 w2 a b, KeyOk w news (cells a) (cells b) q := by
  intro a b ha hb q hq
  have key : ∀ {k : Addr} {c d : Int}, (∃ t u, (k, tupO [.int c t, .int d u]) ∈ news) → 0 ≤ c ∧ c ≤ 6 → KeyOk w news (cells a) (cells b) ⟨k, c, d, decide (colG X c a < colG X c b), decide (colG X c b < colG X c a)⟩ := by
    intro k c d hk hc
    obtain ⟨T, hok, hcmp⟩ := col_ok (w := w) hri hc.1 hc.2
    have h2 := hcmp a b ha hb _ _ (hok.at ha) (hok.at hb)
    exact ⟨hk, hc.1, by have := hc.2; show c < 100; omega, colv cells c a, colv cells c b, hok.at ha, hok.at hb, h2.1, h2.2⟩
  unfold keys3 at hq
  rcases List.mem_cons.mp hq with rfl | hq
  · exact key hk1 hF
  · rcases List.mem_cons.mp hq with rfl | hq
    · exact key hk2 hO
    · rcases List.mem_cons.mp hq with rfl | hq
      · exact key hk3 ⟨by decide, by decide⟩
      · cases hq
theorem fmod6 (x : Int) : 0 ≤ x.fmod 6 ∧ x.fmod 6 ≤ 6 := by
  rw [Int.fmod_eq_emod_of_nonneg x (by decide)]; omega
theorem way1_ne (x : Int) : [-1, 1, 2, -3].getD (x.fmod 4).toNat (0 : Int) ≠ 0 := by
  rw [Int.fmod_eq_emod_of_nonneg x (by decide)]
  exact (by decide : ∀ n, n < 4 → [-1, 1, 2, -3].getD n (0 : Int) ≠ 0) _ ((Int.toNat_lt (Int.emod_nonneg x (by decide))).mpr (Int.emod_lt_of_pos x (by decide)))
theorem way2_ne (x : Int) : [1, -1].getD (x.fmod 2).toNat (0 : Int) ≠ 0 := by
  rw [Int.fmod_eq_emod_of_nonneg x (by decide)]
  exact (by decide : ∀ n, n < 2 → [1, -1].getD n (0 : Int) ≠ 0) _ ((Int.toNat_lt (Int.emod_nonneg x (by decide))).mpr (Int.emod_lt_of_pos x (by decide)))
example : True := by
  k_with "subIn" => ((intro _ hp9); (repeat (first | exact hp9 | refine List.mem_cons_of_mem _ ?_)))
  trivial
theorem off_tab {w : World} {h₀ h : Heap} {L : Addr} {R pre : List (Addr × Obj)} (N : News h₀ L h (pre ++ R)) (m : (121, tabObj #[]) ∈ R) : ∃ R' : List (Addr × Obj), (∀ p ∈ R', p.1 ≠ 121) ∧ (∀ p ∈ R', p ∈ R) ∧ (∀ p ∈ R, p.2.cls ≠ Value.none → p ∈ R') :=
  ⟨R.filter fun p => decide (p.1 ≠ 121), fun p hp => by simpa using (List.mem_filter.mp hp).2, fun p hp => (List.mem_filter.mp hp).1, fun p hp hc => List.mem_filter.mpr ⟨hp, decide_eq_true (obj_ne (w := w) N (List.mem_append_right _ m) (List.mem_append_right _ hp) hc)⟩⟩
noncomputable def kq3 (k1 k2 k3 : Addr) : Nat → Addr
  | 0 => k3
  | 1 => k2
  | _ => k1
noncomputable def col3 (cF cO : Int) : Nat → Int
  | 0 => 6
  | 1 => cO
  | _ => cF
noncomputable def ty3 (a b c : Value) : Nat → Value
  | 0 => a
  | 1 => b
  | _ => c
theorem three_all {P : Nat → Prop} (h0 : P 0) (h1 : P 1) (h2 : P 2) : ∀ i, i < 3 → P i := by
  intro i hi
  have hc : i = 0 ∨ i = 1 ∨ i = 2 := by omega
  rcases hc with rfl | rfl | rfl
  · exact h0
  · exact h1
  · exact h2
theorem isD_cls {w : World} {o : Obj} {c : List (Int × Int)} (h : IsD w o c) : o.cls ≠ Value.none := by
  obtain ⟨kvs, ⟨es, ep, hx, _⟩, _⟩ := h
  rw [hx.1]
  intro h; cases h
theorem news_name {h₀ h : Heap} {L : Addr} {l : List (Addr × Obj)} (N : News h₀ L h l) : ∃ R, News h₀ L h R ∧ R = l := ⟨l, N, rfl⟩
theorem wp_gen {M : Model} {A : Around} {α : Type} {t : Sem α} {Q : α → Shared → Prop} {E : Value → Shared → Prop} {h g d tk o} (H : ∀ Q' E' g' d' tk' o', Q' = Q → E' = E → g' = g → d' = d → o' = o → wpAny M A t Q' E' ⟨h, g', d', tk', o'⟩) : wpAny M A t Q E ⟨h, g, d, tk, o⟩ := H Q E g d tk o rfl rfl rfl rfl rfl
theorem Fr.absInt {h₀ h : Heap} {L : Addr} {m : Str → Option Value} {k : Str} {v : Int} {t : Tok} (F : Fr h₀ L h (fun y => if y = k then some (.int v t) else m y)) : ∃ v' t', v' = v ∧ Fr h₀ L h (fun y => if y = k then some (.int v' t') else m y) := ⟨v, t, rfl, F⟩
theorem lawholds : PySem.Challenge.rw_ph0052_01.Holds := hd (by
  k_go0
  all_goals (try k_fold)
  refine wp_gen ?_
  intro Q9 E9 g9 d9 tk9 o9 hQ9 hE9 hg9 hd9 ho9
  rename Below _ _ _ _ => B0
  rename Fr _ _ _ _ => F0
  rename Frag.In _ _ => X0
  rename Top topProg _ _ _ _ _ => T0
  rename News _ _ _ _ => N0
  generalize hg0 : ghostOf _ _ = g0 at *
  generalize hL0 : (‹Shared›).heap.objs.size = L0 at *
  walk1
  walk_at "goS"
  rename Fr _ _ _ _ => F1
  refine hide ?_
  intro G9
  obtain ⟨tot, tt, htot, F1⟩ := Fr.absInt F1
  clear htot
  (try k_unfold)
  refine tok_any ?_
  intro tk1
  walk1
  walk_at "goS"
  rename News _ _ _ _ => N0
  k_dflt (refine' things_spec B0 F1 X0 N0 T0 ?hk ?hdp ?hu lifted ?hvs ?hns ?_)
  case hk => exact rfl
  case hdp => ktr_room
  case hu => ktr_units
  case hvs => assumption
  case hns => omega
  intro rt tl pl us1 c1 us2 c2 S xs h' tk' F1 N1 hnS hxs hu1 hu2
  refine hide ?_
  intro G9
  have h121 := hnS (121, tabObj #[]) (.tail _ (.head _))
  obtain ⟨S', ras1, cells1, ras2, cells2, N2, ⟨hu1, hra1, hrow1, hri1⟩, hu2, hra2, hrow2, hri2⟩ := law_split2 (w := ‹World›) N1 h121 hu1 hu2 hxs
  clear N0 N1 h121 hnS
  (try k_unfold)
  (try dsimp only)
  walk_at "goS"
  refine tok_any ?_
  intro tk2
  walk1
  walk_at "goS"
  rename Fr _ _ _ _ => F2
  refine hide ?_
  intro G9
  obtain ⟨cF, tF, hcF, F2⟩ := Fr.absInt F2
  have bF : 0 ≤ cF ∧ cF ≤ 6 := by rw [hcF]; exact fmod6 _
  clear hcF
  (try k_unfold)
  refine tok_any ?_
  intro tk3
  walk1
  walk_at "goS"
  rename Fr _ _ _ _ => F3
  refine hide ?_
  intro G9
  obtain ⟨cO, tO, hcO, F3⟩ := Fr.absInt F3
  have bO : 0 ≤ cO ∧ cO ≤ 6 := by rw [hcO]; exact fmod6 _
  clear hcO
  (try k_unfold)
  refine tok_any ?_
  intro tk4
  walk1
  walk_at "goS"
  rename_i D4 h6 l5 hlo1 hhi1 t1 k1 h5 l4 D2 h4 l3 hlo0 hhi0 t0 k2 h3 l2 k3 h2 l1b kl h1b l0b h0b F4 N3
  refine hide ?_
  intro G9
  obtain ⟨R0, N4, hRe⟩ := news_name N3
  have a1 : (kl, listOf #[.ref k1, .ref k2, .ref k3] 0) ∈ R0 := by rw [hRe]; exact .head _
  have a2 : ∃ t u, (k3, tupO [.int 6 t, .int 1 u]) ∈ R0 := by rw [hRe]; exact ⟨_, _, .tail _ (.head _)⟩
  obtain ⟨w2, a3, hw2⟩ : ∃ w2, (∃ t u, (k2, tupO [.int cO t, .int w2 u]) ∈ R0) ∧ w2 ≠ 0 := by rw [hRe]; exact ⟨_, ⟨_, _, .tail _ (.tail _ (.head _))⟩, way2_ne _⟩
  obtain ⟨w1, a4, hw1⟩ : ∃ w1, (∃ t u, (k1, tupO [.int cF t, .int w1 u]) ∈ R0) ∧ w1 ≠ 0 := by rw [hRe]; exact ⟨_, ⟨_, _, .tail _ (.tail _ (.tail _ (.tail _ (.head _))))⟩, way1_ne _⟩
  have a5 : ∀ p ∈ (121, tabObj #[]) :: (rt, tupO [.ref tl, .ref pl]) :: (tl, listOf (List.toArray (ras1.map Value.ref)) c1) :: (pl, listOf (List.toArray (ras2.map Value.ref)) c2) :: S', p ∈ R0 := by rw [hRe]; exact fun p hp => .tail _ (.tail _ (.tail _ (.tail _ (.tail _ (.tail _ hp)))))
  have a6 : ∃ m4, Fr g0 L0 h0b m4 ∧ m4 (Str.ofString "keys") = some (.ref kl) ∧ m4 (Str.ofString "told") = some (.ref tl) ∧ m4 (Str.ofString "plain") = some (.ref pl) := ⟨_, F4, rfl, rfl, rfl⟩
  obtain ⟨m4, F5, e1, e2, e3⟩ := a6
  replace F5 := Fr.put (k := Str.ofString "keys") F5 e1
  replace F5 := Fr.put (k := Str.ofString "told") F5 e2
  replace F5 := Fr.put (k := Str.ofString "plain") F5 e3
  clear F4 N3 hRe l5 l4 l3 l2 l1b l0b hlo1 hhi1 hlo0 hhi0 e1 e2 e3
  (try k_unfold)
  refine tok_any ?_
  intro tk5
  walk1
  walk_at "goL"
  rename_i j dj hA FA NA ldj lj gB LB hB FGB BB XB TB hC FC NC kF kN kT kX
  refine hide ?_
  intro G9
  obtain ⟨R, kN, hRe⟩ := news_name kN
  have mj : (j, instObj 38 dj) ∈ R := by rw [hRe]; exact .head _
  obtain ⟨hh9, tk9, nn9, mdj⟩ : ∃ hh9 tk9 nn9, (dj, dictOf [⟨hh9, .str (Str.ofString "comp_select_list") tk9, .ref kl⟩] nn9) ∈ R := by rw [hRe]; exact ⟨_, _, _, .tail _ (.head _)⟩
  have up : ∀ p ∈ R0, p ∈ R := by rw [hRe]; exact fun p hp => .tail _ (.tail _ hp)
  have mkl := up _ a1
  have mk3 : ∃ t u, (k3, tupO [.int 6 t, .int 1 u]) ∈ R := let ⟨t, u, h⟩ := a2; ⟨t, u, up _ h⟩
  have mk2 : ∃ t u, (k2, tupO [.int cO t, .int w2 u]) ∈ R := let ⟨t, u, h⟩ := a3; ⟨t, u, up _ h⟩
  have mk1 : ∃ t u, (k1, tupO [.int cF t, .int w1 u]) ∈ R := let ⟨t, u, h⟩ := a4; ⟨t, u, up _ h⟩
  have m121 := up _ (a5 _ (.head _))
  have mtl := up _ (a5 _ (.tail _ (.tail _ (.head _))))
  have mpl := up _ (a5 _ (.tail _ (.tail _ (.tail _ (.head _)))))
  have mS : ∀ p ∈ S', p ∈ R := fun p hp => up _ (a5 _ (.tail _ (.tail _ (.tail _ (.tail _ hp)))))
  clear hRe FA NA FGB BB XB TB FC NC up a1 a2 a3 a4 a5
  (try k_unfold)
  (try dsimp only at kF kN ⊢)
  k_dflt (refine' told_spec (Bf := bOf (matN (ordK (G3 (fun k => xs.getD k 0) cF cO) (way3 w1 w2) 3))) (keys := keys3 (fun k => xs.getD k 0) k1 k2 k3 cF cO w1 w2) (kas := [k1, k2, k3]) (cells := cells1) (ras := ras1) B0 kF kX kN kT ?hk2 ?hdp2 ?hu2 mtl hra1 (fun i ra h => mS _ (hrow1 i ra h)) mj mdj mkl (fun _ _ _ _ => rfl) (keyOk3 hri1 mk1 mk2 mk3 bF bO) (fun a b ha hb => bOf_keys hw1 hw2 ha hb) ?_)
  case hk2 => exact rfl
  case hdp2 => ktr_room
  case hu2 => ktr_units
  intro e d o t1 t2 t3 t4 h3 tk3 F3 N3 lnd lde lod hDo
  clear kN kF
  (try dsimp only)
  walk_at "goS"
  walk1
  walk_at "goL"
  rename News _ _ _ _ => N4
  k_dflt (refine' rows_eq (xs := xs) N4 (.tail _ (.tail _ mtl)) (.tail _ (.tail _ mpl)) (hu1.mono fun p hp => .tail _ (.tail _ (mS p hp))) (hu2.mono fun p hp => .tail _ (.tail _ (mS p hp))) ?hu3 ?_)
  case hu3 => ktr_units
  walk_at "goL"
  rename Fr _ _ _ _ => F5
  rename News _ _ _ _ => N5
  refine hide ?_
  intro G9
  obtain ⟨R', hR1, hR2, hR3⟩ := off_tab (w := ‹World›) (pre := [_, _]) N5 m121
  have me121 : e ≠ 121 := obj_ne (w := ‹World›) N5 (.tail _ (.tail _ m121)) (.head _) (by intro h; cases h)
  have md121 : d ≠ 121 := obj_ne (w := ‹World›) N5 (.tail _ (.tail _ m121)) (.tail _ (.head _)) (isD_cls hDo)
  have N6 := cb_drop N5 (news := (121, tabObj #[]) :: (e, _) :: (d, o) :: R') (by
    intro p hp
    rcases List.mem_cons.mp hp with rfl | hp
    · exact .tail _ (.tail _ m121)
    · rcases List.mem_cons.mp hp with rfl | hp
      · exact .head _
      · rcases List.mem_cons.mp hp with rfl | hp
        · exact .tail _ (.head _)
        · exact .tail _ (.tail _ (hR2 p hp)))
  obtain ⟨T0', hok0, _⟩ := col_ok (w := ‹World›) hri2 (c := 6) (by decide) (by decide)
  obtain ⟨T1', hok1, _⟩ := col_ok (w := ‹World›) hri2 bO.1 bO.2
  obtain ⟨T2', hok2, _⟩ := col_ok (w := ‹World›) hri2 bF.1 bF.2
  obtain ⟨u1, v1, mk1'⟩ := mk1
  obtain ⟨u2, v2, mk2'⟩ := mk2
  obtain ⟨u3, v3, mk3'⟩ := mk3
  (try k_unfold)
  k_dflt (refine' order_spec (kq := kq3 k1 k2 k3) (col := col3 cF cO) (way := way3 w1 w2) (G := G3 (fun k => xs.getD k 0) cF cO) (Ty := ty3 T0' T1' T2') (cells := cells2) (ras := ras2) B0 F5 kX N6 kT codeHd ?hk4 ?hdp4 ?hu4 ?hn4 (.tail _ (.tail _ (hR3 _ mpl (by intro h; cases h)))) hra2 (fun i ra h => .tail _ (.tail _ (hR3 _ (mS _ (hrow2 i ra h)) (by intro h; cases h)))) (.tail _ (.tail _ (hR3 _ mkl (by intro h; cases h)))) ?hkq4 ?hcol4 ?_)
  case hk4 => exact rfl
  case hdp4 => ktr_room
  case hu4 => ktr_units
  case hn4 =>
    intro p hp
    rcases List.mem_cons.mp hp with rfl | hp
    · exact me121
    · rcases List.mem_cons.mp hp with rfl | hp
      · exact md121
      · exact hR1 p hp
  case hkq4 => exact three_all ⟨u3, v3, .tail _ (.tail _ (hR3 _ mk3' (by intro h; cases h)))⟩ ⟨u2, v2, .tail _ (.tail _ (hR3 _ mk2' (by intro h; cases h)))⟩ ⟨u1, v1, .tail _ (.tail _ (hR3 _ mk1' (by intro h; cases h)))⟩
  case hcol4 => exact three_all hok0 hok1 hok2
  intro r us n ps h5 tk5 F6 N7 lr hus
  (try dsimp only)
  refine hide ?_
  intro G9
  obtain ⟨ho6, hlt6, _⟩ := ordK_ok (G3 (fun k => xs.getD k 0) cF cO) (way3 w1 w2) 3
  have hnd := ord_nodup (fun k => xs.getD k 0) cF cO w1 w2
  obtain ⟨p1, p2, p3, p4, p5, p6⟩ := plain_law ho6 hlt6 hnd
  generalize ordK (G3 (fun k => xs.getD k 0) cF cO) (way3 w1 w2) 3 = ord at *
  clear N5 N6 F5
  obtain ⟨TR, hTR⟩ : ∃ TR, TR = toldRes (bOf (matN ord)) := ⟨_, rfl⟩
  rw [← hTR] at N7 hDo p1 p2 p3 p4 p5 p6
  obtain ⟨ff, hff⟩ : ∃ ff, ff = fallK ord 6 := ⟨_, rfl⟩
  rw [← hff] at p2 p3 p4 p5
  (try k_unfold)
  walk_at "goL"
  k_dflt (refine' due_spec (o := ord) B0 F6 kX N7 kT ?hk5 ?hdp5 ?hu5 (.head _) hus ho6 hlt6 ?_)
  case hk5 => exact rfl
  case hdp5 => ktr_room
  case hu5 => ktr_units
  intro e2 d2 ob s1 s2 s3 s4 h6 tk6 F7 N8 lnd2 lde2 lod2 hDo2
  (try dsimp only)
  clear N7 F6
  rw [← hff] at N8 hDo2
  clear hTR hff
  generalize dueTab ff 20 = dt at *
  walk_at "goL"
  k_dflt (refine' entry_eq N8 (.tail _ (.tail _ (.tail _ (.tail _ (.head _))))) (.head _) (.tail _ (.tail _ (.tail _ (.tail _ (.tail _ (.head _)))))) (.tail _ (.head _)) hDo hDo2 lod lod2 ⟨p1, p2, p3, p4, p5⟩ ?hu6 ?_)
  case hu6 => ktr_units
  walk_at "goL"
  rename Fr _ _ _ _ => F8
  rename News _ _ _ _ => N8'
  k_dflt (refine' count_calls_spec B0 F8 kX N8' kT ?hk7 ?hdp7 ?hu7 (.tail _ (.tail _ (.tail _ (.tail _ (.tail _ (.head _)))))) hDo lod ?_)
  case hk7 => exact rfl
  case hdp7 => ktr_room
  case hu7 => ktr_units
  intro t9 h9 tk9' F9 N9
  (try dsimp only)
  rw [p6]
  walk_at "goL"
  rw [hQ9, hg9, hd9, ho9]
  dsimp only
  walk_at "goL"
  done)
end
end Mine
theorem PySem.Challenge.cw_ph0052_01_holds : PySem.Challenge.rw_ph0052_01.Holds := by
  exact Mine.lawholds
