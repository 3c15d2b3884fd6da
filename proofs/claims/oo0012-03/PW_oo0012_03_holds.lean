import PyProof.Rows.All
import Wide.All
import OpenK.AllK
import Wide.FinOn
import Lean
import PySem.Challenge.RW_oo0012_03
set_option Elab.async false
set_option rowWalk.seconds 0

section
open PySem PySem.W PySem.Calls PyProof.Rows PyProof.V PySem.Spec
namespace Ntt
abbrev Led := List (Addr × Obj)

section
variable {prog : Program} {w : World} {A : Around} {E : Value → Shared → Prop} {s : Shared} {env : Env} {h₀ : Heap} {x : Str} {body : List Stmt} {Q : Flow → Shared → Prop}

theorem kstB_fr {L : Addr} {h : Heap} {ps : List (Str × Value)} {m₁ : Str → Option Value} {v : Value} (h1 : ∀ p ∈ ps, m₁ p.1 = some p.2)
    (F : Fr h₀ L h (fun y => if y = x then some v else m₁ y)) : Fr h₀ L h (fun y => if y = x then some v else kstB m₁ ps y) := by
  have e : (fun y => if y = x then some v else kstB m₁ ps y) = fun y => if y = x then some v else m₁ y := by
    funext y
    by_cases hy : y = x
    · rw [if_pos hy, if_pos hy]
    · rw [if_neg hy, if_neg hy]; exact kstB_eq h1 fun _ => rfl
  rw [e]; exact F
theorem kstB_fr' {L : Addr} {h : Heap} {ps : List (Str × Value)} {m₁ : Str → Option Value} (h1 : ∀ p ∈ ps, m₁ p.1 = some p.2)
    (F : Fr h₀ L h m₁) : Fr h₀ L h (kstB m₁ ps) := by
  have e : kstB m₁ ps = m₁ := by funext y; exact kstB_eq h1 fun _ => rfl
  rw [e]; exact F

theorem ownOff_append {a b : Led} {adr : List Addr} (h1 : OwnOff a adr) (h2 : OwnOff b adr) : OwnOff (a ++ b) adr := fun p hp =>
  (List.mem_append.mp hp).elim (h1 p) (h2 p)

/-- what a turn hands on -/
abbrev Next {σ : Type} (h₀ : Heap) (L : Addr) (ps : σ → List (Str × Value)) (mu : σ → Led) (I : σ → Prop) (rest : Led) (s : Shared) (Q' : Flow → Shared → Prop) : Prop :=
  ∀ (c' : σ) (h' : Heap) (m' : Str → Option Value) (tk' : Nat), Fr h₀ L h' m' → News h₀ L h' (mu c' ++ rest) → (∀ p ∈ ps c', m' p.1 = some p.2) → I c' → Q' .next { s with heap := h', toks := tk' }

theorem range_rule {σ : Type} (ps : σ → List (Str × Value)) (mu : σ → Led) (I : Nat → σ → Prop) (c₀ : σ) (n : Nat) {news : Led} {r : Addr} {a₀ b₀ : Int} {t₀ u₀ v₀ : Tok} {m₀ : Str → Option Value}
    (hh : A.handled = none) (hr : IsRange s.heap r a₀ b₀ 1 t₀ u₀ v₀) (hsmall : Builtin.Range.small a₀ b₀ 1 = true) (hn : Builtin.Range.rangeSize a₀ b₀ 1 = (n : Int))
    (F : Fr h₀ env.locals s.heap m₀) (N : News h₀ env.locals s.heap (mu c₀ ++ news)) (hmu : ∀ c, (mu c).map (·.1) = (mu c₀).map (·.1)) (hoff : OwnOff news ((mu c₀).map (·.1)))
    (hk : ∀ p ∈ ps c₀, m₀ p.1 = some p.2) (hI : I 0 c₀)
    (turn : ∀ (i : Nat) (c : σ) (t : Tok) (u : Str → Option Value) (h : Heap) (tk : Nat) (rest : Led) (Q' : Flow → Shared → Prop), i < n → I i c → (∀ p ∈ news, p ∈ rest) → OwnOff rest ((mu c₀).map (·.1)) →
      Fr h₀ env.locals h (fun y => if y = x then some (.int (a₀ + (i : Int)) t) else kstB u (ps c) y) → News h₀ env.locals h (mu c ++ rest) →
      Next h₀ env.locals ps mu (I (i + 1)) rest s Q' → wpAny (model prog w) A (execs body env) Q' E { s with heap := h, toks := tk })
    (done : ∀ (c : σ) (u : Str → Option Value) (h : Heap) (tk : Nat), I n c → Fr h₀ env.locals h (kstB u (ps c)) → News h₀ env.locals h (mu c ++ news) → Q .next { s with heap := h, toks := tk }) :
    wpAny (model prog w) A (pyIter (.ref r)) (fun it s₂ => LoopAtV prog w A h₀ env x body Q E it s₂) E s := by
  refine wpAny_pyIter_range hr hsmall ?_
  have W : Walks prog w A s.heap.objs.size [s.heap.objs.size] [s.heap.objs.size] n (fun i v => i < n ∧ ∃ t, v = .int (a₀ + i * 1) t)
      (fun i h => IsRangeIter h s.heap.objs.size (a₀ + (i : Nat) * 1) ((n : Int) - (i : Nat)) 1) := (Walks.range hh _ a₀ 1 n).bound
  refine loop_invN (fun i m nx => ∃ c, nx = mu c ++ news ∧ (∀ p ∈ ps c, m p.1 = some p.2) ∧ I i c) W ?_ ?_ ?_ ?_ (by show IsRangeIter _ _ _ _ _; rw [hn]; simpa using Heap.get?_push_size _ rfl) (F.push _) (fun p hp => ⟨Heap.get?_push_of_some _ (N p hp).1, (N p hp).2⟩) ⟨c₀, rfl, hk, hI⟩ ?_ ?_
  · intro hm
    exact absurd F.ns.lt ((List.mem_singleton.mp hm) ▸ Nat.lt_irrefl _)
  · intro b hb
    rw [List.mem_singleton.mp hb]
    exact next_is_new F
  · intro p hp hI
    exact absurd (Heap.lt_size (N p hp).1) ((List.mem_singleton.mp hI) ▸ Nat.lt_irrefl _)
  · intro p hp hI
    exact absurd (Heap.lt_size (N p hp).1) ((List.mem_singleton.mp hI) ▸ Nat.lt_irrefl _)
  · rintro i v m₁ news₁ h tk own hi ⟨_, t, rfl⟩ _ hoff' ⟨c, rfl, hps, hIc⟩ F₁ N₁
    have e1 : a₀ + (i : Int) * 1 = a₀ + (i : Int) := by omega
    rw [e1] at F₁
    have hoffO : OwnOff own ((mu c₀).map (·.1)) := fun p hp b hb => hoff' p hp b (by simp only [List.map_append, List.mem_append]; exact .inl hb)
    refine turn i c t m₁ h tk (news ++ own) _ hi hIc (fun p hp => List.mem_append_left _ hp) (ownOff_append hoff hoffO) (kstB_fr hps F₁) (by rw [← List.append_assoc]; exact N₁) ?_
    intro c' h' m' tk' F' N' hps' hI'
    refine ⟨h', tk', m', mu c' ++ (news ++ own), mu c' ++ news, rfl, F', N', fun p hp => ?_, fun p hp => ?_, ?_, c', rfl, hps', hI'⟩
    · rcases List.mem_append.mp hp with hp | hp
      · exact List.mem_append_left _ hp
      · exact List.mem_append_right _ (List.mem_append_left _ hp)
    · exact List.mem_append_right _ (List.mem_append_right _ hp)
    · rw [List.map_append, List.map_append, hmu]
  · rintro m₁ nx h tk ⟨c, rfl, hps, hIc⟩ F₁ N₁
    exact done c m₁ h tk hIc (kstB_fr' hps F₁) N₁

/-- a loop over a list of ints of the ledger that stays -/
theorem list_rule {σ : Type} (ps : σ → List (Str × Value)) (mu : σ → Led) (I : Nat → σ → Prop) (c₀ : σ) {news : Led} {l : Addr} {its : List Value} {ns : List Int} {nn : Nat} {m₀ : Str → Option Value}
    (hh : A.handled = none) (hm : (l, listOf its.toArray nn) ∈ news) (hi : IntsAre its ns)
    (F : Fr h₀ env.locals s.heap m₀) (N : News h₀ env.locals s.heap (mu c₀ ++ news)) (hmu : ∀ c, (mu c).map (·.1) = (mu c₀).map (·.1)) (hoff : OwnOff news ((mu c₀).map (·.1)))
    (hk : ∀ p ∈ ps c₀, m₀ p.1 = some p.2) (hI : I 0 c₀)
    (turn : ∀ (i : Nat) (k : Int) (c : σ) (t : Tok) (u : Str → Option Value) (h : Heap) (tk : Nat) (rest : Led) (Q' : Flow → Shared → Prop), ns[i]? = some k → I i c → (∀ p ∈ news, p ∈ rest) → OwnOff rest ((mu c₀).map (·.1)) →
      Fr h₀ env.locals h (fun y => if y = x then some (.int k t) else kstB u (ps c) y) → News h₀ env.locals h (mu c ++ rest) →
      Next h₀ env.locals ps mu (I (i + 1)) rest s Q' → wpAny (model prog w) A (execs body env) Q' E { s with heap := h, toks := tk })
    (done : ∀ (c : σ) (u : Str → Option Value) (h : Heap) (tk : Nat), I ns.length c → Fr h₀ env.locals h (kstB u (ps c)) → News h₀ env.locals h (mu c ++ news) → Q .next { s with heap := h, toks := tk }) :
    wpAny (model prog w) A (pyIter (.ref l)) (fun it s₂ => LoopAtV prog w A h₀ env x body Q E it s₂) E s := by
  refine iter_invNL (fun i m nx => ∃ c, nx = mu c ++ news ∧ (∀ p ∈ ps c, m p.1 = some p.2) ∧ I i c) hh (List.mem_append_right _ hm) hi F N ⟨c₀, rfl, hk, hI⟩ ?_ ?_
  · rintro i k t m₁ news₁ h tk own hn _ hoff' _ ⟨c, rfl, hps, hIc⟩ F₁ N₁
    have hoffO : OwnOff own ((mu c₀).map (·.1)) := fun p hp b hb => hoff' p hp b (by simp only [List.map_append, List.mem_append]; exact .inl hb)
    refine turn i k c t m₁ h tk (news ++ own) _ hn hIc (fun p hp => List.mem_append_left _ hp) (ownOff_append hoff hoffO) (kstB_fr hps F₁) (by rw [← List.append_assoc]; exact N₁) ?_
    intro c' h' m' tk' F' N' hps' hI'
    refine ⟨h', tk', m', mu c' ++ (news ++ own), mu c' ++ news, rfl, F', N', fun p hp => ?_, fun p hp => ?_, ?_, List.mem_append_right _ hm, c', rfl, hps', hI'⟩
    · rcases List.mem_append.mp hp with hp | hp
      · exact List.mem_append_left _ hp
      · exact List.mem_append_right _ (List.mem_append_left _ hp)
    · exact List.mem_append_right _ (List.mem_append_right _ hp)
    · rw [List.map_append, List.map_append, hmu]
  · rintro m₁ nx h tk _ ⟨c, rfl, hps, hIc⟩ F₁ N₁
    exact done c m₁ h tk hIc (kstB_fr' hps F₁) N₁

theorem objs_all {P : Led → Prop} : ∀ {ws : List (Addr × String)}, (∀ its : Led, its.map (·.1) = ws.map (·.1) → P its) → AllObj ws P
  | [], h => AllObj.nil (h [] rfl)
  | w :: r, h => AllObj.cons fun o _ => objs_all fun its e => h _ (by simp [e])

theorem subL_of {l all : Led} (h : ∀ p ∈ l, p ∈ all) : SubL l all := by
  induction l with
  | nil => trivial
  | cons p r ih => exact ⟨h p (.head _), ih fun q hq => h q (.tail _ hq)⟩

/-- a loop whose target is a tuple, over items that the library lays out -/
theorem items_rule {σ : Type} (ps : σ → List (Str × Value)) (mu : σ → Led) (I : Nat → σ → Prop) {target : Expr} {ws : List (Addr × String)} {keep news : Led} {adr : List Addr} (xs : List Itm)
    (hmu : ∀ c, (mu c).map (·.1) = adr) (hoff : OwnOff news adr) (hkeep : ∀ p ∈ keep, p ∈ news)
    (hws : ∀ q ∈ ws, (∀ b ∈ adr, b ≠ q.1) ∧ ∀ p ∈ news, p.1 ≠ q.1)
    (turn : ∀ (i : Nat) (it : Itm) (v : Value) (c : σ) (u : Str → Option Value) (h : Heap) (tk : Nat) (rest : Led) (Q' : Flow → Shared → Prop), xs[i]? = some it → it.Is v h → I i c → (∀ p ∈ news, p ∈ rest) → OwnOff rest adr →
      Fr h₀ env.locals h (kstB u (ps c)) → News h₀ env.locals h (mu c ++ rest) →
      Next h₀ env.locals ps mu (I (i + 1)) rest s Q' → wpAny (model prog w) A (assign target env v) (fun _ s₂ => wpAny (model prog w) A (execs body env) Q' E s₂) E { s with heap := h, toks := tk })
    (done : ∀ (c : σ) (u : Str → Option Value) (h : Heap) (tk : Nat), I xs.length c → Fr h₀ env.locals h (kstB u (ps c)) → News h₀ env.locals h (mu c ++ news) → Q .next { s with heap := h, toks := tk }) :
    ∀ (r : List Itm) (i : Nat) (c : σ) (m : Str → Option Value), xs.drop i = r → i + r.length = xs.length → (∀ p ∈ ps c, m p.1 = some p.2) → I i c → ItemsRest prog w A E h₀ env target body Q s ws keep r m (mu c ++ news)
  | [], i, c, m, hr, hl, hps, hI => by
    refine ItemsRest.zero fun h tk F N => ?_
    have e : i = xs.length := hl
    subst e
    exact done c m h tk hI (kstB_fr' hps F) N
  | a :: r, i, c, m, hr, hl, hps, hI => by
    intro v h tk hv F
    refine objs_all fun its hits N => ?_
    have hx : xs[i]? = some a := by
      have := congrArg (·[0]?) hr
      simpa using this
    have hoffI : OwnOff its adr := fun p hp b hb => by
      have h1 : p.1 ∈ ws.map (·.1) := hits ▸ List.mem_map_of_mem hp
      obtain ⟨q, hq, e⟩ := List.mem_map.mp h1
      rw [← e]; exact Ne.symm ((hws q hq).1 b hb)
    refine turn i a v c m h tk (news ++ its) _ hx hv hI (fun p hp => List.mem_append_left _ hp) (ownOff_append hoff hoffI) (kstB_fr' hps F) (fun p hp => N p ?_) ?_
    · rcases List.mem_append.mp hp with hp | hp
      · exact List.mem_append_right _ (List.mem_append_left _ hp)
      · rcases List.mem_append.mp hp with hp | hp
        · exact List.mem_append_right _ (List.mem_append_right _ hp)
        · exact List.mem_append_left _ hp
    · intro c' h' m' tk' F' N' hps' hI'
      refine ⟨h', tk', m', mu c' ++ news, rfl, F', fun p hp => N' p ?_, fun p hp q hq => ?_, subL_of fun p hp => List.mem_append_right _ (hkeep p hp), items_rule ps mu I xs hmu hoff hkeep hws turn done r (i + 1) c' m' ?_ ?_ hps' hI'⟩
      · rcases List.mem_append.mp hp with hp | hp
        · exact List.mem_append_right _ (List.mem_append_right _ hp)
        · rcases List.mem_append.mp hp with hp | hp
          · exact List.mem_append_left _ hp
          · exact List.mem_append_right _ (List.mem_append_left _ hp)
      · have h1 : q.1 ∈ ws.map (·.1) := hits ▸ List.mem_map_of_mem hq
        obtain ⟨q', hq', e⟩ := List.mem_map.mp h1
        rw [← e]
        rcases List.mem_append.mp hp with hp | hp
        · exact (hws q' hq').1 _ (hmu c' ▸ List.mem_map_of_mem hp)
        · exact (hws q' hq').2 p hp
      · rw [← List.drop_drop, hr]; rfl
      · rw [← hl, List.length_cons]; omega

theorem below_adr {news mus : Led} {I : Addr} (hI : ∀ p ∈ mus ++ news, p.1 < I) (k : Nat) : (∀ b ∈ mus.map (·.1), b ≠ I + k) ∧ ∀ p ∈ news, p.1 ≠ I + k := by
  constructor
  · intro b hb
    obtain ⟨p, hp, e⟩ := List.mem_map.mp hb
    have := hI p (List.mem_append_left _ hp)
    rw [← e]; exact Nat.ne_of_lt (Nat.lt_of_lt_of_le this (Nat.le_add_right _ _))
  · intro p hp
    exact Nat.ne_of_lt (Nat.lt_of_lt_of_le (hI p (List.mem_append_right _ hp)) (Nat.le_add_right _ _))

theorem enum_rule {σ : Type} (ps : σ → List (Str × Value)) (mu : σ → Led) (I : Nat → σ → Prop) (c₀ : σ) {elts : List Expr} {k : Nat} {pos : Pos} {news : Led} {l : Addr} {its : List Value} {ns : List Int} {nn : Nat} {m₀ : Str → Option Value}
    (hh : A.handled = none) (hm : (l, listOf its.toArray nn) ∈ news) (hi : IntsAre its ns)
    (F : Fr h₀ env.locals s.heap m₀) (N : News h₀ env.locals s.heap (mu c₀ ++ news)) (hmu : ∀ c, (mu c).map (·.1) = (mu c₀).map (·.1)) (hoff : OwnOff news ((mu c₀).map (·.1)))
    (hk : ∀ p ∈ ps c₀, m₀ p.1 = some p.2) (hI : I 0 c₀)
    (turn : ∀ (i : Nat) (j : Int) (c : σ) (T : Addr) (t t' : Tok) (u : Str → Option Value) (h : Heap) (tk : Nat) (rest : Led) (Q' : Flow → Shared → Prop), ns[i]? = some j → IsTup h T #[.int (i : Int) t, .int j t'] → I i c → (∀ p ∈ news, p ∈ rest) → OwnOff rest ((mu c₀).map (·.1)) →
      Fr h₀ env.locals h (kstB u (ps c)) → News h₀ env.locals h (mu c ++ rest) →
      Next h₀ env.locals ps mu (I (i + 1)) rest s Q' → wpAny (model prog w) A (assign (.Tuple elts k pos) env (.ref T)) (fun _ s₂ => wpAny (model prog w) A (execs body env) Q' E s₂) E { s with heap := h, toks := tk })
    (done : ∀ (c : σ) (u : Str → Option Value) (h : Heap) (tk : Nat), I ns.length c → Fr h₀ env.locals h (kstB u (ps c)) → News h₀ env.locals h (mu c ++ news) → Q .next { s with heap := h, toks := tk }) :
    wpAny (model prog w) A (call (.type "enumerate") [.ref l]) (fun xv s₁ => wpAny (model prog w) A (pyIter xv) (fun it s₂ => TurnsAt prog w A h₀ env (.Tuple elts k pos) body Q E it s₂) E s₁) E s := by
  have hlen : its.length = ns.length := hi.length
  refine ktu_enum hh F N (List.mem_append_right _ hm) rfl rfl rfl fun It hIt => ?_
  refine items_rule (adr := (mu c₀).map (·.1)) ps mu I (enumItems 0 its) hmu hoff (fun p hp => by rw [List.mem_singleton.mp hp]; exact hm) ?_ ?_ ?_ _ 0 c₀ m₀ (List.drop_zero ..) (by simp) hk hI
  · intro q hq
    rcases List.mem_cons.mp hq with rfl | hq
    · exact below_adr hIt 1
    · rw [List.mem_singleton.mp hq]; exact below_adr hIt 0
  · intro i it v c u h tk rest Q' hx hv hIc hsub hoff' F' N' hnext
    have hlt : i < its.length := by
      have h1 := List.getElem?_eq_some_iff.mp hx
      obtain ⟨h2, _⟩ := h1
      rwa [enumItems_length] at h2
    have hv1 : its[i]? = some its[i] := List.getElem?_eq_getElem hlt
    have h2 := enumItems_get its 0 i hv1
    rw [hx] at h2
    obtain rfl : it = _ := Option.some.inj h2
    obtain ⟨T, t, rfl, hT⟩ := hv
    obtain ⟨t', hi'⟩ := hi.get i ns[i] (List.getElem?_eq_getElem (by omega))
    have e : its[i] = .int ns[i] t' := Option.some.inj (hv1.symm.trans hi')
    rw [e] at hT
    refine turn i ns[i] c T t t' u h tk rest Q' (List.getElem?_eq_getElem (by omega)) ?_ hIc hsub hoff' F' N' hnext
    simpa using hT
  · intro c u h tk hIc F' N'
    rw [enumItems_length, hlen] at hIc
    exact done c u h tk hIc F' N'

theorem zip_rule {σ : Type} (ps : σ → List (Str × Value)) (mu : σ → Led) (I : Nat → σ → Prop) (c₀ : σ) {elts : List Expr} {k : Nat} {pos : Pos} {news : Led} {l1 l2 : Addr} {xs ys : List Value} {ns ms : List Int} {n1 n2 : Nat} {m₀ : Str → Option Value}
    (hh : A.handled = none) (hm1 : (l1, listOf xs.toArray n1) ∈ news) (hi1 : IntsAre xs ns) (hm2 : (l2, listOf ys.toArray n2) ∈ news) (hi2 : IntsAre ys ms)
    (F : Fr h₀ env.locals s.heap m₀) (N : News h₀ env.locals s.heap (mu c₀ ++ news)) (hmu : ∀ c, (mu c).map (·.1) = (mu c₀).map (·.1)) (hoff : OwnOff news ((mu c₀).map (·.1)))
    (hk : ∀ p ∈ ps c₀, m₀ p.1 = some p.2) (hI : I 0 c₀)
    (turn : ∀ (i : Nat) (a b : Int) (c : σ) (T : Addr) (t t' : Tok) (u : Str → Option Value) (h : Heap) (tk : Nat) (rest : Led) (Q' : Flow → Shared → Prop), ns[i]? = some a → ms[i]? = some b → IsTup h T #[.int a t, .int b t'] → I i c → (∀ p ∈ news, p ∈ rest) → OwnOff rest ((mu c₀).map (·.1)) →
      Fr h₀ env.locals h (kstB u (ps c)) → News h₀ env.locals h (mu c ++ rest) →
      Next h₀ env.locals ps mu (I (i + 1)) rest s Q' → wpAny (model prog w) A (assign (.Tuple elts k pos) env (.ref T)) (fun _ s₂ => wpAny (model prog w) A (execs body env) Q' E s₂) E { s with heap := h, toks := tk })
    (done : ∀ (c : σ) (u : Str → Option Value) (h : Heap) (tk : Nat), I (min ns.length ms.length) c → Fr h₀ env.locals h (kstB u (ps c)) → News h₀ env.locals h (mu c ++ news) → Q .next { s with heap := h, toks := tk }) :
    wpAny (model prog w) A (call (.type "zip") [.ref l1, .ref l2]) (fun xv s₁ => wpAny (model prog w) A (pyIter xv) (fun it s₂ => TurnsAt prog w A h₀ env (.Tuple elts k pos) body Q E it s₂) E s₁) E s := by
  have hlen1 : xs.length = ns.length := hi1.length
  have hlen2 : ys.length = ms.length := hi2.length
  refine ktu_zip hh F N (List.mem_append_right _ hm1) rfl rfl (List.mem_append_right _ hm2) rfl rfl fun It hIt => ?_
  refine items_rule (adr := (mu c₀).map (·.1)) ps mu I (zipItems xs ys) hmu hoff (fun p hp => ?_) ?_ ?_ ?_ _ 0 c₀ m₀ (List.drop_zero ..) (by simp) hk hI
  · rcases List.mem_cons.mp hp with rfl | hp
    · exact hm1
    · rw [List.mem_singleton.mp hp]; exact hm2
  · intro q hq
    rcases List.mem_cons.mp hq with rfl | hq
    · exact below_adr hIt 4
    rcases List.mem_cons.mp hq with rfl | hq
    · exact below_adr hIt 2
    rcases List.mem_cons.mp hq with rfl | hq
    · exact below_adr hIt 3
    rcases List.mem_cons.mp hq with rfl | hq
    · exact below_adr hIt 0
    · rw [List.mem_singleton.mp hq]; exact below_adr hIt 1
  · intro i it v c u h tk rest Q' hx hv hIc hsub hoff' F' N' hnext
    have hlt : i < min xs.length ys.length := by
      obtain ⟨h2, _⟩ := List.getElem?_eq_some_iff.mp hx
      rwa [zipItems_length] at h2
    have hx1 : xs[i]? = some xs[i] := List.getElem?_eq_getElem (by omega)
    have hy1 : ys[i]? = some ys[i] := List.getElem?_eq_getElem (by omega)
    have h2 := zipItems_get xs ys i hx1 hy1
    rw [hx] at h2
    obtain rfl : it = _ := Option.some.inj h2
    obtain ⟨T, t, rfl, hT⟩ := hv
    obtain ⟨t1, e1⟩ := hi1.get i ns[i] (List.getElem?_eq_getElem (by omega))
    obtain ⟨t2, e2⟩ := hi2.get i ms[i] (List.getElem?_eq_getElem (by omega))
    have e1' : xs[i] = .int ns[i] t1 := Option.some.inj (hx1.symm.trans e1)
    have e2' : ys[i] = .int ms[i] t2 := Option.some.inj (hy1.symm.trans e2)
    rw [e1', e2'] at hT
    exact turn i ns[i] ms[i] c T t1 t2 u h tk rest Q' (List.getElem?_eq_getElem (by omega)) (List.getElem?_eq_getElem (by omega)) hT hIc hsub hoff' F' N' hnext
  · intro c u h tk hIc F' N'
    rw [zipItems_length, hlen1, hlen2] at hIc
    exact done c u h tk hIc F' N'
end
end Ntt
end

section
open PySem PySem.W PySem.Calls PyProof.Rows PyProof.V PySem.Spec PyProof.Rows.LCg
namespace Ntt
section
variable {prog : Program} {w : World} {A : Around} {E : Value → Shared → Prop} {s : Shared} {env : Env} {h₀ : Heap} {L : Addr} {m : Str → Option Value}

def PairSrc (prog : Program) (w : World) (A : Around) (env : Env) (e : Expr) (scope : Scope) (cl : List (Str × Addr)) (Q : Value → Shared → Prop) (E : Value → Shared → Prop) (xv : Value) (s₁ : Shared) : Prop :=
  wpAny (model prog w) A (pyIter xv) (fun it s₂ => wpAny (model prog w) A (newList []) (fun acc s₃ =>
      wpAny (model prog w) A (newFunctionEnv scope env.globals cl [] env.qual none .none (some env)) (fun cenv s₄ =>
        codeAny (model prog w) A (.compStart e 0 it acc { cenv with scope := relabel scope env }) (compPost (model prog w) A E none Q acc cenv.locals) s₄) E s₃) E s₂) E s₁

theorem pair_comp {elt target iter : Expr} {scope : Scope} {cl : List (Str × Addr)} {pos : Pos} {Q : Value → Shared → Prop}
    (hclos : closureFor scope env = pure cl) (hkind : scope.kind = .function)
    (hnames : ∀ y ∈ scope.names, y.2 = .local → scope.names.lookup y.1 = some .local)
    (h : wpAny (model prog w) A (eval iter env) (PairSrc prog w A env (.ListComp elt [⟨target, iter, [], 0⟩] scope pos) scope cl Q E) E s)
    (hs : ∀ x, foldedSetIterable iter env x = pure x := by intro _; rfl) :
    wpAny (model prog w) A (eval (.ListComp elt [⟨target, iter, [], 0⟩] scope pos) env) Q E s := by
  rw [eval_ListComp]
  exact wpAny_comprehension_free (use := none) rfl hs hclos hkind hnames h

theorem zip_comp {elt iter : Expr} {a b : Str} {pa pb tp : Pos} {kk : Nat} {scope : Scope} {cl : List (Str × Addr)} {pos : Pos} {Q : Value → Shared → Prop} (f : Int → Int → Int) {news : Led} {l1 l2 : Addr} {xs ys : List Value} {ns ms : List Int} {n1 n2 : Nat}
    (hh : A.handled = none) (F : Fr h₀ L s.heap m) (N : News h₀ L s.heap news) (hm1 : (l1, listOf xs.toArray n1) ∈ news) (hi1 : IntsAre xs ns) (hm2 : (l2, listOf ys.toArray n2) ∈ news) (hi2 : IntsAre ys ms)
    (hlen : ns.length = ms.length) (hsz : ns.length ≤ sizeLine)
    (hcell : ∀ y ∈ scope.names, y.2 ≠ .cell) (hkind : scope.kind = .function) (hxa : scope.names.lookup a = some .local) (hxb : scope.names.lookup b = some .local) (hab : ¬ a = b)
    (turn : ∀ (x y : Int) (t t' : Tok) (C : Addr) (oC : Obj) (m₂ : Str → Option Value) (h : Heap) (tk : Nat) (rest : Led) (Q' E' : Value → Shared → Prop), x ∈ ns → y ∈ ms → NsObj oC m₂ → m₂ a = some (.int x t) → m₂ b = some (.int y t') → Fr h₀ L h m →
      News h₀ L h ((C, oC) :: rest) → (∀ p ∈ news, p ∈ rest) → (∀ p ∈ rest, p.1 ≠ C) →
      (∀ t h' tk', Fr h₀ L h' m → News h₀ L h' ((C, oC) :: rest) → Q' (.int (f x y) t) { s with heap := h', toks := tk' }) → wpAny (model prog w) A (eval elt (compEnvC scope cl C env)) Q' E' { s with heap := h, toks := tk })
    (fin : ∀ D vs h tk, IntsAre vs (List.zipWith f ns ms) → Fr h₀ L h m → News h₀ L h ((D, lst vs) :: news) → (∀ p ∈ news, p.1 < D) → Q (.ref D) { s with heap := h, toks := tk }) :
    wpAny (model prog w) A (call (.type "zip") [.ref l1, .ref l2]) (PairSrc prog w A env (.ListComp elt [⟨.Tuple [.Name a pa, .Name b pb] kk tp, iter, [], 0⟩] scope pos) scope cl Q E) E s := by
  have hax1 := N _ hm1
  have hax2 := N _ hm2
  have hlen1 : xs.length = ns.length := hi1.length
  have hlen2 : ys.length = ms.length := hi2.length
  have hl1 : s.heap.IsList l1 xs.toArray := ⟨_, hax1.1, rfl, n1, rfl⟩
  have hl2 : s.heap.IsList l2 ys.toArray := ⟨_, hax2.1, rfl, n2, rfl⟩
  have hlt1 : l1 < s.heap.objs.size := Heap.lt_size hax1.1
  have hlt2 : l2 < s.heap.objs.size := Heap.lt_size hax2.1
  have hLs : L < s.heap.objs.size := F.ns.lt
  have D : ZipApart (s.heap.objs.size + 4) (s.heap.objs.size + 2) (s.heap.objs.size + 3) s.heap.objs.size (s.heap.objs.size + 1) l1 l2 := ktu_apart _ _ _ hlt1 hlt2
  refine call_zip_2 hl1 hl2 fun g hz hTI hTO hi1' hi2' hgsz hgk => ?_
  unfold PairSrc
  refine wpAny_pyIter_zip hz ?_
  refine wpAny_newObj_type (wpAny_newFunctionEnv hcell (by intro y hy; simp at hy) (fun h₁ hns₁ hsb₁ => ?_) hkind)
  dsimp only at hns₁ hsb₁ ⊢
  generalize hH2 : g.push { cls := .type "list", dict := none, data := .seq ([] : List Value).toArray } = H2 at hns₁ hsb₁ ⊢
  have hC : H2.objs.size = g.objs.size + 1 := by rw [← hH2, Heap.size_push]
  have hDsz : g.objs.size = s.heap.objs.size + 5 := hgsz
  -- names of the new addresses
  generalize hDa : g.objs.size = Da at *
  generalize hCa : H2.objs.size = Ca at *
  generalize hn : s.heap.objs.size = n at *
  have oldG : ∀ b o, g.get? b = some o → h₁.get? b = some o := fun b o e => by
    have hb : b < Da := hDa ▸ Heap.lt_size e
    exact hsb₁.extBut b o (by show ¬ b = Ca; rw [hC]; exact Nat.ne_of_lt (Nat.lt_succ_of_lt hb)) (Heap.get?_push_of_some _ (hH2 ▸ Heap.get?_push_of_some _ e))
  have old : ∀ b o, s.heap.get? b = some o → h₁.get? b = some o := fun b o e => oldG b o (hgk b o e)
  have hDC : Da ≠ Ca := by rw [hC]; exact Nat.ne_of_lt (Nat.lt_succ_self _)
  have hacc : h₁.get? Da = some (lst []) := hsb₁.extBut _ _ hDC (Heap.get?_push_of_some _ (by rw [← hH2, ← hDa]; exact Heap.get?_push_size _ rfl))
  have fresh₀ : ∀ a, n ≤ a → h₀.get? a = none := fun a ha => by
    cases e : h₀.get? a with
    | none => rfl
    | some o' => exact absurd (hn ▸ Heap.lt_size (F.keep a o' e)) (Nat.not_lt.mpr ha)
  have hDn : n + 5 = Da := hDsz.symm
  have hD₀ : h₀.get? Da = none := fresh₀ _ (by rw [← hDn]; exact Nat.le_add_right _ _)
  have hC₀ : h₀.get? Ca = none := fresh₀ _ (by rw [hC, ← hDn]; exact Nat.le_add_right _ 6)
  have lts : ∀ {b : Nat}, b < n → b ≠ Da ∧ b ≠ Ca := fun {b} hb => ⟨by rw [← hDn]; exact Nat.ne_of_lt (Nat.lt_of_lt_of_le hb (Nat.le_add_right _ _)), by rw [hC, ← hDn]; exact Nat.ne_of_lt (Nat.lt_of_lt_of_le hb (Nat.le_add_right _ 6))⟩
  have hDL : Da ≠ L := Ne.symm (lts hLs).1
  have hCL : Ca ≠ L := Ne.symm (lts hLs).2
  have W := (WalksT.zip2 (prog := prog) (w := w) hh (n + 4) (n + 2) (n + 3) n (n + 1) l1 l2 D xs.toArray ys.toArray).toU
  let fp : List Addr := [n + 4, n + 2, n + 3, n, n + 1, l1, l2]
  have hmin : min xs.toArray.size ys.toArray.size = ns.length := by simp only [List.size_toArray]; omega
  rw [hmin] at W
  have hfpL : L ∉ fp := fun hI' => by
    have hb' : L = n + 4 ∨ L = n + 2 ∨ L = n + 3 ∨ L = n ∨ L = n + 1 ∨ L = l1 ∨ L = l2 := by simpa [fp] using hI'
    rcases hb' with e | e | e | e | e | e | e
    · exact absurd (e ▸ hLs) (Nat.not_lt.mpr (Nat.le_add_right _ _))
    · exact absurd (e ▸ hLs) (Nat.not_lt.mpr (Nat.le_add_right _ _))
    · exact absurd (e ▸ hLs) (Nat.not_lt.mpr (Nat.le_add_right _ _))
    · exact absurd (e ▸ hLs) (Nat.lt_irrefl _)
    · exact absurd (e ▸ hLs) (Nat.not_lt.mpr (Nat.le_add_right _ _))
    · exact hax1.2.1 e.symm
    · exact hax2.2.1 e.symm
  have hfpNew : ∀ b ∈ fp, b ≠ Da ∧ b ≠ Ca := fun b hb => by
    have hb' : b = n + 4 ∨ b = n + 2 ∨ b = n + 3 ∨ b = n ∨ b = n + 1 ∨ b = l1 ∨ b = l2 := by simpa [fp] using hb
    have key : b < n + 5 := by
      rcases hb' with e | e | e | e | e | e | e <;> rw [e]
      · exact Nat.lt_succ_self _
      · exact Nat.lt_add_of_pos_right (k := 3) (by decide)
      · exact Nat.lt_add_of_pos_right (k := 2) (by decide)
      · exact Nat.lt_add_of_pos_right (k := 5) (by decide)
      · exact Nat.lt_add_of_pos_right (k := 4) (by decide)
      · exact Nat.lt_of_lt_of_le hlt1 (Nat.le_add_right _ _)
      · exact Nat.lt_of_lt_of_le hlt2 (Nat.le_add_right _ _)
    exact ⟨by rw [← hDn]; exact Nat.ne_of_lt key, by rw [hC, ← hDn]; exact Nat.ne_of_lt (Nat.lt_succ_of_lt key)⟩
  have hwr : ∀ b ∈ ([n + 4, n + 3, n, n + 1] : List Addr), n ≤ b := fun b hb => by
    have hb' : b = n + 4 ∨ b = n + 3 ∨ b = n ∨ b = n + 1 := by simpa using hb
    rcases hb' with rfl | rfl | rfl | rfl <;> first | exact Nat.le_add_right _ _ | exact Nat.le_refl _
  have offW : ∀ p ∈ news, ∀ b ∈ ([n + 4, n + 3, n, n + 1] : List Addr), p.1 ≠ b := fun p hp b hb => Nat.ne_of_lt (Nat.lt_of_lt_of_le (hn ▸ Heap.lt_size (N p hp).1) (hwr b hb))
  have offDC : ∀ p ∈ news, p.1 ≠ Da ∧ p.1 ≠ Ca := fun p hp => lts (hn ▸ Heap.lt_size (N p hp).1)
  have LW : L ∉ ([n + 4, n + 3, n, n + 1] : List Addr) := fun hb => absurd hLs (Nat.not_lt.mpr (hwr _ hb))
  have DW : Da ∉ ([n + 4, n + 3, n, n + 1] : List Addr) := fun hb => (hfpNew Da (W.sub _ hb)).1 rfl
  have CW : Ca ∉ ([n + 4, n + 3, n, n + 1] : List Addr) := fun hb => (hfpNew Ca (W.sub _ hb)).2 rfl
  have oldW : ∀ b o, h₀.get? b = some o → b ∉ ([n + 4, n + 3, n, n + 1] : List Addr) := fun b o e hb => by rw [fresh₀ b (hwr b hb)] at e; cases e
  refine codeAny_compStart_list ?_ (W.self 0 _ _ _ ⟨oldG _ _ hz, oldG _ _ hTI, ⟨.none, .none, oldG _ _ hTO⟩, hi1'.at fun o e => oldG _ o e, hi2'.at fun o e => oldG _ o e, hl1.at fun o e => old _ o e, hl2.at fun o e => old _ o e⟩ ?_)
  all_goals (
    refine kcp_loop
      (fun k s' => ∃ h' tk i vs m', s' = { s with heap := h', toks := tk } ∧ i ≤ ns.length ∧ k = ns.length + 1 - i ∧ IntsAre vs ((List.zipWith f ns ms).take i) ∧
        (IsZip h' (n + 4) (n + 2) (n + 3) .none ∧ IsPair h' (n + 2) (.ref n) (.ref (n + 1)) ∧ (∃ a b, IsPair h' (n + 3) a b) ∧ h'.IsListIter n l1 i ∧ h'.IsListIter (n + 1) l2 i ∧ h'.IsList l1 xs.toArray ∧ h'.IsList l2 ys.toArray) ∧
        Fr h₀ L h' m ∧ h'.Ns Ca m' ∧ News h₀ L h' ((Da, lst vs) :: news)) ?_ (ns.length + 1)
      ⟨h₁, _, 0, [], _, rfl, Nat.zero_le _, rfl, .nil, ⟨oldG _ _ hz, oldG _ _ hTI, ⟨.none, .none, oldG _ _ hTO⟩, hi1'.at fun o e => oldG _ o e, hi2'.at fun o e => oldG _ o e, hl1.at fun o e => old _ o e, hl2.at fun o e => old _ o e⟩, F.keeps old, hns₁, fun p hp => ?_⟩
    · rintro k s' ⟨h', tk, i, vs, m', rfl, hi, rfl, hvs, hst', F', hn', N'⟩
      by_cases hlt : i < ns.length
      · refine W.item i _ _ _ hlt hst' fun T vals h₂ tk₂ hP hT hMd hk₂ => ?_
        refine W.go _ kk tp i T _ _ _ hMd fun h₃ hst₃ hk₃ => ?_
        obtain ⟨x, y, hx, hy, rfl⟩ := hP
        have hT₃ : h₃.IsTuple T #[x, y] := hT.at fun o e => hk₃ T o (W.apart i T _ hMd) e
        have up₃ : ∀ c o, c ∉ ([n + 4, n + 3, n, n + 1] : List Addr) → h'.get? c = some o → h₃.get? c = some o := fun c o hc e => hk₃ c o hc (hk₂ c o hc e)
        have iy : i < ms.length := by omega
        obtain ⟨t1, e1⟩ := hi1.get i ns[i] (List.getElem?_eq_getElem hlt)
        obtain ⟨t2, e2⟩ := hi2.get i ms[i] (List.getElem?_eq_getElem iy)
        have hxe : x = .int ns[i] t1 := Option.some.inj ((by simpa using hx : xs[i]? = some x).symm.trans e1)
        have hye : y = .int ms[i] t2 := Option.some.inj ((by simpa using hy : ys[i]? = some y).symm.trans e2)
        subst hxe hye
        refine kcp_assign (env := compEnvC scope cl Ca env) hh hT₃ (lookup_relabel_local hxa) (lookup_relabel_local hxb) (by simp [compEnvC, relabel, hkind]) (hn'.at' fun o e => up₃ _ o CW e) fun h₄ tk₄ hn₄ hs₄ => ?_
        have up : ∀ c o, c ∉ ([n + 4, n + 3, n, n + 1] : List Addr) → c ≠ Ca → h'.get? c = some o → h₄.get? c = some o := fun c o h1 h2 e => hs₄ c o h2 (up₃ c o h1 e)
        have hst₄ := W.frame _ _ _ hst₃ fun b hb o e => hs₄ b o (hfpNew b hb).2 e
        obtain ⟨oC, heC, hoC⟩ := ns_obj hn₄
        have F₄ : Fr h₀ L h₄ m := ⟨F'.ns.at' fun o e => up _ o LW (Ne.symm hCL) e, fun c o e => up c o (oldW c o e) (fun q => by rw [q, hC₀] at e; cases e) (F'.keep c o e), F'.above⟩
        have Nown : News h₀ L h₄ (PyProof.Rows.ownOf h₀ fp h₄) := news_ownOf hfpL
        have N₄ : News h₀ L h₄ ((Ca, oC) :: ((Da, lst vs) :: (news ++ PyProof.Rows.ownOf h₀ fp h₄))) := fun q hq => by
          rcases List.mem_cons.mp hq with rfl | hq
          · exact ⟨heC, hCL, hC₀⟩
          · rcases List.mem_cons.mp hq with rfl | hq
            · have z := N' _ List.mem_cons_self
              exact ⟨up _ _ DW hDC z.1, z.2⟩
            · rcases List.mem_append.mp hq with hq | hq
              · have z := N' q (List.mem_cons_of_mem _ hq)
                exact ⟨up _ _ (fun hb => offW q hq _ hb rfl) (offDC q hq).2 z.1, z.2⟩
              · exact Nown q hq
        refine wpAny_mono (turn ns[i] ms[i] t1 t2 Ca oC _ h₄ _ ((Da, lst vs) :: (news ++ PyProof.Rows.ownOf h₀ fp h₄)) (fun v s₅ => ∃ t h₅ tk₅, v = .int (f ns[i] ms[i]) t ∧ s₅ = { s with heap := h₅, toks := tk₅ } ∧ Fr h₀ L h₅ m ∧ News h₀ L h₅ ((Ca, oC) :: ((Da, lst vs) :: (news ++ PyProof.Rows.ownOf h₀ fp h₄)))) _ (List.getElem_mem _) (List.getElem_mem _) hoC (by simp [hab]) (by simp) F₄ N₄ (fun p hp => List.mem_cons_of_mem _ (List.mem_append_left _ hp)) (fun q hq => ?_) (fun t h₅ tk₅ F₅ N₅ => ⟨t, h₅, tk₅, rfl, rfl, F₅, N₅⟩)) (fun v s₅ h₅ => ?_) fun _ _ e => e
        · rcases List.mem_cons.mp hq with rfl | hq
          · exact hDC
          · rcases List.mem_append.mp hq with hq | hq
            · exact (offDC q hq).2
            · exact (hfpNew _ (ownOf_sub q hq)).2
        · obtain ⟨t, h₅, tk₅, rfl, rfl, F₅, N₅⟩ := h₅
          have zC := (N₅ (Ca, oC) List.mem_cons_self).1
          have zD := (N₅ (Da, lst vs) (List.mem_cons_of_mem _ List.mem_cons_self)).1
          have hst₅ := W.frame (i + 1) h₄ h₅ hst₄ fun b hb o e => by
            cases hnn : h₀.get? b with
            | some o₀ =>
              have : o₀ = o := by have q := F₄.keep b o₀ hnn; rw [e] at q; exact (Option.some.inj q).symm
              exact this ▸ F₅.keep b o₀ hnn
            | none => exact (N₅ (b, o) (List.mem_cons_of_mem _ (List.mem_cons_of_mem _ (List.mem_append_right _ (mem_ownOf hb hnn e))))).1
          have hvl : vs.length = i := by rw [hvs.length, List.length_take, List.length_zipWith]; omega
          refine append_at (hsz := by show vs.toArray.size ≤ sizeLine; rw [List.size_toArray, hvl]; exact Nat.le_trans hi hsz) zD fun h₆ hs₆ hD₆ => ?_
          refine ⟨ns.length + 1 - (i + 1), by omega, h₆, tk₅, i + 1, vs ++ [.int (f ns[i] ms[i]) t], _, rfl, hlt, rfl, ?_, W.frame (i + 1) h₅ h₆ hst₅ fun b hb o e => hs₆.extBut b o (hfpNew b hb).1 e, F₅.change hs₆ hDL hD₀, (hoC.ns zC).sameBut hs₆ (Ne.symm hDC), fun q hq => ?_⟩
          · have hz : (List.zipWith f ns ms)[i]? = some (f ns[i] ms[i]) := by
              rw [List.getElem?_zipWith, List.getElem?_eq_getElem hlt, List.getElem?_eq_getElem iy]
            rw [List.take_add_one, hz]
            exact IntsAre.append hvs (.cons _ t .nil)
          · rcases List.mem_cons.mp hq with rfl | hq
            · exact ⟨hD₆.trans (congrArg some (lst_snoc vs _)), hDL, hD₀⟩
            · have z := N₅ q (List.mem_cons_of_mem _ (List.mem_cons_of_mem _ (List.mem_append_left _ hq)))
              exact ⟨hs₆.extBut _ _ (offDC q hq).1 z.1, z.2⟩
      · obtain rfl : i = ns.length := Nat.le_antisymm hi (Nat.not_lt.mp hlt)
        refine W.done _ _ _ hst' fun h₂ tk₂ hk₂ => ?_
        have hvs' : IntsAre vs (List.zipWith f ns ms) := by
          rw [List.take_of_length_le (by rw [List.length_zipWith]; omega)] at hvs; exact hvs
        have F₂ : Fr h₀ L h₂ m := ⟨F'.ns.at' fun o e => hk₂ _ o LW e, fun c o e => hk₂ c o (oldW c o e) (F'.keep c o e), F'.above⟩
        have N₂ : News h₀ L h₂ ((Da, lst vs) :: news) := fun q hq => by
          have z := N' q hq
          rcases List.mem_cons.mp hq with rfl | hq
          · exact ⟨hk₂ _ _ DW z.1, z.2⟩
          · exact ⟨hk₂ _ _ (fun hb => offW q hq _ hb rfl) z.1, z.2⟩
        refine ⟨_, hn'.at' fun o e => hk₂ _ o CW e, fun h'' hs'' => fin Da vs h'' tk₂ hvs' (F₂.change hs'' hCL hC₀) (fun p hp => ?_) fun p hp => ?_⟩
        · refine ⟨hs''.extBut _ _ ?_ (N₂ p hp).1, (N₂ p hp).2⟩
          rcases List.mem_cons.mp hp with rfl | hp
          · exact hDC
          · exact (offDC p hp).2
        · have := Heap.lt_size (N p hp).1
          rw [hn] at this
          rw [← hDn]; exact Nat.lt_of_lt_of_le this (Nat.le_add_right _ _)
    · rcases List.mem_cons.mp hp with rfl | hp
      · exact ⟨hacc, hDL, hD₀⟩
      · exact ⟨old _ _ (N p hp).1, (N p hp).2⟩)
end
end Ntt
end

section
open PySem PySem.W PySem.Calls PyProof.Rows PyProof.V PySem.Spec
namespace Ntt
section
variable {M : Model} {A : Around} {E : Value → Shared → Prop} {s : Shared} {K : Frag} {env : Env} {pos : Pos} {x C : Addr} {ox : Obj} {od : Option Obj} {first : List Value} {Q : Value → Shared → Prop}
theorem kcoKW {f : Addr} {e : Expr} {rest : List Expr} {kws : List Keyword} (_X : K.In s.heap) (_I : InstAt s.heap x ox C od) (hd : ox.data = .plain) (_hs : findIn K (.ref C) "__call__" = some (some (.ref f))) (hall : (backToKw pos (keywordEach kws env)).all (·.1.isSome) = true)
    (h : wpAny M A (spliced (backTo pos (starEach (e :: rest) env))) (fun vs s₁ => wpAny M A (evalAll ((backToKw pos (keywordEach kws env)).map (·.2)))
      (fun ks s₂ => kco_P K x C ox od s₂.heap ∧ wpAny M A (call (.ref x) (first ++ vs) (((backToKw pos (keywordEach kws env)).filterMap (·.1)).zip ks)) Q E s₂) E s₁) E s)
    (hplain : ((backTo pos (starEach (e :: rest) env)).any (·.1) || (backToKw pos (keywordEach kws env)).any (·.1.isNone)) = false := by rfl) (he : starEach (e :: rest) env = (false, eval e env) :: starEach rest env := by rfl) :
    wpAny M A (callWith pos (.ref x) first (backTo pos (starEach (e :: rest) env)) (backToKw pos (keywordEach kws env))) Q E s :=
  kco_callWith_of hplain hd (evalArgs_kw2 hall h he)
end
section
variable {prog : Program} {w : World} {A : Around} {E : Value → Shared → Prop} {s : Shared} {h₀ : Heap} {L l : Addr} {m : Str → Option Value} {news : Led} {value slice : PySem.Expr} {vs : List Value} {n : Nat} {Q : Value → Shared → Prop}
theorem slice_cp (F : Fr h₀ L s.heap m) (N : News h₀ L s.heap news) (hm : (l, listOf vs.toArray n) ∈ news) (hz : vs.length ≤ sizeLine)
    (h : ∀ D h', Fr h₀ L h' m → News h₀ L h' ((D, listOf vs.toArray 0) :: news) → (∀ p ∈ news, p.1 < D) → Q (.ref D) { s with heap := h' })
    (hs : subscripted slice false (.ref l) (.ref s.heap.objs.size) = operate [.ref s.heap.objs.size, .ref l] (getItem (.ref l) (.ref s.heap.objs.size))) (ht : ∀ r, letTemporaryGo value (.ref l) r = pure ()) :
    wpAny (model prog w) A (subscriptTail value slice (.ref l) (.ref s.heap.objs.size)) Q E { s with heap := s.heap.push { cls := .type "slice", data := .fields #[.none, .none, .none] } } := by
  refine kmk_slice F N (its := vs.toArray) ⟨_, (N _ hm).1, rfl, n, rfl⟩ .none .none (fun D h' F' N' l1 => h D h' F' ?_ l1) hs ht (by rw [List.size_toArray]; exact hz)
  rw [slicePick_all] at N'
  exact N'
end
/-- every item is a short factor -/
structure SmallL (ns : List Int) : Prop where
  out : ∀ x ∈ ns, -(2 ^ 63) < x ∧ x < 2 ^ 63
theorem SmallL.getD {ns : List Int} (h : SmallL ns) (k : Nat) : -(2 ^ 63) < ns.getD k 0 ∧ ns.getD k 0 < 2 ^ 63 := by
  rw [List.getD_eq_getElem?_getD]
  cases e : ns[k]? with
  | none => exact ⟨by decide, by decide⟩
  | some x => exact h.out x (List.mem_of_getElem? e)
theorem SmallL.bits {ns : List Int} (h : SmallL ns) (k : Nat) : Builtin.Int.intBits (ns.getD k 0) ≤ 64 := intBits_le_64 (by have := (h.getD k).1; omega) (by have := (h.getD k).2; omega)
theorem mulR {ns : List Int} {a : Int} {k : Nat} (h : SmallL ns) : IntMulOk a (ns.getD k 0) := .of_right (h.bits k)
theorem mulL {ns : List Int} {b : Int} {k : Nat} (h : SmallL ns) : IntMulOk (ns.getD k 0) b := .of_left (h.bits k)

theorem mulLn {ns : List Int} {b : Int} {k : Nat} (h : SmallL ns) : IntMulOk (-(ns.getD k 0)) b := .of_left (intBits_le_64 (by have := (h.getD k).2; omega) (by have := (h.getD k).1; omega))

/-- a premise that the walk is not to open -/
structure Hold (P : Prop) : Prop where
  out : P

/-- one list that turns: its items, its ints, its count -/
abbrev L1 (τ : Type) := τ × List Value × List Int × Nat

theorem off_one {rest : Led} {l : Addr} (h : ∀ p ∈ rest, p.1 ≠ l) : OwnOff rest [l] := fun p hp b hb => by rw [List.mem_singleton.mp hb]; exact h p hp
theorem off_lt {rest : Led} {l : Addr} (h : ∀ p ∈ rest, p.1 < l) : ∀ p ∈ rest, p.1 ≠ l := fun p hp => Nat.ne_of_lt (h p hp)
theorem one_off {rest : Led} {l : Addr} (h : OwnOff rest [l]) : ∀ p ∈ rest, p.1 ≠ l := fun p hp => h p hp l (List.mem_singleton.mpr rfl)

section
variable {prog : Program} {w : World} {A : Around} {E : Value → Shared → Prop} {s : Shared} {env : Env} {h₀ : Heap} {x : Str} {body : List Stmt} {Q : Flow → Shared → Prop} {τ : Type}

abbrev NextL (h₀ : Heap) (L : Addr) (ps : τ → List (Str × Value)) (l : Addr) (I : τ → List Int → Prop) (rest : Led) (s : Shared) (Q' : Flow → Shared → Prop) : Prop :=
  ∀ (c' : τ) (its' : List Value) (ns' : List Int) (cnt' : Nat) (h' : Heap) (m' : Str → Option Value) (tk' : Nat), Fr h₀ L h' m' → News h₀ L h' ((l, listOf its'.toArray cnt') :: rest) → IntsAre its' ns' → (∀ p ∈ ps c', m' p.1 = some p.2) → I c' ns' → Q' .next { s with heap := h', toks := tk' }
abbrev Next0 (h₀ : Heap) (L : Addr) (ps : τ → List (Str × Value)) (I : τ → Prop) (rest : Led) (s : Shared) (Q' : Flow → Shared → Prop) : Prop :=
  ∀ (c' : τ) (h' : Heap) (m' : Str → Option Value) (tk' : Nat), Fr h₀ L h' m' → News h₀ L h' rest → (∀ p ∈ ps c', m' p.1 = some p.2) → I c' → Q' .next { s with heap := h', toks := tk' }

theorem sub_at {ns : List Int} {h₀ : Heap} {L D : Addr} {news : Led} {vs : List Value} {n : Nat} {k : Int} {u : Tok} {value slice : PySem.Expr} {Q : Value → Shared → Prop} (N : News h₀ L s.heap news) (hm : (D, listOf vs.toArray n) ∈ news) (hi : IntsAre vs ns) (hb : 0 ≤ k ∧ k < ns.length) (hfit : ns.length < 2 ^ 62) (h : ∀ t, Q (.int (ns.getD k.toNat 0) t) s)
    (hs : subscripted slice false (.ref D) (.int k u) = operate [.ref D, .int k u] (getItem (.ref D) (.int k u)) := by with_unfolding_all rfl) :
    wpAny (model prog w) A (subscriptTail value slice (.ref D) (.int k u)) Q E s := ksa_sub N hm hi hb.1 hb.2 (by omega) h hs
theorem fmod_in {x : Int} {ns : List Int} {m : Int} (hm : 0 < m) (hl : (ns.length : Int) = m) : 0 ≤ x.fmod m ∧ x.fmod m < ns.length := by
  rw [hl]; exact ⟨Int.fmod_nonneg_of_pos _ hm, Int.fmod_lt_of_pos _ hm⟩

theorem rangeL (ps : τ → List (Str × Value)) (I : Nat → τ → List Int → Prop) (c₀ : τ) (n : Nat) {news : Led} {r l : Addr} {a₀ b₀ : Int} {t₀ u₀ v₀ : Tok} {m₀ : Str → Option Value} {its₀ : List Value} {ns₀ : List Int} {cnt₀ : Nat}
    (hh : A.handled = none) (hr : IsRange s.heap r a₀ b₀ 1 t₀ u₀ v₀) (hsmall : Builtin.Range.small a₀ b₀ 1 = true) (hn : Builtin.Range.rangeSize a₀ b₀ 1 = (n : Int))
    (F : Fr h₀ env.locals s.heap m₀) (N : News h₀ env.locals s.heap ((l, listOf its₀.toArray cnt₀) :: news)) (hoff : ∀ p ∈ news, p.1 ≠ l)
    (hi₀ : IntsAre its₀ ns₀) (hk : ∀ p ∈ ps c₀, m₀ p.1 = some p.2) (hI : I 0 c₀ ns₀)
    (turn : ∀ (i : Nat) (c : τ) (its : List Value) (ns : List Int) (cnt : Nat) (t : Tok) (u : Str → Option Value) (h : Heap) (tk : Nat) (rest : Led) (Q' : Flow → Shared → Prop), i < n → IntsAre its ns → I i c ns → (∀ p ∈ news, p ∈ rest) → (∀ p ∈ rest, p.1 ≠ l) →
      Fr h₀ env.locals h (fun y => if y = x then some (.int (a₀ + (i : Int)) t) else kstB u (ps c) y) → News h₀ env.locals h ((l, listOf its.toArray cnt) :: rest) →
      NextL h₀ env.locals ps l (I (i + 1)) rest s Q' → wpAny (model prog w) A (execs body env) Q' E { s with heap := h, toks := tk })
    (done : ∀ (c : τ) (its : List Value) (ns : List Int) (cnt : Nat) (u : Str → Option Value) (h : Heap) (tk : Nat), IntsAre its ns → I n c ns → Fr h₀ env.locals h (kstB u (ps c)) → News h₀ env.locals h ((l, listOf its.toArray cnt) :: news) → Q .next { s with heap := h, toks := tk }) :
    wpAny (model prog w) A (pyIter (.ref r)) (fun it s₂ => LoopAtV prog w A h₀ env x body Q E it s₂) E s :=
  range_rule (σ := L1 τ) (fun c => ps c.1) (fun c => [(l, listOf c.2.1.toArray c.2.2.2)]) (fun i c => IntsAre c.2.1 c.2.2.1 ∧ I i c.1 c.2.2.1) (c₀, its₀, ns₀, cnt₀) n hh hr hsmall hn F N (fun _ => rfl) (off_one hoff) hk ⟨hi₀, hI⟩
    (fun i c t u h tk rest Q' hi hc hs ho F1 N1 nx => turn i c.1 c.2.1 c.2.2.1 c.2.2.2 t u h tk rest Q' hi hc.1 hc.2 hs (one_off ho) F1 N1 fun c' its' ns' cnt' h' m' tk' F2 N2 a b d => nx (c', its', ns', cnt') h' m' tk' F2 N2 b ⟨a, d⟩)
    (fun c u h tk hc F1 N1 => done c.1 c.2.1 c.2.2.1 c.2.2.2 u h tk hc.1 hc.2 F1 N1)

theorem range0 (ps : τ → List (Str × Value)) (I : Nat → τ → Prop) (c₀ : τ) (n : Nat) {news : Led} {r : Addr} {a₀ b₀ : Int} {t₀ u₀ v₀ : Tok} {m₀ : Str → Option Value}
    (hh : A.handled = none) (hr : IsRange s.heap r a₀ b₀ 1 t₀ u₀ v₀) (hsmall : Builtin.Range.small a₀ b₀ 1 = true) (hn : Builtin.Range.rangeSize a₀ b₀ 1 = (n : Int))
    (F : Fr h₀ env.locals s.heap m₀) (N : News h₀ env.locals s.heap news) (hk : ∀ p ∈ ps c₀, m₀ p.1 = some p.2) (hI : I 0 c₀)
    (turn : ∀ (i : Nat) (c : τ) (t : Tok) (u : Str → Option Value) (h : Heap) (tk : Nat) (rest : Led) (Q' : Flow → Shared → Prop), i < n → I i c → (∀ p ∈ news, p ∈ rest) →
      Fr h₀ env.locals h (fun y => if y = x then some (.int (a₀ + (i : Int)) t) else kstB u (ps c) y) → News h₀ env.locals h rest →
      Next0 h₀ env.locals ps (I (i + 1)) rest s Q' → wpAny (model prog w) A (execs body env) Q' E { s with heap := h, toks := tk })
    (done : ∀ (c : τ) (u : Str → Option Value) (h : Heap) (tk : Nat), I n c → Fr h₀ env.locals h (kstB u (ps c)) → News h₀ env.locals h news → Q .next { s with heap := h, toks := tk }) :
    wpAny (model prog w) A (pyIter (.ref r)) (fun it s₂ => LoopAtV prog w A h₀ env x body Q E it s₂) E s :=
  range_rule (σ := τ) ps (fun _ => []) I c₀ n hh hr hsmall hn F N (fun _ => rfl) (fun _ _ _ hb => nomatch hb) hk hI
    (fun i c t u h tk rest Q' hi hc hs _ F1 N1 nx => turn i c t u h tk rest Q' hi hc hs F1 N1 nx) done

theorem enum0 (ps : τ → List (Str × Value)) (I : Nat → τ → Prop) (c₀ : τ) {elts : List Expr} {k : Nat} {pos : Pos} {news : Led} {l : Addr} {its : List Value} {ns : List Int} {nn : Nat} {m₀ : Str → Option Value}
    (hh : A.handled = none) (hm : (l, listOf its.toArray nn) ∈ news) (hi : IntsAre its ns)
    (F : Fr h₀ env.locals s.heap m₀) (N : News h₀ env.locals s.heap news) (hk : ∀ p ∈ ps c₀, m₀ p.1 = some p.2) (hI : I 0 c₀)
    (turn : ∀ (i : Nat) (j : Int) (c : τ) (T : Addr) (t t' : Tok) (u : Str → Option Value) (h : Heap) (tk : Nat) (rest : Led) (Q' : Flow → Shared → Prop), ns[i]? = some j → IsTup h T #[.int (i : Int) t, .int j t'] → I i c → (∀ p ∈ news, p ∈ rest) →
      Fr h₀ env.locals h (kstB u (ps c)) → News h₀ env.locals h rest →
      Next0 h₀ env.locals ps (I (i + 1)) rest s Q' → wpAny (model prog w) A (assign (.Tuple elts k pos) env (.ref T)) (fun _ s₂ => wpAny (model prog w) A (execs body env) Q' E s₂) E { s with heap := h, toks := tk })
    (done : ∀ (c : τ) (u : Str → Option Value) (h : Heap) (tk : Nat), I ns.length c → Fr h₀ env.locals h (kstB u (ps c)) → News h₀ env.locals h news → Q .next { s with heap := h, toks := tk }) :
    wpAny (model prog w) A (call (.type "enumerate") [.ref l]) (fun xv s₁ => wpAny (model prog w) A (pyIter xv) (fun it s₂ => TurnsAt prog w A h₀ env (.Tuple elts k pos) body Q E it s₂) E s₁) E s :=
  enum_rule (σ := τ) ps (fun _ => []) I c₀ hh hm hi F N (fun _ => rfl) (fun _ _ _ hb => nomatch hb) hk hI
    (fun i j c T t t' u h tk rest Q' hj hT hc hs _ F1 N1 nx => turn i j c T t t' u h tk rest Q' hj hT hc hs F1 N1 nx) done

theorem enumL (ps : τ → List (Str × Value)) (I : Nat → τ → List Int → Prop) (c₀ : τ) {elts : List Expr} {k : Nat} {pos : Pos} {news : Led} {l ml : Addr} {its : List Value} {ns : List Int} {nn : Nat} {m₀ : Str → Option Value} {its₀ : List Value} {ns₀ : List Int} {cnt₀ : Nat}
    (hh : A.handled = none) (hm : (l, listOf its.toArray nn) ∈ news) (hi : IntsAre its ns)
    (F : Fr h₀ env.locals s.heap m₀) (N : News h₀ env.locals s.heap ((ml, listOf its₀.toArray cnt₀) :: news)) (hoff : ∀ p ∈ news, p.1 ≠ ml)
    (hi₀ : IntsAre its₀ ns₀) (hk : ∀ p ∈ ps c₀, m₀ p.1 = some p.2) (hI : I 0 c₀ ns₀)
    (turn : ∀ (i : Nat) (j : Int) (c : τ) (ws : List Value) (ms : List Int) (cnt : Nat) (T : Addr) (t t' : Tok) (u : Str → Option Value) (h : Heap) (tk : Nat) (rest : Led) (Q' : Flow → Shared → Prop), ns[i]? = some j → IsTup h T #[.int (i : Int) t, .int j t'] → IntsAre ws ms → I i c ms → (∀ p ∈ news, p ∈ rest) → (∀ p ∈ rest, p.1 ≠ ml) →
      Fr h₀ env.locals h (kstB u (ps c)) → News h₀ env.locals h ((ml, listOf ws.toArray cnt) :: rest) →
      NextL h₀ env.locals ps ml (I (i + 1)) rest s Q' → wpAny (model prog w) A (assign (.Tuple elts k pos) env (.ref T)) (fun _ s₂ => wpAny (model prog w) A (execs body env) Q' E s₂) E { s with heap := h, toks := tk })
    (done : ∀ (c : τ) (ws : List Value) (ms : List Int) (cnt : Nat) (u : Str → Option Value) (h : Heap) (tk : Nat), IntsAre ws ms → I ns.length c ms → Fr h₀ env.locals h (kstB u (ps c)) → News h₀ env.locals h ((ml, listOf ws.toArray cnt) :: news) → Q .next { s with heap := h, toks := tk }) :
    wpAny (model prog w) A (call (.type "enumerate") [.ref l]) (fun xv s₁ => wpAny (model prog w) A (pyIter xv) (fun it s₂ => TurnsAt prog w A h₀ env (.Tuple elts k pos) body Q E it s₂) E s₁) E s :=
  enum_rule (σ := L1 τ) (fun c => ps c.1) (fun c => [(ml, listOf c.2.1.toArray c.2.2.2)]) (fun i c => IntsAre c.2.1 c.2.2.1 ∧ I i c.1 c.2.2.1) (c₀, its₀, ns₀, cnt₀) hh hm hi F N (fun _ => rfl) (off_one hoff) hk ⟨hi₀, hI⟩
    (fun i j c T t t' u h tk rest Q' hj hT hc hs ho F1 N1 nx => turn i j c.1 c.2.1 c.2.2.1 c.2.2.2 T t t' u h tk rest Q' hj hT hc.1 hc.2 hs (one_off ho) F1 N1 fun c' its' ns' cnt' h' m' tk' F2 N2 a b d => nx (c', its', ns', cnt') h' m' tk' F2 N2 b ⟨a, d⟩)
    (fun c u h tk hc F1 N1 => done c.1 c.2.1 c.2.2.1 c.2.2.2 u h tk hc.1 hc.2 F1 N1)

theorem zip0 (ps : τ → List (Str × Value)) (I : Nat → τ → Prop) (c₀ : τ) {elts : List Expr} {k : Nat} {pos : Pos} {news : Led} {l1 l2 : Addr} {xs ys : List Value} {ns ms : List Int} {n1 n2 : Nat} {m₀ : Str → Option Value}
    (hh : A.handled = none) (hm1 : (l1, listOf xs.toArray n1) ∈ news) (hi1 : IntsAre xs ns) (hm2 : (l2, listOf ys.toArray n2) ∈ news) (hi2 : IntsAre ys ms)
    (F : Fr h₀ env.locals s.heap m₀) (N : News h₀ env.locals s.heap news) (hk : ∀ p ∈ ps c₀, m₀ p.1 = some p.2) (hI : I 0 c₀)
    (turn : ∀ (i : Nat) (a b : Int) (c : τ) (T : Addr) (t t' : Tok) (u : Str → Option Value) (h : Heap) (tk : Nat) (rest : Led) (Q' : Flow → Shared → Prop), ns[i]? = some a → ms[i]? = some b → IsTup h T #[.int a t, .int b t'] → I i c → (∀ p ∈ news, p ∈ rest) →
      Fr h₀ env.locals h (kstB u (ps c)) → News h₀ env.locals h rest →
      Next0 h₀ env.locals ps (I (i + 1)) rest s Q' → wpAny (model prog w) A (assign (.Tuple elts k pos) env (.ref T)) (fun _ s₂ => wpAny (model prog w) A (execs body env) Q' E s₂) E { s with heap := h, toks := tk })
    (done : ∀ (c : τ) (u : Str → Option Value) (h : Heap) (tk : Nat), I (min ns.length ms.length) c → Fr h₀ env.locals h (kstB u (ps c)) → News h₀ env.locals h news → Q .next { s with heap := h, toks := tk }) :
    wpAny (model prog w) A (call (.type "zip") [.ref l1, .ref l2]) (fun xv s₁ => wpAny (model prog w) A (pyIter xv) (fun it s₂ => TurnsAt prog w A h₀ env (.Tuple elts k pos) body Q E it s₂) E s₁) E s :=
  zip_rule (σ := τ) ps (fun _ => []) I c₀ hh hm1 hi1 hm2 hi2 F N (fun _ => rfl) (fun _ _ _ hb => nomatch hb) hk hI
    (fun i a b c T t t' u h tk rest Q' ha hb hT hc hs _ F1 N1 nx => turn i a b c T t t' u h tk rest Q' ha hb hT hc hs F1 N1 nx) done

theorem listL (ps : τ → List (Str × Value)) (I : Nat → τ → List Int → Prop) (c₀ : τ) {news : Led} {l ml : Addr} {its : List Value} {ns : List Int} {nn : Nat} {m₀ : Str → Option Value} {its₀ : List Value} {ns₀ : List Int} {cnt₀ : Nat}
    (hh : A.handled = none) (hm : (l, listOf its.toArray nn) ∈ news) (hi : IntsAre its ns)
    (F : Fr h₀ env.locals s.heap m₀) (N : News h₀ env.locals s.heap ((ml, listOf its₀.toArray cnt₀) :: news)) (hoff : ∀ p ∈ news, p.1 ≠ ml)
    (hi₀ : IntsAre its₀ ns₀) (hk : ∀ p ∈ ps c₀, m₀ p.1 = some p.2) (hI : I 0 c₀ ns₀)
    (turn : ∀ (i : Nat) (j : Int) (c : τ) (ws : List Value) (ms : List Int) (cnt : Nat) (t : Tok) (u : Str → Option Value) (h : Heap) (tk : Nat) (rest : Led) (Q' : Flow → Shared → Prop), ns[i]? = some j → IntsAre ws ms → I i c ms → (∀ p ∈ news, p ∈ rest) → (∀ p ∈ rest, p.1 ≠ ml) →
      Fr h₀ env.locals h (fun y => if y = x then some (.int j t) else kstB u (ps c) y) → News h₀ env.locals h ((ml, listOf ws.toArray cnt) :: rest) →
      NextL h₀ env.locals ps ml (I (i + 1)) rest s Q' → wpAny (model prog w) A (execs body env) Q' E { s with heap := h, toks := tk })
    (done : ∀ (c : τ) (ws : List Value) (ms : List Int) (cnt : Nat) (u : Str → Option Value) (h : Heap) (tk : Nat), IntsAre ws ms → I ns.length c ms → Fr h₀ env.locals h (kstB u (ps c)) → News h₀ env.locals h ((ml, listOf ws.toArray cnt) :: news) → Q .next { s with heap := h, toks := tk }) :
    wpAny (model prog w) A (pyIter (.ref l)) (fun it s₂ => LoopAtV prog w A h₀ env x body Q E it s₂) E s :=
  list_rule (σ := L1 τ) (fun c => ps c.1) (fun c => [(ml, listOf c.2.1.toArray c.2.2.2)]) (fun i c => IntsAre c.2.1 c.2.2.1 ∧ I i c.1 c.2.2.1) (c₀, its₀, ns₀, cnt₀) hh hm hi F N (fun _ => rfl) (off_one hoff) hk ⟨hi₀, hI⟩
    (fun i j c t u h tk rest Q' hj hc hs ho F1 N1 nx => turn i j c.1 c.2.1 c.2.2.1 c.2.2.2 t u h tk rest Q' hj hc.1 hc.2 hs (one_off ho) F1 N1 fun c' its' ns' cnt' h' m' tk' F2 N2 a b d => nx (c', its', ns', cnt') h' m' tk' F2 N2 b ⟨a, d⟩)
    (fun c u h tk hc F1 N1 => done c.1 c.2.1 c.2.2.1 c.2.2.2 u h tk hc.1 hc.2 F1 N1)

/-- a while whose turns change one list of ints and some names; D: what is known where it leaves -/
theorem whileL (ps : τ → List (Str × Value)) (I : τ → List Int → Prop) (D : τ → Prop) (μ : τ → Nat) (c₀ : τ) {test : Expr} {pos : Pos} {news : Led} {L l : Addr} {m₀ : Str → Option Value} {its₀ : List Value} {ns₀ : List Int} {cnt₀ : Nat}
    (F : Fr h₀ L s.heap m₀) (N : News h₀ L s.heap ((l, listOf its₀.toArray cnt₀) :: news))
    (hi₀ : IntsAre its₀ ns₀) (hk : ∀ p ∈ ps c₀, m₀ p.1 = some p.2) (hI : I c₀ ns₀)
    (turn : ∀ (c : τ) (its : List Value) (ns : List Int) (cnt : Nat) (u : Str → Option Value) (h : Heap) (tk : Nat) (Q' : Flow → Shared → Prop) (QD : Shared → Prop), IntsAre its ns → I c ns →
      Fr h₀ L h (kstB u (ps c)) → News h₀ L h ((l, listOf its.toArray cnt) :: news) →
      NextL h₀ L ps l (fun c' ns' => I c' ns' ∧ μ c' < μ c) news s Q' →
      (∀ (h' : Heap) (tk' : Nat), D c → Fr h₀ L h' (kstB u (ps c)) → News h₀ L h' ((l, listOf its.toArray cnt) :: news) → QD { s with heap := h', toks := tk' }) →
      wpAny (model prog w) A (isTrue test env (eval test env)) (fun b s₂ => if b = true then wpAny (model prog w) A (execs body env) Q' E s₂ else QD s₂) E { s with heap := h, toks := tk })
    (done : ∀ (c : τ) (its : List Value) (ns : List Int) (cnt : Nat) (u : Str → Option Value) (h : Heap) (tk : Nat), D c → IntsAre its ns → I c ns → Fr h₀ L h (kstB u (ps c)) → News h₀ L h ((l, listOf its.toArray cnt) :: news) → Q .next { s with heap := h, toks := tk })
    (hE : PassesOwn (model prog w) A env E := by passes_own) :
    wpAny (model prog w) A (exec (.While test body [] pos) env) Q E s := by
  refine While_inv2 (fun n m nx => ∃ c its ns cnt, nx = (l, listOf its.toArray cnt) :: news ∧ μ c = n ∧ IntsAre its ns ∧ (∀ p ∈ ps c, m p.1 = some p.2) ∧ I c ns) F N ⟨c₀, its₀, ns₀, cnt₀, rfl, rfl, hi₀, hk, hI⟩ ?_ hE
  rintro n m₁ nx h tk F₁ N₁ ⟨c, its, ns, cnt, rfl, rfl, hi, hps, hIc⟩
  refine turn c its ns cnt m₁ h tk _ (fun s₂ => Q .next s₂) hi hIc (kstB_fr' hps F₁) N₁ ?_ (fun h' tk' d F2 N2 => done c its ns cnt m₁ h' tk' d hi hIc F2 N2)
  intro c' its' ns' cnt' h' m' tk' F2 N2 a b d
  exact ⟨h', tk', m', _, μ c', rfl, F2, N2, d.2, c', its', ns', cnt', rfl, rfl, a, b, d.1⟩
end
end Ntt
end

section
open PySem PySem.W PySem.Calls PyProof.Rows PyProof.V PySem.Spec
namespace Ntt
theorem off1_mem {D : Addr} : ∀ {l : Led}, LCg.Off1 D l → ∀ p ∈ l, p.1 ≠ D
  | [], _, _, h => nomatch h
  | _ :: _, x, p, h => by
    rcases List.mem_cons.mp h with rfl | h
    · exact x.1
    · exact off1_mem x.2 p h
theorem ints_hide (P : List Int → Prop) {its : List Value} {xs : List Int} (h : IntsAre its xs) (hp : P xs) : ∃ ys, Hold (ys = xs) ∧ P ys ∧ IntsAre its ys := ⟨xs, ⟨rfl⟩, hp, h⟩
end Ntt
namespace Ntt
theorem off1_of {D : Addr} : ∀ {l : Led}, (∀ p ∈ l, p.1 ≠ D) → LCg.Off1 D l
  | [], _ => trivial
  | _ :: _, h => ⟨h _ List.mem_cons_self, off1_of fun p hp => h p (List.mem_cons_of_mem _ hp)⟩
theorem ne_nat {a b : Addr} (h : a ≠ b) : @Ne Nat a b := h
end Ntt
end

section
open PySem PySem.W PySem.Calls PyProof.Rows PyProof.V PySem.Spec PyProof.Rows.LCg
namespace Ntt
section
variable {prog : Program} {w : World} {A : Around} {E : Value → Shared → Prop} {s : Shared} {env : Env} {h₀ : Heap} {L : Addr} {m : Str → Option Value}

def PairR (prog : Program) (w : World) (A : Around) (env : Env) (e : Expr) (scope : Scope) (cl : List (Str × Addr)) (RR : Value → Addr → Result → Shared → Prop) (E : Value → Shared → Prop) (xv : Value) (s₁ : Shared) : Prop :=
  wpAny (model prog w) A (pyIter xv) (fun it s₂ => wpAny (model prog w) A (newList []) (fun acc s₃ =>
      wpAny (model prog w) A (newFunctionEnv scope env.globals cl [] env.qual none .none (some env)) (fun cenv s₄ =>
        codeAny (model prog w) A (.compStart e 0 it acc { cenv with scope := relabel scope env }) (RR acc cenv.locals) s₄) E s₃) E s₂) E s₁

def PostA (prog : Program) (w : World) (A : Around) (E : Value → Shared → Prop) (env : Env) (y : Str) (py : Pos) (Q : Flow → Shared → Prop) (acc : Value) (C : Addr) (r : Result) (s' : Shared) : Prop :=
  compPost (model prog w) A E (some (assign (.Name y py) env)) (fun _ s' => Q .next s') acc C r s'

theorem pair_compA {elt target iter : Expr} {y : Str} {py : Pos} {scope : Scope} {cl : List (Str × Addr)} {pos spos : Pos} {Q : Flow → Shared → Prop}
    (hsw : swapsWith (.ListComp elt [⟨target, iter, [], 0⟩] scope pos) (some (.Name y py)) spos.line env = pure true)
    (hclos : closureFor scope env = pure cl) (hkind : scope.kind = .function)
    (hnames : ∀ y ∈ scope.names, y.2 = .local → scope.names.lookup y.1 = some .local)
    (h : wpAny (model prog w) A (eval iter env) (PairR prog w A env (.ListComp elt [⟨target, iter, [], 0⟩] scope pos) scope cl (PostA prog w A E env y py Q) E) E s)
    (hs : ∀ x, foldedSetIterable iter env x = pure x := by intro _; rfl) :
    wpAny (model prog w) A (exec (.Assign [.Name y py] (.ListComp elt [⟨target, iter, [], 0⟩] scope pos) spos) env) Q E s := by
  rw [exec_Assign_Name_used _ _ _ _ hsw]
  refine wpAny_bind (wpAny_standAt (wpAny_bind ?_))
  show wpAny _ A (do let _ ← comprehension (.ListComp elt [⟨target, iter, [], 0⟩] scope pos) scope env _ (newList []) false (eval iter env) (some (assign (.Name y py) env))) _ _ s
  exact wpAny_bind (wpAny_mono (wpAny_comprehension_free (use := some (assign (.Name y py) env)) (Q := fun _ s' => Q .next s') rfl hs hclos hkind hnames
    (wpAny_mono h (fun xv s₁ h₁ => h₁) fun _ _ e => e)) (fun _ s' hq => wpAny_pure (wpAny_pure hq)) fun _ _ e => e)

theorem zip_core {elt iter : Expr} {a b : Str} {pa pb tp : Pos} {kk : Nat} {scope : Scope} {cl : List (Str × Addr)} {pos : Pos} {RR : Value → Addr → Result → Shared → Prop} (f : Int → Int → Int) {news : Led} {l1 l2 : Addr} {xs ys : List Value} {ns ms : List Int} {n1 n2 : Nat}
    (hh : A.handled = none) (F : Fr h₀ L s.heap m) (N : News h₀ L s.heap news) (hm1 : (l1, listOf xs.toArray n1) ∈ news) (hi1 : IntsAre xs ns) (hm2 : (l2, listOf ys.toArray n2) ∈ news) (hi2 : IntsAre ys ms)
    (hlen : ns.length = ms.length) (hsz : ns.length ≤ sizeLine)
    (hcell : ∀ y ∈ scope.names, y.2 ≠ .cell) (hkind : scope.kind = .function) (hxa : scope.names.lookup a = some .local) (hxb : scope.names.lookup b = some .local) (hab : ¬ a = b)
    (turn : ∀ (x y : Int) (t t' : Tok) (C : Addr) (oC : Obj) (m₂ : Str → Option Value) (h : Heap) (tk : Nat) (rest : Led) (Q' E' : Value → Shared → Prop), x ∈ ns → y ∈ ms → NsObj oC m₂ → m₂ a = some (.int x t) → m₂ b = some (.int y t') → Fr h₀ L h m →
      News h₀ L h ((C, oC) :: rest) → (∀ p ∈ news, p ∈ rest) → (∀ p ∈ rest, p.1 ≠ C) →
      (∀ t h' tk', Fr h₀ L h' m → News h₀ L h' ((C, oC) :: rest) → Q' (.int (f x y) t) { s with heap := h', toks := tk' }) → wpAny (model prog w) A (eval elt (compEnvC scope cl C env)) Q' E' { s with heap := h, toks := tk })
    (fin : ∀ D C vs h tk m', IntsAre vs (List.zipWith f ns ms) → Fr h₀ L h m → News h₀ L h ((D, lst vs) :: news) → (∀ p ∈ news, p.1 < D) → h.Ns C m' → h₀.get? C = none → C ≠ L → (∀ p ∈ (D, lst vs) :: news, p.1 ≠ C) → RR (.ref D) C (.ok .next) { s with heap := h, toks := tk }) :
    wpAny (model prog w) A (call (.type "zip") [.ref l1, .ref l2]) (PairR prog w A env (.ListComp elt [⟨.Tuple [.Name a pa, .Name b pb] kk tp, iter, [], 0⟩] scope pos) scope cl RR E) E s := by
  have hax1 := N _ hm1
  have hax2 := N _ hm2
  have hlen1 : xs.length = ns.length := hi1.length
  have hlen2 : ys.length = ms.length := hi2.length
  have hl1 : s.heap.IsList l1 xs.toArray := ⟨_, hax1.1, rfl, n1, rfl⟩
  have hl2 : s.heap.IsList l2 ys.toArray := ⟨_, hax2.1, rfl, n2, rfl⟩
  have hlt1 : l1 < s.heap.objs.size := Heap.lt_size hax1.1
  have hlt2 : l2 < s.heap.objs.size := Heap.lt_size hax2.1
  have hLs : L < s.heap.objs.size := F.ns.lt
  have D : ZipApart (s.heap.objs.size + 4) (s.heap.objs.size + 2) (s.heap.objs.size + 3) s.heap.objs.size (s.heap.objs.size + 1) l1 l2 := ktu_apart _ _ _ hlt1 hlt2
  refine call_zip_2 hl1 hl2 fun g hz hTI hTO hi1' hi2' hgsz hgk => ?_
  unfold PairR
  refine wpAny_pyIter_zip hz ?_
  refine wpAny_newObj_type (wpAny_newFunctionEnv hcell (by intro y hy; simp at hy) (fun h₁ hns₁ hsb₁ => ?_) hkind)
  dsimp only at hns₁ hsb₁ ⊢
  generalize hH2 : g.push { cls := .type "list", dict := none, data := .seq ([] : List Value).toArray } = H2 at hns₁ hsb₁ ⊢
  have hC : H2.objs.size = g.objs.size + 1 := by rw [← hH2, Heap.size_push]
  have hDsz : g.objs.size = s.heap.objs.size + 5 := hgsz
  -- names of the new addresses
  generalize hDa : g.objs.size = Da at *
  generalize hCa : H2.objs.size = Ca at *
  generalize hn : s.heap.objs.size = n at *
  have oldG : ∀ b o, g.get? b = some o → h₁.get? b = some o := fun b o e => by
    have hb : b < Da := hDa ▸ Heap.lt_size e
    exact hsb₁.extBut b o (by show ¬ b = Ca; rw [hC]; exact Nat.ne_of_lt (Nat.lt_succ_of_lt hb)) (Heap.get?_push_of_some _ (hH2 ▸ Heap.get?_push_of_some _ e))
  have old : ∀ b o, s.heap.get? b = some o → h₁.get? b = some o := fun b o e => oldG b o (hgk b o e)
  have hDC : Da ≠ Ca := by rw [hC]; exact Nat.ne_of_lt (Nat.lt_succ_self _)
  have hacc : h₁.get? Da = some (lst []) := hsb₁.extBut _ _ hDC (Heap.get?_push_of_some _ (by rw [← hH2, ← hDa]; exact Heap.get?_push_size _ rfl))
  have fresh₀ : ∀ a, n ≤ a → h₀.get? a = none := fun a ha => by
    cases e : h₀.get? a with
    | none => rfl
    | some o' => exact absurd (hn ▸ Heap.lt_size (F.keep a o' e)) (Nat.not_lt.mpr ha)
  have hDn : n + 5 = Da := hDsz.symm
  have hD₀ : h₀.get? Da = none := fresh₀ _ (by rw [← hDn]; exact Nat.le_add_right _ _)
  have hC₀ : h₀.get? Ca = none := fresh₀ _ (by rw [hC, ← hDn]; exact Nat.le_add_right _ 6)
  have lts : ∀ {b : Nat}, b < n → b ≠ Da ∧ b ≠ Ca := fun {b} hb => ⟨by rw [← hDn]; exact Nat.ne_of_lt (Nat.lt_of_lt_of_le hb (Nat.le_add_right _ _)), by rw [hC, ← hDn]; exact Nat.ne_of_lt (Nat.lt_of_lt_of_le hb (Nat.le_add_right _ 6))⟩
  have hDL : Da ≠ L := Ne.symm (lts hLs).1
  have hCL : Ca ≠ L := Ne.symm (lts hLs).2
  have W := (WalksT.zip2 (prog := prog) (w := w) hh (n + 4) (n + 2) (n + 3) n (n + 1) l1 l2 D xs.toArray ys.toArray).toU
  let fp : List Addr := [n + 4, n + 2, n + 3, n, n + 1, l1, l2]
  have hmin : min xs.toArray.size ys.toArray.size = ns.length := by simp only [List.size_toArray]; omega
  rw [hmin] at W
  have hfpL : L ∉ fp := fun hI' => by
    have hb' : L = n + 4 ∨ L = n + 2 ∨ L = n + 3 ∨ L = n ∨ L = n + 1 ∨ L = l1 ∨ L = l2 := by simpa [fp] using hI'
    rcases hb' with e | e | e | e | e | e | e
    · exact absurd (e ▸ hLs) (Nat.not_lt.mpr (Nat.le_add_right _ _))
    · exact absurd (e ▸ hLs) (Nat.not_lt.mpr (Nat.le_add_right _ _))
    · exact absurd (e ▸ hLs) (Nat.not_lt.mpr (Nat.le_add_right _ _))
    · exact absurd (e ▸ hLs) (Nat.lt_irrefl _)
    · exact absurd (e ▸ hLs) (Nat.not_lt.mpr (Nat.le_add_right _ _))
    · exact hax1.2.1 e.symm
    · exact hax2.2.1 e.symm
  have hfpNew : ∀ b ∈ fp, b ≠ Da ∧ b ≠ Ca := fun b hb => by
    have hb' : b = n + 4 ∨ b = n + 2 ∨ b = n + 3 ∨ b = n ∨ b = n + 1 ∨ b = l1 ∨ b = l2 := by simpa [fp] using hb
    have key : b < n + 5 := by
      rcases hb' with e | e | e | e | e | e | e <;> rw [e]
      · exact Nat.lt_succ_self _
      · exact Nat.lt_add_of_pos_right (k := 3) (by decide)
      · exact Nat.lt_add_of_pos_right (k := 2) (by decide)
      · exact Nat.lt_add_of_pos_right (k := 5) (by decide)
      · exact Nat.lt_add_of_pos_right (k := 4) (by decide)
      · exact Nat.lt_of_lt_of_le hlt1 (Nat.le_add_right _ _)
      · exact Nat.lt_of_lt_of_le hlt2 (Nat.le_add_right _ _)
    exact ⟨by rw [← hDn]; exact Nat.ne_of_lt key, by rw [hC, ← hDn]; exact Nat.ne_of_lt (Nat.lt_succ_of_lt key)⟩
  have hwr : ∀ b ∈ ([n + 4, n + 3, n, n + 1] : List Addr), n ≤ b := fun b hb => by
    have hb' : b = n + 4 ∨ b = n + 3 ∨ b = n ∨ b = n + 1 := by simpa using hb
    rcases hb' with rfl | rfl | rfl | rfl <;> first | exact Nat.le_add_right _ _ | exact Nat.le_refl _
  have offW : ∀ p ∈ news, ∀ b ∈ ([n + 4, n + 3, n, n + 1] : List Addr), p.1 ≠ b := fun p hp b hb => Nat.ne_of_lt (Nat.lt_of_lt_of_le (hn ▸ Heap.lt_size (N p hp).1) (hwr b hb))
  have offDC : ∀ p ∈ news, p.1 ≠ Da ∧ p.1 ≠ Ca := fun p hp => lts (hn ▸ Heap.lt_size (N p hp).1)
  have LW : L ∉ ([n + 4, n + 3, n, n + 1] : List Addr) := fun hb => absurd hLs (Nat.not_lt.mpr (hwr _ hb))
  have DW : Da ∉ ([n + 4, n + 3, n, n + 1] : List Addr) := fun hb => (hfpNew Da (W.sub _ hb)).1 rfl
  have CW : Ca ∉ ([n + 4, n + 3, n, n + 1] : List Addr) := fun hb => (hfpNew Ca (W.sub _ hb)).2 rfl
  have oldW : ∀ b o, h₀.get? b = some o → b ∉ ([n + 4, n + 3, n, n + 1] : List Addr) := fun b o e hb => by rw [fresh₀ b (hwr b hb)] at e; cases e
  refine codeAny_compStart_list ?_ (W.self 0 _ _ _ ⟨oldG _ _ hz, oldG _ _ hTI, ⟨.none, .none, oldG _ _ hTO⟩, hi1'.at fun o e => oldG _ o e, hi2'.at fun o e => oldG _ o e, hl1.at fun o e => old _ o e, hl2.at fun o e => old _ o e⟩ ?_)
  all_goals (
    refine kcp_loop
      (fun k s' => ∃ h' tk i vs m', s' = { s with heap := h', toks := tk } ∧ i ≤ ns.length ∧ k = ns.length + 1 - i ∧ IntsAre vs ((List.zipWith f ns ms).take i) ∧
        (IsZip h' (n + 4) (n + 2) (n + 3) .none ∧ IsPair h' (n + 2) (.ref n) (.ref (n + 1)) ∧ (∃ a b, IsPair h' (n + 3) a b) ∧ h'.IsListIter n l1 i ∧ h'.IsListIter (n + 1) l2 i ∧ h'.IsList l1 xs.toArray ∧ h'.IsList l2 ys.toArray) ∧
        Fr h₀ L h' m ∧ h'.Ns Ca m' ∧ News h₀ L h' ((Da, lst vs) :: news)) ?_ (ns.length + 1)
      ⟨h₁, _, 0, [], _, rfl, Nat.zero_le _, rfl, .nil, ⟨oldG _ _ hz, oldG _ _ hTI, ⟨.none, .none, oldG _ _ hTO⟩, hi1'.at fun o e => oldG _ o e, hi2'.at fun o e => oldG _ o e, hl1.at fun o e => old _ o e, hl2.at fun o e => old _ o e⟩, F.keeps old, hns₁, fun p hp => ?_⟩
    · rintro k s' ⟨h', tk, i, vs, m', rfl, hi, rfl, hvs, hst', F', hn', N'⟩
      by_cases hlt : i < ns.length
      · refine W.item i _ _ _ hlt hst' fun T vals h₂ tk₂ hP hT hMd hk₂ => ?_
        refine W.go _ kk tp i T _ _ _ hMd fun h₃ hst₃ hk₃ => ?_
        obtain ⟨x, y, hx, hy, rfl⟩ := hP
        have hT₃ : h₃.IsTuple T #[x, y] := hT.at fun o e => hk₃ T o (W.apart i T _ hMd) e
        have up₃ : ∀ c o, c ∉ ([n + 4, n + 3, n, n + 1] : List Addr) → h'.get? c = some o → h₃.get? c = some o := fun c o hc e => hk₃ c o hc (hk₂ c o hc e)
        have iy : i < ms.length := by omega
        obtain ⟨t1, e1⟩ := hi1.get i ns[i] (List.getElem?_eq_getElem hlt)
        obtain ⟨t2, e2⟩ := hi2.get i ms[i] (List.getElem?_eq_getElem iy)
        have hxe : x = .int ns[i] t1 := Option.some.inj ((by simpa using hx : xs[i]? = some x).symm.trans e1)
        have hye : y = .int ms[i] t2 := Option.some.inj ((by simpa using hy : ys[i]? = some y).symm.trans e2)
        subst hxe hye
        refine kcp_assign (env := compEnvC scope cl Ca env) hh hT₃ (lookup_relabel_local hxa) (lookup_relabel_local hxb) (by simp [compEnvC, relabel, hkind]) (hn'.at' fun o e => up₃ _ o CW e) fun h₄ tk₄ hn₄ hs₄ => ?_
        have up : ∀ c o, c ∉ ([n + 4, n + 3, n, n + 1] : List Addr) → c ≠ Ca → h'.get? c = some o → h₄.get? c = some o := fun c o h1 h2 e => hs₄ c o h2 (up₃ c o h1 e)
        have hst₄ := W.frame _ _ _ hst₃ fun b hb o e => hs₄ b o (hfpNew b hb).2 e
        obtain ⟨oC, heC, hoC⟩ := ns_obj hn₄
        have F₄ : Fr h₀ L h₄ m := ⟨F'.ns.at' fun o e => up _ o LW (Ne.symm hCL) e, fun c o e => up c o (oldW c o e) (fun q => by rw [q, hC₀] at e; cases e) (F'.keep c o e), F'.above⟩
        have Nown : News h₀ L h₄ (PyProof.Rows.ownOf h₀ fp h₄) := news_ownOf hfpL
        have N₄ : News h₀ L h₄ ((Ca, oC) :: ((Da, lst vs) :: (news ++ PyProof.Rows.ownOf h₀ fp h₄))) := fun q hq => by
          rcases List.mem_cons.mp hq with rfl | hq
          · exact ⟨heC, hCL, hC₀⟩
          · rcases List.mem_cons.mp hq with rfl | hq
            · have z := N' _ List.mem_cons_self
              exact ⟨up _ _ DW hDC z.1, z.2⟩
            · rcases List.mem_append.mp hq with hq | hq
              · have z := N' q (List.mem_cons_of_mem _ hq)
                exact ⟨up _ _ (fun hb => offW q hq _ hb rfl) (offDC q hq).2 z.1, z.2⟩
              · exact Nown q hq
        refine wpAny_mono (turn ns[i] ms[i] t1 t2 Ca oC _ h₄ _ ((Da, lst vs) :: (news ++ PyProof.Rows.ownOf h₀ fp h₄)) (fun v s₅ => ∃ t h₅ tk₅, v = .int (f ns[i] ms[i]) t ∧ s₅ = { s with heap := h₅, toks := tk₅ } ∧ Fr h₀ L h₅ m ∧ News h₀ L h₅ ((Ca, oC) :: ((Da, lst vs) :: (news ++ PyProof.Rows.ownOf h₀ fp h₄)))) _ (List.getElem_mem _) (List.getElem_mem _) hoC (by simp [hab]) (by simp) F₄ N₄ (fun p hp => List.mem_cons_of_mem _ (List.mem_append_left _ hp)) (fun q hq => ?_) (fun t h₅ tk₅ F₅ N₅ => ⟨t, h₅, tk₅, rfl, rfl, F₅, N₅⟩)) (fun v s₅ h₅ => ?_) fun _ _ e => e
        · rcases List.mem_cons.mp hq with rfl | hq
          · exact hDC
          · rcases List.mem_append.mp hq with hq | hq
            · exact (offDC q hq).2
            · exact (hfpNew _ (ownOf_sub q hq)).2
        · obtain ⟨t, h₅, tk₅, rfl, rfl, F₅, N₅⟩ := h₅
          have zC := (N₅ (Ca, oC) List.mem_cons_self).1
          have zD := (N₅ (Da, lst vs) (List.mem_cons_of_mem _ List.mem_cons_self)).1
          have hst₅ := W.frame (i + 1) h₄ h₅ hst₄ fun b hb o e => by
            cases hnn : h₀.get? b with
            | some o₀ =>
              have : o₀ = o := by have q := F₄.keep b o₀ hnn; rw [e] at q; exact (Option.some.inj q).symm
              exact this ▸ F₅.keep b o₀ hnn
            | none => exact (N₅ (b, o) (List.mem_cons_of_mem _ (List.mem_cons_of_mem _ (List.mem_append_right _ (mem_ownOf hb hnn e))))).1
          have hvl : vs.length = i := by rw [hvs.length, List.length_take, List.length_zipWith]; omega
          refine append_at (hsz := by show vs.toArray.size ≤ sizeLine; rw [List.size_toArray, hvl]; exact Nat.le_trans hi hsz) zD fun h₆ hs₆ hD₆ => ?_
          refine ⟨ns.length + 1 - (i + 1), by omega, h₆, tk₅, i + 1, vs ++ [.int (f ns[i] ms[i]) t], _, rfl, hlt, rfl, ?_, W.frame (i + 1) h₅ h₆ hst₅ fun b hb o e => hs₆.extBut b o (hfpNew b hb).1 e, F₅.change hs₆ hDL hD₀, (hoC.ns zC).sameBut hs₆ (Ne.symm hDC), fun q hq => ?_⟩
          · have hz : (List.zipWith f ns ms)[i]? = some (f ns[i] ms[i]) := by
              rw [List.getElem?_zipWith, List.getElem?_eq_getElem hlt, List.getElem?_eq_getElem iy]
            rw [List.take_add_one, hz]
            exact IntsAre.append hvs (.cons _ t .nil)
          · rcases List.mem_cons.mp hq with rfl | hq
            · exact ⟨hD₆.trans (congrArg some (lst_snoc vs _)), hDL, hD₀⟩
            · have z := N₅ q (List.mem_cons_of_mem _ (List.mem_cons_of_mem _ (List.mem_append_left _ hq)))
              exact ⟨hs₆.extBut _ _ (offDC q hq).1 z.1, z.2⟩
      · obtain rfl : i = ns.length := Nat.le_antisymm hi (Nat.not_lt.mp hlt)
        refine W.done _ _ _ hst' fun h₂ tk₂ hk₂ => ?_
        have hvs' : IntsAre vs (List.zipWith f ns ms) := by
          rw [List.take_of_length_le (by rw [List.length_zipWith]; omega)] at hvs; exact hvs
        have F₂ : Fr h₀ L h₂ m := ⟨F'.ns.at' fun o e => hk₂ _ o LW e, fun c o e => hk₂ c o (oldW c o e) (F'.keep c o e), F'.above⟩
        have N₂ : News h₀ L h₂ ((Da, lst vs) :: news) := fun q hq => by
          have z := N' q hq
          rcases List.mem_cons.mp hq with rfl | hq
          · exact ⟨hk₂ _ _ DW z.1, z.2⟩
          · exact ⟨hk₂ _ _ (fun hb => offW q hq _ hb rfl) z.1, z.2⟩
        refine fin Da Ca vs h₂ tk₂ _ hvs' F₂ N₂ (fun p hp => ?_) (hn'.at' fun o e => hk₂ _ o CW e) hC₀ hCL fun p hp => ?_
        · have := Heap.lt_size (N p hp).1
          rw [hn] at this
          rw [← hDn]; exact Nat.lt_of_lt_of_le this (Nat.le_add_right _ _)
        · rcases List.mem_cons.mp hp with rfl | hp
          · exact hDC
          · exact (offDC p hp).2
    · rcases List.mem_cons.mp hp with rfl | hp
      · exact ⟨hacc, hDL, hD₀⟩
      · exact ⟨old _ _ (N p hp).1, (N p hp).2⟩)

theorem zip_compA {elt iter : Expr} {y : Str} {py : Pos} {a b : Str} {pa pb tp : Pos} {kk : Nat} {scope : Scope} {cl : List (Str × Addr)} {pos : Pos} {Q : Flow → Shared → Prop} (f : Int → Int → Int) {news : Led} {l1 l2 : Addr} {xs ys : List Value} {ns ms : List Int} {n1 n2 : Nat}
    (hh : A.handled = none) (F : Fr h₀ L s.heap m) (N : News h₀ L s.heap news) (hm1 : (l1, listOf xs.toArray n1) ∈ news) (hi1 : IntsAre xs ns) (hm2 : (l2, listOf ys.toArray n2) ∈ news) (hi2 : IntsAre ys ms)
    (hlen : ns.length = ms.length) (hsz : ns.length ≤ sizeLine)
    (hcell : ∀ y ∈ scope.names, y.2 ≠ .cell) (hkind : scope.kind = .function) (hxa : scope.names.lookup a = some .local) (hxb : scope.names.lookup b = some .local) (hab : ¬ a = b)
    (hLe : env.locals = L) (hy : env.kindOf y = some .local) (hp : (env.scope.kind == .class || (env.scope.kind == .module && env.locals != env.globals)) = false)
    (turn : ∀ (x y : Int) (t t' : Tok) (C : Addr) (oC : Obj) (m₂ : Str → Option Value) (h : Heap) (tk : Nat) (rest : Led) (Q' E' : Value → Shared → Prop), x ∈ ns → y ∈ ms → NsObj oC m₂ → m₂ a = some (.int x t) → m₂ b = some (.int y t') → Fr h₀ L h m →
      News h₀ L h ((C, oC) :: rest) → (∀ p ∈ news, p ∈ rest) → (∀ p ∈ rest, p.1 ≠ C) →
      (∀ t h' tk', Fr h₀ L h' m → News h₀ L h' ((C, oC) :: rest) → Q' (.int (f x y) t) { s with heap := h', toks := tk' }) → wpAny (model prog w) A (eval elt (compEnvC scope cl C env)) Q' E' { s with heap := h, toks := tk })
    (fin : ∀ D vs h tk, IntsAre vs (List.zipWith f ns ms) → Fr h₀ L h (fun z => if z = y then some (.ref D) else m z) → News h₀ L h ((D, lst vs) :: news) → (∀ p ∈ news, p.1 < D) → Q .next { s with heap := h, toks := tk }) :
    wpAny (model prog w) A (call (.type "zip") [.ref l1, .ref l2]) (PairR prog w A env (.ListComp elt [⟨.Tuple [.Name a pa, .Name b pb] kk tp, iter, [], 0⟩] scope pos) scope cl (PostA prog w A E env y py Q) E) E s := by
  subst hLe
  refine zip_core f hh F N hm1 hi1 hm2 hi2 hlen hsz hcell hkind hxa hxb hab turn ?_
  intro D C vs h tk m' hvs F' N' hlt hn hC₀ hCL offC
  show wpAny _ A (assign (.Name y py) env (.ref D)) _ _ _
  refine wpAny_assign_Name (wpAny_storeName_local hy F'.ns (fun h₂ hn₂ hs₂ => ?_) hp)
  have hL₀ : h₀.get? env.locals = none := Heap.get?_none_of_le F'.above
  have F₂ : Fr h₀ env.locals h₂ (fun z => if z = y then some (.ref D) else m z) := ⟨hn₂, fun b o e => hs₂.extBut b o (fun q => by rw [q, hL₀] at e; cases e) (F'.keep b o e), F'.above⟩
  refine ⟨m', hn.sameBut hs₂ hCL, fun h'' hs'' => fin D vs h'' _ hvs (F₂.change hs'' hCL hC₀) (fun p hp => ?_) hlt⟩
  have z : h₂.get? p.1 = some p.2 := hs₂.extBut _ _ (N' p hp).2.1 (N' p hp).1
  exact ⟨hs''.extBut _ _ (offC p hp) z, (N' p hp).2⟩
end
end Ntt
end

section
open PySem PySem.W PySem.Calls PyProof.Rows PyProof.V PySem.Spec
namespace Ntt
/-- the tuples of (place, much) that the ledger holds -/
def TupsAre (Ts : List Addr) (few : List (Int × Int)) (news : Led) : Prop :=
  Ts.length = few.length ∧ ∀ (i : Nat) (T : Addr) (q : Int × Int), Ts[i]? = some T → few[i]? = some q → ∃ o t t' n, (T, o) ∈ news ∧ o.cls = .type "tuple" ∧ o.data = .seq #[.int q.1 t, .int q.2 t'] n
section
variable {prog : Program} {w : World} {A : Around} {E : Value → Shared → Prop} {s : Shared} {env : Env} {h₀ : Heap} {x : Str} {body : List Stmt} {Q : Flow → Shared → Prop} {τ : Type}
theorem TupsAre.sub {Ts : List Addr} {few : List (Int × Int)} {news news' : Led} (h : TupsAre Ts few news) (hs : ∀ p ∈ news, p ∈ news') : TupsAre Ts few news' :=
  ⟨h.1, fun i T q a b => let ⟨o, t, t', n, c, d⟩ := h.2 i T q a b; ⟨o, t, t', n, hs _ c, d⟩⟩
theorem tups_rule {σ : Type} (ps : σ → List (Str × Value)) (mu : σ → Led) (I : Nat → σ → Prop) (c₀ : σ) {elts : List Expr} {k : Nat} {pos : Pos} {news : Led} {l : Addr} {Ts : List Addr} {few : List (Int × Int)} {nn : Nat} {m₀ : Str → Option Value}
    (hh : A.handled = none) (hm : (l, listOf (Ts.map Value.ref).toArray nn) ∈ news) (hT : TupsAre Ts few news)
    (F : Fr h₀ env.locals s.heap m₀) (N : News h₀ env.locals s.heap (mu c₀ ++ news)) (hmu : ∀ c, (mu c).map (·.1) = (mu c₀).map (·.1)) (hoff : OwnOff news ((mu c₀).map (·.1)))
    (hk : ∀ p ∈ ps c₀, m₀ p.1 = some p.2) (hI : I 0 c₀)
    (turn : ∀ (i : Nat) (q : Int × Int) (c : σ) (T : Addr) (t t' : Tok) (u : Str → Option Value) (h : Heap) (tk : Nat) (rest : Led) (Q' : Flow → Shared → Prop), few[i]? = some q → IsTup h T #[.int q.1 t, .int q.2 t'] → I i c → (∀ p ∈ news, p ∈ rest) → OwnOff rest ((mu c₀).map (·.1)) →
      Fr h₀ env.locals h (kstB u (ps c)) → News h₀ env.locals h (mu c ++ rest) →
      Next h₀ env.locals ps mu (I (i + 1)) rest s Q' → wpAny (model prog w) A (assign (.Tuple elts k pos) env (.ref T)) (fun _ s₂ => wpAny (model prog w) A (execs body env) Q' E s₂) E { s with heap := h, toks := tk })
    (done : ∀ (c : σ) (u : Str → Option Value) (h : Heap) (tk : Nat), I few.length c → Fr h₀ env.locals h (kstB u (ps c)) → News h₀ env.locals h (mu c ++ news) → Q .next { s with heap := h, toks := tk }) :
    wpAny (model prog w) A (pyIter (.ref l)) (fun it s₂ => TurnsAt prog w A h₀ env (.Tuple elts k pos) body Q E it s₂) E s := by
  have hlen := hT.1
  refine iter_listTurns hh F N (List.mem_append_right _ hm) rfl rfl fun It hIt => ?_
  refine items_rule (adr := (mu c₀).map (·.1)) ps mu I ((Ts.map Value.ref).map Itm.val) hmu hoff (fun p hp => by rw [List.mem_singleton.mp hp]; exact hm) ?_ ?_ ?_ _ 0 c₀ m₀ (List.drop_zero ..) (by simp) hk hI
  · intro q hq
    rw [List.mem_singleton.mp hq]; exact below_adr hIt 0
  · intro i it v c u h tk rest Q' hx hv hIc hsub hoff' F' N' hnext
    have hlt : i < Ts.length := by
      obtain ⟨h2, _⟩ := List.getElem?_eq_some_iff.mp hx
      simpa using h2
    have hT1 : Ts[i]? = some Ts[i] := List.getElem?_eq_getElem hlt
    have e2 : ((Ts.map Value.ref).map Itm.val)[i]? = some (.val (.ref Ts[i])) := by rw [List.getElem?_map, List.getElem?_map, hT1]; rfl
    rw [hx] at e2
    obtain rfl : it = _ := Option.some.inj e2
    obtain rfl : v = _ := hv
    have hf : few[i]? = some few[i] := List.getElem?_eq_getElem (by omega)
    obtain ⟨o, t, t', n, hmem, hc, hd⟩ := hT.2 i _ _ hT1 hf
    exact turn i few[i] c Ts[i] t t' u h tk rest Q' hf ⟨o, (N' _ (List.mem_append_right _ (hsub _ hmem))).1, hc, n, hd⟩ hIc hsub hoff' F' N' hnext
  · intro c u h tk hIc F' N'
    have : ((Ts.map Value.ref).map Itm.val).length = few.length := by simp [hlen]
    rw [this] at hIc
    exact done c u h tk hIc F' N'

theorem tupsL (ps : τ → List (Str × Value)) (I : Nat → τ → List Int → Prop) (c₀ : τ) {elts : List Expr} {k : Nat} {pos : Pos} {news : Led} {l ml : Addr} {Ts : List Addr} {few : List (Int × Int)} {nn : Nat} {m₀ : Str → Option Value} {its₀ : List Value} {ns₀ : List Int} {cnt₀ : Nat}
    (hh : A.handled = none) (hm : (l, listOf (Ts.map Value.ref).toArray nn) ∈ news) (hT : TupsAre Ts few news)
    (F : Fr h₀ env.locals s.heap m₀) (N : News h₀ env.locals s.heap ((ml, listOf its₀.toArray cnt₀) :: news)) (hoff : ∀ p ∈ news, p.1 ≠ ml)
    (hi₀ : IntsAre its₀ ns₀) (hk : ∀ p ∈ ps c₀, m₀ p.1 = some p.2) (hI : I 0 c₀ ns₀)
    (turn : ∀ (i : Nat) (q : Int × Int) (c : τ) (ws : List Value) (ms : List Int) (cnt : Nat) (T : Addr) (t t' : Tok) (u : Str → Option Value) (h : Heap) (tk : Nat) (rest : Led) (Q' : Flow → Shared → Prop), few[i]? = some q → IsTup h T #[.int q.1 t, .int q.2 t'] → IntsAre ws ms → I i c ms → (∀ p ∈ news, p ∈ rest) → (∀ p ∈ rest, p.1 ≠ ml) →
      Fr h₀ env.locals h (kstB u (ps c)) → News h₀ env.locals h ((ml, listOf ws.toArray cnt) :: rest) →
      NextL h₀ env.locals ps ml (I (i + 1)) rest s Q' → wpAny (model prog w) A (assign (.Tuple elts k pos) env (.ref T)) (fun _ s₂ => wpAny (model prog w) A (execs body env) Q' E s₂) E { s with heap := h, toks := tk })
    (done : ∀ (c : τ) (ws : List Value) (ms : List Int) (cnt : Nat) (u : Str → Option Value) (h : Heap) (tk : Nat), IntsAre ws ms → I few.length c ms → Fr h₀ env.locals h (kstB u (ps c)) → News h₀ env.locals h ((ml, listOf ws.toArray cnt) :: news) → Q .next { s with heap := h, toks := tk }) :
    wpAny (model prog w) A (pyIter (.ref l)) (fun it s₂ => TurnsAt prog w A h₀ env (.Tuple elts k pos) body Q E it s₂) E s :=
  tups_rule (σ := L1 τ) (fun c => ps c.1) (fun c => [(ml, listOf c.2.1.toArray c.2.2.2)]) (fun i c => IntsAre c.2.1 c.2.2.1 ∧ I i c.1 c.2.2.1) (c₀, its₀, ns₀, cnt₀) hh hm hT F N (fun _ => rfl) (off_one hoff) hk ⟨hi₀, hI⟩
    (fun i q c T t t' u h tk rest Q' hj hT hc hs ho F1 N1 nx => turn i q c.1 c.2.1 c.2.2.1 c.2.2.2 T t t' u h tk rest Q' hj hT hc.1 hc.2 hs (one_off ho) F1 N1 fun c' its' ns' cnt' h' m' tk' F2 N2 a b d => nx (c', its', ns', cnt') h' m' tk' F2 N2 b ⟨a, d⟩)
    (fun c u h tk hc F1 N1 => done c.1 c.2.1 c.2.2.1 c.2.2.2 u h tk hc.1 hc.2 F1 N1)
end
end Ntt
end

section
open PySem PySem.W PySem.Calls PyProof.Rows PyProof.V PySem.Spec
namespace Ntt
abbrev framesOf (l : List Env) : List Addr := l.filterMap (·.frame)
theorem mem_frames {env : Env} {outer : List Env} {L b : Addr} (hf : env.frame = some L) (hm : b ∈ framesOf (env :: outer)) : b = L ∨ b ∈ framesOf outer := by
  simp only [framesOf, List.filterMap_cons, hf, List.mem_cons] at hm
  exact hm
section
variable {M : Model} {A : Around} {E : Value → Shared → Prop} {s' : Shared} {base g g₂ h : Heap} {outer : List Env} {L e : Addr} {m : Str → Option Value} {env : Env} {Q : Unit → Shared → Prop} {news : Led}
/-- the first frame that an exception leaves: any frame -/
theorem leave_newG {cls : String} (hf : env.frame = some L) (hk : env.scope.kind = .function) (K : Below A base outer g) (hx : Heap.NewExc h s'.heap e cls) (F : Fr g L h m) (N : News g L h news)
    (hQ : ∀ h', RaisedSN base g outer e (.type cls) news h' → g.UpToSlots h' → Q () { s' with heap := h' }) :
    wpAny M (A.deeper env) (leaving env (.ref e)) Q E s' := by
  have K' := pushX K F hf hk
  generalize hfs : framesOf (env :: outer) = fs
  have shown : ∀ b o, h.get? b = some o → b ∉ fs → (hideAll h fs).get? b = some o := fun b o q nm => hideAll_get _ q nm
  have gone : (hideAll h fs).get? e = none := by
    cases q : (hideAll h fs).get? e with
    | none => rfl
    | some o =>
      have := of_hideAll _ q
      rw [hx.new] at this; cases this
  have baseIn : base.StaysIn (hideAll h fs) := fun b o q => shown b o (K'.stays b o q) fun hm => by
    have z := (K'.frames.mem (hfs ▸ hm)).1
    rw [z] at q; cases q
  have groundIn : ∀ b o, g.get? b = some o → b ∉ framesOf outer → (hideAll h fs).get? b = some o := fun b o q nm => shown b o (F.keep b o q) fun hm => by
    rcases mem_frames hf (hfs ▸ hm) with z | z
    · rw [z, kts_self F] at q; cases q
    · exact nm z
  have ledIn : ∀ q ∈ news, (hideAll h fs).get? q.1 = some q.2 ∧ g.get? q.1 = none ∧ base.get? q.1 = none := fun q hq => by
    have n := N q hq
    refine ⟨shown _ _ n.1 fun hm => ?_, n.2.2, fresh_of_stays K.stays n.2.2⟩
    rcases mem_frames hf (hfs ▸ hm) with z | z
    · exact n.2.1 z
    · obtain ⟨o, ho, _⟩ := (K.frames.mem z).2
      rw [n.2.2] at ho; cases ho
  obtain ⟨ob, tp, he, hcls, hd⟩ := hx.there
  have inFs : ∀ env' ∈ env :: outer, ∀ b, env'.frame = some b → b ∈ fs := fun env' he b hb => hfs ▸ List.mem_filterMap.mpr ⟨env', he, hb⟩
  refine wpAny_leaving_firstW (base := hideAll h fs) (a0 := tp) K'.stack ((funFrames_hide K'.frames inFs).of_keeps fun b o hb _ => ⟨o, hx.keeps b o hb, rfl⟩) hf he (fun b o hb => hx.keeps b o (of_hideAll _ hb)) gone hd rfl rfl fun h' hL => ?_
  obtain ⟨k1, ⟨_, _, k2⟩, k3, k4⟩ := hL
  rw [hcls] at k3
  exact hQ h' ⟨_, tp, baseIn, groundIn, ledIn, k1, gone, k2, k3⟩ (((Heap.UpToSlots.of_keeps F.keep).trans (Heap.UpToSlots.of_keeps hx.keeps)).trans k4)
/-- the next frame -/
theorem leave_onG {cls : Value} (hf : env.frame = some L) (K : Below A base outer g) (F : Fr g L g₂ m) (R : RaisedSN base g₂ (env :: outer) e cls news s'.heap) (hsm : g₂.UpToSlots s'.heap)
    (hQ : ∀ h', RaisedSN base g outer e cls news h' → g.UpToSlots h' → Q () { s' with heap := h' }) :
    wpAny M (A.deeper env) (leaving env (.ref e)) Q E s' := by
  obtain ⟨B, a0, hB, hBG, hl, hfl⟩ := R
  refine wpAny_leaves_onW (Around.frames_deeper K.stack) hf hfl fun h' x1 x2 => hQ h' ⟨B, a0, hB, fun b o q nm => hBG b o (F.keep b o q) fun hm => ?_, fun q hq => ⟨(hl q hq).1, kts_none F.keep (hl q hq).2.1, (hl q hq).2.2⟩, x1⟩ ((Heap.UpToSlots.of_keeps F.keep).trans (hsm.trans x2))
  rcases mem_frames hf hm with z | z
  · rw [z, kts_self F] at q; cases q
  · exact nm z
end
section
variable {A₀ : Around} {base g G B h₅ : Heap} {outer : List Env} {L : Addr} {m : Str → Option Value} {env : Env}
theorem groundG (hf : env.frame = some L) (K : Below A₀ base outer g) (F : Fr g L G m) (hBG : ∀ b o, G.get? b = some o → b ∉ framesOf (env :: outer) → B.get? b = some o) (hBh : B.StaysIn h₅) (hsm : G.UpToSlots h₅) :
    ∃ g', KtsTurn (framesOf outer) g g' ∧ Fr g' L h₅ m ∧ Below A₀ base outer g' := by
  have seen : ∀ b ∈ framesOf outer, ∃ o, g.get? b = some o ∧ ∀ vs, o.data ≠ .fields vs := fun b hb => by
    obtain ⟨_, o, ho, hd⟩ := K.frames.mem hb
    exact ⟨o, ho, hd⟩
  obtain ⟨T, S⟩ := kts_turn_at (h := h₅) (fs := framesOf outer) (g := g) (fun b hb => (seen b hb).imp fun _ x => x.1)
    (fun b o q nm => hBh b o (hBG b o (F.keep b o q) fun hm => by
      rcases mem_frames hf hm with z | z
      · rw [z, kts_self F] at q; cases q
      · exact nm z))
    (fun b o q hm => by
      obtain ⟨o', ho', hd⟩ := seen b hm
      rw [q] at ho'; cases ho'
      exact hsm b o (F.keep b o q) hd)
  refine ⟨_, T, ⟨hsm.ns F.ns, S, by rw [T.size]; exact F.above⟩, K.stack, fun b o q => T.other b o (K.stays b o q) fun hm => ?_, K.frames.of_keeps fun b o q _ => ?_⟩
  · have z := (K.frames.mem hm).1
    rw [z] at q; cases q
  · obtain ⟨sl, hs⟩ := T.up q
    exact ⟨_, hs, rfl⟩
end
section
variable {prog : Program} {w : World} {A₀ : Around} {E : Value → Shared → Prop} {s' : Shared} {base g G : Heap} {outer : List Env} {L a e : Addr} {m : Str → Option Value} {cn : Str} {cs : Scope} {ccd : Value} {cl : List (Str × Addr)}
  {b₀ : Stmt} {suite : List Stmt} {pos np : Pos} {rest : List ExceptHandler} {Q : Flow → Shared → Prop} {news : Led} {KF : Frag} {p : Program} {loose : List Str} {mean : ExcName → Option Value} {mg mb : Str → Option Value} {x : Str} {X T' : String}
/-- what the handlers stand on -/
structure Flies (base g G : Heap) (outer : List Env) (env : Env) (L e : Addr) (X : String) (news : Led) (m : Str → Option Value) (A₀ : Around) (h : Heap) : Prop where
  out : ∃ B a0, B.get? L = none ∧ base.StaysIn B ∧ (∀ b o, G.get? b = some o → b ∉ framesOf (env :: outer) → B.get? b = some o) ∧ (∀ q ∈ news, B.get? q.1 = some q.2 ∧ G.get? q.1 = none ∧ base.get? q.1 = none) ∧ Heap.FlyingW B (env :: outer) e (.type X) a0 h
  slots : G.UpToSlots h
  fr : Fr g L G m
  bel : Below A₀ base outer g
  loc : env.frame = some L

theorem Flies.ground {h : Heap} {env : Env} (Y : Flies base g G outer env L e X news m A₀ h) : ∃ g', KtsTurn (framesOf outer) g g' ∧ Fr g' L h m ∧ News g' L h news ∧ Below A₀ base outer g' := by
  obtain ⟨B, a0, hL, hB, hBG, hl, hfl⟩ := Y.out
  obtain ⟨g', T, F', K'⟩ := groundG Y.loc Y.bel Y.fr hBG hfl.1 Y.slots
  exact ⟨g', T, F', fun q hq => ⟨hfl.1 _ _ (hl q hq).1, (fun z => by have := (hl q hq).1; rw [z, hL] at this; cases this), T.none_ _ (kts_none Y.fr.keep (hl q hq).2.1)⟩, K'⟩
theorem Flies.next {h h' : Heap} {env : Env} (Y : Flies base g G outer env L e X news m A₀ h) (hfl : ∀ B a0, Heap.FlyingW B (env :: outer) e (.type X) a0 h → Heap.FlyingW B (env :: outer) e (.type X) a0 h') (hs : h.UpToSlots h') : Flies base g G outer env L e X news m A₀ h' := by
  obtain ⟨B, a0, hL, hB, hBG, hl, f⟩ := Y.out
  exact ⟨⟨B, a0, hL, hB, hBG, hl, hfl B a0 f⟩, Y.slots.trans hs, Y.fr, Y.bel, Y.loc⟩
theorem Flies.of {env : Env} {h : Heap} (R : RaisedSN base G (env :: outer) e (.type X) news h) (hs : G.UpToSlots h) (F : Fr g L G m) (K : Below A₀ base outer g) (hf : env.frame = some L) : Flies base g G outer env L e X news m A₀ h := by
  obtain ⟨B, a0, hB, hBG, hl, hfl⟩ := R
  refine ⟨⟨B, a0, ?_, hB, hBG, hl, hfl⟩, hs, F, K, hf⟩
  obtain ⟨_, ⟨L', _, hf', hn', _⟩, _⟩ := hfl.2.2.1
  rw [hf] at hf'
  obtain rfl : L = L' := Option.some.inj hf'
  exact hn'
theorem lands_G {env : Env} {hs : List ExceptHandler} (Y : Flies base g G outer env L e X news m A₀ s'.heap)
    (k : ∀ h', Flies base g G outer env L e X news m A₀ h' → wpAny (model prog w) (A₀.deeper env) (handleBy (.ref e) env hs) Q E { s' with heap := h' }) :
    wpAny (model prog w) (A₀.deeper env) (noteFrame (.ref e) env)
      (fun _ s₂ => wpAny (model prog w) (A₀.deeper env) (setFlight (.ref e) none) (fun _ s₃ => wpAny (model prog w) (A₀.deeper env) (handleBy (.ref e) env hs) Q E s₃) E s₂) E s' := by
  obtain ⟨B, a0, hL, hB, hBG, hl, hfl⟩ := Y.out
  refine wpAny_looks_onW (Around.frames_deeper Y.bel.stack) Y.loc hfl fun h₄ held₄ hsm₄ => ?_
  exact wpAny_landsW held₄ fun h₅ hfl₅ hsm₅ => k h₅ ⟨⟨B, a0, hL, hB, hBG, hl, hfl₅⟩, Y.slots.trans (hsm₄.trans hsm₅), Y.fr, Y.bel, Y.loc⟩
theorem handle_hit (Y : Flies base g G outer (envX cn cs L a ccd cl) L e X news m A₀ s'.heap) (XB : KF.In base) (TB : Top p loose mean mg mb base)
    (ex : nsIn KF mainGlobals x = some none) (hv : bootBuiltins x = some (.type T')) (hn' : x ≠ "__name__")
    (hexc : isSubtype (.type T') (.type "BaseException") = pure true) (hnt : isSubtype (.type ((Manifest.find? T').elim "type" fun y => y.metatype)) (.type "tuple") = pure false) (hsub : isSubtype (.type X) (.type T') = pure true)
    (k : ∀ h' g', KtsTurn (framesOf outer) g g' → Fr g' L h' m → News g' L h' news → Below A₀ base outer g' → KF.In g' → Top p loose mean mg mb g' →
      wpAny (model prog w) ((A₀.deeper (envX cn cs L a ccd cl)).mark (some (.ref e))) (execs (b₀ :: suite) (envX cn cs L a ccd cl)) Q E { s' with heap := h' })
    (hk : cs.kind = .function := by rfl) (hx : (envX cn cs L a ccd cl).kindOf x = some .globalImplicit := by rfl) (hd : (x == ("__debug__" : Str)) = false := by decide)
    (hE : PassesOwnAt (model prog w) ((A₀.deeper (envX cn cs L a ccd cl)).mark (some (.ref e))) (A₀.deeper (envX cn cs L a ccd cl)) (envX cn cs L a ccd cl) E := by passes_own) :
    wpAny (model prog w) (A₀.deeper (envX cn cs L a ccd cl)) (handleBy (.ref e) (envX cn cs L a ccd cl) (.ExceptHandler (some (.Name x np)) none (b₀ :: suite) pos :: rest)) Q E s' := by
  obtain ⟨g₅, T₅, F₅, N₅, K₅⟩ := Y.ground
  have P₅ : TopRead p loose mg mb g₅ := topRead_of (TB.keeps K₅.stays)
  obtain ⟨B, a0, hL, hB, hBG, hl, hfl⟩ := Y.out
  obtain ⟨ob, hob, hobc⟩ := hfl.there
  refine wpAny_handleBy_builtin (X := X) (T := T') (b := true) hexc hnt hsub (nameX_B F₅ (XB.keeps K₅.stays) P₅ ex hv hn' ⟨rfl, ⟨ob, hob, hobc⟩, ?_⟩ hk hx hd)
  refine lands_againW hfl fun h₆ hfl₆ hsm₆ => ?_
  obtain ⟨g₆, T₆, F₆, N₆, K₆⟩ := Flies.ground (h := h₆) ⟨⟨B, a0, hL, hB, hBG, hl, hfl₆⟩, Y.slots.trans hsm₆, Y.fr, Y.bel, Y.loc⟩
  exact wpAny_passesOwnAt hE (k h₆ g₆ T₆ F₆ N₆ K₆ (XB.keeps K₆.stays) (TB.keeps K₆.stays))
theorem handle_miss (Y : Flies base g G outer (envX cn cs L a ccd cl) L e X news m A₀ s'.heap) (XB : KF.In base) (TB : Top p loose mean mg mb base)
    (ex : nsIn KF mainGlobals x = some none) (hv : bootBuiltins x = some (.type T')) (hn' : x ≠ "__name__")
    (hexc : isSubtype (.type T') (.type "BaseException") = pure true) (hnt : isSubtype (.type ((Manifest.find? T').elim "type" fun y => y.metatype)) (.type "tuple") = pure false) (hsub : isSubtype (.type X) (.type T') = pure false)
    (k : wpAny (model prog w) (A₀.deeper (envX cn cs L a ccd cl)) (handleBy (.ref e) (envX cn cs L a ccd cl) rest) Q E s')
    (hk : cs.kind = .function := by rfl) (hx : (envX cn cs L a ccd cl).kindOf x = some .globalImplicit := by rfl) (hd : (x == ("__debug__" : Str)) = false := by decide) :
    wpAny (model prog w) (A₀.deeper (envX cn cs L a ccd cl)) (handleBy (.ref e) (envX cn cs L a ccd cl) (.ExceptHandler (some (.Name x np)) none (b₀ :: suite) pos :: rest)) Q E s' := by
  obtain ⟨g₅, T₅, F₅, N₅, K₅⟩ := Y.ground
  have P₅ : TopRead p loose mg mb g₅ := topRead_of (TB.keeps K₅.stays)
  obtain ⟨B, a0, hL, hB, hBG, hl, hfl⟩ := Y.out
  obtain ⟨ob, hob, hobc⟩ := hfl.there
  exact wpAny_handleBy_builtin (X := X) (T := T') (b := false) hexc hnt hsub (nameX_B F₅ (XB.keeps K₅.stays) P₅ ex hv hn' ⟨rfl, ⟨ob, hob, hobc⟩, k⟩ hk hx hd)
end
section
variable {prog : Program} {w : World} {A₀ A : Around} {s : Shared} {base h₀ : Heap} {L f : Addr} {m : Str → Option Value} {env : Env} {news : Led} {K : Frag} {fo : Obj}
  {p : Program} {loose : List Str} {mean : ExcName → Option Value} {mg mb : Str → Option Value} {R : Result → Shared → Prop}
/-- back in the frame below, when its object may have turned -/
theorem back_turned {g : Heap} (F : Fr h₀ L s.heap m) (N : News h₀ L s.heap news) (FG : Fr h₀ L (hideAll s.heap (news.map (·.1))) m) (st : h₀.StaysIn (hideAll s.heap (news.map (·.1)))) (hg : g = hideAll s.heap (news.map (·.1))) :
    ∀ v s', LeaveS0 [L] h₀ L m g R v s' → R (.ok (.ret v)) s' := by
  subst hg
  rintro v s' ⟨g', L', m', news', T, F', N', k⟩
  obtain ⟨oL, es, ep, hL, hLd, hLk, hLf⟩ := FG.ns
  obtain ⟨sl, hs⟩ := T.frame L oL hL (List.mem_singleton.mpr rfl)
  have hL₀ : h₀.get? L = none := kts_self F
  have keep : ∀ b o, h₀.get? b = some o → g'.get? b = some o := fun b o e => T.other b o (st b o e) fun hm => by
    rw [List.mem_singleton.mp hm, hL₀] at e; cases e
  refine k ⟨⟨_, es, ep, F'.keep _ _ hs, hLd, hLk, hLf⟩, fun b o e => F'.keep b o (keep b o e), F.above⟩ fun q hq => ⟨(N' q hq).1, fun z => ?_, ?_⟩
  · have := (N' q hq).2.2
    rw [z, hs] at this; cases this
  · cases e : h₀.get? q.1 with
    | none => rfl
    | some o =>
      have := (N' q hq).2.2
      rw [keep _ _ e] at this; cases this
theorem code_defT {R : Result → Shared → Prop} {name qual : Str} {params : Arguments} {body : List Stmt} {scope : Scope} {dV kV doc pm cdv ct oc : Value} {an od : Option Addr} {osl : Array (Option Value)} {args : Args} {binds : List (Str × Value)}
    (B : Below A₀ base [] h₀) (F : Fr h₀ L s.heap m) (X₀ : K.In h₀) (N : News h₀ L s.heap news) (T : Top p loose mean mg mb h₀) (hA : A.frames = some [env]) (hf : env.frame = some L) (hke : env.scope.kind = .function)
    (ho : K.lookup f = some ⟨oc, od, .func (fnOf name qual params body scope dV kV doc pm an cdv ct), osl⟩) (hcd : codeIn K cdv qual = true) (hroom : A.depth < recursionLimit)
    (hbind : BindsTo s (fnOf name qual params body scope dV kV doc pm an cdv ct) args binds) (hkind : (binds.all fun y => scope.names.lookup y.1 == some .local || scope.names.lookup y.1 == some .cell) = true)
    (hnd : ((cellsFrom 0 scope.names []).map (·.1)).Nodup)
    (h : ∀ g L' h₁ tk cells, Fr h₀ L g m → Fr g L' h₁ (bindL (envOfC qual scope L' f cdv).kindOf binds fun _ => none) → News g L' h₁ (cells ++ news) →
      CellsAre (bindC (envOfC qual scope L' f cdv).kindOf binds fun _ => none) (cellsFrom (L' + 1) scope.names []) cells → Below A base [env] g → K.In g → Top p loose mean mg mb g → (∀ p ∈ news, p.1 < L') →
      wpAny (model prog w) (A.deeper (envOfC qual scope L' f cdv)) (execs body (envOfC qual scope L' f cdv))
        (fun fl s' => LeaveS0 [L] h₀ L m g R (match fl with | .ret v => v | _ => .none) s')
        (fun e s' => wpAny (model prog w) (A.deeper (envOfC qual scope L' f cdv)) (leaving (envOfC qual scope L' f cdv) e) (fun _ s'' => R (.error e) s'') (fun e' s'' => R (.error e') s'') s')
        { s with heap := h₁, toks := tk })
    (hco : scope.isCoroutine = false) (hgen : scope.isGenerator = false) (hk : scope.kind = .function) : codeAny (model prog w) A (.call (.ref f) args) R s := by
  obtain ⟨FG, BG, st, _⟩ := groundX (R := R) B F N hA hf hke
  have lv := back_turned (R := R) F N FG st rfl
  generalize hg : hideAll s.heap (news.map (·.1)) = g at FG BG st lv
  refine codeAny_call_function hroom ((X₀.keeps F.keep) _ _ ho) rfl hco hgen rfl (codeRec_of (X₀.keeps F.keep) hcd) (hbind _ _ _ _ ?_)
  refine wpAny_newFunctionEnv_cells hk (kindsX hkind _) fun env' he s' x => ?_
  subst he
  refine ⟨(T.nolimit.keeps F.keep).keeps x.toInCall.keep, codeAny_func ?_⟩
  obtain ⟨h₁, tk, rfl, _⟩ := x.done
  have up := x.toInCall.keep
  obtain ⟨cells, NC, Y⟩ := Cl.news (h₀ := s.heap) (Nat.le_refl _) fun n c hm => ⟨x.cell n c (lookup_of_mem_nodup (cellsFrom_names scope.names 0 (s.heap.objs.size + 1) [] [] rfl ▸ hnd) hm), x.above n c hm⟩
  refine wpAny_mono (h g s.heap.objs.size h₁ tk cells FG ⟨x.toInCall.ns, fun b o e => up b o (of_hideAll _ (hg ▸ e)), Nat.le_of_eq (hg ▸ hideAll_size _ _)⟩ (fun q hq => ?_) Y BG (X₀.keeps st) (T.keeps st) (fun q hq => Heap.lt_size (N q hq).1)) (fun fl s' hl => lv _ _ hl) fun _ _ y => y
  rcases List.mem_append.mp hq with hq | hq
  · refine ⟨(NC q hq).1, (NC q hq).2.1, ?_⟩
    cases e : g.get? q.1 with
    | none => rfl
    | some o =>
      have := of_hideAll _ (hg ▸ e)
      rw [(NC q hq).2.2] at this; cases this
  · exact ⟨up _ _ (N q hq).1, Nat.ne_of_lt (Heap.lt_size (N q hq).1), hg ▸ hideAll_none _ (List.mem_map_of_mem hq)⟩
end
end Ntt
end

section
open PySem PySem.W PySem.Calls PyProof.Rows PyProof.V PySem.Spec
namespace Ntt
section
variable {g₀ g h : Heap} {L L' : Addr} {m : Str → Option Value} {news : Led} {oL : Obj}
/-- the ground without the frame below: what loops stand on -/
theorem turn_of (ho : g₀.get? L = some oL) (T : KtsTurn [L] g₀ g) (F : Fr g L' h m) (N : News g L' h news) :
    ∃ sl, Fr (hideAll g₀ [L]) L' h m ∧ News (hideAll g₀ [L]) L' h ((L, { oL with slots := sl }) :: news) := by
  obtain ⟨sl, hs⟩ := T.frame L oL ho (List.mem_singleton.mpr rfl)
  have keep : ∀ b o, (hideAll g₀ [L]).get? b = some o → g.get? b = some o := fun b o e => T.other b o (of_hideAll _ e) fun hm => by
    rw [hideAll_none _ hm] at e; cases e
  refine ⟨sl, ⟨F.ns, fun b o e => F.keep b o (keep b o e), ?_⟩, fun q hq => ?_⟩
  · rw [hideAll_size, ← T.size]; exact F.above
  · rcases List.mem_cons.mp hq with rfl | hq
    · refine ⟨F.keep _ _ hs, fun z => ?_, hideAll_none _ (List.mem_singleton.mpr rfl)⟩
      have := kts_self F
      have z' : L = L' := z
      rw [← z', hs] at this; cases this
    · refine ⟨(N q hq).1, (N q hq).2.1, ?_⟩
      cases e : (hideAll g₀ [L]).get? q.1 with
      | none => rfl
      | some o =>
        have := (N q hq).2.2
        rw [keep _ _ e] at this; cases this
theorem turn_to {sl : Array (Option Value)} (ho : g₀.get? L = some oL) (F : Fr (hideAll g₀ [L]) L' h m) (N : News (hideAll g₀ [L]) L' h news) (hm : (L, { oL with slots := sl }) ∈ news) :
    ∃ g, KtsTurn [L] g₀ g ∧ Fr g L' h m ∧ ∀ led : Led, (∀ q ∈ led, q ∈ news ∧ q.1 ≠ L) → News g L' h led := by
  obtain ⟨T, S⟩ := kts_turn_at (h := h) (fs := [L]) (g := g₀) (fun b hb => ⟨oL, List.mem_singleton.mp hb ▸ ho⟩)
    (fun b o e nm => F.keep b o (hideAll_get _ e nm))
    (fun b o e hb => by
      obtain rfl := List.mem_singleton.mp hb
      rw [ho] at e; cases e
      exact ⟨sl, (N _ hm).1⟩)
  refine ⟨_, T, ⟨F.ns, S, by rw [T.size]; have := F.above; rwa [hideAll_size] at this⟩, fun led hl q hq => ?_⟩
  obtain ⟨h1, h2⟩ := hl q hq
  have n := N q h1
  refine ⟨n.1, n.2.1, T.none_ _ ?_⟩
  cases e : g₀.get? q.1 with
  | none => rfl
  | some o =>
    have := n.2.2
    rw [hideAll_get _ e (fun hm => h2 (List.mem_singleton.mp hm))] at this; cases this
theorem turned_below {A₀ : Around} {base : Heap} {outer : List Env} (T : KtsTurn [L] g₀ g) (K : Below A₀ base outer g₀) (hb : base.get? L = none) : Below A₀ base outer g := by
  refine ⟨K.stack, fun b o e => T.other b o (K.stays b o e) fun hm => ?_, K.frames.of_keeps fun b o e _ => ?_⟩
  · rw [List.mem_singleton.mp hm, hb] at e; cases e
  · obtain ⟨sl, hs⟩ := T.up e
    exact ⟨_, hs, rfl⟩
end
end Ntt
end

section
open PySem PySem.W PySem.Calls PyProof.Rows PyProof.V PySem.Spec
namespace Ntt
section
variable {prog : Program} {w : World} {A : Around} {E : Value → Shared → Prop} {s : Shared} {K : Frag} {x y C D L f f' : Addr} {h₀ : Heap} {m : Str → Option Value} {ox oy : Obj} {od od' : Option Obj}
/-- an operator between objects of two classes, the right one no heir of the left one -/
theorem binop_two {op : Operator} {rc rd : Option Value} {Q : Value → Shared → Prop} (F : Fr h₀ L s.heap m) (X₀ : K.In h₀) (I : InstAt s.heap x ox C od) (J : InstAt s.heap y oy D od')
    (hne : (Value.ref C == Value.ref D) = false) (hc : selfFirst K C = true) (hd : selfFirst K D = true)
    (hs : findIn K (.ref C) (PySem.dunder op.info.2) = some (some (.ref f))) (hf : isFn K (.ref f) = true) (hr : findIn K (.ref C) (dunderR op.info.2) = some rc) (hp : rc = none ∨ ∃ g : Addr, rc = some (.ref g))
    (hs' : findIn K (.ref D) (PySem.dunder op.info.2) = some (some (.ref f'))) (hr' : findIn K (.ref D) (dunderR op.info.2) = some rd) (hp' : rd = none ∨ ∃ g : Addr, rd = some (.ref g))
    (hsub : subIn K (.ref D) (.ref C) = some false)
    (h : wpAny (model prog w) A (call (.ref f) [.ref x, .ref y]) (PySem.W.CmpBack Q) E s) : wpAny (model prog w) A (binaryOp op (.ref x) (.ref y)) Q E s := by
  have X := X₀.keeps F.keep
  obtain ⟨cd, rest, hcd, hm⟩ := ksp_first hc
  obtain ⟨cd', rest', hcd', hm'⟩ := ksp_first hd
  rcases hi : op.info with ⟨sym, nm'⟩
  rw [hi] at hs hr hs' hr'
  dsimp only at hs hr hs' hr'
  have one := ksp_try X I hs hf h
  obtain ⟨hh, g, d, tt, os⟩ := s
  have L1 : Looks (model prog w) hh (typeOf (.ref x)) (.ref C) := I.type
  have L2 : Looks (model prog w) hh (typeOf (.ref y)) (.ref D) := J.type
  have L3 : Looks (model prog w) hh (fillsNumberSlot (.ref C) nm') true := fills_K X hcd hm hs
  have L4 : Looks (model prog w) hh (fillsNumberSlot (.ref D) nm') true := fills_K X hcd' hm' hs'
  have L5 : Looks (model prog w) hh (isSubtype (.ref D) (.ref C)) false := looks_subIn X hsub
  have L6 : Looks (model prog w) hh (numberSlotInPython (.ref C) nm') true := ksp_inPy X hs hr hp
  have L7 : Looks (model prog w) hh (numberSlotInPython (.ref D) nm') true := ksp_inPy X hs' hr' hp'
  simp only [binaryOp, hi]
  refine wpAny_holding (wpAny_bind ?_)
  unfold binaryOp1
  refine wpAny_bind (L1.at (wpAny_bind (L2.at (wpAny_bind (L3.at ?_)))))
  simp only [hne, Bool.false_eq_true, if_false]
  ksp_lk
  refine wpAny_mono one (fun r s' hr' => ?_) fun _ _ e => e
  obtain ⟨v, rfl, hq⟩ := hr'
  ksp_lk
  exact hq
end
end Ntt
end

section
open PySem PySem.W PySem.Calls PyProof.Rows PyProof.V PySem.Spec
set_option maxRecDepth 100000
namespace Ntt
theorem int_mul_inst (a : Int) (t : Tok) (x C : Addr) (d : Option Addr) (sl : Array (Option Value)) :
    Meets (Builtin.«int.__mul__» ⟨[.int a t, .ref x], []⟩) (fun _ R s => s.heap.get? x = some { cls := .ref C, dict := d, data := .plain, slots := sl } ∧ R (.ok (.ret Value.notImplemented)) s) :=
  .of_wp fun prog w A R s h => by obtain ⟨hp, g, d', tk, os⟩ := s; obtain ⟨hl, h⟩ := h; wp_walk; exact ⟨_, rfl, h⟩
section
variable {prog : Program} {w : World} {A : Around} {E : Value → Shared → Prop} {s : Shared} {K : Frag} {x C L f f' : Addr} {h₀ : Heap} {m : Str → Option Value} {od : Option Obj} {d : Option Addr} {sl : Array (Option Value)}
set_option maxHeartbeats 2000000 in
/-- an int times an object: its class's __rmul__ answers -/
theorem binop_intR {k : Int} {t : Tok} {Q : Value → Shared → Prop} (F : Fr h₀ L s.heap m) (X₀ : K.In h₀) (I : InstAt s.heap x { cls := .ref C, dict := d, data := .plain, slots := sl } C od) (hc : selfFirst K C = true)
    (hs : findIn K (.ref C) (PySem.dunder "mul") = some (some (.ref f'))) (hr : findIn K (.ref C) (dunderR "mul") = some (some (.ref f))) (hf : isFn K (.ref f) = true) (hsub : subIn K (.ref C) (.type "int") = some false)
    (h : wpAny (model prog w) A (call (.ref f) [.ref x, .int k t]) (PySem.W.CmpBack Q) E s) : wpAny (model prog w) A (binaryOp .Mult (.int k t) (.ref x)) Q E s := by
  have X := X₀.keeps F.keep
  obtain ⟨cd, rest, hcd, hm⟩ := ksp_first hc
  have one := ksp_try X I hr hf h
  have ho := I.at_
  obtain ⟨hh, g, d', tt, os⟩ := s
  have L1 : Looks (model prog w) hh (typeOf (.int k t)) (.type "int") := Looks.of_pure rfl
  have L2 : Looks (model prog w) hh (typeOf (.ref x)) (.ref C) := I.type
  have L3 : Looks (model prog w) hh (fillsNumberSlot (.type "int") "mul") true := Looks.of_pure PySem.F.fills_int_mul
  have L4 : Looks (model prog w) hh (fillsNumberSlot (.ref C) "mul") true := fills_K X hcd hm hs
  have L5 : Looks (model prog w) hh (isSubtype (.ref C) (.type "int")) false := looks_subIn X hsub
  have L7 : Looks (model prog w) hh (numberSlotInPython (.type "int") "mul") false := Looks.of_pure rfl
  have hne : (Value.type "int" == Value.ref C) = false := Bool.eq_false_iff.mpr fun q => by cases beq_iff_eq.mp q
  unfold binaryOp
  refine wpAny_holding (wpAny_bind ?_)
  show wpAny _ A (binaryOp1 "mul" (.int k t) (.ref x)) _ _ _
  unfold binaryOp1
  refine wpAny_bind (L1.at (wpAny_bind (L2.at (wpAny_bind (L3.at ?_)))))
  simp only [hne, Bool.false_eq_true, if_false]
  ksp_lk
  refine' wpAny_tryMethod_declines (T := "int") (id := "int.__mul__") ?h1 ?h2 ?h3
  (case h1 => exact typeIs_int _ k t)
  (case h2 => exact PySem.F.slot_int_mul)
  refine' call_meets PySem.F.slot_int_mul (typeIs_int _ k t) PySem.F.entry_int_mul (PySem.F.args_int_mul_2 _ _) (int_mul_inst k t x C d sl) ?_
  refine' ⟨ho, ?_, ?_⟩
  exact rfl
  dsimp only
  simp only [Bool.false_eq_true, if_false, Bool.not_false, Bool.and_self, if_true]
  refine wpAny_bind ?_
  refine wpAny_mono one (fun r s' hr' => ?_) fun _ _ e => e
  obtain ⟨v, rfl, hq⟩ := hr'
  ksp_lk
  exact hq
end
end Ntt
end

section
open PySem PySem.W PyProof.Rows
namespace Ntt
set_option maxRecDepth 100000 in
set_option maxHeartbeats 8000000 in
open_top hd for PySem.Challenge.rw_oo0012_03
end Ntt
end

section
open PySem PySem.W PySem.Calls PyProof.Rows PyProof.V PySem.Spec
namespace Ntt
def dl (n : Int) : Nat → Int
  | 0 => n
  | k + 1 => (dl n k).fdiv 8380417
def digs (n : Int) : Nat → List Int
  | 0 => []
  | k + 1 => digs n k ++ [(dl n k).fmod 8380417]
theorem digs_len {n : Int} : ∀ k, (digs n k).length = k
  | 0 => rfl
  | k + 1 => by rw [digs, List.length_append, digs_len k]; rfl
local macro_rules | `(tactic| walk_at "pyIter ref") => `(tactic| k_dflt (k_extra "pyIter ref"))
local macro_rules | `(tactic| walk_at "call type:enumerate") => `(tactic| k_dflt (k_extra "call type:enumerate"))
local macro_rules | `(tactic| walk_at "call type:zip") => `(tactic| k_dflt (k_extra "call type:zip"))
local macro_rules | `(tactic| k_all) => `(tactic| with_reducible assumption)
local macro_rules | `(tactic| walk_at "call builtin:list.append") => `(tactic| (k_here; k_dflt ((show wpAny _ _ (call (Value.builtin "list.append") [Value.ref _, _]) _ _ _); refine' append_K ?k1 ?k2 ?k3 ?_ ?z; (case k1 => k_asm); (case k2 => k_asm); (case k3 => k_upd); (case z => size_fits); k_whole); intro h' F' N'; (try simp only [List.push_toArray] at N'); (try k_sweep)))
local macro_rules | `(tactic| walk_at "call ref") => `(tactic| (k_dflt (k_extra "call ref")))
local macro_rules | `(tactic| walk_at "exec For Name Call cons nil") => `(tactic| (k_here; kst_has; (rename Fr _ _ _ _ => lF'); (with_unfolding_all refine' For_invVF lF' ?k1 ?k2 ?_; (case k1 => exact rfl); (case k2 => exact rfl); k_whole)))
local macro_rules | `(tactic| walk_at "exec For Name Subscript cons nil") => `(tactic| (k_here; kst_has; (rename Fr _ _ _ _ => lF'); (with_unfolding_all refine' For_invVF lF' ?k1 ?k2 ?_; (case k1 => exact rfl); (case k2 => exact rfl); k_whole)))
local macro_rules | `(tactic| walk_at "subscriptTail") => `(tactic| k_dflt (k_extra "subscriptTail"))
section
variable {w : World} {p : Program} {loose : List Str} {mean : ExcName → Option Value} {mg mb : Str → Option Value} {dp un : Nat} {gd : Option (List Code)} {cn : Str} {cs : Scope} {a : Addr} {ccd : Value} {cl : List (Str × Addr)} {outer : List Env} {A₀ : Around} {base h₀ : Heap} {L : Addr} {m : Str → Option Value} {news : List (Addr × Obj)} {s : Shared} {Q E : Value → Shared → Prop}
  (B : Below A₀ base outer h₀) (F : Fr h₀ L s.heap m) (X : (Ntt.hd.heap_39 w.params).In h₀) (N : News h₀ L s.heap news) (T : Top p loose mean mg mb h₀) (hk : cs.kind = .function)
include B F X N T hk
set_option maxRecDepth 100000 in
set_option maxHeartbeats 8000000 in
theorem digits_spec (hd : dp + 4 < recursionLimit) (hu : un + 20 < cLine) {n : Int} {t t' : Tok}
   (hret : ∀ l its c h' tk', Fr h₀ L h' m → News h₀ L h' ((l, W.listOf (List.toArray its) c) :: news) → (∀ q ∈ news, q.1 < l) → IntsAre its (digs n.natAbs 256) → Q (.ref l) { s with heap := h', toks := tk' }) :
    wpAny (model PySem.Challenge.rw_oo0012_03.row.prog w) (ktrTop dp un gd cn cs L a ccd cl outer) (call (.ref 606) [.int n t, .int 256 t']) Q E s := by
  w_on
  k_with_none
  revert X; k_fill; intro X
  k_with "pyIter ref" => (
    (with_reducible show wpAny _ _ (pyIter (Value.ref _)) (fun it s₂ => LoopAtV _ _ _ _ _ _ _ _ _ it s₂) _ _)
    rename Fr _ _ _ _ => lF'
    rename News _ _ _ _ => lN'
    rename IsRange _ _ _ _ _ _ _ _ => rgX
    refine' rangeL (news := news) (τ := Int × Nat) (fun c => [(Str.ofString "left", .int c.1 c.2), (Str.ofString "found", .ref _)]) (fun i c ns => c.1 = dl n.natAbs i ∧ ns = digs n.natAbs i) (_, _) 256 (by rfl) rgX (by decide) (by decide) lF' (kst_newsOf lN' (by kst_inAny)) (off_lt (by assumption)) .nil ?kk ?ki (Hold.out ?turn) (Hold.out ?done)
    (case kk => kst_all)
    (case ki => exact ⟨by simp only [dl]; omega, rfl⟩)
    all_goals (try clear lF' lN' rgX))
  refine wpAny_call ?_
  k_dflt cell_enter
  k_steps
  case turn =>
    refine ⟨?_⟩
    rintro i ⟨left, tl⟩ its ns cnt t u h tk rest Q' hlt hI ⟨hJ1, hJ2⟩ hsub hoff F1 N1 nx
    dsimp only at hJ1 F1 ⊢
    have mk := kstMark
    have hl : its.length < 256 := by rw [hI.length, hJ2, digs_len]; exact hlt
    k_steps
    refine nx (_, _) _ (ns ++ [left.fmod 8380417]) _ _ _ _ (by assumption) (by assumption) (IntsAre.append hI (.cons _ _ .nil)) (by kst_all) ⟨?_, ?_⟩
    · rw [dl, ← hJ1]
    · rw [digs, ← hJ1, ← hJ2]
  case done =>
    refine ⟨?_⟩
    rintro ⟨left, tl⟩ its ns cnt u h tk hI ⟨hJ1, hJ2⟩ F1 N1
    dsimp only at hJ1 F1 ⊢
    (try k_fold)
    k_steps
    rw [hJ2] at hI
    exact hret _ _ _ _ _ (by assumption) (by assumption) (by assumption) hI
end
end Ntt
end

section
open PySem PySem.W PySem.Calls PyProof.Rows PyProof.V PySem.Spec
namespace Ntt
local macro_rules | `(tactic| walk_at "none 0") => `(tactic| skip)
def tnP (n : Int) : Nat → Int
  | 0 => n
  | k + 1 => (tnP n k).fdiv 2
def tnF (n : Int) : Nat → Int
  | 0 => 0
  | k + 1 => tnF n k * 2 + (tnP n k).fmod 2
theorem intsB {k : Int} (h1 : -(2 ^ 64) < k) (h2 : k < 2 ^ 64) (b : Int) : IntMulOk b k := IntMulOk.of_right (intBits_le_64 h1 h2)
local macro_rules | `(tactic| walk_at "pyIter ref") => `(tactic| k_dflt (k_extra "pyIter ref"))
local macro_rules | `(tactic| walk_at "call type:enumerate") => `(tactic| k_dflt (k_extra "call type:enumerate"))
local macro_rules | `(tactic| walk_at "call type:zip") => `(tactic| k_dflt (k_extra "call type:zip"))
local macro_rules | `(tactic| k_all) => `(tactic| with_reducible assumption)
local macro_rules | `(tactic| walk_at "call builtin:list.append") => `(tactic| (k_here; k_dflt ((show wpAny _ _ (call (Value.builtin "list.append") [Value.ref _, _]) _ _ _); refine' append_K ?k1 ?k2 ?k3 ?_ ?z; (case k1 => k_asm); (case k2 => k_asm); (case k3 => k_upd); (case z => size_fits); k_whole); intro h' F' N'; (try simp only [List.push_toArray] at N'); (try k_sweep)))
local macro_rules | `(tactic| walk_at "call ref") => `(tactic| (k_dflt (k_extra "call ref")))
local macro_rules | `(tactic| walk_at "exec For Name Call cons nil") => `(tactic| (k_here; kst_has; (rename Fr _ _ _ _ => lF'); (with_unfolding_all refine' For_invVF lF' ?k1 ?k2 ?_; (case k1 => exact rfl); (case k2 => exact rfl); k_whole)))
local macro_rules | `(tactic| walk_at "exec For Name Subscript cons nil") => `(tactic| (k_here; kst_has; (rename Fr _ _ _ _ => lF'); (with_unfolding_all refine' For_invVF lF' ?k1 ?k2 ?_; (case k1 => exact rfl); (case k2 => exact rfl); k_whole)))
local macro_rules | `(tactic| walk_at "subscriptTail") => `(tactic| k_dflt (k_extra "subscriptTail"))
local macro_rules | `(tactic| mul_fits) => `(tactic| first | exact mulR (by assumption) | exact mulL (by assumption) | fail "mul_fits: none of ours")
section
variable {w : World} {p : Program} {loose : List Str} {mean : ExcName → Option Value} {mg mb : Str → Option Value} {dp un : Nat} {gd : Option (List Code)} {cn : Str} {cs : Scope} {a : Addr} {ccd : Value} {cl : List (Str × Addr)} {outer : List Env} {A₀ : Around} {base h₀ : Heap} {L : Addr} {m : Str → Option Value} {news : List (Addr × Obj)} {s : Shared} {Q E : Value → Shared → Prop}
  (B : Below A₀ base outer h₀) (F : Fr h₀ L s.heap m) (X : (Ntt.hd.heap_39 w.params).In h₀) (N : News h₀ L s.heap news) (T : Top p loose mean mg mb h₀) (hk : cs.kind = .function)
include B F X N T hk
set_option maxRecDepth 100000 in
set_option maxHeartbeats 8000000 in
theorem turned_spec (hd : dp + 4 < recursionLimit) (hu : un + 20 < cLine) {n : Int} {t : Tok}
   (hret : ∀ t h' tk', Fr h₀ L h' m → News h₀ L h' news → Q (.int (tnF n 8) t) { s with heap := h', toks := tk' }) :
    wpAny (model PySem.Challenge.rw_oo0012_03.row.prog w) (ktrTop dp un gd cn cs L a ccd cl outer) (call (.ref 592) [.int n t]) Q E s := by
  w_on
  k_with_none
  revert X; k_fill; intro X
  k_with "pyIter ref" => (
    (with_reducible show wpAny _ _ (pyIter (Value.ref _)) (fun it s₂ => LoopAtV _ _ _ _ _ _ _ _ _ it s₂) _ _)
    rename Fr _ _ _ _ => lF'
    rename News _ _ _ _ => lN'
    rename IsRange _ _ _ _ _ _ _ _ => rgX
    refine' range0 (news := news) (τ := Int × Nat × Int × Nat) (fun c => [(Str.ofString "found", .int c.1 c.2.1), (Str.ofString "place", .int c.2.2.1 c.2.2.2)]) (fun i c => c.1 = tnF n i ∧ c.2.2.1 = tnP n i) (_, _, _, _) 8 (by rfl) rgX (by decide) (by decide) lF' (kst_newsOf lN' (by kst_inAny)) ?kk ?ki (Hold.out ?turn) (Hold.out ?done)
    (case kk => kst_all)
    (case ki => exact ⟨rfl, rfl⟩)
    all_goals (try clear lF' lN' rgX))
  refine wpAny_call ?_
  k_dflt cell_enter
  k_steps
  case turn =>
    refine ⟨?_⟩
    rintro i ⟨found, tf, place, tp⟩ t u h tk rest Q' hlt ⟨hJ1, hJ2⟩ hsub F1 N1 nx
    dsimp only at hJ1 hJ2 F1 ⊢
    k_steps
    refine nx (_, _, _, _) _ _ _ (by assumption) (by assumption) (by kst_all) ⟨?_, ?_⟩
    · rw [tnF, ← hJ1, ← hJ2]
    · rw [tnP, ← hJ2]
  case done =>
    refine ⟨?_⟩
    rintro ⟨found, tf, place, tp⟩ u h tk ⟨hJ1, hJ2⟩ F1 N1
    dsimp only at hJ1 hJ2 F1 ⊢
    (try k_fold)
    k_steps
    subst hJ1
    exact hret _ _ _ (by assumption) (by assumption)
end
end Ntt
end

section
open PySem PySem.W PySem.Calls PyProof.Rows PyProof.V PySem.Spec
namespace Ntt
local macro_rules | `(tactic| walk_at "none 0") => `(tactic| skip)
local macro_rules | `(tactic| walk_at "none 1") => `(tactic| skip)
def pwL : Nat → List Int
  | 0 => [1]
  | k + 1 => pwL k ++ [((pwL k).getD k 0 * 1753).fmod 8380417]
theorem pwL_len : ∀ k, (pwL k).length = k + 1
  | 0 => rfl
  | k + 1 => by rw [pwL, List.length_append, pwL_len k]; rfl
local macro_rules | `(tactic| walk_at "pyIter ref") => `(tactic| k_dflt (k_extra "pyIter ref"))
local macro_rules | `(tactic| walk_at "call type:enumerate") => `(tactic| k_dflt (k_extra "call type:enumerate"))
local macro_rules | `(tactic| walk_at "call type:zip") => `(tactic| k_dflt (k_extra "call type:zip"))
local macro_rules | `(tactic| k_all) => `(tactic| with_reducible assumption)
local macro_rules | `(tactic| walk_at "call builtin:list.append") => `(tactic| (k_here; k_dflt ((show wpAny _ _ (call (Value.builtin "list.append") [Value.ref _, _]) _ _ _); refine' append_K ?k1 ?k2 ?k3 ?_ ?z; (case k1 => k_asm); (case k2 => k_asm); (case k3 => k_upd); (case z => size_fits); k_whole); intro h' F' N'; (try simp only [List.push_toArray] at N'); (try k_sweep)))
local macro_rules | `(tactic| walk_at "call ref") => `(tactic| (k_dflt (k_extra "call ref")))
local macro_rules | `(tactic| walk_at "exec For Name Call cons nil") => `(tactic| (k_here; kst_has; (rename Fr _ _ _ _ => lF'); (with_unfolding_all refine' For_invVF lF' ?k1 ?k2 ?_; (case k1 => exact rfl); (case k2 => exact rfl); k_whole)))
local macro_rules | `(tactic| walk_at "exec For Name Subscript cons nil") => `(tactic| (k_here; kst_has; (rename Fr _ _ _ _ => lF'); (with_unfolding_all refine' For_invVF lF' ?k1 ?k2 ?_; (case k1 => exact rfl); (case k2 => exact rfl); k_whole)))
local macro_rules | `(tactic| walk_at "subscriptTail") => `(tactic| k_dflt (k_extra "subscriptTail"))
local macro_rules | `(tactic| mul_fits) => `(tactic| first | exact mulR (by assumption) | exact mulL (by assumption) | fail "mul_fits: none of ours")
section
variable {w : World} {p : Program} {loose : List Str} {mean : ExcName → Option Value} {mg mb : Str → Option Value} {dp un : Nat} {gd : Option (List Code)} {cn : Str} {cs : Scope} {a : Addr} {ccd : Value} {cl : List (Str × Addr)} {outer : List Env} {A₀ : Around} {base h₀ : Heap} {L : Addr} {m : Str → Option Value} {news : List (Addr × Obj)} {s : Shared} {Q E : Value → Shared → Prop}
  (B : Below A₀ base outer h₀) (F : Fr h₀ L s.heap m) (X : (Ntt.hd.heap_39 w.params).In h₀) (N : News h₀ L s.heap news) (T : Top p loose mean mg mb h₀) (hk : cs.kind = .function)
include B F X N T hk
set_option maxRecDepth 100000 in
set_option maxHeartbeats 8000000 in
theorem powers_spec (hd : dp + 4 < recursionLimit) (hu : un + 20 < cLine)
   (hret : ∀ l its c h' tk', Fr h₀ L h' m → News h₀ L h' ((l, W.listOf (List.toArray its) c) :: news) → (∀ q ∈ news, q.1 < l) → IntsAre its (pwL 511) → Q (.ref l) { s with heap := h', toks := tk' }) :
    wpAny (model PySem.Challenge.rw_oo0012_03.row.prog w) (ktrTop dp un gd cn cs L a ccd cl outer) (call (.ref 599) []) Q E s := by
  w_on
  k_with_none
  revert X; k_fill; intro X
  k_with "pyIter ref" => (
    (with_reducible show wpAny _ _ (pyIter (Value.ref _)) (fun it s₂ => LoopAtV _ _ _ _ _ _ _ _ _ it s₂) _ _)
    rename Fr _ _ _ _ => lF'
    rename News _ _ _ _ => lN'
    rename IsRange _ _ _ _ _ _ _ _ => rgX
    refine' rangeL (news := news) (τ := Unit) (fun _ => [(Str.ofString "found", .ref _)]) (fun i c ns => ns = pwL i) () 511 (by rfl) rgX (by decide) (by decide) lF' (kst_newsOf lN' (by kst_inAny)) (off_lt (by assumption)) (.cons _ _ .nil) ?kk ?ki (Hold.out ?turn) (Hold.out ?done)
    (case kk => kst_all)
    (case ki => rfl)
    all_goals (try clear lF' lN' rgX))
  refine wpAny_call ?_
  k_dflt cell_enter
  k_steps
  case turn =>
    refine ⟨?_⟩
    rintro i ⟨⟩ its ns cnt t u h tk rest Q' hlt hI hJ hsub hoff F1 N1 nx
    have mk := kstMark
    have hp : 0 < ns.length := by rw [hJ, pwL_len]; omega
    have hl : its.length < 600 := by rw [hI.length, hJ, pwL_len]; omega
    k_steps
    refine nx () _ _ _ _ _ _ (by assumption) (by assumption) (IntsAre.append hI (.cons _ _ .nil)) (by kst_all) ?_
    rw [pwL, hJ, pwL_len, show (-1 + ((i + 1 : Nat) : Int)).toNat = i by omega]
  case done =>
    refine ⟨?_⟩
    rintro ⟨⟩ its ns cnt u h tk hI hJ F1 N1
    (try k_fold)
    k_steps
    rw [hJ] at hI
    exact hret _ _ _ _ _ (by assumption) (by assumption) (by assumption) hI
end
end Ntt
end

section
open PySem PySem.W PySem.Calls PyProof.Rows PyProof.V PySem.Spec
namespace Ntt
local macro_rules | `(tactic| walk_at "none 0") => `(tactic| skip)
local macro_rules | `(tactic| walk_at "none 1") => `(tactic| skip)
def worthF (ps ns : List Int) (step : Int) : Nat → Int
  | 0 => 0
  | k + 1 => worthF ps ns step k + ns.getD k 0 * ps.getD ((step * (k : Int)).fmod 512).toNat 0
local macro_rules | `(tactic| walk_at "pyIter ref") => `(tactic| k_dflt (k_extra "pyIter ref"))
local macro_rules | `(tactic| walk_at "call type:enumerate") => `(tactic| k_dflt (k_extra "call type:enumerate"))
local macro_rules | `(tactic| walk_at "call type:zip") => `(tactic| k_dflt (k_extra "call type:zip"))
local macro_rules | `(tactic| k_all) => `(tactic| with_reducible assumption)
local macro_rules | `(tactic| walk_at "call builtin:list.append") => `(tactic| (k_here; k_dflt ((show wpAny _ _ (call (Value.builtin "list.append") [Value.ref _, _]) _ _ _); refine' append_K ?k1 ?k2 ?k3 ?_ ?z; (case k1 => k_asm); (case k2 => k_asm); (case k3 => k_upd); (case z => size_fits); k_whole); intro h' F' N'; (try simp only [List.push_toArray] at N'); (try k_sweep)))
local macro_rules | `(tactic| walk_at "call ref") => `(tactic| (k_dflt (k_extra "call ref")))
local macro_rules | `(tactic| walk_at "exec For Name Call cons nil") => `(tactic| (k_here; kst_has; (rename Fr _ _ _ _ => lF'); (with_unfolding_all refine' For_invVF lF' ?k1 ?k2 ?_; (case k1 => exact rfl); (case k2 => exact rfl); k_whole)))
local macro_rules | `(tactic| walk_at "exec For Name Subscript cons nil") => `(tactic| (k_here; kst_has; (rename Fr _ _ _ _ => lF'); (with_unfolding_all refine' For_invVF lF' ?k1 ?k2 ?_; (case k1 => exact rfl); (case k2 => exact rfl); k_whole)))
local macro_rules | `(tactic| walk_at "subscriptTail") => `(tactic| k_dflt (k_extra "subscriptTail"))
local macro_rules | `(tactic| mul_fits) => `(tactic| first | exact mulR (by assumption) | exact mulL (by assumption) | fail "mul_fits: none of ours")
local macro_rules | `(tactic| walk_at "exec For Tuple Call cons nil") => `(tactic| (k_here; (rename Fr _ _ _ _ => lF'); (with_unfolding_all refine' For_turns lF' ?_; k_whole)))
section
variable {w : World} {p : Program} {loose : List Str} {mean : ExcName → Option Value} {mg mb : Str → Option Value} {dp un : Nat} {gd : Option (List Code)} {cn : Str} {cs : Scope} {a : Addr} {ccd : Value} {cl : List (Str × Addr)} {outer : List Env} {A₀ : Around} {base h₀ : Heap} {L : Addr} {m : Str → Option Value} {news : List (Addr × Obj)} {s : Shared} {Q E : Value → Shared → Prop}
  (B : Below A₀ base outer h₀) (F : Fr h₀ L s.heap m) (X : (Ntt.hd.heap_39 w.params).In h₀) (N : News h₀ L s.heap news) (T : Top p loose mean mg mb h₀) (hk : cs.kind = .function)
include B F X N T hk
set_option maxRecDepth 100000 in
set_option maxHeartbeats 8000000 in
theorem worth_spec (hd : dp + 8 < recursionLimit) (hu : un + 40 < cLine) {lp ln : Addr} {pits nits : List Value} {ps ns : List Int} {c1 c2 : Nat} {n : Int} {t : Tok}
   (hm1 : (lp, W.listOf pits.toArray c1) ∈ news) (hi1 : IntsAre pits ps) (hl1 : ps.length = 512) (hs1 : SmallL ps) (hm2 : (ln, W.listOf nits.toArray c2) ∈ news) (hi2 : IntsAre nits ns) (hl2 : ns.length = 256)
   (hret : ∀ t h' tk', Fr h₀ L h' m → News h₀ L h' news → Q (.int ((worthF ps ns (2 * tnF n 8 + 1) 256).fmod 8380417) t) { s with heap := h', toks := tk' }) :
    wpAny (model PySem.Challenge.rw_oo0012_03.row.prog w) (ktrTop dp un gd cn cs L a ccd cl outer) (call (.ref 618) [.ref lp, .ref ln, .int n t]) Q E s := by
  w_on
  k_with_none
  revert X; k_fill; intro X
  k_with "call ref" => (
    refine' turned_spec ?B ?F ?X ?N ?T ?hk ?hd ?hu ?hret
    (case B => k_asm)
    (case F => k_asm)
    (case X => k_asm)
    (case N => k_asm)
    (case T => k_asm)
    (case hk => first | exact rfl | assumption)
    (case hd => ktr_room)
    (case hu => ktr_units)
    intro t9 h9 tk9 F9 N9
    (try dsimp only)
    (try k_fold))
  k_with "call type:enumerate" => (
    rename Fr _ _ _ _ => lF'
    rename News _ _ _ _ => lN'
    refine' enum0 (news := news) (τ := Int × Nat × Nat) (fun c => [(Str.ofString "powers", .ref lp), (Str.ofString "step", .int _ c.2.2), (Str.ofString "found", .int c.1 c.2.1)]) (fun i c => c.1 = worthF ps ns (2 * tnF n 8 + 1) i) (_, _, _) (by rfl) hm2 hi2 lF' (kst_newsOf lN' (by kst_inAny)) ?kk ?ki (Hold.out ?turn) (Hold.out ?done)
    (case kk => kst_all)
    (case ki => rfl)
    all_goals (try clear lF' lN'))
  k_with "subscriptTail" => (
    refine' sub_at ?N ?hm ?hi ?hb ?hfit ?_ ?hs
    (case N => k_asm)
    (case hm => k_mem)
    (case hi => with_reducible assumption)
    (case hb => exact fmod_in (by decide) (by omega))
    (case hfit => omega)
    (case hs => with_unfolding_all rfl)
    intro t')
  refine wpAny_call ?_
  k_dflt cell_enter
  k_steps
  case turn =>
    refine ⟨?_⟩
    rintro i j ⟨found, tf, ts⟩ T t t' u h tk rest Q' hj hT hJ hsub F1 N1 nx
    dsimp only at hJ F1 ⊢
    have hm1' := hsub _ hm1
    have hlt : i < 256 := by have := (List.getElem?_eq_some_iff.mp hj).1; omega
    k_steps
    refine nx (_, _, _) _ _ _ (by assumption) (by assumption) (by kst_all) ?_
    rw [worthF, ← hJ, List.getD_eq_getElem?_getD (l := ns), hj]
    rfl
  case done =>
    refine ⟨?_⟩
    rintro ⟨found, tf, ts⟩ u h tk hJ F1 N1
    dsimp only at hJ F1 ⊢
    (try k_fold)
    k_steps
    rw [hl2] at hJ
    subst hJ
    exact hret _ _ _ (by assumption) (by assumption)
end
end Ntt
end

section
open PySem PySem.W PySem.Calls PyProof.Rows PyProof.V PySem.Spec
namespace Ntt
local macro_rules | `(tactic| walk_at "none 0") => `(tactic| skip)
local macro_rules | `(tactic| walk_at "none 1") => `(tactic| skip)
local macro_rules | `(tactic| walk_at "none 2") => `(tactic| skip)
def backF (ps ts ns : List Int) (place : Int) : Nat → Int
  | 0 => 0
  | k + 1 => backF ps ts ns place k + ns.getD k 0 * ps.getD ((0 - (2 * ts.getD k 0 + 1) * place).fmod 512).toNat 0
local macro_rules | `(tactic| walk_at "pyIter ref") => `(tactic| k_dflt (k_extra "pyIter ref"))
local macro_rules | `(tactic| walk_at "call type:enumerate") => `(tactic| k_dflt (k_extra "call type:enumerate"))
local macro_rules | `(tactic| walk_at "call type:zip") => `(tactic| k_dflt (k_extra "call type:zip"))
local macro_rules | `(tactic| k_all) => `(tactic| with_reducible assumption)
local macro_rules | `(tactic| walk_at "call builtin:list.append") => `(tactic| (k_here; k_dflt ((show wpAny _ _ (call (Value.builtin "list.append") [Value.ref _, _]) _ _ _); refine' append_K ?k1 ?k2 ?k3 ?_ ?z; (case k1 => k_asm); (case k2 => k_asm); (case k3 => k_upd); (case z => size_fits); k_whole); intro h' F' N'; (try simp only [List.push_toArray] at N'); (try k_sweep)))
local macro_rules | `(tactic| walk_at "call ref") => `(tactic| (k_dflt (k_extra "call ref")))
local macro_rules | `(tactic| walk_at "exec For Name Call cons nil") => `(tactic| (k_here; kst_has; (rename Fr _ _ _ _ => lF'); (with_unfolding_all refine' For_invVF lF' ?k1 ?k2 ?_; (case k1 => exact rfl); (case k2 => exact rfl); k_whole)))
local macro_rules | `(tactic| walk_at "exec For Name Subscript cons nil") => `(tactic| (k_here; kst_has; (rename Fr _ _ _ _ => lF'); (with_unfolding_all refine' For_invVF lF' ?k1 ?k2 ?_; (case k1 => exact rfl); (case k2 => exact rfl); k_whole)))
local macro_rules | `(tactic| walk_at "subscriptTail") => `(tactic| k_dflt (k_extra "subscriptTail"))
local macro_rules | `(tactic| mul_fits) => `(tactic| first | exact mulR (by assumption) | exact mulL (by assumption) | fail "mul_fits: none of ours")
local macro_rules | `(tactic| walk_at "exec For Tuple Call cons nil") => `(tactic| (k_here; (rename Fr _ _ _ _ => lF'); (with_unfolding_all refine' For_turns lF' ?_; k_whole)))
section
variable {w : World} {p : Program} {loose : List Str} {mean : ExcName → Option Value} {mg mb : Str → Option Value} {dp un : Nat} {gd : Option (List Code)} {cn : Str} {cs : Scope} {a : Addr} {ccd : Value} {cl : List (Str × Addr)} {outer : List Env} {A₀ : Around} {base h₀ : Heap} {L : Addr} {m : Str → Option Value} {news : List (Addr × Obj)} {s : Shared} {Q E : Value → Shared → Prop}
  (B : Below A₀ base outer h₀) (F : Fr h₀ L s.heap m) (X : (Ntt.hd.heap_39 w.params).In h₀) (N : News h₀ L s.heap news) (T : Top p loose mean mg mb h₀) (hk : cs.kind = .function)
include B F X N T hk
set_option maxRecDepth 100000 in
set_option maxHeartbeats 8000000 in
theorem back_spec (hd : dp + 8 < recursionLimit) (hu : un + 40 < cLine) {lp lt ln : Addr} {pits tits nits : List Value} {ps ts ns : List Int} {c1 c2 c3 : Nat} {n : Int} {t : Tok}
   (hm1 : (lp, W.listOf pits.toArray c1) ∈ news) (hi1 : IntsAre pits ps) (hl1 : ps.length = 512) (hs1 : SmallL ps) (hm2 : (ln, W.listOf nits.toArray c2) ∈ news) (hi2 : IntsAre nits ns) (hl2 : ns.length = 256)
   (hm3 : (lt, W.listOf tits.toArray c3) ∈ news) (hi3 : IntsAre tits ts) (hl3 : ts.length = 256) (h0 : 0 ≤ n) (h1 : n < 256)
   (hret : ∀ t h' tk', Fr h₀ L h' m → News h₀ L h' news → Q (.int ((backF ps ts ns n 256 * 8347681).fmod 8380417) t) { s with heap := h', toks := tk' }) :
    wpAny (model PySem.Challenge.rw_oo0012_03.row.prog w) (ktrTop dp un gd cn cs L a ccd cl outer) (call (.ref 625) [.ref lp, .ref lt, .ref ln, .int n t]) Q E s := by
  w_on
  k_with_none
  revert X; k_fill; intro X
  k_with "call type:zip" => (
    rename Fr _ _ _ _ => lF'
    rename News _ _ _ _ => lN'
    refine' zip0 (news := news) (τ := Int × Nat) (fun c => [(Str.ofString "powers", .ref lp), (Str.ofString "place", .int n t), (Str.ofString "found", .int c.1 c.2)]) (fun i c => c.1 = backF ps ts ns n i) (_, _) (by rfl) hm2 hi2 hm3 hi3 lF' (kst_newsOf lN' (by kst_inAny)) ?kk ?ki (Hold.out ?turn) (Hold.out ?done)
    (case kk => kst_all)
    (case ki => rfl)
    all_goals (try clear lF' lN'))
  k_with "subscriptTail" => (
    refine' sub_at ?N ?hm ?hi ?hb ?hfit ?_ ?hs
    (case N => k_asm)
    (case hm => k_mem)
    (case hi => with_reducible assumption)
    (case hb => exact fmod_in (by decide) (by omega))
    (case hfit => omega)
    (case hs => with_unfolding_all rfl)
    intro t')
  refine wpAny_call ?_
  k_dflt cell_enter
  k_steps
  case turn =>
    refine ⟨?_⟩
    rintro i j b ⟨found, tf⟩ T t t' u h tk rest Q' hj hb hT hJ hsub F1 N1 nx
    dsimp only at hJ F1 ⊢
    have hm1' := hsub _ hm1
    have hlt : i < 256 := by have := (List.getElem?_eq_some_iff.mp hj).1; omega
    k_steps
    refine nx (_, _) _ _ _ (by assumption) (by assumption) (by kst_all) ?_
    rw [backF, ← hJ, List.getD_eq_getElem?_getD (l := ns), hj, List.getD_eq_getElem?_getD (l := ts), hb]
    rfl
  case done =>
    refine ⟨?_⟩
    rintro ⟨found, tf⟩ u h tk hJ F1 N1
    dsimp only at hJ F1 ⊢
    (try k_fold)
    k_steps
    rw [hl2, hl3] at hJ
    subst hJ
    exact hret _ _ _ (by assumption) (by assumption)
end
end Ntt
end

section
open PySem PySem.W PySem.Calls PyProof.Rows PyProof.V PySem.Spec
namespace Ntt
abbrev polyD (w : World) (k1 k2 : Tok) (ring lc : Addr) : Obj := dictOf [⟨PyData.keyHash w.params (Str.ofString "parent"), .str (Str.ofString "parent") k1, .ref ring⟩, ⟨PyData.keyHash w.params (Str.ofString "coeffs"), .str (Str.ofString "coeffs") k2, .ref lc⟩] 2
abbrev ringD (w : World) (k1 k2 k3 k4 k5 k6 k7 k8 : Tok) (sh1 sh2 zl : Addr) (tq tn tf : Tok) : Obj := dictOf [⟨PyData.keyHash w.params (Str.ofString "q"), .str (Str.ofString "q") k1, .int 8380417 tq⟩, ⟨PyData.keyHash w.params (Str.ofString "n"), .str (Str.ofString "n") k2, .int 256 tn⟩,
  ⟨PyData.keyHash w.params (Str.ofString "shake128"), .str (Str.ofString "shake128") k3, .ref sh1⟩, ⟨PyData.keyHash w.params (Str.ofString "shake256"), .str (Str.ofString "shake256") k4, .ref sh2⟩, ⟨PyData.keyHash w.params (Str.ofString "element"), .str (Str.ofString "element") k5, .ref 505⟩, ⟨PyData.keyHash w.params (Str.ofString "element_ntt"), .str (Str.ofString "element_ntt") k6, .ref 569⟩,
  ⟨PyData.keyHash w.params (Str.ofString "ntt_zetas"), .str (Str.ofString "ntt_zetas") k7, .ref zl⟩, ⟨PyData.keyHash w.params (Str.ofString "ntt_f"), .str (Str.ofString "ntt_f") k8, .int 8347681 tf⟩] 8
local macro_rules | `(tactic| walk_at "pyIter ref") => `(tactic| k_dflt (k_extra "pyIter ref"))
local macro_rules | `(tactic| walk_at "call type:enumerate") => `(tactic| k_dflt (k_extra "call type:enumerate"))
local macro_rules | `(tactic| walk_at "call type:zip") => `(tactic| k_dflt (k_extra "call type:zip"))
local macro_rules | `(tactic| k_all) => `(tactic| with_reducible assumption)
local macro_rules | `(tactic| walk_at "call builtin:list.append") => `(tactic| (k_here; k_dflt ((show wpAny _ _ (call (Value.builtin "list.append") [Value.ref _, _]) _ _ _); refine' append_K ?k1 ?k2 ?k3 ?_ ?z; (case k1 => k_asm); (case k2 => k_asm); (case k3 => k_upd); (case z => size_fits); k_whole); intro h' F' N'; (try simp only [List.push_toArray] at N'); (try k_sweep)))
local macro_rules | `(tactic| walk_at "call ref") => `(tactic| (k_dflt (k_extra "call ref")))
local macro_rules | `(tactic| walk_at "exec For Name Call cons nil") => `(tactic| (k_here; kst_has; (rename Fr _ _ _ _ => lF'); (with_unfolding_all refine' For_invVF lF' ?k1 ?k2 ?_; (case k1 => exact rfl); (case k2 => exact rfl); k_whole)))
local macro_rules | `(tactic| walk_at "exec For Name Subscript cons nil") => `(tactic| (k_here; kst_has; (rename Fr _ _ _ _ => lF'); (with_unfolding_all refine' For_invVF lF' ?k1 ?k2 ?_; (case k1 => exact rfl); (case k2 => exact rfl); k_whole)))
local macro_rules | `(tactic| walk_at "subscriptTail") => `(tactic| k_dflt (k_extra "subscriptTail"))
local macro_rules | `(tactic| mul_fits) => `(tactic| first | exact mulR (by assumption) | exact mulL (by assumption) | exact mulLn (by assumption) | fail "mul_fits: none of ours")
local macro_rules | `(tactic| walk_at "exec For Tuple Call cons nil") => `(tactic| (k_here; (rename Fr _ _ _ _ => lF'); (with_unfolding_all refine' For_turns lF' ?_; k_whole)))
local macro_rules | `(tactic| k_room) => `(tactic| ktr_room)
local macro_rules | `(tactic| k_units) => `(tactic| ktr_units)
local macro_rules | `(tactic| walk_at "callWith ref") => `(tactic| (k_here; kco_here; k_dflt (refine' kcoKW ?k1 ?k2 ?k3 ?k4 ?k5 ?_; (case k1 => k_in); (case k2 => k_inst); (case k3 => rfl); (case k4 => k_is); (case k5 => exact rfl); k_whole)))
local macro_rules | `(tactic| ktr_unf) => `(tactic| k_dflt (first
  | (refine' code_def ?k1 ?k2 ?k3 ?k4 ?k5 ?kA ?kF ?kK ?k6 ?k7 ?k8 ?k9 ?kB ?_ ?c2 ?c3 ?c4 ?c5; (case kA => exact rfl); (case kF => exact rfl); (case kK => assumption); (case k1 => k_asm); (case k2 => k_asm); (case k3 => k_asm); (case k4 => k_asm); (case k5 => k_asm); (case k6 => k_is); (case k7 => k_is); (case k8 => ktr_room); (case k9 => first | exact BindsTo.of_eq rfl | exact binds_K (by k_in) rfl (by k_is) rfl rfl rfl | fail "k_enter: no rule for these arguments"); (case c5 => decide); (case kB => exact locs rfl); (case c2 => exact rfl); (case c3 => exact rfl); (case c4 => exact rfl); k_whole; intro g' L' h' FG' F' N' B' X' T'; (try dsimp only); (try k_lift B'); (try k_fold))
  | (refine' code_defC ?k1 ?k2 ?k3 ?k4 ?k5 ?kA ?kF ?kK ?k6 ?k7 ?k8 ?k9 ?kB ?kD ?_ ?c2 ?c3 ?c4; (case kA => exact rfl); (case kF => exact rfl); (case kK => assumption); (case k1 => k_asm); (case k2 => k_asm); (case k3 => k_asm); (case k4 => k_asm); (case k5 => k_asm); (case k6 => k_is); (case k7 => k_is); (case k8 => ktr_room); (case k9 => first | exact BindsTo.of_eq rfl | exact binds_K (by k_in) rfl (by k_is) rfl rfl rfl | fail "k_enter: no rule for these arguments"); (case kB => exact rfl); (case kD => decide +kernel); (case c2 => exact rfl); (case c3 => exact rfl); (case c4 => exact rfl); k_whole; intro g' L' h' tk' cells' FG' F' N' Y' B' X' T' l1; (try k_lt l1); k_cells Y'; (try simp only [List.cons_append, List.nil_append] at N'); (try dsimp only); (try k_lift B'); (try k_fold))))
local macro_rules | `(tactic| walk_at "call builtin:len") => `(tactic| (k_here; (with_reducible show wpAny _ _ (call (Value.builtin "len") [Value.ref _]) _ _ _); k_dflt (refine' kst_len ?k1 ?k2 ?k3 ?k4 ?_; (case k1 => k_asm); (case k2 => first | with_reducible assumption | k_mem); (case k3 => exact IntsAre.length (by assumption)); (case k4 => omega); k_whole)))
local macro_rules | `(tactic| k_mem) => `(tactic| (k_dflt assumption))
local macro_rules | `(tactic| walk_at "exec While Compare cons nil") => `(tactic| (k_dflt (k_extra "exec While Compare cons nil")))
local macro_rules | `(tactic| walk_at "subscriptTail Name Slice ref ref") => `(tactic| (k_here; (with_reducible show wpAny _ _ (subscriptTail _ (PySem.Expr.Slice none none none _) (Value.ref _) (Value.ref _)) _ _ _); k_dflt (refine' slice_cp ?F ?N ?l ?z ?_ ?s ?t; (case F => k_asm); (case N => k_asm); (case l => k_mem); (case s => with_unfolding_all rfl); (case t => intro _; with_unfolding_all rfl); (case z => rw [IntsAre.length (by assumption), sizeLine_eq]; omega)); intro D' h' F' N' l1; (try k_lt l1); (try k_sweep)))
local macro_rules | `(tactic| walk_at "subscriptTail Attribute Slice ref ref") => `(tactic| (k_here; (with_reducible show wpAny _ _ (subscriptTail _ (PySem.Expr.Slice none none none _) (Value.ref _) (Value.ref _)) _ _ _); k_dflt (refine' slice_cp ?F ?N ?l ?z ?_ ?s ?t; (case F => k_asm); (case N => k_asm); (case l => k_mem); (case s => with_unfolding_all rfl); (case t => intro _; with_unfolding_all rfl); (case z => rw [IntsAre.length (by assumption), sizeLine_eq]; omega)); intro D' h' F' N' l1; (try k_lt l1); (try k_sweep)))
local macro_rules | `(tactic| walk_at "getMethod ref") => `(tactic| (k_here; (with_reducible show wpAny _ _ (getMethod (Value.ref _) (PySem.Str.ofString "parent") _) _ _ _); k_dflt (refine' kmu_own ?k1 ?k2 ?k3 ?k4 ?k5 ?_; (case k1 => k_asm); (case k2 => k_asm); (case k3 => k_inst); (case k4 => k_is); (case k5 => k_is); k_whole)))
local macro_rules | `(tactic| walk_at "eval Name") => `(tactic| (k_here; k_dflt (refine' nameX_L ?F ?v ?_ ?a ?b; (case F => k_asm); (case a => first | rfl | assumption); (case b => rfl); (case v => rfl); k_whole)))
section
variable {w : World} {p : Program} {loose : List Str} {mean : ExcName → Option Value} {mg mb : Str → Option Value} {dp un : Nat} {gd : Option (List Code)} {cn : Str} {cs : Scope} {a : Addr} {ccd : Value} {cl : List (Str × Addr)} {outer : List Env} {A₀ : Around} {base h₀ : Heap} {L : Addr} {m : Str → Option Value} {news : List (Addr × Obj)} {s : Shared} {Q E : Value → Shared → Prop}
  (B : Below A₀ base outer h₀) (F : Fr h₀ L s.heap m) (X : (Ntt.hd.heap_39 w.params).In h₀) (N : News h₀ L s.heap news) (T : Top p loose mean mg mb h₀) (hk : cs.kind = .function)
include B F X N T hk
set_option maxRecDepth 100000 in
set_option maxHeartbeats 8000000 in
theorem ringcallT_spec (hd : dp + 8 < recursionLimit) (hu : un + 40 < cLine) {ring dring sh1 sh2 zl lc : Addr} {cits : List Value} {ns : List Int} {c1 : Nat} {k1 k2 k3 k4 k5 k6 k7 k8 tq tn tf : Tok}
   (hm1 : (ring, instObj 369 dring) ∈ news) (hm2 : (dring, ringD w k1 k2 k3 k4 k5 k6 k7 k8 sh1 sh2 zl tq tn tf) ∈ news) (hm3 : (lc, W.listOf cits.toArray c1) ∈ news) (hi3 : IntsAre cits ns) (hl3 : ns.length = 256)
   (hret : ∀ x d k1 k2 h' tk', Fr h₀ L h' m → News h₀ L h' ((x, instObj 569 d) :: (d, polyD w k1 k2 ring lc) :: news) → (∀ q ∈ news, q.1 < d) → d < x → Q (.ref x) { s with heap := h', toks := tk' }) :
    wpAny (model PySem.Challenge.rw_oo0012_03.row.prog w) (ktrTop dp un gd cn cs L a ccd cl outer) (call (.ref ring) [.ref lc] [(Str.ofString "is_ntt", Value.bool true)]) Q E s := by
  w_on
  k_with_none
  revert X; k_fill; intro X
  refine wpAny_call ?_
  refine' kco_code ?k1 ?k2 ?k3 ?k4 ?k5 ?k6 ?_
  (case k1 => k_in)
  (case k2 => k_dflt k_inst)
  (case k3 => rfl)
  (case k4 => k_dflt k_is)
  (case k5 => k_dflt k_is)
  (case k6 => k_dflt k_is)
  (try dsimp only)
  ktr_unf
  k_steps
  exact hret _ _ _ _ _ _ (by assumption) (by assumption) (by first | assumption | exact kst_ltOf (by assumption)) (by assumption)
set_option maxRecDepth 100000 in
set_option maxHeartbeats 8000000 in
theorem ringcallF_spec (hd : dp + 8 < recursionLimit) (hu : un + 40 < cLine) {ring dring sh1 sh2 zl lc : Addr} {cits : List Value} {ns : List Int} {c1 : Nat} {k1 k2 k3 k4 k5 k6 k7 k8 tq tn tf : Tok}
   (hm1 : (ring, instObj 369 dring) ∈ news) (hm2 : (dring, ringD w k1 k2 k3 k4 k5 k6 k7 k8 sh1 sh2 zl tq tn tf) ∈ news) (hm3 : (lc, W.listOf cits.toArray c1) ∈ news) (hi3 : IntsAre cits ns) (hl3 : ns.length = 256)
   (hret : ∀ x d k1 k2 h' tk', Fr h₀ L h' m → News h₀ L h' ((x, instObj 505 d) :: (d, polyD w k1 k2 ring lc) :: news) → (∀ q ∈ news, q.1 < d) → d < x → Q (.ref x) { s with heap := h', toks := tk' }) :
    wpAny (model PySem.Challenge.rw_oo0012_03.row.prog w) (ktrTop dp un gd cn cs L a ccd cl outer) (call (.ref ring) [.ref lc] [(Str.ofString "is_ntt", Value.bool false)]) Q E s := by
  w_on
  k_with_none
  revert X; k_fill; intro X
  refine wpAny_call ?_
  refine' kco_code ?k1 ?k2 ?k3 ?k4 ?k5 ?k6 ?_
  (case k1 => k_in)
  (case k2 => k_dflt k_inst)
  (case k3 => rfl)
  (case k4 => k_dflt k_is)
  (case k5 => k_dflt k_is)
  (case k6 => k_dflt k_is)
  (try dsimp only)
  ktr_unf
  k_steps
  exact hret _ _ _ _ _ _ (by assumption) (by assumption) (by first | assumption | exact kst_ltOf (by assumption)) (by assumption)
set_option maxRecDepth 100000 in
set_option maxHeartbeats 8000000 in
theorem ringcallN_spec (hd : dp + 8 < recursionLimit) (hu : un + 40 < cLine) {ring dring sh1 sh2 zl lc : Addr} {cits : List Value} {ns : List Int} {c1 : Nat} {k1 k2 k3 k4 k5 k6 k7 k8 tq tn tf : Tok}
   (hm1 : (ring, instObj 369 dring) ∈ news) (hm2 : (dring, ringD w k1 k2 k3 k4 k5 k6 k7 k8 sh1 sh2 zl tq tn tf) ∈ news) (hm3 : (lc, W.listOf cits.toArray c1) ∈ news) (hi3 : IntsAre cits ns) (hl3 : ns.length = 256)
   (hret : ∀ x d k1 k2 h' tk', Fr h₀ L h' m → News h₀ L h' ((x, instObj 505 d) :: (d, polyD w k1 k2 ring lc) :: news) → (∀ q ∈ news, q.1 < d) → d < x → Q (.ref x) { s with heap := h', toks := tk' }) :
    wpAny (model PySem.Challenge.rw_oo0012_03.row.prog w) (ktrTop dp un gd cn cs L a ccd cl outer) (call (.ref ring) [.ref lc] []) Q E s := by
  w_on
  k_with_none
  revert X; k_fill; intro X
  refine wpAny_call ?_
  refine' kco_code ?k1 ?k2 ?k3 ?k4 ?k5 ?k6 ?_
  (case k1 => k_in)
  (case k2 => k_dflt k_inst)
  (case k3 => rfl)
  (case k4 => k_dflt k_is)
  (case k5 => k_dflt k_is)
  (case k6 => k_dflt k_is)
  (try dsimp only)
  ktr_unf
  k_steps
  exact hret _ _ _ _ _ _ (by assumption) (by assumption) (by first | assumption | exact kst_ltOf (by assumption)) (by assumption)
end
end Ntt
end

section
open PySem PySem.W PySem.Calls PyProof.Rows PyProof.V PySem.Spec
namespace Ntt
local macro_rules | `(tactic| walk_at "none 0") => `(tactic| skip)
/-- the lengths of the levels: 128, 64 .. 1, 0 -/
def lv (lev : Nat) : Nat := 128 / 2 ^ lev
def nb (lev : Nat) : Nat := 2 ^ lev
/-- where a block starts -/
def stt (l b : Nat) : Nat := 2 * l * b
def bf (z : Int) (l : Nat) (cs : List Int) (j : Nat) : List Int :=
  (cs.set (j + l) (cs.getD j 0 - z * cs.getD (j + l) 0)).set j ((cs.set (j + l) (cs.getD j 0 - z * cs.getD (j + l) 0)).getD j 0 + z * cs.getD (j + l) 0)
def blk (z : Int) (l st : Nat) (cs : List Int) : Nat → List Int
  | 0 => cs
  | i + 1 => bf z l (blk z l st cs i) (st + i)
def lvl (zs : List Int) (l k0 : Nat) (cs : List Int) : Nat → List Int
  | 0 => cs
  | b + 1 => blk (zs.getD (k0 + b + 1) 0) l (stt l b) (lvl zs l k0 cs b) l
def nttU (zs cs : List Int) : Nat → List Int
  | 0 => cs
  | lev + 1 => lvl zs (lv lev) (nb lev - 1) (nttU zs cs lev) (nb lev)
def redF (cs : List Int) : Nat → List Int
  | 0 => cs
  | j + 1 => (redF cs j).set j (((redF cs j).getD j 0).fmod 8380417)
theorem bf_len (z : Int) (l : Nat) (cs : List Int) (j : Nat) : (bf z l cs j).length = cs.length := by simp [bf]
theorem blk_len (z : Int) (l st : Nat) (cs : List Int) : ∀ i, (blk z l st cs i).length = cs.length
  | 0 => rfl
  | i + 1 => by rw [blk, bf_len, blk_len z l st cs i]
theorem lvl_len (zs : List Int) (l k0 : Nat) (cs : List Int) : ∀ b, (lvl zs l k0 cs b).length = cs.length
  | 0 => rfl
  | b + 1 => by rw [lvl, blk_len, lvl_len zs l k0 cs b]
theorem nttU_len (zs cs : List Int) : ∀ lev, (nttU zs cs lev).length = cs.length
  | 0 => rfl
  | lev + 1 => by rw [nttU, lvl_len, nttU_len zs cs lev]
theorem redF_len (cs : List Int) : ∀ j, (redF cs j).length = cs.length
  | 0 => rfl
  | j + 1 => by rw [redF, List.length_set, redF_len cs j]
theorem stt_succ (l b : Nat) : stt l (b + 1) = stt l b + 2 * l := by unfold stt; rw [Nat.mul_add, Nat.mul_one]
theorem lev_cases {P : Nat → Prop} (h0 : P 0) (h1 : P 1) (h2 : P 2) (h3 : P 3) (h4 : P 4) (h5 : P 5) (h6 : P 6) (h7 : P 7) : ∀ lev, lev < 8 → P lev
  | 0, _ => h0 | 1, _ => h1 | 2, _ => h2 | 3, _ => h3 | 4, _ => h4 | 5, _ => h5 | 6, _ => h6 | 7, _ => h7
  | n + 8, h => absurd h (by omega)
theorem lv_nb : ∀ lev, lev < 8 → lv lev * nb lev = 128 ∧ 0 < lv lev ∧ 0 < nb lev ∧ lv lev ≤ 128 ∧ nb lev ≤ 128 ∧ lv (lev + 1) = lv lev / 2 ∧ nb (lev + 1) = 2 * nb lev :=
  lev_cases (by decide) (by decide) (by decide) (by decide) (by decide) (by decide) (by decide) (by decide)
theorem lv_pos {lev : Nat} (h : lev ≤ 8) (hp : 0 < lv lev) : lev < 8 := by
  rcases Nat.lt_or_ge lev 8 with h1 | h1
  · exact h1
  · have : lev = 8 := by omega
    subst this; exact absurd hp (by decide)
theorem stt_le {lev b : Nat} (h : lev < 8) (hb : b < nb lev) : stt (lv lev) b + 2 * lv lev ≤ 256 := by
  have h1 := (lv_nb lev h).1
  have h2 : lv lev * (b + 1) ≤ lv lev * nb lev := Nat.mul_le_mul_left _ hb
  unfold stt
  rw [Nat.mul_assoc]
  rw [Nat.mul_add, Nat.mul_one] at h2
  omega
theorem stt_lt {lev b : Nat} (h : lev < 8) (hb : stt (lv lev) b < 256) : b < nb lev := by
  have h1 := (lv_nb lev h).1
  rcases Nat.lt_or_ge b (nb lev) with h2 | h2
  · exact h2
  · have h3 : lv lev * nb lev ≤ lv lev * b := Nat.mul_le_mul_left _ h2
    unfold stt at hb
    rw [Nat.mul_assoc] at hb
    omega
theorem rangeSize_add (a n : Nat) : Builtin.Range.rangeSize (a : Int) ((a : Int) + (n : Int)) 1 = (n : Int) := by
  have h := rangeSize_nat (a : Int) ((a : Int) + (n : Int))
  rw [h]; omega
local macro_rules | `(tactic| walk_at "pyIter ref") => `(tactic| k_dflt (k_extra "pyIter ref"))
local macro_rules | `(tactic| walk_at "call type:enumerate") => `(tactic| k_dflt (k_extra "call type:enumerate"))
local macro_rules | `(tactic| walk_at "call type:zip") => `(tactic| k_dflt (k_extra "call type:zip"))
local macro_rules | `(tactic| k_all) => `(tactic| with_reducible assumption)
local macro_rules | `(tactic| walk_at "call builtin:list.append") => `(tactic| (k_here; k_dflt ((show wpAny _ _ (call (Value.builtin "list.append") [Value.ref _, _]) _ _ _); refine' append_K ?k1 ?k2 ?k3 ?_ ?z; (case k1 => k_asm); (case k2 => k_asm); (case k3 => k_upd); (case z => size_fits); k_whole); intro h' F' N'; (try simp only [List.push_toArray] at N'); (try k_sweep)))
local macro_rules | `(tactic| walk_at "call ref") => `(tactic| (k_dflt (k_extra "call ref")))
local macro_rules | `(tactic| walk_at "exec For Name Call cons nil") => `(tactic| (k_here; kst_has; (rename Fr _ _ _ _ => lF'); (with_unfolding_all refine' For_invVF lF' ?k1 ?k2 ?_; (case k1 => exact rfl); (case k2 => exact rfl); k_whole)))
local macro_rules | `(tactic| walk_at "exec For Name Subscript cons nil") => `(tactic| (k_here; kst_has; (rename Fr _ _ _ _ => lF'); (with_unfolding_all refine' For_invVF lF' ?k1 ?k2 ?_; (case k1 => exact rfl); (case k2 => exact rfl); k_whole)))
local macro_rules | `(tactic| walk_at "subscriptTail") => `(tactic| k_dflt (k_extra "subscriptTail"))
local macro_rules | `(tactic| mul_fits) => `(tactic| first | exact mulR (by assumption) | exact mulL (by assumption) | exact mulLn (by assumption) | fail "mul_fits: none of ours")
local macro_rules | `(tactic| walk_at "exec For Tuple Call cons nil") => `(tactic| (k_here; (rename Fr _ _ _ _ => lF'); (with_unfolding_all refine' For_turns lF' ?_; k_whole)))
local macro_rules | `(tactic| k_room) => `(tactic| ktr_room)
local macro_rules | `(tactic| k_units) => `(tactic| ktr_units)
local macro_rules | `(tactic| walk_at "callWith ref") => `(tactic| (k_here; kco_here; k_dflt (refine' kcoKW ?k1 ?k2 ?k3 ?k4 ?k5 ?_; (case k1 => k_in); (case k2 => k_inst); (case k3 => rfl); (case k4 => k_is); (case k5 => exact rfl); k_whole)))
local macro_rules | `(tactic| ktr_unf) => `(tactic| k_dflt (first
  | (refine' code_def ?k1 ?k2 ?k3 ?k4 ?k5 ?kA ?kF ?kK ?k6 ?k7 ?k8 ?k9 ?kB ?_ ?c2 ?c3 ?c4 ?c5; (case kA => exact rfl); (case kF => exact rfl); (case kK => assumption); (case k1 => k_asm); (case k2 => k_asm); (case k3 => k_asm); (case k4 => k_asm); (case k5 => k_asm); (case k6 => k_is); (case k7 => k_is); (case k8 => ktr_room); (case k9 => first | exact BindsTo.of_eq rfl | exact binds_K (by k_in) rfl (by k_is) rfl rfl rfl | fail "k_enter: no rule for these arguments"); (case c5 => decide); (case kB => exact locs rfl); (case c2 => exact rfl); (case c3 => exact rfl); (case c4 => exact rfl); k_whole; intro g' L' h' FG' F' N' B' X' T'; (try dsimp only); (try k_lift B'); (try k_fold))
  | (refine' code_defC ?k1 ?k2 ?k3 ?k4 ?k5 ?kA ?kF ?kK ?k6 ?k7 ?k8 ?k9 ?kB ?kD ?_ ?c2 ?c3 ?c4; (case kA => exact rfl); (case kF => exact rfl); (case kK => assumption); (case k1 => k_asm); (case k2 => k_asm); (case k3 => k_asm); (case k4 => k_asm); (case k5 => k_asm); (case k6 => k_is); (case k7 => k_is); (case k8 => ktr_room); (case k9 => first | exact BindsTo.of_eq rfl | exact binds_K (by k_in) rfl (by k_is) rfl rfl rfl | fail "k_enter: no rule for these arguments"); (case kB => exact rfl); (case kD => decide +kernel); (case c2 => exact rfl); (case c3 => exact rfl); (case c4 => exact rfl); k_whole; intro g' L' h' tk' cells' FG' F' N' Y' B' X' T' l1; (try k_lt l1); k_cells Y'; (try simp only [List.cons_append, List.nil_append] at N'); (try dsimp only); (try k_lift B'); (try k_fold))))
local macro_rules | `(tactic| walk_at "call builtin:len") => `(tactic| (k_here; (with_reducible show wpAny _ _ (call (Value.builtin "len") [Value.ref _]) _ _ _); k_dflt (refine' kst_len ?k1 ?k2 ?k3 ?k4 ?_; (case k1 => k_asm); (case k2 => first | with_reducible assumption | k_mem); (case k3 => exact IntsAre.length (by assumption)); (case k4 => omega); k_whole)))
local macro_rules | `(tactic| k_mem) => `(tactic| (k_dflt assumption))
local macro_rules | `(tactic| walk_at "exec While Compare cons nil") => `(tactic| (k_dflt (k_extra "exec While Compare cons nil")))
local macro_rules | `(tactic| walk_at "subscriptTail Name Slice ref ref") => `(tactic| (k_here; (with_reducible show wpAny _ _ (subscriptTail _ (PySem.Expr.Slice none none none _) (Value.ref _) (Value.ref _)) _ _ _); k_dflt (refine' slice_cp ?F ?N ?l ?z ?_ ?s ?t; (case F => k_asm); (case N => k_asm); (case l => k_mem); (case s => with_unfolding_all rfl); (case t => intro _; with_unfolding_all rfl); (case z => rw [IntsAre.length (by assumption), sizeLine_eq]; omega)); intro D' h' F' N' l1; (try k_lt l1); (try k_sweep)))
local macro_rules | `(tactic| walk_at "subscriptTail Attribute Slice ref ref") => `(tactic| (k_here; (with_reducible show wpAny _ _ (subscriptTail _ (PySem.Expr.Slice none none none _) (Value.ref _) (Value.ref _)) _ _ _); k_dflt (refine' slice_cp ?F ?N ?l ?z ?_ ?s ?t; (case F => k_asm); (case N => k_asm); (case l => k_mem); (case s => with_unfolding_all rfl); (case t => intro _; with_unfolding_all rfl); (case z => rw [IntsAre.length (by assumption), sizeLine_eq]; omega)); intro D' h' F' N' l1; (try k_lt l1); (try k_sweep)))
local macro_rules | `(tactic| walk_at "getMethod ref") => `(tactic| (k_here; (with_reducible show wpAny _ _ (getMethod (Value.ref _) (PySem.Str.ofString "parent") _) _ _ _); k_dflt (refine' kmu_own ?k1 ?k2 ?k3 ?k4 ?k5 ?_; (case k1 => k_asm); (case k2 => k_asm); (case k3 => k_inst); (case k4 => k_is); (case k5 => k_is); k_whole)))
local macro_rules | `(tactic| walk_at "eval Name") => `(tactic| (k_here; k_dflt (refine' nameX_L ?F ?v ?_ ?a ?b; (case F => k_asm); (case a => first | rfl | assumption); (case b => rfl); (case v => rfl); k_whole)))
section
variable {w : World} {p : Program} {loose : List Str} {mean : ExcName → Option Value} {mg mb : Str → Option Value} {dp un : Nat} {gd : Option (List Code)} {cn : Str} {cs : Scope} {a : Addr} {ccd : Value} {cl : List (Str × Addr)} {outer : List Env} {A₀ : Around} {base h₀ : Heap} {L : Addr} {m : Str → Option Value} {news : List (Addr × Obj)} {s : Shared} {Q E : Value → Shared → Prop}
  (B : Below A₀ base outer h₀) (F : Fr h₀ L s.heap m) (X : (Ntt.hd.heap_39 w.params).In h₀) (N : News h₀ L s.heap news) (T : Top p loose mean mg mb h₀) (hk : cs.kind = .function)
include B F X N T hk
set_option maxRecDepth 100000 in
set_option maxHeartbeats 8000000 in
theorem tontt_spec (hd : dp + 12 < recursionLimit) (hu : un + 60 < cLine) {x dx ring dring sh1 sh2 zl lc : Addr} {cits zits : List Value} {ns zs : List Int} {c1 c2 : Nat} {k1 k2 k3 k4 k5 k6 k7 k8 k9 k10 tq tn tf : Tok}
   (hm1 : (ring, instObj 369 dring) ∈ news) (hm2 : (dring, ringD w k1 k2 k3 k4 k5 k6 k7 k8 sh1 sh2 zl tq tn tf) ∈ news) (hm3 : (lc, W.listOf cits.toArray c1) ∈ news) (hi3 : IntsAre cits ns) (hl3 : ns.length = 256)
   (hm4 : (x, instObj 505 dx) ∈ news) (hm5 : (dx, polyD w k9 k10 ring lc) ∈ news) (hm6 : (zl, W.listOf zits.toArray c2) ∈ news) (hi6 : IntsAre zits zs) (hl6 : zs.length = 256) (hs6 : SmallL zs)
   (hret : ∀ y d l its c k1 k2 h' tk', Fr h₀ L h' m → News h₀ L h' ((y, instObj 569 d) :: (d, polyD w k1 k2 ring l) :: (l, W.listOf (List.toArray its) c) :: news) → (∀ q ∈ news, q.1 < l) → l < d → d < y → IntsAre its (redF (nttU zs ns 8) 256) → Q (.ref y) { s with heap := h', toks := tk' }) :
    wpAny (model PySem.Challenge.rw_oo0012_03.row.prog w) (ktrTop dp un gd cn cs L a ccd cl outer) (call (.ref 392) [.ref x]) Q E s := by
  w_on
  k_with_none
  revert X; k_fill; intro X
  k_with "exec While Compare cons nil" => refine Hold.out ?_
  k_with "pyIter ref" => refine Hold.out ?_
  k_with "call ref" => (
    refine' ringcallT_spec ?B ?F ?X ?N ?T ?hk ?hd ?hu ?hm1 ?hm2 ?hm3 ?hi3 ?hl3 ?hret
    (case B => k_asm)
    (case F => k_asm)
    (case X => k_asm)
    (case N => k_asm)
    (case T => k_asm)
    (case hk => first | exact rfl | assumption)
    (case hd => ktr_room)
    (case hu => ktr_units)
    (case hm1 => k_mem)
    (case hm2 => k_mem)
    (case hm3 => k_mem)
    (case hi3 => with_reducible assumption)
    (case hl3 => with_reducible assumption)
    intro x9 d9 k9 k9' h9 tk9 F9 N9 l9 l9'
    (try dsimp only)
    (try k_fold))
  refine wpAny_call ?_
  ktr_unf
  k_steps
  refine ⟨?_⟩
  have hnD := kst_ltOf (And.right (by assumption : _ ∧ AllLt _ news))
  have hoffD := off_lt hnD
  (with_reducible show wpAny _ _ (exec (Stmt.While (Expr.Compare _ [CmpOp.Gt] _ _) _ _ _) _) _ _ _)
  rename Fr _ _ _ _ => lF'
  rename News _ _ _ _ => lN'
  refine' whileL (news := news) (τ := Nat × (Int × Nat) × (Int × Nat))
    (fun c => [(Str.ofString "self", .ref x), (Str.ofString "k", .int c.2.1.1 c.2.1.2), (Str.ofString "l", .int c.2.2.1 c.2.2.2), (Str.ofString "coeffs", .ref _), (Str.ofString "zetas", .ref zl)])
    (fun c ms => (c.1 ≤ 8 ∧ c.2.1.1 = (nb c.1 : Int) - 1 ∧ c.2.2.1 = (lv c.1 : Int)) ∧ ms = nttU zs ns c.1) (fun c => c.1 = 8) (fun c => 8 - c.1) (0, (_, _), (_, _)) lF' (kst_newsOf lN' (by kst_inAny)) (by assumption) ?kk ?ki (Hold.out ?turn) (Hold.out ?done) ?hE
  (case kk => kst_all)
  (case ki => exact ⟨⟨Nat.zero_le _, rfl, show (128 : Int) = ((lv 0 : Nat) : Int) by decide⟩, rfl⟩)
  (case hE => passes_own)
  all_goals (try clear lF' lN')
  case turn =>
    refine ⟨?_⟩
    rintro ⟨lev, ⟨kv, tkk⟩, ⟨lvv, tl⟩⟩ its ms cnt u h tk Q' QD hi ⟨⟨hlev, hkv, hlv⟩, hms⟩ F1 N1 nx nd
    dsimp only at hlev hkv hlv hms F1 nx nd ⊢
    k_steps
    · refine ⟨?_⟩
      have hl8 : lev < 8 := lv_pos hlev (by omega)
      obtain ⟨hln1, hln2, hln3, hln4, hln5, hln6, hln7⟩ := lv_nb lev hl8
      rename Fr _ _ _ _ => lF'
      rename News _ _ _ _ => lN'
      refine' whileL (news := news) (τ := Nat × (Int × Nat) × (Int × Nat))
        (fun c => [(Str.ofString "self", .ref x), (Str.ofString "k", .int c.2.1.1 c.2.1.2), (Str.ofString "l", .int lvv tl), (Str.ofString "start", .int c.2.2.1 c.2.2.2), (Str.ofString "coeffs", .ref _), (Str.ofString "zetas", .ref zl)])
        (fun c ms' => (c.1 ≤ nb lev ∧ c.2.1.1 = (nb lev : Int) - 1 + (c.1 : Int) ∧ c.2.2.1 = (stt (lv lev) c.1 : Int)) ∧ ms' = lvl zs (lv lev) (nb lev - 1) ms c.1) (fun c => c.1 = nb lev) (fun c => nb lev - c.1) (0, (_, _), (_, _)) lF' (kst_newsOf lN' (by kst_inAny)) (by assumption) ?kk ?ki (Hold.out ?turnB) (Hold.out ?doneB) ?hE
      (case kk => kst_all)
      (case ki => exact ⟨⟨Nat.zero_le _, by (show kv = (nb lev : Int) - 1 + ((0 : Nat) : Int)); omega, by simp [stt]⟩, rfl⟩)
      (case hE => passes_own)
      all_goals (try clear lF' lN')
      case turnB =>
        refine ⟨?_⟩
        rintro ⟨b, ⟨kw, tkw⟩, ⟨sv, ts⟩⟩ its' ms' cnt' u' h' tk' Q'' QD' hi' ⟨⟨hb, hkw, hsv⟩, hms'⟩ F2 N2 nx' nd'
        dsimp only at hb hkw hsv hms' F2 nx' nd' ⊢
        have hml : ms'.length = 256 := by rw [hms', lvl_len, hms, nttU_len, hl3]
        by_cases hbn : b < nb lev
        · have hst := stt_le hl8 hbn
          k_steps
          refine ⟨?_⟩
          rename Fr _ _ _ _ => lF'
          rename News _ _ _ _ => lN'
          rename IsRange _ _ _ _ _ _ _ _ => rgX
          refine' rangeL (news := news) (τ := Int × Nat)
            (fun c => [(Str.ofString "self", .ref x), (Str.ofString "k", .int (kw + 1) _), (Str.ofString "l", .int lvv tl), (Str.ofString "start", .int sv ts), (Str.ofString "coeffs", .ref _), (Str.ofString "zetas", .ref zl), (Str.ofString "zeta", .int (zs.getD (kw + 1).toNat 0) _), (Str.ofString "j", .int c.1 c.2)])
            (fun i c ms'' => c.1 = sv + ((i - 1 : Nat) : Int) ∧ ms'' = blk (zs.getD (kw + 1).toNat 0) (lv lev) (stt (lv lev) b) ms' i) (_, _) (lv lev) (by rfl) rgX (small_one (by omega) (by omega) (by omega) (by omega)) (by rw [hsv, hlv]; exact rangeSize_add _ _) lF' (kst_newsOf lN' (by kst_inAny)) (by assumption) (by assumption) ?kk ?ki (Hold.out ?turnC) (Hold.out ?doneC)
          (case kk => kst_all)
          (case ki => exact ⟨by (show sv = sv + ((0 - 1 : Nat) : Int)); omega, rfl⟩)
          all_goals (try clear lF' lN' rgX)
          case turnC =>
            refine ⟨?_⟩
            rintro i ⟨jv, tj⟩ its3 ms3 cnt3 t3 u3 h3 tk3 rest Q3 hlt hi3' ⟨hjv, hms3⟩ hsub hoff F3 N3 nx3
            dsimp only at hjv F3 nx3 ⊢
            have hm3l : ms3.length = 256 := by rw [hms3, blk_len, hml]
            have e1 : (sv + (i : Int) + lvv).toNat = stt (lv lev) b + i + lv lev := by omega
            have e2 : (sv + (i : Int)).toNat = stt (lv lev) b + i := by omega
            k_steps
            refine nx3 (_, _) _ _ _ _ _ _ (by assumption) (by assumption) (by assumption) (by kst_all) ⟨?_, ?_⟩
            · show sv + (i : Int) = sv + ((i + 1 - 1 : Nat) : Int); omega
            · rw [blk, bf, ← hms3, e1, e2]
          case doneC =>
            refine ⟨?_⟩
            rintro ⟨jv, tj⟩ its3 ms3 cnt3 u3 h3 tk3 hi3' ⟨hjv, hms3⟩ F3 N3
            dsimp only at hjv F3 ⊢
            k_steps
            refine nx' (b + 1, (_, _), (_, _)) _ _ _ _ _ _ (by assumption) (by assumption) hi3' (by kst_all) ⟨⟨⟨?_, ?_, ?_⟩, ?_⟩, ?_⟩
            · exact hbn
            · show kw + 1 = (nb lev : Int) - 1 + ((b + 1 : Nat) : Int); omega
            · show lvv + (jv + 1) = ((stt (lv lev) (b + 1) : Nat) : Int); rw [stt_succ]; omega
            · show ms3 = lvl zs (lv lev) (nb lev - 1) ms (b + 1)
              rw [lvl, ← hms', show nb lev - 1 + b + 1 = (kw + 1).toNat by omega]; exact hms3
            · show nb lev - (b + 1) < nb lev - b; omega
        · have hbe : b = nb lev := by omega
          have h256 : stt (lv lev) b = 256 := by unfold stt; rw [hbe, Nat.mul_assoc]; omega
          k_steps
          exact nd' _ _ hbe (by assumption) (by assumption)
      case doneB =>
        refine ⟨?_⟩
        rintro ⟨b, ⟨kw, tkw⟩, ⟨sv, ts⟩⟩ its' ms' cnt' u' h' tk' hD hi' ⟨⟨hb, hkw, hsv⟩, hms'⟩ F2 N2
        dsimp only at hD hb hkw hsv hms' F2 ⊢
        k_steps
        refine nx (lev + 1, (_, _), (_, _)) _ _ _ _ _ _ (by assumption) (by assumption) hi' (by kst_all) ⟨⟨⟨?_, ?_, ?_⟩, ?_⟩, ?_⟩
        · exact hl8
        · show kw = ((nb (lev + 1) : Nat) : Int) - 1; omega
        · show lvv.fdiv 2 = ((lv (lev + 1) : Nat) : Int)
          rw [hlv, hln6, Int.fdiv_eq_ediv_of_nonneg _ (by decide)]; omega
        · show ms' = nttU zs ns (lev + 1)
          rw [nttU, ← hms, hms', hD]
        · show 8 - (lev + 1) < 8 - lev; omega
    · exact nd _ _ (by rcases Nat.lt_or_ge lev 8 with h8 | h8; (have := (lv_nb lev h8).2.1; omega); omega) (by assumption) (by assumption)
  case done =>
    refine ⟨?_⟩
    rintro ⟨lev, ⟨kv, tkk⟩, ⟨lvv, tl⟩⟩ its ms cnt u h tk hD hi ⟨⟨hlev, hkv, hlv⟩, hms⟩ F1 N1
    dsimp only at hD hlev hkv hlv hms F1 ⊢
    (try k_fold)
    k_steps
    refine ⟨?_⟩
    rename Fr _ _ _ _ => lF'
    rename News _ _ _ _ => lN'
    rename IsRange _ _ _ _ _ _ _ _ => rgX
    refine' rangeL (news := news) (τ := Unit)
      (fun _ => [(Str.ofString "self", .ref x), (Str.ofString "coeffs", .ref _)])
      (fun i _ ms' => ms' = redF ms i) () 256 (by rfl) rgX (by decide) (by decide) lF' (kst_newsOf lN' (by kst_inAny)) (by assumption) (by assumption) ?kk ?ki (Hold.out ?turnD) (Hold.out ?doneD)
    (case kk => kst_all)
    (case ki => rfl)
    all_goals (try clear lF' lN' rgX)
    case turnD =>
      refine ⟨?_⟩
      rintro i ⟨⟩ its3 ms3 cnt3 t3 u3 h3 tk3 rest Q3 hlt hi3' hms3 hsub hoff F3 N3 nx3
      dsimp only at F3 nx3 ⊢
      have hm3l : ms3.length = 256 := by rw [hms3, redF_len, hms, nttU_len, hl3]
      have e2 : ((0 : Int) + (i : Int)).toNat = i := by omega
      k_steps
      refine nx3 () _ _ _ _ _ _ (by assumption) (by assumption) (by assumption) (by kst_all) ?_
      rw [redF, ← hms3, e2]
    case doneD =>
      refine ⟨?_⟩
      rintro ⟨⟩ its3 ms3 cnt3 u3 h3 tk3 hi3' hms3 F3 N3
      have hm3l : ms3.length = 256 := by rw [hms3, redF_len, hms, nttU_len, hl3]
      (try k_fold)
      k_steps
      rename (∀ q ∈ _ :: news, q.1 < _) => hlast
      rw [hms3, hms, hD] at hi3'
      exact hret _ _ _ _ _ _ _ _ _ (by assumption) (by assumption) hnD (hlast _ (.head _)) (by assumption) hi3'
end
end Ntt
end

section
open PySem PySem.W PySem.Calls PyProof.Rows PyProof.V PySem.Spec
namespace Ntt
local macro_rules | `(tactic| walk_at "none 0") => `(tactic| skip)
local macro_rules | `(tactic| walk_at "none 1") => `(tactic| skip)
def kk (lev : Nat) : Nat := 256 / 2 ^ lev
def bi (z : Int) (l : Nat) (cs : List Int) (j : Nat) : List Int :=
  let c1 := cs.set j (cs.getD j 0 + cs.getD (j + l) 0)
  let c2 := c1.set (j + l) (cs.getD j 0 - c1.getD (j + l) 0)
  c2.set (j + l) (z * c2.getD (j + l) 0)
def blkI (z : Int) (l st : Nat) (cs : List Int) : Nat → List Int
  | 0 => cs
  | i + 1 => bi z l (blkI z l st cs i) (st + i)
def lvlI (zs : List Int) (l k0 : Nat) (cs : List Int) : Nat → List Int
  | 0 => cs
  | b + 1 => blkI (-(zs.getD (k0 - b - 1) 0)) l (stt l b) (lvlI zs l k0 cs b) l
def nttI (zs cs : List Int) : Nat → List Int
  | 0 => cs
  | lev + 1 => lvlI zs (nb lev) (kk lev) (nttI zs cs lev) (lv lev)
def redI (cs : List Int) : Nat → List Int
  | 0 => cs
  | j + 1 => (redI cs j).set j (((redI cs j).getD j 0 * 8347681).fmod 8380417)
theorem bi_len (z : Int) (l : Nat) (cs : List Int) (j : Nat) : (bi z l cs j).length = cs.length := by simp [bi]
theorem blkI_len (z : Int) (l st : Nat) (cs : List Int) : ∀ i, (blkI z l st cs i).length = cs.length
  | 0 => rfl
  | i + 1 => by rw [blkI, bi_len, blkI_len z l st cs i]
theorem lvlI_len (zs : List Int) (l k0 : Nat) (cs : List Int) : ∀ b, (lvlI zs l k0 cs b).length = cs.length
  | 0 => rfl
  | b + 1 => by rw [lvlI, blkI_len, lvlI_len zs l k0 cs b]
theorem nttI_len (zs cs : List Int) : ∀ lev, (nttI zs cs lev).length = cs.length
  | 0 => rfl
  | lev + 1 => by rw [nttI, lvlI_len, nttI_len zs cs lev]
theorem redI_len (cs : List Int) : ∀ j, (redI cs j).length = cs.length
  | 0 => rfl
  | j + 1 => by rw [redI, List.length_set, redI_len cs j]
theorem nb_kk : ∀ lev, lev < 8 → nb lev * lv lev = 128 ∧ kk lev = 2 * lv lev ∧ kk (lev + 1) = lv lev :=
  lev_cases (by decide) (by decide) (by decide) (by decide) (by decide) (by decide) (by decide) (by decide)
theorem nb_lt {lev : Nat} (h : lev ≤ 8) (hp : nb lev < 256) : lev < 8 := by
  rcases Nat.lt_or_ge lev 8 with h1 | h1
  · exact h1
  · have : lev = 8 := by omega
    subst this; exact absurd hp (by decide)
theorem sttI_le {lev b : Nat} (h : lev < 8) (hb : b < lv lev) : stt (nb lev) b + 2 * nb lev ≤ 256 := by
  have h1 := (nb_kk lev h).1
  have h2 : nb lev * (b + 1) ≤ nb lev * lv lev := Nat.mul_le_mul_left _ hb
  unfold stt
  rw [Nat.mul_assoc]
  rw [Nat.mul_add, Nat.mul_one] at h2
  omega
local macro_rules | `(tactic| walk_at "pyIter ref") => `(tactic| k_dflt (k_extra "pyIter ref"))
local macro_rules | `(tactic| walk_at "call type:enumerate") => `(tactic| k_dflt (k_extra "call type:enumerate"))
local macro_rules | `(tactic| walk_at "call type:zip") => `(tactic| k_dflt (k_extra "call type:zip"))
local macro_rules | `(tactic| k_all) => `(tactic| with_reducible assumption)
local macro_rules | `(tactic| walk_at "call builtin:list.append") => `(tactic| (k_here; k_dflt ((show wpAny _ _ (call (Value.builtin "list.append") [Value.ref _, _]) _ _ _); refine' append_K ?k1 ?k2 ?k3 ?_ ?z; (case k1 => k_asm); (case k2 => k_asm); (case k3 => k_upd); (case z => size_fits); k_whole); intro h' F' N'; (try simp only [List.push_toArray] at N'); (try k_sweep)))
local macro_rules | `(tactic| walk_at "call ref") => `(tactic| (k_dflt (k_extra "call ref")))
local macro_rules | `(tactic| walk_at "exec For Name Call cons nil") => `(tactic| (k_here; kst_has; (rename Fr _ _ _ _ => lF'); (with_unfolding_all refine' For_invVF lF' ?k1 ?k2 ?_; (case k1 => exact rfl); (case k2 => exact rfl); k_whole)))
local macro_rules | `(tactic| walk_at "exec For Name Subscript cons nil") => `(tactic| (k_here; kst_has; (rename Fr _ _ _ _ => lF'); (with_unfolding_all refine' For_invVF lF' ?k1 ?k2 ?_; (case k1 => exact rfl); (case k2 => exact rfl); k_whole)))
local macro_rules | `(tactic| walk_at "subscriptTail") => `(tactic| k_dflt (k_extra "subscriptTail"))
local macro_rules | `(tactic| mul_fits) => `(tactic| first | exact mulR (by assumption) | exact mulL (by assumption) | exact mulLn (by assumption) | fail "mul_fits: none of ours")
local macro_rules | `(tactic| walk_at "exec For Tuple Call cons nil") => `(tactic| (k_here; (rename Fr _ _ _ _ => lF'); (with_unfolding_all refine' For_turns lF' ?_; k_whole)))
local macro_rules | `(tactic| k_room) => `(tactic| ktr_room)
local macro_rules | `(tactic| k_units) => `(tactic| ktr_units)
local macro_rules | `(tactic| walk_at "callWith ref") => `(tactic| (k_here; kco_here; k_dflt (refine' kcoKW ?k1 ?k2 ?k3 ?k4 ?k5 ?_; (case k1 => k_in); (case k2 => k_inst); (case k3 => rfl); (case k4 => k_is); (case k5 => exact rfl); k_whole)))
local macro_rules | `(tactic| ktr_unf) => `(tactic| k_dflt (first
  | (refine' code_def ?k1 ?k2 ?k3 ?k4 ?k5 ?kA ?kF ?kK ?k6 ?k7 ?k8 ?k9 ?kB ?_ ?c2 ?c3 ?c4 ?c5; (case kA => exact rfl); (case kF => exact rfl); (case kK => assumption); (case k1 => k_asm); (case k2 => k_asm); (case k3 => k_asm); (case k4 => k_asm); (case k5 => k_asm); (case k6 => k_is); (case k7 => k_is); (case k8 => ktr_room); (case k9 => first | exact BindsTo.of_eq rfl | exact binds_K (by k_in) rfl (by k_is) rfl rfl rfl | fail "k_enter: no rule for these arguments"); (case c5 => decide); (case kB => exact locs rfl); (case c2 => exact rfl); (case c3 => exact rfl); (case c4 => exact rfl); k_whole; intro g' L' h' FG' F' N' B' X' T'; (try dsimp only); (try k_lift B'); (try k_fold))
  | (refine' code_defC ?k1 ?k2 ?k3 ?k4 ?k5 ?kA ?kF ?kK ?k6 ?k7 ?k8 ?k9 ?kB ?kD ?_ ?c2 ?c3 ?c4; (case kA => exact rfl); (case kF => exact rfl); (case kK => assumption); (case k1 => k_asm); (case k2 => k_asm); (case k3 => k_asm); (case k4 => k_asm); (case k5 => k_asm); (case k6 => k_is); (case k7 => k_is); (case k8 => ktr_room); (case k9 => first | exact BindsTo.of_eq rfl | exact binds_K (by k_in) rfl (by k_is) rfl rfl rfl | fail "k_enter: no rule for these arguments"); (case kB => exact rfl); (case kD => decide +kernel); (case c2 => exact rfl); (case c3 => exact rfl); (case c4 => exact rfl); k_whole; intro g' L' h' tk' cells' FG' F' N' Y' B' X' T' l1; (try k_lt l1); k_cells Y'; (try simp only [List.cons_append, List.nil_append] at N'); (try dsimp only); (try k_lift B'); (try k_fold))))
local macro_rules | `(tactic| walk_at "call builtin:len") => `(tactic| (k_here; (with_reducible show wpAny _ _ (call (Value.builtin "len") [Value.ref _]) _ _ _); k_dflt (refine' kst_len ?k1 ?k2 ?k3 ?k4 ?_; (case k1 => k_asm); (case k2 => first | with_reducible assumption | k_mem); (case k3 => exact IntsAre.length (by assumption)); (case k4 => omega); k_whole)))
local macro_rules | `(tactic| k_mem) => `(tactic| (k_dflt assumption))
local macro_rules | `(tactic| walk_at "exec While Compare cons nil") => `(tactic| (k_dflt (k_extra "exec While Compare cons nil")))
local macro_rules | `(tactic| walk_at "subscriptTail Name Slice ref ref") => `(tactic| (k_here; (with_reducible show wpAny _ _ (subscriptTail _ (PySem.Expr.Slice none none none _) (Value.ref _) (Value.ref _)) _ _ _); k_dflt (refine' slice_cp ?F ?N ?l ?z ?_ ?s ?t; (case F => k_asm); (case N => k_asm); (case l => k_mem); (case s => with_unfolding_all rfl); (case t => intro _; with_unfolding_all rfl); (case z => rw [IntsAre.length (by assumption), sizeLine_eq]; omega)); intro D' h' F' N' l1; (try k_lt l1); (try k_sweep)))
local macro_rules | `(tactic| walk_at "subscriptTail Attribute Slice ref ref") => `(tactic| (k_here; (with_reducible show wpAny _ _ (subscriptTail _ (PySem.Expr.Slice none none none _) (Value.ref _) (Value.ref _)) _ _ _); k_dflt (refine' slice_cp ?F ?N ?l ?z ?_ ?s ?t; (case F => k_asm); (case N => k_asm); (case l => k_mem); (case s => with_unfolding_all rfl); (case t => intro _; with_unfolding_all rfl); (case z => rw [IntsAre.length (by assumption), sizeLine_eq]; omega)); intro D' h' F' N' l1; (try k_lt l1); (try k_sweep)))
local macro_rules | `(tactic| walk_at "getMethod ref") => `(tactic| (k_here; (with_reducible show wpAny _ _ (getMethod (Value.ref _) (PySem.Str.ofString "parent") _) _ _ _); k_dflt (refine' kmu_own ?k1 ?k2 ?k3 ?k4 ?k5 ?_; (case k1 => k_asm); (case k2 => k_asm); (case k3 => k_inst); (case k4 => k_is); (case k5 => k_is); k_whole)))
local macro_rules | `(tactic| walk_at "eval Name") => `(tactic| (k_here; k_dflt (refine' nameX_L ?F ?v ?_ ?a ?b; (case F => k_asm); (case a => first | rfl | assumption); (case b => rfl); (case v => rfl); k_whole)))
section
variable {w : World} {p : Program} {loose : List Str} {mean : ExcName → Option Value} {mg mb : Str → Option Value} {dp un : Nat} {gd : Option (List Code)} {cn : Str} {cs : Scope} {a : Addr} {ccd : Value} {cl : List (Str × Addr)} {outer : List Env} {A₀ : Around} {base h₀ : Heap} {L : Addr} {m : Str → Option Value} {news : List (Addr × Obj)} {s : Shared} {Q E : Value → Shared → Prop}
  (B : Below A₀ base outer h₀) (F : Fr h₀ L s.heap m) (X : (Ntt.hd.heap_39 w.params).In h₀) (N : News h₀ L s.heap news) (T : Top p loose mean mg mb h₀) (hk : cs.kind = .function)
include B F X N T hk
set_option maxRecDepth 100000 in
set_option maxHeartbeats 8000000 in
theorem fromntt_spec (hd : dp + 12 < recursionLimit) (hu : un + 60 < cLine) {x dx ring dring sh1 sh2 zl lc : Addr} {cits zits : List Value} {ns zs : List Int} {c1 c2 : Nat} {k1 k2 k3 k4 k5 k6 k7 k8 k9 k10 tq tn tf : Tok}
   (hm1 : (ring, instObj 369 dring) ∈ news) (hm2 : (dring, ringD w k1 k2 k3 k4 k5 k6 k7 k8 sh1 sh2 zl tq tn tf) ∈ news) (hm3 : (lc, W.listOf cits.toArray c1) ∈ news) (hi3 : IntsAre cits ns) (hl3 : ns.length = 256)
   (hm4 : (x, instObj 569 dx) ∈ news) (hm5 : (dx, polyD w k9 k10 ring lc) ∈ news) (hm6 : (zl, W.listOf zits.toArray c2) ∈ news) (hi6 : IntsAre zits zs) (hl6 : zs.length = 256) (hs6 : SmallL zs)
   (hret : ∀ y d l its c k1 k2 h' tk', Fr h₀ L h' m → News h₀ L h' ((y, instObj 505 d) :: (d, polyD w k1 k2 ring l) :: (l, W.listOf (List.toArray its) c) :: news) → (∀ q ∈ news, q.1 < l) → l < d → d < y → IntsAre its (redI (nttI zs ns 8) 256) → Q (.ref y) { s with heap := h', toks := tk' }) :
    wpAny (model PySem.Challenge.rw_oo0012_03.row.prog w) (ktrTop dp un gd cn cs L a ccd cl outer) (call (.ref 535) [.ref x]) Q E s := by
  w_on
  k_with_none
  revert X; k_fill; intro X
  k_with "exec While Compare cons nil" => refine Hold.out ?_
  k_with "pyIter ref" => refine Hold.out ?_
  k_with "call ref" => (
    refine' ringcallF_spec ?B ?F ?X ?N ?T ?hk ?hd ?hu ?hm1 ?hm2 ?hm3 ?hi3 ?hl3 ?hret
    (case B => k_asm)
    (case F => k_asm)
    (case X => k_asm)
    (case N => k_asm)
    (case T => k_asm)
    (case hk => first | exact rfl | assumption)
    (case hd => ktr_room)
    (case hu => ktr_units)
    (case hm1 => k_mem)
    (case hm2 => k_mem)
    (case hm3 => k_mem)
    (case hi3 => with_reducible assumption)
    (case hl3 => with_reducible assumption)
    intro x9 d9 k9 k9' h9 tk9 F9 N9 l9 l9'
    (try dsimp only)
    (try k_fold))
  refine wpAny_call ?_
  ktr_unf
  k_steps
  refine ⟨?_⟩
  have hnD := kst_ltOf (And.right (by assumption : _ ∧ AllLt _ news))
  have hoffD := off_lt hnD
  rename Fr _ _ _ _ => lF'
  rename News _ _ _ _ => lN'
  refine' whileL (news := news) (τ := Nat × (Int × Nat) × (Int × Nat))
    (fun c => [(Str.ofString "self", .ref x), (Str.ofString "k", .int c.2.1.1 c.2.1.2), (Str.ofString "l", .int c.2.2.1 c.2.2.2), (Str.ofString "coeffs", .ref _), (Str.ofString "zetas", .ref zl)])
    (fun c ms => (c.1 ≤ 8 ∧ c.2.1.1 = (kk c.1 : Int) ∧ c.2.2.1 = (nb c.1 : Int)) ∧ ms = nttI zs ns c.1) (fun c => c.1 = 8) (fun c => 8 - c.1) (0, (_, _), (_, _)) lF' (kst_newsOf lN' (by kst_inAny)) (by assumption) ?kk ?ki (Hold.out ?turn) (Hold.out ?done) ?hE
  (case kk => kst_all)
  (case ki => exact ⟨⟨Nat.zero_le _, show (256 : Int) = ((kk 0 : Nat) : Int) by decide, show (1 : Int) = ((nb 0 : Nat) : Int) by decide⟩, rfl⟩)
  (case hE => passes_own)
  all_goals (try clear lF' lN')
  case turn =>
    refine ⟨?_⟩
    rintro ⟨lev, ⟨kv, tkk⟩, ⟨lvv, tl⟩⟩ its ms cnt u h tk Q' QD hi ⟨⟨hlev, hkv, hlv⟩, hms⟩ F1 N1 nx nd
    dsimp only at hlev hkv hlv hms F1 nx nd ⊢
    k_steps
    · refine ⟨?_⟩
      have hl8 : lev < 8 := nb_lt hlev (by omega)
      obtain ⟨hln1, hln2, hln3, hln4, hln5, hln6, hln7⟩ := lv_nb lev hl8
      obtain ⟨hlm1, hlm2, hlm3⟩ := nb_kk lev hl8
      rename Fr _ _ _ _ => lF'
      rename News _ _ _ _ => lN'
      refine' whileL (news := news) (τ := Nat × (Int × Nat) × (Int × Nat))
        (fun c => [(Str.ofString "self", .ref x), (Str.ofString "k", .int c.2.1.1 c.2.1.2), (Str.ofString "l", .int lvv tl), (Str.ofString "start", .int c.2.2.1 c.2.2.2), (Str.ofString "coeffs", .ref _), (Str.ofString "zetas", .ref zl)])
        (fun c ms' => (c.1 ≤ lv lev ∧ c.2.1.1 = (kk lev : Int) - (c.1 : Int) ∧ c.2.2.1 = (stt (nb lev) c.1 : Int)) ∧ ms' = lvlI zs (nb lev) (kk lev) ms c.1) (fun c => c.1 = lv lev) (fun c => lv lev - c.1) (0, (_, _), (_, _)) lF' (kst_newsOf lN' (by kst_inAny)) (by assumption) ?kk ?ki (Hold.out ?turnB) (Hold.out ?doneB) ?hE
      (case kk => kst_all)
      (case ki => exact ⟨⟨Nat.zero_le _, by (show kv = (kk lev : Int) - ((0 : Nat) : Int)); omega, by simp [stt]⟩, rfl⟩)
      (case hE => passes_own)
      all_goals (try clear lF' lN')
      case turnB =>
        refine ⟨?_⟩
        rintro ⟨b, ⟨kw, tkw⟩, ⟨sv, ts⟩⟩ its' ms' cnt' u' h' tk' Q'' QD' hi' ⟨⟨hb, hkw, hsv⟩, hms'⟩ F2 N2 nx' nd'
        dsimp only at hb hkw hsv hms' F2 nx' nd' ⊢
        have hml : ms'.length = 256 := by rw [hms', lvlI_len, hms, nttI_len, hl3]
        by_cases hbn : b < lv lev
        · have hst := sttI_le hl8 hbn
          k_steps
          refine ⟨?_⟩
          rename Fr _ _ _ _ => lF'
          rename News _ _ _ _ => lN'
          rename IsRange _ _ _ _ _ _ _ _ => rgX
          refine' rangeL (news := news) (τ := Int × Nat)
            (fun c => [(Str.ofString "self", .ref x), (Str.ofString "k", .int (kw - 1) _), (Str.ofString "l", .int lvv tl), (Str.ofString "start", .int sv ts), (Str.ofString "coeffs", .ref _), (Str.ofString "zetas", .ref zl), (Str.ofString "zeta", .int (-(zs.getD (kw - 1).toNat 0)) _), (Str.ofString "j", .int c.1 c.2)])
            (fun i c ms'' => c.1 = sv + ((i - 1 : Nat) : Int) ∧ ms'' = blkI (-(zs.getD (kw - 1).toNat 0)) (nb lev) (stt (nb lev) b) ms' i) (_, _) (nb lev) (by rfl) rgX (small_one (by omega) (by omega) (by omega) (by omega)) (by rw [hsv, hlv]; exact rangeSize_add _ _) lF' (kst_newsOf lN' (by kst_inAny)) (by assumption) (by assumption) ?kk ?ki (Hold.out ?turnC) (Hold.out ?doneC)
          (case kk => kst_all)
          (case ki => exact ⟨by (show sv = sv + ((0 - 1 : Nat) : Int)); omega, rfl⟩)
          all_goals (try clear lF' lN' rgX)
          case turnC =>
            refine ⟨?_⟩
            rintro i ⟨jv, tj⟩ its3 ms3 cnt3 t3 u3 h3 tk3 rest Q3 hlt hi3' ⟨hjv, hms3⟩ hsub hoff F3 N3 nx3
            dsimp only at hjv F3 nx3 ⊢
            have hm3l : ms3.length = 256 := by rw [hms3, blkI_len, hml]
            have e1 : (sv + (i : Int) + lvv).toNat = stt (nb lev) b + i + nb lev := by omega
            have e2 : (sv + (i : Int)).toNat = stt (nb lev) b + i := by omega
            k_steps
            refine nx3 (_, _) _ _ _ _ _ _ (by assumption) (by assumption) (by assumption) (by kst_all) ⟨?_, ?_⟩
            · show sv + (i : Int) = sv + ((i + 1 - 1 : Nat) : Int); omega
            · rw [blkI, bi, ← hms3, e1, e2]
          case doneC =>
            refine ⟨?_⟩
            rintro ⟨jv, tj⟩ its3 ms3 cnt3 u3 h3 tk3 hi3' ⟨hjv, hms3⟩ F3 N3
            dsimp only at hjv F3 ⊢
            k_steps
            refine nx' (b + 1, (_, _), (_, _)) _ _ _ _ _ _ (by assumption) (by assumption) hi3' (by kst_all) ⟨⟨⟨?_, ?_, ?_⟩, ?_⟩, ?_⟩
            · exact hbn
            · show kw - 1 = (kk lev : Int) - ((b + 1 : Nat) : Int); omega
            · show jv + lvv + 1 = ((stt (nb lev) (b + 1) : Nat) : Int); rw [stt_succ]; omega
            · show ms3 = lvlI zs (nb lev) (kk lev) ms (b + 1)
              rw [lvlI, ← hms', show kk lev - b - 1 = (kw - 1).toNat by omega]; exact hms3
            · show lv lev - (b + 1) < lv lev - b; omega
        · have hbe : b = lv lev := by omega
          have h256 : stt (nb lev) b = 256 := by unfold stt; rw [hbe, Nat.mul_assoc]; omega
          k_steps
          exact nd' _ _ hbe (by assumption) (by assumption)
      case doneB =>
        refine ⟨?_⟩
        rintro ⟨b, ⟨kw, tkw⟩, ⟨sv, ts⟩⟩ its' ms' cnt' u' h' tk' hD hi' ⟨⟨hb, hkw, hsv⟩, hms'⟩ F2 N2
        dsimp only at hD hb hkw hsv hms' F2 ⊢
        k_steps
        refine nx (lev + 1, (_, _), (_, _)) _ _ _ _ _ _ (by assumption) (by assumption) hi' (by kst_all) ⟨⟨⟨?_, ?_, ?_⟩, ?_⟩, ?_⟩
        · exact hl8
        · show kw = ((kk (lev + 1) : Nat) : Int); omega
        · show lvv * 2 = ((nb (lev + 1) : Nat) : Int)
          rw [hlv, hln7]; omega
        · show ms' = nttI zs ns (lev + 1)
          rw [nttI, ← hms, hms', hD]
        · show 8 - (lev + 1) < 8 - lev; omega
    · exact nd _ _ (by rcases Nat.lt_or_ge lev 8 with h8 | h8; (have := (lv_nb lev h8).2.2.2.2.1; omega); omega) (by assumption) (by assumption)
  case done =>
    refine ⟨?_⟩
    rintro ⟨lev, ⟨kv, tkk⟩, ⟨lvv, tl⟩⟩ its ms cnt u h tk hD hi ⟨⟨hlev, hkv, hlv⟩, hms⟩ F1 N1
    dsimp only at hD hlev hkv hlv hms F1 ⊢
    (try k_fold)
    k_steps
    refine ⟨?_⟩
    rename Fr _ _ _ _ => lF'
    rename News _ _ _ _ => lN'
    rename IsRange _ _ _ _ _ _ _ _ => rgX
    refine' rangeL (news := news) (τ := Unit)
      (fun _ => [(Str.ofString "self", .ref x), (Str.ofString "coeffs", .ref _)])
      (fun i _ ms' => ms' = redI ms i) () 256 (by rfl) rgX (by decide) (by decide) lF' (kst_newsOf lN' (by kst_inAny)) (by assumption) (by assumption) ?kk ?ki (Hold.out ?turnD) (Hold.out ?doneD)
    (case kk => kst_all)
    (case ki => rfl)
    all_goals (try clear lF' lN' rgX)
    case turnD =>
      refine ⟨?_⟩
      rintro i ⟨⟩ its3 ms3 cnt3 t3 u3 h3 tk3 rest Q3 hlt hi3' hms3 hsub hoff F3 N3 nx3
      dsimp only at F3 nx3 ⊢
      have hm3l : ms3.length = 256 := by rw [hms3, redI_len, hms, nttI_len, hl3]
      have e2 : ((0 : Int) + (i : Int)).toNat = i := by omega
      have hm1' := hsub _ hm1
      have hm2' := hsub _ hm2
      have hm4' := hsub _ hm4
      have hm5' := hsub _ hm5
      k_steps
      refine nx3 () _ _ _ _ _ _ (by assumption) (by assumption) (by assumption) (by kst_all) ?_
      rw [redI, ← hms3, e2]
    case doneD =>
      refine ⟨?_⟩
      rintro ⟨⟩ its3 ms3 cnt3 u3 h3 tk3 hi3' hms3 F3 N3
      have hm3l : ms3.length = 256 := by rw [hms3, redI_len, hms, nttI_len, hl3]
      (try k_fold)
      k_steps
      rename (∀ q ∈ _ :: news, q.1 < _) => hlast
      rw [hms3, hms, hD] at hi3'
      exact hret _ _ _ _ _ _ _ _ _ (by assumption) (by assumption) hnD (hlast _ (.head _)) (by assumption) hi3'
end
end Ntt
end

section
open PySem PySem.W PySem.Calls PyProof.Rows PyProof.V PySem.Spec PySem.NumText
set_option maxRecDepth 100000
namespace Ntt
theorem entry_pow : entryFor table "pow" = some Builtin.«pow» := entryFor_of_fast (by kernel_rfl)
theorem kind_pow : builtinKind "pow" = none := by decide +kernel
theorem plain_pow : plainId "pow" = true := by decide +kernel
theorem args_pow3 (a b c : Value) : argsOk "pow" ⟨[a, b, c], []⟩ := by unfold argsOk; kernel_rfl
theorem args_int_pow3 (a b c : Value) : argsOk "int.__pow__" ⟨[a, b, c], []⟩ := by unfold argsOk; kernel_rfl
set_option maxHeartbeats 4000000 in
theorem int_pow3 (a : Int) (t : Tok) (b : Int) (u : Tok) (c : Int) (v : Tok) (hc0 : ¬(c == 0) = true) (hc1 : ¬(c.natAbs == 1) = true) (hb : ¬ b < 0) (hc : ¬ c < 0) :
    Gives (Builtin.«int.__pow__» ⟨[.int a t, .int b u, .int c v], []⟩) (.int (Builtin.powMod (a % (c.natAbs : Int)).toNat b.natAbs c.natAbs : Nat)) :=
  .of_wp fun M A E s Q h => by
    obtain ⟨hp, g, d, tk, os⟩ := s
    wp_walk
    rw [if_neg (by simp [hc])]
    exact ⟨_, rfl, h⟩
theorem slot_pow : Slot "int" "__pow__" "int.__pow__" := PyProof.Rows.slot_int_pow
set_option maxHeartbeats 4000000 in
theorem meets_pow (a : Int) (t : Tok) (b : Int) (u : Tok) (c : Int) (v : Tok) {r : Int} (g : Gives (Builtin.«int.__pow__» ⟨[.int a t, .int b u, .int c v], []⟩) (.int r)) :
    Meets (Builtin.«pow» ⟨[.int a t, .int b u, .int c v], []⟩) (fun _ R s => ∀ k n, R (.ok (.ret (.int r k))) { s with toks := n }) :=
  .of_wp fun prog w A R s h => by
    obtain ⟨hp, gg, d, tk, os⟩ := s
    have lk : typeLookup (.type "int") "__pow__" = pure (some (.builtin "int.__pow__")) := slot_pow.lookup
    have f6 : typeOf (.int a t) = pure (.type "int") := rfl
    repeat (first
      | assumption
      | ((with_reducible show wpAny _ _ (callSpecial? _ _ _ _) _ _ _); refine' wpAny_callSpecial?_slot ?h1 ?h2 ?_; (case h1 => exact typeIs_int _ _ _); (case h2 => exact slot_pow))
      | ((with_reducible show wpAny _ _ (call (Value.builtin "int.__pow__") _) _ _ _); refine call_meets slot_pow (typeIs_int _ _ _) PyProof.Rows.entry_int_pow (args_int_pow3 _ _ _) g.meets ?_)
      | wp_step)
    dsimp only
    refine wpAny_ite_true rfl ?_
    exact wpAny_pure ⟨_, rfl, h _ _⟩
section
variable {prog : Program} {w : World} {A : Around} {E : Value → Shared → Prop} {s : Shared}
theorem call_pow3 {a b c r : Int} {t u v : Tok} {Q : Value → Shared → Prop} (g : Gives (Builtin.«int.__pow__» ⟨[.int a t, .int b u, .int c v], []⟩) (.int r)) (h : ∀ k n, Q (.int r k) { s with toks := n }) :
    wpAny (model prog w) A (call (.builtin "pow") [.int a t, .int b u, .int c v]) Q E s :=
  call_function_meets kind_pow plain_pow entry_pow (args_pow3 _ _ _) (meets_pow a t b u c v g) h
end
theorem pow_zeta (e : Int) (t u v : Tok) (he : 0 ≤ e) : Gives (Builtin.«int.__pow__» ⟨[.int 1753 t, .int e u, .int 8380417 v], []⟩) (.int (Builtin.powMod 1753 e.natAbs 8380417 : Nat)) :=
  int_pow3 1753 t e u 8380417 v (by decide) (by decide) (by omega) (by decide)
set_option maxHeartbeats 4000000 in
theorem pow_inv (t u v : Tok) : Gives (Builtin.«int.__pow__» ⟨[.int 256 t, .int (-1) u, .int 8380417 v], []⟩) (.int 8347681) :=
  .of_wp fun M A E s Q h => by
    obtain ⟨hp, g, d, tk, os⟩ := s
    wp_walk
    exact ⟨.int 8347681 tk, congrArg (fun z => Fin.done (Flow.ret (Value.int z tk))) (by decide +kernel), h⟩

/-! int(text, 2) -/
/-- what a text's signs say as a number to a base, no limit of digits -/
def numJ (base : Nat) (text : List Nat) : Option Int :=
  let sg := sign (text.dropWhile blank)
  let bs := based base sg.2
  match digits? bs.1 ((bs.2.2.reverse.dropWhile blank).reverse) with
  | none => none
  | some ds =>
    if bs.1 == 10 && ds.size > 6000 then none else
    let n := ds.foldl (fun acc d => acc * bs.1 + d) 0
    if bs.2.1 && n != 0 then none else some (if sg.1 then -(n : Int) else n)
theorem numJ_read {base : Nat} {text : List Nat} {n : Int} (h : numJ base text = some n) : (int_private% "readNumeral") 0 base text = (int_private% "Numeral.value") n := by
  rw [readNumeral_eq]
  unfold numJ at h
  dsimp only at h
  unfold judge
  split at h
  · cases h
  · rename_i ds hds
    rw [hds]
    dsimp only
    rw [if_neg (by simp)]
    split at h
    · cases h
    · rename_i h1
      rw [if_neg h1]
      split at h
      · cases h
      · rename_i h2
        rw [if_neg h2]
        cases h
        rfl
theorem wp_text2 {M : Model} {A : Around} {E : Value → Shared → Prop} {s : Shared} {Q : Value → Shared → Prop} {v : Value} {text : List Nat} {n : Int} {base : Nat}
    (hs : (text.takeWhile (· != 0)).length ≤ 640) (hr : (int_private% "readNumeral") 0 base (text.takeWhile (· != 0)) = (int_private% "Numeral.value") n)
    (ha : ((text.takeWhile (· != 0)).length == text.length) = true) (h : Q (.int n s.toks) { s with toks := s.toks + 1 }) :
    wpAny M A ((int_private% "intFromText") v text base) Q E s := by
  obtain ⟨hp, g, d, tk, os⟩ := s
  repeat (any_goals (first
    | assumption
    | (with_reducible refine wpAny_ite_true (decide_eq_true hs) ?_)
    | (with_reducible refine wpAny_ite_true (decide_eq_true ha) ?_)
    | wp_step))
  all_goals (try rw [hr])
  all_goals (try dsimp only)
  repeat (any_goals (first
    | assumption
    | (with_reducible refine wpAny_ite_true (decide_eq_true hs) ?_)
    | (with_reducible refine wpAny_ite_true (decide_eq_true ha) ?_)
    | wp_step))
/-- the signs of a text, as int reads them -/
def numT (x : PySem.Str) : List Nat := if x.cps.all (· < 128) then x.cps.toList else PySem.Unicode.numberText x.cps.toList
set_option maxHeartbeats 4000000 in
theorem gives_text2 {x : PySem.Str} {u t : Tok} {n : Int} (hk : KIN.Hid (((numT x).takeWhile (· != 0)).length ≤ 640 ∧ numJ 2 ((numT x).takeWhile (· != 0)) = some n ∧ (((numT x).takeWhile (· != 0)).length == (numT x).length) = true)) : Gives (Builtin.«int.__new__» ⟨[.type "int", .str x u, .int 2 t], []⟩) (.int n) :=
  .of_wp fun M A E s Q h => by
    obtain ⟨hp, g, d, tk, os⟩ := s
    have f1 := F.conv_sub_int
    have f2 := F.madeHere_int
    have f6 : typeOf (.str x u) = pure (.type "str") := rfl
    repeat (any_goals (first
      | assumption
      | ((with_reducible show wpAny _ _ ((int_private% "intFromText") _ _ _) _ _ _); refine wp_text2 hk.out.1 (numJ_read hk.out.2.1) hk.out.2.2 ?_)
      | wp_step))
    all_goals first | exact ⟨_, rfl, h⟩ | skip
theorem typeCall_int_2 (a b : Value) : checkTypeCall "int" ⟨[a, b], []⟩ = pure () := by kernel_rfl
theorem newCall_int_2 (a b : Value) : checkBuiltinCall "int.__new__" ⟨[.type "int", a, b], []⟩ = pure () := by kernel_rfl
end Ntt
end

section
open PySem PySem.W PySem.Calls PyProof.Rows PyProof.V PySem.Spec PySem.NumText
set_option maxRecDepth 100000
namespace Ntt
section
variable {prog : Program} {w : World} {A : Around} {E : Value → Shared → Prop} {s : Shared}
theorem call_int_base2 {x : PySem.Str} {u t : Tok} {n : Int} {Q : Value → Shared → Prop} (hk : KIN.Hid (((numT x).takeWhile (· != 0)).length ≤ 640 ∧ numJ 2 ((numT x).takeWhile (· != 0)) = some n ∧ (((numT x).takeWhile (· != 0)).length == (numT x).length) = true))
    (h : ∀ k tk, Q (.int n k) { s with toks := tk }) :
    wpAny (model prog w) A (call (.type "int") [.str x u, .int 2 t]) Q E s :=
  callType_new F.called_int F.newNe_int (typeCall_int_2 _ _) (newCall_int_2 _ _) (fun obj => F.args_object_init_3 obj _ _) F.entry_int_new (gives_text2 (t := t) (u := u) hk).meets ⟨rfl, h _ _⟩
end
def brX (i : Int) : PySem.Str := baseText "0b" 2 (Builtin.bitAnd i (2 ^ Int.toNat 8 - 1))
def brS (x : PySem.Str) : PySem.Str := Txt.slice x (some 2) none
def brY (x : PySem.Str) : PySem.Str := Txt.zfill x 8
def brZ (x : PySem.Str) : PySem.Str := Txt.sliceBy x none none (-1, 0)
theorem brZ_tok (x : PySem.Str) (u : Tok) : Txt.sliceBy x none none (-1, u) = brZ x := rfl
def brOk (i : Nat) : Bool :=
  let x := brX i
  let y := brY (brS x)
  let z := brZ y
  decide (x.length ≤ 20) && decide ((brS x).length ≤ 20) && decide (y.length ≤ 20) && decide (((numT z).takeWhile (· != 0)).length ≤ 640) && decide (numJ 2 ((numT z).takeWhile (· != 0)) = some (tnF i 8)) && (((numT z).takeWhile (· != 0)).length == (numT z).length)
theorem brOk_all : ∀ i : Fin 256, brOk i.val = true := by decide +kernel
theorem br_facts {i : Int} (h0 : 0 ≤ i) (h1 : i < 256) : (brX i).length ≤ 20 ∧ (brS (brX i)).length ≤ 20 ∧ (brY (brS (brX i))).length ≤ 20 ∧
    (((numT (brZ (brY (brS (brX i))))).takeWhile (· != 0)).length ≤ 640 ∧ numJ 2 ((numT (brZ (brY (brS (brX i))))).takeWhile (· != 0)) = some (tnF i 8) ∧ (((numT (brZ (brY (brS (brX i))))).takeWhile (· != 0)).length == (numT (brZ (brY (brS (brX i))))).length) = true) := by
  obtain ⟨n, rfl⟩ := Int.eq_ofNat_of_zero_le h0
  have := brOk_all ⟨n, by omega⟩
  simp only [brOk, Bool.and_eq_true, decide_eq_true_eq] at this
  exact ⟨this.1.1.1.1.1, this.1.1.1.1.2, this.1.1.1.2, this.1.1.2, this.1.2, this.2⟩
/-- which text it is -/
structure BrT (i : Int) (y x : PySem.Str) : Prop where
  lo : 0 ≤ i
  hi : i < 256
  eq : x = y
theorem BrT.nums {i : Int} {z : PySem.Str} (h : BrT i (brZ (brY (brS (brX i)))) z) : KIN.Hid (((numT z).takeWhile (· != 0)).length ≤ 640 ∧ numJ 2 ((numT z).takeWhile (· != 0)) = some (tnF i 8) ∧ (((numT z).takeWhile (· != 0)).length == (numT z).length) = true) := by
  have e : z = brZ (brY (brS (brX i))) := h.eq
  subst e
  exact KIN.Hid.mk (br_facts h.lo h.hi).2.2.2
section
variable {prog : Program} {w : World} {A : Around} {E : Value → Shared → Prop} {s : Shared} {value slice : Expr} {x : PySem.Str} {t : Tok} {h₀ : Heap} {L : Addr} {m : PySem.Str → Option Value} {news : List (Addr × Obj)} {Q : Value → Shared → Prop} {i : Int}
theorem bin_brX {t : Tok} (h0 : 0 ≤ i) (h1 : i < 256) (h : ∀ x t k, BrT i (brX i) x → Q (.str x t) { s with toks := k }) : wpAny (model prog w) A (call (.builtin "bin") [.int (Builtin.bitAnd i (2 ^ Int.toNat 8 - 1)) t]) Q E s :=
  P.bin_of_int (h _ _ _ ⟨h0, h1, rfl⟩) (Nat.le_trans (br_facts h0 h1).1 (by rw [sizeLine_eq]; decide))
theorem slice_brS {ui : Tok} (hF : Fr h₀ L s.heap m) (hN : News h₀ L s.heap news) (hz : BrT i (brX i) x) (h : ∀ y h' t' k, Fr h₀ L h' m → News h₀ L h' news → BrT i (brS (brX i)) y → Q (.str y t') { s with heap := h', toks := k })
    (hs : subscripted slice false (.str x t) (.ref s.heap.objs.size) = operate [.ref s.heap.objs.size, .str x t] (getItem (.str x t) (.ref s.heap.objs.size)))
    (ht : ∀ r, letTemporaryGo value (.str x t) r = pure ()) :
    wpAny (model prog w) A (subscriptTail value slice (.str x t) (.ref s.heap.objs.size)) Q E { s with heap := s.heap.push { cls := .type "slice", data := .fields #[.int 2 ui, .none, .none] } } :=
  slice_strN_sn hF hN (fun h' t' k a b => h _ h' t' k a b ⟨hz.lo, hz.hi, congrArg brS hz.eq⟩) hs ht (by
    have e : x = brX i := hz.eq
    rw [e]; exact Nat.le_trans (br_facts hz.lo hz.hi).1 (by rw [sizeLine_eq]; decide))
theorem slice_brZ {uk : Tok} (hF : Fr h₀ L s.heap m) (hN : News h₀ L s.heap news) (hz : BrT i (brY (brS (brX i))) x) (h : ∀ y h' t' k, Fr h₀ L h' m → News h₀ L h' news → BrT i (brZ (brY (brS (brX i)))) y → Q (.str y t') { s with heap := h', toks := k })
    (hs : subscripted slice false (.str x t) (.ref s.heap.objs.size) = operate [.ref s.heap.objs.size, .str x t] (getItem (.str x t) (.ref s.heap.objs.size)))
    (ht : ∀ r, letTemporaryGo value (.str x t) r = pure ()) :
    wpAny (model prog w) A (subscriptTail value slice (.str x t) (.ref s.heap.objs.size)) Q E { s with heap := s.heap.push { cls := .type "slice", data := .fields #[.none, .none, .int (-1) uk] } } :=
  slice_strK_nn hF hN (by decide) (fun h' t' k a b => h _ h' t' k a b ⟨hz.lo, hz.hi, congrArg brZ hz.eq⟩) hs ht (by
    have e : x = brY (brS (brX i)) := hz.eq
    rw [e]; exact Nat.le_trans (br_facts hz.lo hz.hi).2.2.1 (by rw [sizeLine_eq]; decide))
theorem zfill_brY {u : Tok} (hz : BrT i (brS (brX i)) x) (h : ∀ y t' k, BrT i (brY (brS (brX i))) y → Q (.str y t') { s with toks := k }) : wpAny (model prog w) A (call (.builtin "str.zfill") [.str x t, .int 8 u]) Q E s :=
  SC.zfill (padOk_of (by decide) (by decide)) fun t' k => h _ t' k ⟨hz.lo, hz.hi, congrArg brY hz.eq⟩
theorem int_brZ {u t : Tok} (hz : BrT i (brZ (brY (brS (brX i)))) x) (h : ∀ k tk, Q (.int (tnF i 8) k) { s with toks := tk }) : wpAny (model prog w) A (call (.type "int") [.str x u, .int 2 t]) Q E s :=
  call_int_base2 hz.nums h
end
end Ntt
end

section
open PySem PySem.W PySem.Calls PyProof.Rows PyProof.V PySem.Spec
namespace Ntt
local macro_rules | `(tactic| walk_at "pyIter ref") => `(tactic| k_dflt (k_extra "pyIter ref"))
local macro_rules | `(tactic| walk_at "call type:enumerate") => `(tactic| k_dflt (k_extra "call type:enumerate"))
local macro_rules | `(tactic| walk_at "call type:zip") => `(tactic| k_dflt (k_extra "call type:zip"))
local macro_rules | `(tactic| k_all) => `(tactic| with_reducible assumption)
local macro_rules | `(tactic| walk_at "call builtin:list.append") => `(tactic| (k_here; k_dflt ((show wpAny _ _ (call (Value.builtin "list.append") [Value.ref _, _]) _ _ _); refine' append_K ?k1 ?k2 ?k3 ?_ ?z; (case k1 => k_asm); (case k2 => k_asm); (case k3 => k_upd); (case z => size_fits); k_whole); intro h' F' N'; (try simp only [List.push_toArray] at N'); (try k_sweep)))
local macro_rules | `(tactic| walk_at "call ref") => `(tactic| (k_dflt (k_extra "call ref")))
local macro_rules | `(tactic| walk_at "exec For Name Call cons nil") => `(tactic| (k_here; kst_has; (rename Fr _ _ _ _ => lF'); (with_unfolding_all refine' For_invVF lF' ?k1 ?k2 ?_; (case k1 => exact rfl); (case k2 => exact rfl); k_whole)))
local macro_rules | `(tactic| walk_at "exec For Name Subscript cons nil") => `(tactic| (k_here; kst_has; (rename Fr _ _ _ _ => lF'); (with_unfolding_all refine' For_invVF lF' ?k1 ?k2 ?_; (case k1 => exact rfl); (case k2 => exact rfl); k_whole)))
local macro_rules | `(tactic| walk_at "subscriptTail") => `(tactic| k_dflt (k_extra "subscriptTail"))
local macro_rules | `(tactic| mul_fits) => `(tactic| first | exact mulR (by assumption) | exact mulL (by assumption) | exact mulLn (by assumption) | fail "mul_fits: none of ours")
local macro_rules | `(tactic| walk_at "exec For Tuple Call cons nil") => `(tactic| (k_here; (rename Fr _ _ _ _ => lF'); (with_unfolding_all refine' For_turns lF' ?_; k_whole)))
local macro_rules | `(tactic| k_room) => `(tactic| ktr_room)
local macro_rules | `(tactic| k_units) => `(tactic| ktr_units)
local macro_rules | `(tactic| walk_at "callWith ref") => `(tactic| (k_here; kco_here; k_dflt (refine' kcoKW ?k1 ?k2 ?k3 ?k4 ?k5 ?_; (case k1 => k_in); (case k2 => k_inst); (case k3 => rfl); (case k4 => k_is); (case k5 => exact rfl); k_whole)))
local macro_rules | `(tactic| ktr_unf) => `(tactic| k_dflt (first
  | (refine' code_def ?k1 ?k2 ?k3 ?k4 ?k5 ?kA ?kF ?kK ?k6 ?k7 ?k8 ?k9 ?kB ?_ ?c2 ?c3 ?c4 ?c5; (case kA => exact rfl); (case kF => exact rfl); (case kK => assumption); (case k1 => k_asm); (case k2 => k_asm); (case k3 => k_asm); (case k4 => k_asm); (case k5 => k_asm); (case k6 => k_is); (case k7 => k_is); (case k8 => ktr_room); (case k9 => first | exact BindsTo.of_eq rfl | exact binds_K (by k_in) rfl (by k_is) rfl rfl rfl | fail "k_enter: no rule for these arguments"); (case c5 => decide); (case kB => exact locs rfl); (case c2 => exact rfl); (case c3 => exact rfl); (case c4 => exact rfl); k_whole; intro g' L' h' FG' F' N' B' X' T'; (try dsimp only); (try k_lift B'); (try k_fold))
  | (refine' code_defC ?k1 ?k2 ?k3 ?k4 ?k5 ?kA ?kF ?kK ?k6 ?k7 ?k8 ?k9 ?kB ?kD ?_ ?c2 ?c3 ?c4; (case kA => exact rfl); (case kF => exact rfl); (case kK => assumption); (case k1 => k_asm); (case k2 => k_asm); (case k3 => k_asm); (case k4 => k_asm); (case k5 => k_asm); (case k6 => k_is); (case k7 => k_is); (case k8 => ktr_room); (case k9 => first | exact BindsTo.of_eq rfl | exact binds_K (by k_in) rfl (by k_is) rfl rfl rfl | fail "k_enter: no rule for these arguments"); (case kB => exact rfl); (case kD => decide +kernel); (case c2 => exact rfl); (case c3 => exact rfl); (case c4 => exact rfl); k_whole; intro g' L' h' tk' cells' FG' F' N' Y' B' X' T' l1; (try k_lt l1); k_cells Y'; (try simp only [List.cons_append, List.nil_append] at N'); (try dsimp only); (try k_lift B'); (try k_fold))))
local macro_rules | `(tactic| walk_at "call builtin:len") => `(tactic| (k_here; (with_reducible show wpAny _ _ (call (Value.builtin "len") [Value.ref _]) _ _ _); k_dflt (refine' kst_len ?k1 ?k2 ?k3 ?k4 ?_; (case k1 => k_asm); (case k2 => first | with_reducible assumption | k_mem); (case k3 => exact IntsAre.length (by assumption)); (case k4 => omega); k_whole)))
local macro_rules | `(tactic| k_mem) => `(tactic| (k_dflt assumption))
local macro_rules | `(tactic| walk_at "exec While Compare cons nil") => `(tactic| (k_dflt (k_extra "exec While Compare cons nil")))
local macro_rules | `(tactic| walk_at "subscriptTail Name Slice ref ref") => `(tactic| (k_here; (with_reducible show wpAny _ _ (subscriptTail _ (PySem.Expr.Slice none none none _) (Value.ref _) (Value.ref _)) _ _ _); k_dflt (refine' slice_cp ?F ?N ?l ?z ?_ ?s ?t; (case F => k_asm); (case N => k_asm); (case l => k_mem); (case s => with_unfolding_all rfl); (case t => intro _; with_unfolding_all rfl); (case z => rw [IntsAre.length (by assumption), sizeLine_eq]; omega)); intro D' h' F' N' l1; (try k_lt l1); (try k_sweep)))
local macro_rules | `(tactic| walk_at "subscriptTail Attribute Slice ref ref") => `(tactic| (k_here; (with_reducible show wpAny _ _ (subscriptTail _ (PySem.Expr.Slice none none none _) (Value.ref _) (Value.ref _)) _ _ _); k_dflt (refine' slice_cp ?F ?N ?l ?z ?_ ?s ?t; (case F => k_asm); (case N => k_asm); (case l => k_mem); (case s => with_unfolding_all rfl); (case t => intro _; with_unfolding_all rfl); (case z => rw [IntsAre.length (by assumption), sizeLine_eq]; omega)); intro D' h' F' N' l1; (try k_lt l1); (try k_sweep)))
local macro_rules | `(tactic| walk_at "getMethod ref") => `(tactic| (k_here; (with_reducible show wpAny _ _ (getMethod (Value.ref _) (PySem.Str.ofString "parent") _) _ _ _); k_dflt (refine' kmu_own ?k1 ?k2 ?k3 ?k4 ?k5 ?_; (case k1 => k_asm); (case k2 => k_asm); (case k3 => k_inst); (case k4 => k_is); (case k5 => k_is); k_whole)))
local macro_rules | `(tactic| walk_at "eval Name") => `(tactic| (k_here; k_dflt (refine' nameX_L ?F ?v ?_ ?a ?b; (case F => k_asm); (case a => first | rfl | assumption); (case b => rfl); (case v => rfl); k_whole)))
section
variable {w : World} {p : Program} {loose : List Str} {mean : ExcName → Option Value} {mg mb : Str → Option Value} {dp un : Nat} {gd : Option (List Code)} {cn : Str} {cs : Scope} {a : Addr} {ccd : Value} {cl : List (Str × Addr)} {outer : List Env} {A₀ : Around} {base h₀ : Heap} {L : Addr} {m : Str → Option Value} {news : List (Addr × Obj)} {s : Shared} {Q E : Value → Shared → Prop}
  (B : Below A₀ base outer h₀) (F : Fr h₀ L s.heap m) (X : (Ntt.hd.heap_39 w.params).In h₀) (N : News h₀ L s.heap news) (T : Top p loose mean mg mb h₀) (hk : cs.kind = .function)
include B F X N T hk
local macro_rules | `(tactic| walk_at "call builtin:str.zfill") => `(tactic| k_dflt (k_extra "call builtin:str.zfill"))
local macro_rules | `(tactic| walk_at "call type:int") => `(tactic| k_dflt (k_extra "call type:int"))
local macro_rules | `(tactic| walk_at "subscriptTail Name") => `(tactic| k_dflt (k_extra "subscriptTail Name"))
local macro_rules | `(tactic| walk_at "subscriptTail Call") => `(tactic| k_dflt (k_extra "subscriptTail Call"))
set_option maxRecDepth 100000 in
set_option maxHeartbeats 3000000 in
theorem br_spec (hd : dp + 4 < recursionLimit) (hu : un + 20 < cLine) {i : Int} {t t' : Tok} (h0 : 0 ≤ i) (h1 : i < 256)
   (hret : ∀ t h' tk', Fr h₀ L h' m → News h₀ L h' news → Q (.int (tnF i 8) t) { s with heap := h', toks := tk' }) :
    wpAny (model PySem.Challenge.rw_oo0012_03.row.prog w) (ktrTop dp un gd cn cs L a ccd cl outer) (call (.ref 287) [.int i t, .int 8 t']) Q E s := by
  w_on
  k_with_none
  revert X; k_fill; intro X
  k_with "call builtin:bin" => (refine' bin_brX (by assumption) (by assumption) ?h; intro x t' k hx)
  k_with "subscriptTail Call" => ((refine' slice_brS ?F ?N ?a ?_ ?s ?t; (case a => with_reducible assumption); (case F => k_asm); (case N => k_asm); (case s => with_unfolding_all rfl); (case t => intro _; with_unfolding_all rfl)); intro y h' t' k F' N' hx; try k_sweep)
  k_with "subscriptTail Name" => refine Hold.out ?_
  k_with "call builtin:str.zfill" => refine Hold.out ?_
  k_with "call type:int" => refine Hold.out ?_
  refine wpAny_call ?_
  ktr_unf
  k_steps
  refine ⟨?_⟩
  refine' zfill_brY ?a ?_
  (case a => with_reducible assumption)
  intro y t' k hx
  k_steps
  refine ⟨?_⟩
  refine' slice_brZ ?F ?N ?a ?_ ?s ?t
  (case a => with_reducible assumption)
  (case F => k_asm)
  (case N => k_asm)
  (case s => with_unfolding_all rfl)
  (case t => intro _; with_unfolding_all rfl)
  intro y h' t' k F' N' hx
  try k_sweep
  k_steps
  refine ⟨?_⟩
  refine' int_brZ ?a ?_
  (case a => with_reducible assumption)
  intro t' k
  k_steps
  exact hret _ _ _ (by assumption) (by assumption)
end
end Ntt
end

section
open PySem PySem.W PyProof.Rows
set_option maxRecDepth 100000
namespace Ntt
/-- the same number to the modulus -/
def Cg (a b : Int) : Prop := a % 8380417 = b % 8380417
namespace Cg
theorem rfl' (a : Int) : Cg a a := rfl
theorem symm {a b : Int} (h : Cg a b) : Cg b a := Eq.symm h
theorem trans {a b c : Int} (h : Cg a b) (g : Cg b c) : Cg a c := Eq.trans h g
theorem of_eq {a b : Int} (h : a = b) : Cg a b := h ▸ rfl' a
theorem add {a b c d : Int} (h : Cg a b) (g : Cg c d) : Cg (a + c) (b + d) := by
  unfold Cg at *; rw [Int.add_emod, h, g, ← Int.add_emod]
theorem sub {a b c d : Int} (h : Cg a b) (g : Cg c d) : Cg (a - c) (b - d) := by
  unfold Cg at *; rw [Int.sub_emod, h, g, ← Int.sub_emod]
theorem mul {a b c d : Int} (h : Cg a b) (g : Cg c d) : Cg (a * c) (b * d) := by
  unfold Cg at *; rw [Int.mul_emod, h, g, ← Int.mul_emod]
theorem neg {a b : Int} (h : Cg a b) : Cg (-a) (-b) := by
  have := sub (rfl' 0) h
  simpa using this
theorem fm (a : Int) : Cg (a.fmod 8380417) a := by
  unfold Cg; rw [Int.fmod_eq_emod_of_nonneg _ (by decide), Int.emod_emod]
theorem fmod_eq {a b : Int} (h : Cg a b) : a.fmod 8380417 = b.fmod 8380417 := by
  rw [Int.fmod_eq_emod_of_nonneg _ (by decide), Int.fmod_eq_emod_of_nonneg _ (by decide)]; exact h
end Cg
/-- powers of the root -/
def P (j : Nat) : Int := 1753 ^ j
theorem P_add (a b : Nat) : P (a + b) = P a * P b := Int.pow_add _ _ _
theorem P_zero : P 0 = 1 := rfl
theorem P_256 : Cg (P 256) (-1) := by unfold Cg P; decide +kernel
theorem P_512 : Cg (P 512) 1 := by unfold Cg P; decide +kernel
theorem P_half (a : Nat) : Cg (P (a + 256)) (-P a) := by
  rw [P_add]
  exact (Cg.mul (Cg.rfl' _) P_256).trans (Cg.of_eq (by omega))
theorem P_per (a : Nat) : ∀ k, Cg (P (a + 512 * k)) (P a)
  | 0 => Cg.rfl' _
  | k + 1 => by
    rw [show a + 512 * (k + 1) = (a + 512 * k) + 512 by omega, P_add]
    exact (Cg.mul (P_per a k) P_512).trans (Cg.of_eq (by omega))
theorem P_mod (a : Nat) : Cg (P (a % 512)) (P a) := by
  have := P_per (a % 512) (a / 512)
  rw [Nat.mod_add_div] at this
  exact this.symm
theorem P_eqv {a b : Nat} (h : a % 512 = b % 512) : Cg (P a) (P b) := ((P_mod a).symm.trans (Cg.of_eq (by rw [h]))).trans (P_mod b)
/-- a sum -/
def sm (f : Nat → Int) : Nat → Int
  | 0 => 0
  | n + 1 => sm f n + f n
theorem sm_cg {f g : Nat → Int} : ∀ n, (∀ i, i < n → Cg (f i) (g i)) → Cg (sm f n) (sm g n)
  | 0, _ => Cg.rfl' _
  | n + 1, h => Cg.add (sm_cg n fun i hi => h i (by omega)) (h n (by omega))
theorem sm_eq {f g : Nat → Int} : ∀ n, (∀ i, i < n → f i = g i) → sm f n = sm g n
  | 0, _ => rfl
  | n + 1, h => by rw [sm, sm, sm_eq n fun i hi => h i (by omega), h n (by omega)]
theorem sm_split (f : Nat → Int) (a : Nat) : ∀ b, sm f (a + b) = sm f a + sm (fun i => f (a + i)) b
  | 0 => by simp [sm]
  | b + 1 => by rw [← Nat.add_assoc, sm, sm_split f a b, sm]; omega
theorem sm_add (f g : Nat → Int) : ∀ n, sm (fun i => f i + g i) n = sm f n + sm g n
  | 0 => rfl
  | n + 1 => by rw [sm, sm, sm, sm_add f g n]; omega
theorem sm_mul (f : Nat → Int) (c : Int) : ∀ n, sm (fun i => f i * c) n = sm f n * c
  | 0 => by simp [sm]
  | n + 1 => by rw [sm, sm, sm_mul f c n, Int.add_mul]
/-- the place with its digits turned about -/
def rv (k : Nat) : Nat := (tnF k 8).toNat
theorem pwL_get : ∀ n k, k ≤ n → Cg ((pwL n).getD k 0) (P k)
  | 0, k, h => by obtain rfl : k = 0 := by omega
                  exact Cg.rfl' _
  | n + 1, k, h => by
    rw [pwL]
    rcases Nat.lt_or_ge n k with hk | hk
    · obtain rfl : k = n + 1 := by omega
      have : (pwL n ++ [((pwL n).getD n 0 * 1753).fmod 8380417]).getD (n + 1) 0 = ((pwL n).getD n 0 * 1753).fmod 8380417 := by
        rw [List.getD_eq_getElem?_getD, List.getElem?_append_right (by rw [pwL_len]; omega), pwL_len]; simp
      rw [this, P_add]
      exact (Cg.fm _).trans (Cg.mul (pwL_get n n (Nat.le_refl _)) (Cg.of_eq rfl))
    · have : (pwL n ++ [((pwL n).getD n 0 * 1753).fmod 8380417]).getD k 0 = (pwL n).getD k 0 := by
        rw [List.getD_eq_getElem?_getD, List.getElem?_append_left (by rw [pwL_len]; omega), List.getD_eq_getElem?_getD]
      rw [this]; exact pwL_get n k hk
theorem pw_get {z : Int} {k : Nat} (h : z.fmod 512 = ((k % 512 : Nat) : Int)) : Cg ((pwL 511).getD (z.fmod 512).toNat 0) (P k) := by
  rw [h, Int.toNat_natCast]
  exact (pwL_get 511 _ (by omega)).trans (P_mod k)
/-- the ring's roots -/
def zetaF (k : Int) : Int := (Builtin.powMod 1753 (tnF k 8).natAbs 8380417 : Nat)
def zetas : List Int := (rangeKs 0 256).map zetaF
def Zs (zs : List Int) : Prop := ∀ k, k < 256 → Cg (zs.getD k 0) (P (rv k))
theorem zeta_ok : ∀ k : Fin 256, (Builtin.powMod 1753 (tnF (k.val : Int) 8).natAbs 8380417) % 8380417 = (1753 ^ rv k.val) % 8380417 := by decide +kernel
theorem zetas_ok : Zs zetas := by
  intro k hk
  have h : zetas.getD k 0 = zetaF k := by
    unfold zetas rangeKs
    simp [hk, List.getD_eq_getElem?_getD]
  rw [h]
  have e := zeta_ok ⟨k, hk⟩
  have e2 := congrArg (fun n : Nat => (n : Int)) e
  rw [Int.natCast_emod, Int.natCast_emod, Int.natCast_pow] at e2
  exact e2
end Ntt
end

section
open PySem PySem.W PyProof.Rows
set_option maxRecDepth 100000
namespace Ntt
theorem getD_set (xs : List Int) (i j : Nat) (v : Int) : (xs.set i v).getD j 0 = if i = j ∧ i < xs.length then v else xs.getD j 0 := by
  rw [List.getD_eq_getElem?_getD, List.getElem?_set, List.getD_eq_getElem?_getD]
  by_cases h : i = j
  · subst h
    by_cases h2 : i < xs.length
    · simp [h2]
    · simp [h2]
  · simp [h]
theorem bf_get (z : Int) (l : Nat) (cs : List Int) (j p : Nat) (hl : 0 < l) (h : j + l < cs.length) :
    (bf z l cs j).getD p 0 = if p = j then cs.getD j 0 + z * cs.getD (j + l) 0 else if p = j + l then cs.getD j 0 - z * cs.getD (j + l) 0 else cs.getD p 0 := by
  unfold bf
  rw [getD_set, List.length_set, getD_set]
  rw [if_neg (by omega : ¬ (j + l = j ∧ j + l < cs.length))]
  by_cases h1 : p = j
  · subst h1
    rw [if_pos ⟨rfl, by omega⟩, if_pos rfl]
  · rw [if_neg (by omega), if_neg h1, getD_set]
    by_cases h2 : p = j + l
    · subst h2
      rw [if_pos ⟨rfl, h⟩, if_pos rfl]
    · rw [if_neg (by omega), if_neg h2]
theorem blk_get (z : Int) (l st : Nat) (cs : List Int) (hl : 0 < l) (h : st + 2 * l ≤ cs.length) : ∀ n, n ≤ l → ∀ p, (blk z l st cs n).getD p 0 =
    if st ≤ p ∧ p < st + n then cs.getD p 0 + z * cs.getD (p + l) 0 else if st + l ≤ p ∧ p < st + l + n then cs.getD (p - l) 0 - z * cs.getD p 0 else cs.getD p 0
  | 0, _, p => by rw [if_neg (by omega), if_neg (by omega)]; rfl
  | n + 1, hn, p => by
    have ih := blk_get z l st cs hl h n (by omega)
    rw [blk, bf_get _ _ _ _ _ hl (by rw [blk_len]; omega)]
    have e1 : (blk z l st cs n).getD (st + n) 0 = cs.getD (st + n) 0 := by rw [ih, if_neg (by omega), if_neg (by omega)]
    have e2 : (blk z l st cs n).getD (st + n + l) 0 = cs.getD (st + n + l) 0 := by rw [ih, if_neg (by omega), if_neg (by omega)]
    rw [e1, e2]
    by_cases h1 : p = st + n
    · subst h1
      rw [if_pos rfl, if_pos (by omega)]
    · rw [if_neg h1]
      by_cases h2 : p = st + n + l
      · subst h2
        rw [if_pos rfl, if_neg (by omega), if_pos (by omega), show st + n + l - l = st + n by omega]
      · rw [if_neg h2, ih]
        by_cases h3 : st ≤ p ∧ p < st + n
        · rw [if_pos h3, if_pos (by omega)]
        · rw [if_neg h3]
          by_cases h4 : st + l ≤ p ∧ p < st + l + n
          · rw [if_pos h4, if_neg (by omega), if_pos (by omega)]
          · rw [if_neg h4, if_neg (by omega), if_neg (by omega)]
theorem stt_mono (l : Nat) {a b : Nat} (h : a ≤ b) : stt l a ≤ stt l b := Nat.mul_le_mul_left _ h
/-- what a level makes: below, above -/
theorem lvl_get (zs : List Int) (l k0 : Nat) (cs : List Int) (hl : 0 < l) : ∀ n, stt l n ≤ cs.length →
    (∀ b i, b < n → i < l → (lvl zs l k0 cs n).getD (stt l b + i) 0 = cs.getD (stt l b + i) 0 + zs.getD (k0 + b + 1) 0 * cs.getD (stt l b + i + l) 0 ∧
      (lvl zs l k0 cs n).getD (stt l b + l + i) 0 = cs.getD (stt l b + i) 0 - zs.getD (k0 + b + 1) 0 * cs.getD (stt l b + i + l) 0) ∧
    (∀ p, stt l n ≤ p → (lvl zs l k0 cs n).getD p 0 = cs.getD p 0)
  | 0, _ => ⟨fun b i hb => absurd hb (by omega), fun p _ => rfl⟩
  | n + 1, h => by
    have hs := stt_succ l n
    obtain ⟨ih1, ih2⟩ := lvl_get zs l k0 cs hl n (by omega)
    have B := blk_get (zs.getD (k0 + n + 1) 0) l (stt l n) (lvl zs l k0 cs n) hl (by rw [lvl_len]; omega) l (Nat.le_refl _)
    refine ⟨fun b i hb hi => ?_, fun p hp => ?_⟩
    · rw [lvl, B, B]
      rcases Nat.lt_or_ge b n with hb' | hb'
      · have h1 := stt_mono l (show b + 1 ≤ n from hb')
        have h2 := stt_succ l b
        rw [if_neg (by omega), if_neg (by omega), if_neg (by omega), if_neg (by omega)]
        exact ih1 b i hb' hi
      · obtain rfl : b = n := by omega
        rw [if_pos (by omega), if_neg (by omega), if_pos (by omega), show stt l b + l + i - l = stt l b + i by omega, show stt l b + l + i = stt l b + i + l by omega,
          ih2 _ (by omega), ih2 _ (by omega)]
        exact ⟨rfl, rfl⟩
    · rw [lvl, B, if_neg (by omega), if_neg (by omega), ih2 p (by omega)]
/-- one level of the way there: place s + i of block b -/
theorem ntt_step (zs cs : List Int) (hc : cs.length = 256) {lev : Nat} (h : lev < 8) {b i : Nat} (hb : b < nb lev) (hi : i < lv lev) :
    (nttU zs cs (lev + 1)).getD (stt (lv lev) b + i) 0 = (nttU zs cs lev).getD (stt (lv lev) b + i) 0 + zs.getD (nb lev + b) 0 * (nttU zs cs lev).getD (stt (lv lev) b + lv lev + i) 0 ∧
    (nttU zs cs (lev + 1)).getD (stt (lv lev) b + lv lev + i) 0 = (nttU zs cs lev).getD (stt (lv lev) b + i) 0 - zs.getD (nb lev + b) 0 * (nttU zs cs lev).getD (stt (lv lev) b + lv lev + i) 0 := by
  have h0 := lv_nb lev h
  have := (lvl_get zs (lv lev) (nb lev - 1) (nttU zs cs lev) h0.2.1 (nb lev) (by rw [nttU_len, hc]; unfold stt; rw [Nat.mul_assoc, h0.1]; omega)).1 b i hb hi
  rw [show nb lev - 1 + b + 1 = nb lev + b by omega, show stt (lv lev) b + i + lv lev = stt (lv lev) b + lv lev + i by omega] at this
  exact this
/-- the place's root -/
def ex (p : Nat) : Nat := 2 * rv p + 1
theorem root_dec0 : ∀ lev : Fin 8, ∀ p : Fin 256, (ex p.val * lv lev.val) % 512 = (rv (nb lev.val + p.val / (2 * lv lev.val)) + 256 * (p.val / lv lev.val % 2)) % 512 := by decide +kernel
theorem root_dec {lev : Nat} (h : lev < 8) {b i : Nat} (hb : b < nb lev) (hi : i < lv lev) :
    (ex (stt (lv lev) b + i) * lv lev) % 512 = (rv (nb lev + b)) % 512 ∧
    (ex (stt (lv lev) b + lv lev + i) * lv lev) % 512 = (rv (nb lev + b) + 256) % 512 := by
  have h0 := lv_nb lev h
  have hs := stt_le h hb
  have a1 : stt (lv lev) b + i < 256 := by omega
  have a2 : stt (lv lev) b + lv lev + i < 256 := by omega
  have r1 := root_dec0 ⟨lev, h⟩ ⟨_, a1⟩
  have r2 := root_dec0 ⟨lev, h⟩ ⟨_, a2⟩
  simp only at r1 r2
  have e1 : (stt (lv lev) b + i) / (2 * lv lev) = b := by
    unfold stt; rw [Nat.mul_add_div (by omega), Nat.div_eq_of_lt (by omega)] <;> omega
  have e2 : (stt (lv lev) b + lv lev + i) / (2 * lv lev) = b := by
    unfold stt; rw [Nat.add_assoc, Nat.mul_add_div (by omega), Nat.div_eq_of_lt (by omega)] <;> omega
  have f1 : (stt (lv lev) b + i) / lv lev = 2 * b := by
    unfold stt; rw [show 2 * lv lev * b = lv lev * (2 * b) by grind, Nat.mul_add_div (by omega), Nat.div_eq_of_lt (by omega)] <;> omega
  have f2 : (stt (lv lev) b + lv lev + i) / lv lev = 2 * b + 1 := by
    unfold stt; rw [show 2 * lv lev * b + lv lev = lv lev * (2 * b + 1) by grind, Nat.mul_add_div (by omega), Nat.div_eq_of_lt (by omega)] <;> omega
  rw [e1, f1] at r1
  rw [e2, f2] at r2
  rw [r1, r2]
  constructor <;> omega
/-- the worth at a place's root of what stands in the place's block -/
def Vv (cs : List Int) (s l e : Nat) : Int := sm (fun j => cs.getD (s + j) 0 * P (e * j)) l
theorem Vv_two (cs cs' : List Int) (s l e : Nat) (z : Int) (hz : Cg (P (e * l)) z) (s' : Nat) (h : ∀ i, i < l → cs'.getD (s' + i) 0 = cs.getD (s + i) 0 + z * cs.getD (s + l + i) 0) :
    Cg (Vv cs s (2 * l) e) (Vv cs' s' l e) := by
  unfold Vv
  rw [Nat.two_mul, sm_split, ← sm_add]
  refine sm_cg l fun i hi => ?_
  rw [h i hi, Int.add_mul, Nat.mul_add, P_add, ← Nat.add_assoc]
  refine Cg.add (Cg.rfl' _) ?_
  refine (Cg.mul (Cg.rfl' _) (Cg.mul hz (Cg.rfl' _))).trans (Cg.of_eq ?_)
  grind
theorem ntt_down (zs cs : List Int) (hz : Zs zs) (hc : cs.length = 256) {lev : Nat} (h : lev < 8) {b i : Nat} (hb : b < nb lev) (hi : i < lv lev) :
    Cg (Vv (nttU zs cs lev) (stt (lv lev) b) (2 * lv lev) (ex (stt (lv lev) b + i))) (Vv (nttU zs cs (lev + 1)) (stt (lv lev) b) (lv lev) (ex (stt (lv lev) b + i))) ∧
    Cg (Vv (nttU zs cs lev) (stt (lv lev) b) (2 * lv lev) (ex (stt (lv lev) b + lv lev + i))) (Vv (nttU zs cs (lev + 1)) (stt (lv lev) b + lv lev) (lv lev) (ex (stt (lv lev) b + lv lev + i))) := by
  have h0 := lv_nb lev h
  have r := root_dec h hb hi
  have hk : nb lev + b < 256 := by omega
  refine ⟨Vv_two _ _ _ _ _ (zs.getD (nb lev + b) 0) ((P_eqv r.1).trans (hz _ hk).symm) _ fun i hi => (ntt_step zs cs hc h hb hi).1,
    Vv_two _ _ _ _ _ (-zs.getD (nb lev + b) 0) (((P_eqv r.2).trans (P_half _)).trans (hz _ hk).symm.neg) _ fun i hi => ?_⟩
  rw [(ntt_step zs cs hc h hb hi).2, Int.neg_mul]; omega
end Ntt
end

section
open PySem PySem.W PyProof.Rows
set_option maxRecDepth 100000
namespace Ntt
def wd (lev : Nat) : Nat := 256 / 2 ^ lev
theorem wd_lv : ∀ lev, lev < 8 → wd lev = 2 * lv lev ∧ wd (lev + 1) = lv lev :=
  lev_cases (by decide) (by decide) (by decide) (by decide) (by decide) (by decide) (by decide) (by decide)
theorem ntt_path (zs cs : List Int) (hz : Zs zs) (hc : cs.length = 256) {p : Nat} (hp : p < 256) : ∀ lev, lev ≤ 8 →
    Cg (Vv cs 0 256 (ex p)) (Vv (nttU zs cs lev) (wd lev * (p / wd lev)) (wd lev) (ex p))
  | 0, _ => by
    rw [show wd 0 = 256 from rfl, Nat.div_eq_of_lt hp]
    exact Cg.rfl' _
  | lev + 1, h => by
    have hl : lev < 8 := h
    refine (ntt_path zs cs hz hc hp lev (by omega)).trans ?_
    obtain ⟨w1, w2⟩ := wd_lv lev hl
    have h0 := lv_nb lev hl
    generalize hB : p / wd lev = b
    have hb : b < nb lev := by
      rw [← hB, w1]
      refine Nat.div_lt_of_lt_mul ?_
      rw [Nat.mul_assoc, h0.1]
      omega
    have hm := Nat.div_add_mod p (wd lev)
    have hr := Nat.mod_lt p (show 0 < wd lev by omega)
    rw [hB] at hm
    have hst : wd lev * b = stt (lv lev) b := by rw [w1]; rfl
    rw [hst] at hm ⊢
    rw [w2, w1]
    rcases Nat.lt_or_ge (p % wd lev) (lv lev) with hc1 | hc1
    · have := (ntt_down zs cs hz hc hl hb hc1).1
      rw [hm] at this
      have e : lv lev * (p / lv lev) = stt (lv lev) b := by
        have : p / lv lev = 2 * b := by
          rw [← hm]
          unfold stt; rw [show 2 * lv lev * b = lv lev * (2 * b) by grind, Nat.mul_add_div (by omega), Nat.div_eq_of_lt (by omega)] <;> omega
        rw [this]; unfold stt; grind
      rw [e]; exact this
    · have := (ntt_down zs cs hz hc hl hb (show p % wd lev - lv lev < lv lev by omega)).2
      rw [show stt (lv lev) b + lv lev + (p % wd lev - lv lev) = p by omega] at this
      have e : lv lev * (p / lv lev) = stt (lv lev) b + lv lev := by
        have : p / lv lev = 2 * b + 1 := by
          rw [show p = stt (lv lev) b + lv lev + (p % wd lev - lv lev) by omega]
          unfold stt; rw [show 2 * lv lev * b + lv lev = lv lev * (2 * b + 1) by grind, Nat.mul_add_div (by omega), Nat.div_eq_of_lt (by omega)] <;> omega
        rw [this]; unfold stt; grind
      rw [e]; exact this
theorem ntt_at (zs cs : List Int) (hz : Zs zs) (hc : cs.length = 256) {p : Nat} (hp : p < 256) :
    Cg ((nttU zs cs 8).getD p 0) (Vv cs 0 256 (ex p)) := by
  refine ((ntt_path zs cs hz hc hp 8 (Nat.le_refl _)).trans (Cg.of_eq ?_)).symm
  rw [show wd 8 = 1 from rfl, Nat.div_one, Nat.one_mul]
  simp [Vv, sm, P]
theorem redF_get (cs : List Int) (hc : cs.length = 256) : ∀ n, n ≤ 256 → ∀ p, (redF cs n).getD p 0 = if p < n then (cs.getD p 0).fmod 8380417 else cs.getD p 0
  | 0, _, p => by rw [if_neg (by omega)]; rfl
  | n + 1, h, p => by
    rw [redF, getD_set, redF_len, hc]
    by_cases hp : n = p
    · subst hp
      rw [if_pos (by omega), if_pos (by omega), redF_get cs hc n (by omega), if_neg (by omega)]
    · rw [if_neg (by omega), redF_get cs hc n (by omega)]
      by_cases h2 : p < n
      · rw [if_pos h2, if_pos (by omega)]
      · rw [if_neg h2, if_neg (by omega)]
theorem redI_get (cs : List Int) (hc : cs.length = 256) : ∀ n, n ≤ 256 → ∀ p, (redI cs n).getD p 0 = if p < n then (cs.getD p 0 * 8347681).fmod 8380417 else cs.getD p 0
  | 0, _, p => by rw [if_neg (by omega)]; rfl
  | n + 1, h, p => by
    rw [redI, getD_set, redI_len, hc]
    by_cases hp : n = p
    · subst hp
      rw [if_pos (by omega), if_pos (by omega), redI_get cs hc n (by omega), if_neg (by omega)]
    · rw [if_neg (by omega), redI_get cs hc n (by omega)]
      by_cases h2 : p < n
      · rw [if_pos h2, if_pos (by omega)]
      · rw [if_neg h2, if_neg (by omega)]
theorem worthF_sm (ps ns : List Int) (st : Int) : ∀ n, worthF ps ns st n = sm (fun k => ns.getD k 0 * ps.getD ((st * (k : Int)).fmod 512).toNat 0) n
  | 0 => rfl
  | n + 1 => by rw [worthF, sm, worthF_sm ps ns st n]
theorem backF_sm (ps ts ns : List Int) (pl : Int) : ∀ n, backF ps ts ns pl n = sm (fun k => ns.getD k 0 * ps.getD ((0 - (2 * ts.getD k 0 + 1) * pl).fmod 512).toNat 0) n
  | 0 => rfl
  | n + 1 => by rw [backF, sm, backF_sm ps ts ns pl n]
theorem tnF_rv : ∀ p : Fin 256, tnF (p.val : Int) 8 = (rv p.val : Int) ∧ rv p.val < 256 := by decide +kernel
theorem worth_Vv (ns : List Int) {p : Nat} (hp : p < 256) : Cg (worthF (pwL 511) ns (2 * tnF (p : Int) 8 + 1) 256) (Vv ns 0 256 (ex p)) := by
  rw [worthF_sm]
  refine sm_cg 256 fun i hi => ?_
  rw [Nat.zero_add]
  refine Cg.mul (Cg.rfl' _) (pw_get ?_)
  have e := (tnF_rv ⟨p, hp⟩).1
  simp only at e
  rw [e, Int.fmod_eq_emod_of_nonneg _ (by decide), Int.natCast_emod]
  unfold ex
  simp
/-- the way there, as the law tells it -/
theorem ntt_worth (ns : List Int) (hc : ns.length = 256) {p : Nat} (hp : p < 256) :
    (redF (nttU zetas ns 8) 256).getD p 0 = (worthF (pwL 511) ns (2 * tnF (p : Int) 8 + 1) 256).fmod 8380417 := by
  rw [redF_get _ (by rw [nttU_len, hc]) 256 (Nat.le_refl _), if_pos hp]
  exact Cg.fmod_eq ((ntt_at zetas ns zetas_ok hc hp).trans (worth_Vv ns hp).symm)
end Ntt
end

section
open PySem PySem.W PyProof.Rows
set_option maxRecDepth 100000
namespace Ntt
theorem bi_get (z : Int) (l : Nat) (cs : List Int) (j p : Nat) (hl : 0 < l) (h : j + l < cs.length) :
    (bi z l cs j).getD p 0 = if p = j then cs.getD j 0 + cs.getD (j + l) 0 else if p = j + l then z * (cs.getD j 0 - cs.getD (j + l) 0) else cs.getD p 0 := by
  unfold bi
  dsimp only
  have e1 : (cs.set j (cs.getD j 0 + cs.getD (j + l) 0)).getD (j + l) 0 = cs.getD (j + l) 0 := by rw [getD_set, if_neg (by omega)]
  rw [e1, getD_set, List.length_set, List.length_set, getD_set (i := j + l) (j := j + l), List.length_set, if_pos (show j + l = j + l ∧ j + l < cs.length from ⟨rfl, h⟩)]
  by_cases h1 : p = j
  · subst h1
    rw [if_neg (by omega), if_pos rfl, getD_set, if_neg (by omega), getD_set, if_pos (by omega)]
  · rw [if_neg h1]
    by_cases h2 : p = j + l
    · subst h2
      rw [if_pos ⟨rfl, h⟩, if_pos rfl]
    · rw [if_neg (by omega), if_neg h2, getD_set, if_neg (by omega), getD_set, if_neg (by omega)]
theorem blkI_get (z : Int) (l st : Nat) (cs : List Int) (hl : 0 < l) (h : st + 2 * l ≤ cs.length) : ∀ n, n ≤ l → ∀ p, (blkI z l st cs n).getD p 0 =
    if st ≤ p ∧ p < st + n then cs.getD p 0 + cs.getD (p + l) 0 else if st + l ≤ p ∧ p < st + l + n then z * (cs.getD (p - l) 0 - cs.getD p 0) else cs.getD p 0
  | 0, _, p => by rw [if_neg (by omega), if_neg (by omega)]; rfl
  | n + 1, hn, p => by
    have ih := blkI_get z l st cs hl h n (by omega)
    rw [blkI, bi_get _ _ _ _ _ hl (by rw [blkI_len]; omega)]
    have e1 : (blkI z l st cs n).getD (st + n) 0 = cs.getD (st + n) 0 := by rw [ih, if_neg (by omega), if_neg (by omega)]
    have e2 : (blkI z l st cs n).getD (st + n + l) 0 = cs.getD (st + n + l) 0 := by rw [ih, if_neg (by omega), if_neg (by omega)]
    rw [e1, e2]
    by_cases h1 : p = st + n
    · subst h1
      rw [if_pos rfl, if_pos (by omega)]
    · rw [if_neg h1]
      by_cases h2 : p = st + n + l
      · subst h2
        rw [if_pos rfl, if_neg (by omega), if_pos (by omega), show st + n + l - l = st + n by omega]
      · rw [if_neg h2, ih]
        by_cases h3 : st ≤ p ∧ p < st + n
        · rw [if_pos h3, if_pos (by omega)]
        · rw [if_neg h3]
          by_cases h4 : st + l ≤ p ∧ p < st + l + n
          · rw [if_pos h4, if_neg (by omega), if_pos (by omega)]
          · rw [if_neg h4, if_neg (by omega), if_neg (by omega)]
theorem lvlI_get (zs : List Int) (l k0 : Nat) (cs : List Int) (hl : 0 < l) : ∀ n, stt l n ≤ cs.length →
    (∀ b i, b < n → i < l → (lvlI zs l k0 cs n).getD (stt l b + i) 0 = cs.getD (stt l b + i) 0 + cs.getD (stt l b + i + l) 0 ∧
      (lvlI zs l k0 cs n).getD (stt l b + l + i) 0 = -zs.getD (k0 - b - 1) 0 * (cs.getD (stt l b + i) 0 - cs.getD (stt l b + i + l) 0)) ∧
    (∀ p, stt l n ≤ p → (lvlI zs l k0 cs n).getD p 0 = cs.getD p 0)
  | 0, _ => ⟨fun b i hb => absurd hb (by omega), fun p _ => rfl⟩
  | n + 1, h => by
    have hs := stt_succ l n
    obtain ⟨ih1, ih2⟩ := lvlI_get zs l k0 cs hl n (by omega)
    have B := blkI_get (-zs.getD (k0 - n - 1) 0) l (stt l n) (lvlI zs l k0 cs n) hl (by rw [lvlI_len]; omega) l (Nat.le_refl _)
    refine ⟨fun b i hb hi => ?_, fun p hp => ?_⟩
    · rw [lvlI, B, B]
      rcases Nat.lt_or_ge b n with hb' | hb'
      · have h1 := stt_mono l (show b + 1 ≤ n from hb')
        have h2 := stt_succ l b
        rw [if_neg (by omega), if_neg (by omega), if_neg (by omega), if_neg (by omega)]
        exact ih1 b i hb' hi
      · obtain rfl : b = n := by omega
        rw [if_pos (by omega), if_neg (by omega), if_pos (by omega), show stt l b + l + i - l = stt l b + i by omega, show stt l b + l + i = stt l b + i + l by omega,
          ih2 _ (by omega), ih2 _ (by omega)]
        exact ⟨rfl, rfl⟩
    · rw [lvlI, B, if_neg (by omega), if_neg (by omega), ih2 p (by omega)]
/-- one level of the way back -/
theorem inv_step (zs cs : List Int) (hc : cs.length = 256) {lev : Nat} (h : lev < 8) {b i : Nat} (hb : b < lv lev) (hi : i < nb lev) :
    (nttI zs cs (lev + 1)).getD (stt (nb lev) b + i) 0 = (nttI zs cs lev).getD (stt (nb lev) b + i) 0 + (nttI zs cs lev).getD (stt (nb lev) b + nb lev + i) 0 ∧
    (nttI zs cs (lev + 1)).getD (stt (nb lev) b + nb lev + i) 0 = -zs.getD (kk lev - b - 1) 0 * ((nttI zs cs lev).getD (stt (nb lev) b + i) 0 - (nttI zs cs lev).getD (stt (nb lev) b + nb lev + i) 0) := by
  have h0 := nb_kk lev h
  have h1 := lv_nb lev h
  have := (lvlI_get zs (nb lev) (kk lev) (nttI zs cs lev) h1.2.2.1 (lv lev) (by rw [nttI_len, hc]; unfold stt; rw [Nat.mul_assoc, h0.1]; omega)).1 b i hb hi
  rw [show stt (nb lev) b + i + nb lev = stt (nb lev) b + nb lev + i by omega] at this
  exact this
/-- the contrary power -/
def ey (p : Nat) : Nat := 512 - ex p
theorem rootI_dec0 : ∀ lev : Fin 8, ∀ p : Fin 256, (ey p.val * nb lev.val) % 512 = (rv (kk lev.val - p.val / (2 * nb lev.val) - 1) + 256 + 256 * (p.val / nb lev.val % 2)) % 512 := by decide +kernel
theorem rootI_dec {lev : Nat} (h : lev < 8) {b i : Nat} (hb : b < lv lev) (hi : i < nb lev) :
    (ey (stt (nb lev) b + i) * nb lev) % 512 = (rv (kk lev - b - 1) + 256) % 512 ∧
    (ey (stt (nb lev) b + nb lev + i) * nb lev) % 512 = (rv (kk lev - b - 1)) % 512 := by
  have h0 := nb_kk lev h
  have hs := sttI_le h hb
  have a1 : stt (nb lev) b + i < 256 := by omega
  have a2 : stt (nb lev) b + nb lev + i < 256 := by omega
  have r1 := rootI_dec0 ⟨lev, h⟩ ⟨_, a1⟩
  have r2 := rootI_dec0 ⟨lev, h⟩ ⟨_, a2⟩
  simp only at r1 r2
  have e1 : (stt (nb lev) b + i) / (2 * nb lev) = b := by
    unfold stt; rw [Nat.mul_add_div (by omega), Nat.div_eq_of_lt (by omega)] <;> omega
  have e2 : (stt (nb lev) b + nb lev + i) / (2 * nb lev) = b := by
    unfold stt; rw [Nat.add_assoc, Nat.mul_add_div (by omega), Nat.div_eq_of_lt (by omega)] <;> omega
  have f1 : (stt (nb lev) b + i) / nb lev = 2 * b := by
    unfold stt; rw [show 2 * nb lev * b = nb lev * (2 * b) by grind, Nat.mul_add_div (by omega), Nat.div_eq_of_lt (by omega)] <;> omega
  have f2 : (stt (nb lev) b + nb lev + i) / nb lev = 2 * b + 1 := by
    unfold stt; rw [show 2 * nb lev * b + nb lev = nb lev * (2 * b + 1) by grind, Nat.mul_add_div (by omega), Nat.div_eq_of_lt (by omega)] <;> omega
  rw [e1, f1] at r1
  rw [e2, f2] at r2
  rw [r1, r2]
  constructor <;> omega
/-- what a block of length l, at s, holds at j on the way back -/
def Ww (ns : List Int) (s l j : Nat) : Int := sm (fun i => ns.getD (s + i) 0 * P (ey (s + i) * j)) l
theorem inv_at (zs ns : List Int) (hz : Zs zs) (hc : ns.length = 256) : ∀ lev, lev ≤ 8 → ∀ b j, b * nb lev + nb lev ≤ 256 → j < nb lev →
    Cg ((nttI zs ns lev).getD (b * nb lev + j) 0) (Ww ns (b * nb lev) (nb lev) j)
  | 0, _, b, j, hb, hj => by
    have : j = 0 := by change j < 1 at hj; omega
    subst this
    rw [show nb 0 = 1 from rfl]
    simp [Ww, sm, nttI, P, Cg]
  | lev + 1, h, b, j, hb, hj => by
    have hl : lev < 8 := h
    have h0 := nb_kk lev hl
    have h1 := lv_nb lev hl
    have e2 : nb (lev + 1) = 2 * nb lev := h1.2.2.2.2.2.2
    have hbl : b < lv lev := by
      rcases Nat.lt_or_ge b (lv lev) with h2 | h2
      · exact h2
      · have := Nat.mul_le_mul_right (nb (lev + 1)) h2
        rw [e2, show lv lev * (2 * nb lev) = 2 * (nb lev * lv lev) by grind, h0.1] at this
        rw [e2] at hb
        omega
    have es : b * nb (lev + 1) = stt (nb lev) b := by rw [e2]; unfold stt; grind
    rw [es, e2]
    rw [e2] at hj
    have hb' := sttI_le hl hbl
    have s1 : stt (nb lev) b = (2 * b) * nb lev := by unfold stt; grind
    have s2 : stt (nb lev) b + nb lev = (2 * b + 1) * nb lev := by unfold stt; grind
    have ih := inv_at zs ns hz hc lev (by omega)
    have W2 : ∀ j, Ww ns (stt (nb lev) b) (2 * nb lev) j = Ww ns (stt (nb lev) b) (nb lev) j + Ww ns (stt (nb lev) b + nb lev) (nb lev) j := by
      intro j
      unfold Ww
      rw [Nat.two_mul, sm_split]
      congr 1
      exact sm_eq _ fun i _ => by rw [Nat.add_assoc]
    have ia : ∀ i, i < nb lev → Cg ((nttI zs ns lev).getD (stt (nb lev) b + i) 0) (Ww ns (stt (nb lev) b) (nb lev) i) := by
      intro i hi; rw [s1]; exact ih (2 * b) i (by omega) hi
    have ib : ∀ i, i < nb lev → Cg ((nttI zs ns lev).getD (stt (nb lev) b + nb lev + i) 0) (Ww ns (stt (nb lev) b + nb lev) (nb lev) i) := by
      intro i hi; rw [s2]; exact ih (2 * b + 1) i (by omega) hi
    rcases Nat.lt_or_ge j (nb lev) with hj1 | hj1
    · rw [(inv_step zs ns hc hl hbl hj1).1, W2]
      exact Cg.add (ia j hj1) (ib j hj1)
    · obtain ⟨i, rfl⟩ : ∃ i, j = nb lev + i := ⟨j - nb lev, by omega⟩
      have hi : i < nb lev := by omega
      rw [← Nat.add_assoc, (inv_step zs ns hc hl hbl hi).2, W2]
      have hk : kk lev - b - 1 < 256 := by omega
      have z1 := hz _ hk
      have p1 : Cg (Ww ns (stt (nb lev) b) (nb lev) (nb lev + i)) (-zs.getD (kk lev - b - 1) 0 * Ww ns (stt (nb lev) b) (nb lev) i) := by
        unfold Ww
        rw [Int.mul_comm (-_), ← sm_mul]
        refine sm_cg _ fun t ht => ?_
        rw [Nat.mul_add, P_add]
        have r := (P_eqv (rootI_dec hl hbl ht).1).trans ((P_half _).trans z1.symm.neg)
        refine (Cg.mul (Cg.rfl' _) (Cg.mul r (Cg.rfl' _))).trans (Cg.of_eq ?_)
        grind
      have p2 : Cg (Ww ns (stt (nb lev) b + nb lev) (nb lev) (nb lev + i)) (zs.getD (kk lev - b - 1) 0 * Ww ns (stt (nb lev) b + nb lev) (nb lev) i) := by
        unfold Ww
        rw [Int.mul_comm (zs.getD _ _), ← sm_mul]
        refine sm_cg _ fun t ht => ?_
        rw [Nat.mul_add, P_add]
        have r := (P_eqv (rootI_dec hl hbl ht).2).trans z1.symm
        refine (Cg.mul (Cg.rfl' _) (Cg.mul r (Cg.rfl' _))).trans (Cg.of_eq ?_)
        grind
      refine ((Cg.mul (Cg.rfl' _) (Cg.sub (ia i hi) (ib i hi))).trans (Cg.of_eq ?_)).trans (Cg.add p1 p2).symm
      grind
theorem inv_all (zs ns : List Int) (hz : Zs zs) (hc : ns.length = 256) {p : Nat} (hp : p < 256) : Cg ((nttI zs ns 8).getD p 0) (Ww ns 0 256 p) := by
  have := inv_at zs ns hz hc 8 (Nat.le_refl _) 0 p (by decide) hp
  rw [Nat.zero_mul, Nat.zero_add, show nb 8 = 256 from rfl] at this
  exact this
theorem ex_lt : ∀ p : Fin 256, ex p.val < 512 := by decide +kernel
theorem back_Ww (ts ns : List Int) (ht : ∀ k, k < 256 → ts.getD k 0 = tnF (k : Int) 8) (pl : Nat) : Cg (backF (pwL 511) ts ns (pl : Int) 256) (Ww ns 0 256 pl) := by
  rw [backF_sm]
  refine sm_cg 256 fun i hi => ?_
  rw [Nat.zero_add]
  refine Cg.mul (Cg.rfl' _) (pw_get ?_)
  have e := (tnF_rv ⟨i, hi⟩).1
  have l := ex_lt ⟨i, hi⟩
  simp only at e l
  rw [ht i hi, e, Int.fmod_eq_emod_of_nonneg _ (by decide), Int.natCast_emod]
  have e2 : ((ey i * pl : Nat) : Int) = 0 - (2 * (rv i : Int) + 1) * (pl : Int) + 512 * pl := by
    unfold ey
    rw [Int.natCast_mul, Int.ofNat_sub (by omega)]
    unfold ex
    grind
  rw [e2]
  omega
/-- the way back, as the law tells it -/
theorem inv_back (ts ns : List Int) (ht : ∀ k, k < 256 → ts.getD k 0 = tnF (k : Int) 8) (hc : ns.length = 256) {p : Nat} (hp : p < 256) :
    (redI (nttI zetas ns 8) 256).getD p 0 = (backF (pwL 511) ts ns (p : Int) 256 * 8347681).fmod 8380417 := by
  rw [redI_get _ (by rw [nttI_len, hc]) 256 (Nat.le_refl _), if_pos hp]
  exact Cg.fmod_eq (Cg.mul ((inv_all zetas ns zetas_ok hc hp).trans (back_Ww ts ns ht p).symm) (Cg.rfl' _))
end Ntt
end

section
open PySem PySem.W PyProof.Rows
set_option maxRecDepth 100000
namespace Ntt
theorem both_dec : ∀ lev : Fin 8, ∀ b : Fin 128, b.val < lv lev.val → rv (kk lev.val - b.val - 1) + rv (nb (7 - lev.val) + b.val) = 256 := by decide +kernel
theorem lv_nb7 : ∀ lev, lev < 8 → lv (7 - lev) = nb lev ∧ nb (7 - lev) = lv lev :=
  lev_cases (by decide) (by decide) (by decide) (by decide) (by decide) (by decide) (by decide) (by decide)
theorem both_one (zs : List Int) (hz : Zs zs) {lev b : Nat} (h : lev < 8) (hb : b < lv lev) : Cg (-zs.getD (kk lev - b - 1) 0 * zs.getD (nb (7 - lev) + b) 0) 1 := by
  have h0 := nb_kk lev h
  have h1 := lv_nb lev h
  have h7 := lv_nb7 lev h
  have d := both_dec ⟨lev, h⟩ ⟨b, by omega⟩ hb
  simp only at d
  have z1 := hz (kk lev - b - 1) (by omega)
  have z2 := hz (nb (7 - lev) + b) (by omega)
  refine (Cg.mul z1.neg z2).trans ?_
  rw [Int.neg_mul, ← P_add, d]
  exact P_256.neg.trans (Cg.of_eq rfl)
theorem round_at (zs ns h : List Int) (hz : Zs zs) (hn : ns.length = 256) (hh : h.length = 256) (hc : ∀ p, p < 256 → Cg (h.getD p 0) ((nttU zs ns 8).getD p 0)) :
    ∀ lev, lev ≤ 8 → ∀ p, p < 256 → Cg ((nttI zs h lev).getD p 0) (2 ^ lev * (nttU zs ns (8 - lev)).getD p 0)
  | 0, _, p, hp => (hc p hp).trans (Cg.of_eq (by rw [show (2 : Int) ^ 0 = 1 from rfl, Int.one_mul]))
  | lev + 1, hl, p, hp => by
    have hl' : lev < 8 := hl
    have ih := round_at zs ns h hz hn hh hc lev (by omega)
    have h0 := nb_kk lev hl'
    have h1 := lv_nb lev hl'
    have h7 := lv_nb7 lev hl'
    generalize hB : p / (2 * nb lev) = b
    have hb : b < lv lev := by
      rw [← hB]
      refine Nat.div_lt_of_lt_mul ?_
      rw [Nat.mul_assoc, h0.1]; omega
    have hm := Nat.div_add_mod p (2 * nb lev)
    have hr := Nat.mod_lt p (show 0 < 2 * nb lev by omega)
    rw [hB] at hm
    have hst : 2 * nb lev * b = stt (nb lev) b := rfl
    rw [hst] at hm
    have hs := sttI_le hl' hb
    have e8 : 8 - lev = (7 - lev) + 1 := by omega
    have e8' : 8 - (lev + 1) = 7 - lev := by omega
    have one := both_one zs hz hl' hb
    have key : ∀ i, i < nb lev → Cg ((nttI zs h (lev + 1)).getD (stt (nb lev) b + i) 0) (2 ^ (lev + 1) * (nttU zs ns (7 - lev)).getD (stt (nb lev) b + i) 0) ∧
        Cg ((nttI zs h (lev + 1)).getD (stt (nb lev) b + nb lev + i) 0) (2 ^ (lev + 1) * (nttU zs ns (7 - lev)).getD (stt (nb lev) b + nb lev + i) 0) := by
      intro i hi
      have s := inv_step zs h hh hl' hb hi
      have f := ntt_step zs ns hn (show 7 - lev < 8 by omega) (b := b) (i := i) (by omega) (by omega)
      rw [h7.1] at f
      have x1 := ih (stt (nb lev) b + i) (by omega)
      have x2 := ih (stt (nb lev) b + nb lev + i) (by omega)
      rw [e8, f.1] at x1
      rw [e8, f.2] at x2
      rw [s.1, s.2, Int.pow_succ]
      refine ⟨(Cg.add x1 x2).trans (Cg.of_eq (by grind)), ?_⟩
      refine (Cg.mul (Cg.rfl' _) (Cg.sub x1 x2)).trans ?_
      refine (Cg.of_eq (b := (-zs.getD (kk lev - b - 1) 0 * zs.getD (nb (7 - lev) + b) 0) * (2 ^ lev * 2 * (nttU zs ns (7 - lev)).getD (stt (nb lev) b + nb lev + i) 0)) (by grind)).trans ?_
      exact (Cg.mul one (Cg.rfl' _)).trans (Cg.of_eq (by rw [Int.one_mul]))
    rw [e8']
    rcases Nat.lt_or_ge (p % (2 * nb lev)) (nb lev) with hc1 | hc1
    · have := (key _ hc1).1
      rw [hm] at this; exact this
    · have := (key (p % (2 * nb lev) - nb lev) (by omega)).2
      rw [show stt (nb lev) b + nb lev + (p % (2 * nb lev) - nb lev) = p by omega] at this; exact this
/-- there and back -/
theorem round_trip (ns h : List Int) (hn : ns.length = 256) (hh : h.length = 256) (hc : ∀ p, p < 256 → Cg (h.getD p 0) ((nttU zetas ns 8).getD p 0)) {p : Nat} (hp : p < 256) :
    (redI (nttI zetas h 8) 256).getD p 0 = (ns.getD p 0).fmod 8380417 := by
  rw [redI_get _ (by rw [nttI_len, hh]) 256 (Nat.le_refl _), if_pos hp]
  refine Cg.fmod_eq ?_
  have := round_at zetas ns h zetas_ok hn hh hc 8 (Nat.le_refl _) p hp
  refine (Cg.mul this (Cg.rfl' _)).trans ?_
  rw [show 8 - 8 = 0 from rfl]
  refine (Cg.of_eq (b := ((2 : Int) ^ 8 * 8347681) * ns.getD p 0) (by rw [nttU]; grind)).trans ?_
  refine (Cg.mul (show Cg ((2 : Int) ^ 8 * 8347681) 1 by unfold Cg; decide +kernel) (Cg.rfl' _)).trans (Cg.of_eq (Int.one_mul _))
end Ntt
end

section
open PySem PySem.W PyProof.Rows
set_option maxRecDepth 100000
namespace Ntt
/-- the law's shifting of one row -/
def shN (ns : List Int) (pl : Nat) (mu : Int) (fs : List Int) : Nat → List Int
  | 0 => fs
  | k + 1 => if k + pl < 256 then (shN ns pl mu fs k).set (k + pl) ((shN ns pl mu fs k).getD (k + pl) 0 + ns.getD k 0 * mu)
    else (shN ns pl mu fs k).set (k + pl - 256) ((shN ns pl mu fs k).getD (k + pl - 256) 0 - ns.getD k 0 * mu)
theorem shN_len (ns : List Int) (pl : Nat) (mu : Int) (fs : List Int) : ∀ k, (shN ns pl mu fs k).length = fs.length
  | 0 => rfl
  | k + 1 => by rw [shN]; split <;> rw [List.length_set, shN_len ns pl mu fs k]
def prF (ns : List Int) (few : List (Nat × Int)) (fs : List Int) : Nat → List Int
  | 0 => fs
  | k + 1 => shN ns (few.getD k (0, 0)).1 (few.getD k (0, 0)).2 (prF ns few fs k) 256
theorem prF_len (ns : List Int) (few : List (Nat × Int)) (fs : List Int) : ∀ k, (prF ns few fs k).length = fs.length
  | 0 => rfl
  | k + 1 => by rw [prF, shN_len, prF_len ns few fs k]
def rwF (few : List (Nat × Int)) (fs : List Int) : Nat → List Int
  | 0 => fs
  | k + 1 => (rwF few fs k).set (few.getD k (0, 0)).1 ((rwF few fs k).getD (few.getD k (0, 0)).1 0 + (few.getD k (0, 0)).2)
theorem rwF_len (few : List (Nat × Int)) (fs : List Int) : ∀ k, (rwF few fs k).length = fs.length
  | 0 => rfl
  | k + 1 => by rw [rwF, List.length_set, rwF_len few fs k]
theorem sm_upd (cs : List Int) (i : Nat) (v : Int) (hi : i < cs.length) (f : Nat → Int) : ∀ n, sm (fun j => (cs.set i (cs.getD i 0 + v)).getD j 0 * f j) n = sm (fun j => cs.getD j 0 * f j) n + (if i < n then v * f i else 0)
  | 0 => by rw [if_neg (by omega)]; rfl
  | n + 1 => by
    rw [sm, sm, sm_upd cs i v hi f n, getD_set]
    by_cases h : i = n
    · subst h
      rw [if_neg (by omega), if_pos ⟨rfl, hi⟩, if_pos (by omega)]; grind
    · rw [if_neg (show ¬ (i = n ∧ i < cs.length) from fun q => h q.1)]
      by_cases h2 : i < n
      · rw [if_pos h2, if_pos (by omega)]; grind
      · rw [if_neg h2, if_neg (by omega)]; grind
theorem Vv_upd (cs : List Int) (i e : Nat) (v : Int) (hc : cs.length = 256) (hi : i < 256) : Vv (cs.set i (cs.getD i 0 + v)) 0 256 e = Vv cs 0 256 e + v * P (e * i) := by
  have := sm_upd cs i v (by omega) (fun j => P (e * j)) 256
  rw [if_pos hi] at this
  unfold Vv
  simp only [Nat.zero_add]
  exact this
theorem P_round (p j : Nat) (h : 256 ≤ j) : Cg (-P (ex p * (j - 256))) (P (ex p * j)) := by
  have e : ex p * j = (ex p * (j - 256) + 256) + 512 * rv p := by
    obtain ⟨i, rfl⟩ : ∃ i, j = i + 256 := ⟨j - 256, by omega⟩
    rw [Nat.add_sub_cancel, Nat.mul_add]; unfold ex; omega
  rw [e]
  exact ((P_per _ _).trans (P_half _)).symm
theorem sh_Vv (ns : List Int) (pl : Nat) (mu : Int) (fs : List Int) (hf : fs.length = 256) (hp : pl < 256) (p : Nat) : ∀ n, n ≤ 256 →
    Cg (Vv (shN ns pl mu fs n) 0 256 (ex p)) (Vv fs 0 256 (ex p) + mu * P (ex p * pl) * sm (fun k => ns.getD k 0 * P (ex p * k)) n)
  | 0, _ => Cg.of_eq (by rw [shN, sm]; grind)
  | n + 1, h => by
    have ih := sh_Vv ns pl mu fs hf hp p n (by omega)
    have hl : (shN ns pl mu fs n).length = 256 := by rw [shN_len, hf]
    have e : ∀ a b : Int, a + mu * P (ex p * pl) * (b + ns.getD n 0 * P (ex p * n)) = (a + mu * P (ex p * pl) * b) + ns.getD n 0 * mu * P (ex p * (n + pl)) := by
      intro a b; rw [Nat.mul_add, P_add]; grind
    rw [sm, e, shN]
    split
    · rw [Vv_upd _ _ _ _ hl (by omega)]
      exact Cg.add ih (Cg.rfl' _)
    · rw [Int.sub_eq_add_neg, Vv_upd _ _ _ _ hl (by omega)]
      refine Cg.add ih ((Cg.of_eq (b := ns.getD n 0 * mu * (-P (ex p * (n + pl - 256)))) (by grind)).trans (Cg.mul (Cg.rfl' _) (P_round p (n + pl) (by omega))))
theorem pr_Vv (ns : List Int) (few : List (Nat × Int)) (hw : ∀ k, k < few.length → (few.getD k (0, 0)).1 < 256) (fs gs : List Int) (hf : fs.length = 256) (hg : gs.length = 256) (p : Nat)
    (h0 : Cg (Vv fs 0 256 (ex p)) (Vv gs 0 256 (ex p) * Vv ns 0 256 (ex p))) : ∀ n, n ≤ few.length →
    Cg (Vv (prF ns few fs n) 0 256 (ex p)) (Vv (rwF few gs n) 0 256 (ex p) * Vv ns 0 256 (ex p))
  | 0, _ => h0
  | n + 1, h => by
    have ih := pr_Vv ns few hw fs gs hf hg p h0 n (by omega)
    rw [prF, rwF, Vv_upd _ _ _ _ (by rw [rwF_len, hg]) (hw n (by omega))]
    refine (sh_Vv ns _ _ _ (by rw [prF_len, hf]) (hw n (by omega)) p 256 (Nat.le_refl _)).trans ?_
    have e : sm (fun k => ns.getD k 0 * P (ex p * k)) 256 = Vv ns 0 256 (ex p) := by unfold Vv; simp only [Nat.zero_add]
    rw [e, Int.add_mul]
    exact Cg.add ih (Cg.rfl' _)
theorem sm_zero : ∀ n, sm (fun _ => 0) n = 0
  | 0 => rfl
  | n + 1 => by rw [sm, sm_zero n]; rfl
theorem Vv_zero (s l e : Nat) : Vv (List.replicate 256 0) s l e = 0 := by
  unfold Vv
  refine (sm_eq (g := fun _ => 0) l fun i _ => ?_).trans (sm_zero l)
  rw [List.getD_eq_getElem?_getD, List.getElem?_replicate]
  split <;> simp
/-- the product by the way there and back is the law's own -/
theorem product_at (ns : List Int) (hn : ns.length = 256) (few : List (Nat × Int)) (hw : ∀ k, k < few.length → (few.getD k (0, 0)).1 < 256) (h : List Int) (hh : h.length = 256)
    (hc : ∀ p, p < 256 → Cg (h.getD p 0) ((nttU zetas (rwF few (List.replicate 256 0) few.length) 8).getD p 0 * (nttU zetas ns 8).getD p 0)) {p : Nat} (hp : p < 256) :
    (redI (nttI zetas h 8) 256).getD p 0 = ((prF ns few (List.replicate 256 0) few.length).getD p 0).fmod 8380417 := by
  refine round_trip _ h (by rw [prF_len, List.length_replicate]) hh (fun p hp => (hc p hp).trans ?_) hp
  have a := ntt_at zetas (rwF few (List.replicate 256 0) few.length) zetas_ok (by rw [rwF_len, List.length_replicate]) hp
  have b := ntt_at zetas ns zetas_ok hn hp
  have c := ntt_at zetas (prF ns few (List.replicate 256 0) few.length) zetas_ok (by rw [prF_len, List.length_replicate]) hp
  refine (Cg.mul a b).trans ((c.trans ?_).symm)
  exact pr_Vv ns few hw _ _ (by rw [List.length_replicate]) (by rw [List.length_replicate]) p (Cg.of_eq (by rw [Vv_zero]; simp)) _ (Nat.le_refl _)
end Ntt
end

section
open PySem PySem.W PySem.Calls PyProof.Rows PyProof.V PySem.Spec
namespace Ntt
local macro_rules | `(tactic| walk_at "none 0") => `(tactic| skip)
local macro_rules | `(tactic| walk_at "none 1") => `(tactic| skip)
local macro_rules | `(tactic| walk_at "none 2") => `(tactic| skip)
theorem getD_in {xs : List Int} {i : Nat} {d d' : Int} (h : i < xs.length) : xs.getD i d = xs.getD i d' := by
  rw [List.getD_eq_getElem?_getD, List.getD_eq_getElem?_getD, List.getElem?_eq_getElem h]; rfl
theorem getD_out {xs : List Int} {i : Nat} {d : Int} (h : xs.length ≤ i) : xs.getD i d = d := by
  rw [List.getD_eq_getElem?_getD, List.getElem?_eq_none h]; rfl
local macro_rules | `(tactic| walk_at "pyIter ref") => `(tactic| k_dflt (k_extra "pyIter ref"))
local macro_rules | `(tactic| walk_at "call type:enumerate") => `(tactic| k_dflt (k_extra "call type:enumerate"))
local macro_rules | `(tactic| walk_at "call type:zip") => `(tactic| k_dflt (k_extra "call type:zip"))
local macro_rules | `(tactic| k_all) => `(tactic| with_reducible assumption)
local macro_rules | `(tactic| walk_at "call builtin:list.append") => `(tactic| (k_here; k_dflt ((show wpAny _ _ (call (Value.builtin "list.append") [Value.ref _, _]) _ _ _); refine' append_K ?k1 ?k2 ?k3 ?_ ?z; (case k1 => k_asm); (case k2 => k_asm); (case k3 => k_upd); (case z => size_fits); k_whole); intro h' F' N'; (try simp only [List.push_toArray] at N'); (try k_sweep)))
local macro_rules | `(tactic| walk_at "call ref") => `(tactic| (k_dflt (k_extra "call ref")))
local macro_rules | `(tactic| walk_at "exec For Name Call cons nil") => `(tactic| (k_here; kst_has; (rename Fr _ _ _ _ => lF'); (with_unfolding_all refine' For_invVF lF' ?k1 ?k2 ?_; (case k1 => exact rfl); (case k2 => exact rfl); k_whole)))
local macro_rules | `(tactic| walk_at "exec For Name Subscript cons nil") => `(tactic| (k_here; kst_has; (rename Fr _ _ _ _ => lF'); (with_unfolding_all refine' For_invVF lF' ?k1 ?k2 ?_; (case k1 => exact rfl); (case k2 => exact rfl); k_whole)))
local macro_rules | `(tactic| walk_at "subscriptTail") => `(tactic| k_dflt (k_extra "subscriptTail"))
local macro_rules | `(tactic| mul_fits) => `(tactic| first | exact mulR (by assumption) | exact mulL (by assumption) | exact mulLn (by assumption) | fail "mul_fits: none of ours")
local macro_rules | `(tactic| walk_at "exec For Tuple Call cons nil") => `(tactic| (k_here; (rename Fr _ _ _ _ => lF'); (with_unfolding_all refine' For_turns lF' ?_; k_whole)))
local macro_rules | `(tactic| k_room) => `(tactic| ktr_room)
local macro_rules | `(tactic| k_units) => `(tactic| ktr_units)
local macro_rules | `(tactic| walk_at "callWith ref") => `(tactic| (k_here; kco_here; k_dflt (refine' kcoKW ?k1 ?k2 ?k3 ?k4 ?k5 ?_; (case k1 => k_in); (case k2 => k_inst); (case k3 => rfl); (case k4 => k_is); (case k5 => exact rfl); k_whole)))
local macro_rules | `(tactic| ktr_unf) => `(tactic| k_dflt (first
  | (refine' code_def ?k1 ?k2 ?k3 ?k4 ?k5 ?kA ?kF ?kK ?k6 ?k7 ?k8 ?k9 ?kB ?_ ?c2 ?c3 ?c4 ?c5; (case kA => exact rfl); (case kF => exact rfl); (case kK => assumption); (case k1 => k_asm); (case k2 => k_asm); (case k3 => k_asm); (case k4 => k_asm); (case k5 => k_asm); (case k6 => k_is); (case k7 => k_is); (case k8 => ktr_room); (case k9 => first | exact BindsTo.of_eq rfl | exact binds_K (by k_in) rfl (by k_is) rfl rfl rfl | fail "k_enter: no rule for these arguments"); (case c5 => decide); (case kB => exact locs rfl); (case c2 => exact rfl); (case c3 => exact rfl); (case c4 => exact rfl); k_whole; intro g' L' h' FG' F' N' B' X' T'; (try dsimp only); (try k_lift B'); (try k_fold))
  | (refine' code_defC ?k1 ?k2 ?k3 ?k4 ?k5 ?kA ?kF ?kK ?k6 ?k7 ?k8 ?k9 ?kB ?kD ?_ ?c2 ?c3 ?c4; (case kA => exact rfl); (case kF => exact rfl); (case kK => assumption); (case k1 => k_asm); (case k2 => k_asm); (case k3 => k_asm); (case k4 => k_asm); (case k5 => k_asm); (case k6 => k_is); (case k7 => k_is); (case k8 => ktr_room); (case k9 => first | exact BindsTo.of_eq rfl | exact binds_K (by k_in) rfl (by k_is) rfl rfl rfl | fail "k_enter: no rule for these arguments"); (case kB => exact rfl); (case kD => decide +kernel); (case c2 => exact rfl); (case c3 => exact rfl); (case c4 => exact rfl); k_whole; intro g' L' h' tk' cells' FG' F' N' Y' B' X' T' l1; (try k_lt l1); k_cells Y'; (try simp only [List.cons_append, List.nil_append] at N'); (try dsimp only); (try k_lift B'); (try k_fold))))
local macro_rules | `(tactic| walk_at "call builtin:len") => `(tactic| (k_here; (with_reducible show wpAny _ _ (call (Value.builtin "len") [Value.ref _]) _ _ _); k_dflt (refine' kst_len ?k1 ?k2 ?k3 ?k4 ?_; (case k1 => k_asm); (case k2 => first | with_reducible assumption | k_mem); (case k3 => exact IntsAre.length (by assumption)); (case k4 => omega); k_whole)))
local macro_rules | `(tactic| k_mem) => `(tactic| (k_dflt assumption))
local macro_rules | `(tactic| walk_at "exec While Compare cons nil") => `(tactic| (k_dflt (k_extra "exec While Compare cons nil")))
local macro_rules | `(tactic| walk_at "subscriptTail Name Slice ref ref") => `(tactic| (k_here; (with_reducible show wpAny _ _ (subscriptTail _ (PySem.Expr.Slice none none none _) (Value.ref _) (Value.ref _)) _ _ _); k_dflt (refine' slice_cp ?F ?N ?l ?z ?_ ?s ?t; (case F => k_asm); (case N => k_asm); (case l => k_mem); (case s => with_unfolding_all rfl); (case t => intro _; with_unfolding_all rfl); (case z => rw [IntsAre.length (by assumption), sizeLine_eq]; omega)); intro D' h' F' N' l1; (try k_lt l1); (try k_sweep)))
local macro_rules | `(tactic| walk_at "subscriptTail Attribute Slice ref ref") => `(tactic| (k_here; (with_reducible show wpAny _ _ (subscriptTail _ (PySem.Expr.Slice none none none _) (Value.ref _) (Value.ref _)) _ _ _); k_dflt (refine' slice_cp ?F ?N ?l ?z ?_ ?s ?t; (case F => k_asm); (case N => k_asm); (case l => k_mem); (case s => with_unfolding_all rfl); (case t => intro _; with_unfolding_all rfl); (case z => rw [IntsAre.length (by assumption), sizeLine_eq]; omega)); intro D' h' F' N' l1; (try k_lt l1); (try k_sweep)))
local macro_rules | `(tactic| walk_at "getMethod ref") => `(tactic| (k_here; (with_reducible show wpAny _ _ (getMethod (Value.ref _) (PySem.Str.ofString "parent") _) _ _ _); k_dflt (refine' kmu_own ?k1 ?k2 ?k3 ?k4 ?k5 ?_; (case k1 => k_asm); (case k2 => k_asm); (case k3 => k_inst); (case k4 => k_is); (case k5 => k_is); k_whole)))
local macro_rules | `(tactic| walk_at "eval Name") => `(tactic| (k_here; k_dflt (refine' nameX_L ?F ?v ?_ ?a ?b; (case F => k_asm); (case a => first | rfl | assumption); (case b => rfl); (case v => rfl); k_whole)))
section
variable {w : World} {p : Program} {loose : List Str} {mean : ExcName → Option Value} {mg mb : Str → Option Value} {dp un : Nat} {gd : Option (List Code)} {cn : Str} {cs : Scope} {a : Addr} {ccd : Value} {cl : List (Str × Addr)} {outer : List Env} {A₀ : Around} {base h₀ : Heap} {L : Addr} {m : Str → Option Value} {news : List (Addr × Obj)} {s : Shared} {Q E : Value → Shared → Prop}
  (B : Below A₀ base outer h₀) (F : Fr h₀ L s.heap m) (X : (Ntt.hd.heap_39 w.params).In h₀) (N : News h₀ L s.heap news) (T : Top p loose mean mg mb h₀) (hk : cs.kind = .function)
include B F X N T hk
set_option maxRecDepth 100000 in
set_option maxHeartbeats 2000000 in
theorem at_spec (hd : dp + 4 < recursionLimit) (hu : un + 20 < cLine) {sc : Addr} {vs : List Value} {ss : List Int} {pl dflt : Int} {t t' : Tok} (hsc : base.IsList sc vs.toArray) (hi : IntsAre vs ss) (hl : ss.length ≤ 63) (hp : 0 ≤ pl) (hp2 : pl < 64)
   (hret : ∀ t h' tk', Fr h₀ L h' m → News h₀ L h' news → Q (.int (ss.getD pl.toNat dflt) t) { s with heap := h', toks := tk' }) :
    wpAny (model PySem.Challenge.rw_oo0012_03.row.prog w) (ktrTop dp un gd cn cs L a ccd cl outer) (call (.ref 578) [.ref sc, .int pl t, .int dflt t']) Q E s := by
  w_on
  k_with_none
  revert X; k_fill; intro X
  refine wpAny_call ?_
  ktr_unf
  k_steps
  · rw [getD_in (d' := dflt) (show pl.toNat < ss.length by omega)]
    exact hret _ _ _ (by assumption) (by assumption)
  · have e : ss.getD pl.toNat dflt = dflt := getD_out (show ss.length ≤ pl.toNat by omega)
    rw [← e]
    exact hret _ _ _ (by assumption) (by assumption)
end
end Ntt
end

section
open PySem PySem.W PySem.Calls PyProof.Rows PyProof.V PySem.Spec
namespace Ntt
local macro_rules | `(tactic| walk_at "none 0") => `(tactic| skip)
local macro_rules | `(tactic| walk_at "none 1") => `(tactic| skip)
def half (k : Int) : Int := if 2 * k > 8380417 then k - 8380417 else k
def base0 (ss : List Int) : List Int := if (ss.getD 2 1).fmod 2 = 1 then (digs (ss.getD 1 (3 * 8380417 ^ 9 + 7)).natAbs 256).map half else digs (ss.getD 1 (3 * 8380417 ^ 9 + 7)).natAbs 256
def puts (xs fs : List Int) : Nat → List Int
  | 0 => fs
  | k + 1 => (puts xs fs k).set ((xs.getD k 0).natAbs % 256) ((puts xs fs k).getD ((xs.getD k 0).natAbs % 256) 0 + (1 + ((xs.getD k 0).fdiv 256).fmod 8380417))
def numF (ss : List Int) : List Int := puts ((ss.drop 5).take 6) (base0 ss) ((ss.drop 5).take 6).length
theorem digs_hide {its : List Value} {n : Int} (h : IntsAre its (digs n 256)) : ∃ ds, Hold (ds = digs n 256) ∧ ds.length = 256 ∧ IntsAre its ds := ⟨_, ⟨rfl⟩, digs_len 256, h⟩
theorem half_pos {k : Int} (h : 2 * k > 8380417) : half k = k - 8380417 := if_pos h
theorem half_neg {k : Int} (h : ¬ 2 * k > 8380417) : half k = k := if_neg h
theorem take_six (ss : List Int) : List.take (min 11 ss.length - 5) (List.drop 5 ss) = (ss.drop 5).take 6 := by
  rw [List.take_eq_take_iff, List.length_drop]; omega
theorem puts_len (xs fs : List Int) : ∀ k, (puts xs fs k).length = fs.length
  | 0 => rfl
  | k + 1 => by rw [puts, List.length_set, puts_len xs fs k]
theorem abs_ix (j : Int) : ((if j < 0 then -j else j).fmod 256).toNat = j.natAbs % 256 := by
  have e : (if j < 0 then -j else j) = (j.natAbs : Int) := by split <;> omega
  rw [e, Int.fmod_eq_emod_of_nonneg _ (by decide)]; omega
theorem at_if2 (ss : List Int) : ss.getD 2 1 = if (2 : Int) < (ss.length : Int) then ss.getD (Int.toNat 2) 0 else 1 := by
  split
  · exact getD_in (by omega)
  · exact getD_out (by omega)
theorem base0_pos {ss ds : List Int} (h : (if (2 : Int) < (ss.length : Int) then ss.getD (Int.toNat 2) 0 else 1).fmod 2 = 1) (hds : ds = digs (((ss.getD (Int.toNat 1) (3 * 8380417 ^ Int.toNat 9 + 7)).natAbs : Nat) : Int) 256) : base0 ss = ds.map half := by
  unfold base0; rw [at_if2, if_pos h, hds]; rfl
theorem base0_neg {ss ds : List Int} (h : ¬ (if (2 : Int) < (ss.length : Int) then ss.getD (Int.toNat 2) 0 else 1).fmod 2 = 1) (hds : ds = digs (((ss.getD (Int.toNat 1) (3 * 8380417 ^ Int.toNat 9 + 7)).natAbs : Nat) : Int) 256) : base0 ss = ds := by
  unfold base0; rw [at_if2, if_neg h, hds]; rfl
theorem puts_step {xs fs ms : List Int} {i : Nat} {j : Int} (hms : ms = puts xs fs i) (hj : xs[i]? = some j) :
    ms.set ((if j < 0 then -j else j).fmod 256).toNat (ms.getD ((if j < 0 then -j else j).fmod 256).toNat 0 + (1 + (j.fdiv 256).fmod 8380417)) = puts xs fs (i + 1) := by
  rw [abs_ix, puts, ← hms, List.getD_eq_getElem?_getD (l := xs), hj]; rfl
local macro_rules | `(tactic| walk_at "pyIter ref") => `(tactic| k_dflt (k_extra "pyIter ref"))
local macro_rules | `(tactic| walk_at "call type:enumerate") => `(tactic| k_dflt (k_extra "call type:enumerate"))
local macro_rules | `(tactic| walk_at "call type:zip") => `(tactic| k_dflt (k_extra "call type:zip"))
local macro_rules | `(tactic| k_all) => `(tactic| with_reducible assumption)
local macro_rules | `(tactic| walk_at "call builtin:list.append") => `(tactic| (k_here; k_dflt ((show wpAny _ _ (call (Value.builtin "list.append") [Value.ref _, _]) _ _ _); refine' append_K ?k1 ?k2 ?k3 ?_ ?z; (case k1 => k_asm); (case k2 => k_asm); (case k3 => k_upd); (case z => size_fits); k_whole); intro h' F' N'; (try simp only [List.push_toArray] at N'); (try k_sweep)))
local macro_rules | `(tactic| walk_at "call ref") => `(tactic| (k_dflt (k_extra "call ref")))
local macro_rules | `(tactic| walk_at "exec For Name Call cons nil") => `(tactic| (k_here; kst_has; (rename Fr _ _ _ _ => lF'); (with_unfolding_all refine' For_invVF lF' ?k1 ?k2 ?_; (case k1 => exact rfl); (case k2 => exact rfl); k_whole)))
local macro_rules | `(tactic| walk_at "exec For Name Subscript cons nil") => `(tactic| (k_here; kst_has; (rename Fr _ _ _ _ => lF'); (with_unfolding_all refine' For_invVF lF' ?k1 ?k2 ?_; (case k1 => exact rfl); (case k2 => exact rfl); k_whole)))
local macro_rules | `(tactic| walk_at "subscriptTail") => `(tactic| k_dflt (k_extra "subscriptTail"))
local macro_rules | `(tactic| mul_fits) => `(tactic| first | exact mulR (by assumption) | exact mulL (by assumption) | exact mulLn (by assumption) | fail "mul_fits: none of ours")
local macro_rules | `(tactic| walk_at "exec For Tuple Call cons nil") => `(tactic| (k_here; (rename Fr _ _ _ _ => lF'); (with_unfolding_all refine' For_turns lF' ?_; k_whole)))
local macro_rules | `(tactic| k_room) => `(tactic| ktr_room)
local macro_rules | `(tactic| k_units) => `(tactic| ktr_units)
local macro_rules | `(tactic| walk_at "callWith ref") => `(tactic| (k_here; kco_here; k_dflt (refine' kcoKW ?k1 ?k2 ?k3 ?k4 ?k5 ?_; (case k1 => k_in); (case k2 => k_inst); (case k3 => rfl); (case k4 => k_is); (case k5 => exact rfl); k_whole)))
local macro_rules | `(tactic| ktr_unf) => `(tactic| k_dflt (first
  | (refine' code_def ?k1 ?k2 ?k3 ?k4 ?k5 ?kA ?kF ?kK ?k6 ?k7 ?k8 ?k9 ?kB ?_ ?c2 ?c3 ?c4 ?c5; (case kA => exact rfl); (case kF => exact rfl); (case kK => assumption); (case k1 => k_asm); (case k2 => k_asm); (case k3 => k_asm); (case k4 => k_asm); (case k5 => k_asm); (case k6 => k_is); (case k7 => k_is); (case k8 => ktr_room); (case k9 => first | exact BindsTo.of_eq rfl | exact binds_K (by k_in) rfl (by k_is) rfl rfl rfl | fail "k_enter: no rule for these arguments"); (case c5 => decide); (case kB => exact locs rfl); (case c2 => exact rfl); (case c3 => exact rfl); (case c4 => exact rfl); k_whole; intro g' L' h' FG' F' N' B' X' T'; (try dsimp only); (try k_lift B'); (try k_fold))
  | (refine' code_defC ?k1 ?k2 ?k3 ?k4 ?k5 ?kA ?kF ?kK ?k6 ?k7 ?k8 ?k9 ?kB ?kD ?_ ?c2 ?c3 ?c4; (case kA => exact rfl); (case kF => exact rfl); (case kK => assumption); (case k1 => k_asm); (case k2 => k_asm); (case k3 => k_asm); (case k4 => k_asm); (case k5 => k_asm); (case k6 => k_is); (case k7 => k_is); (case k8 => ktr_room); (case k9 => first | exact BindsTo.of_eq rfl | exact binds_K (by k_in) rfl (by k_is) rfl rfl rfl | fail "k_enter: no rule for these arguments"); (case kB => exact rfl); (case kD => decide +kernel); (case c2 => exact rfl); (case c3 => exact rfl); (case c4 => exact rfl); k_whole; intro g' L' h' tk' cells' FG' F' N' Y' B' X' T' l1; (try k_lt l1); k_cells Y'; (try simp only [List.cons_append, List.nil_append] at N'); (try dsimp only); (try k_lift B'); (try k_fold))))
local macro_rules | `(tactic| walk_at "call builtin:len") => `(tactic| (k_here; (with_reducible show wpAny _ _ (call (Value.builtin "len") [Value.ref _]) _ _ _); k_dflt (refine' kst_len ?k1 ?k2 ?k3 ?k4 ?_; (case k1 => k_asm); (case k2 => first | with_reducible assumption | k_mem); (case k3 => exact IntsAre.length (by assumption)); (case k4 => omega); k_whole)))
local macro_rules | `(tactic| k_mem) => `(tactic| (k_dflt assumption))
local macro_rules | `(tactic| walk_at "exec While Compare cons nil") => `(tactic| (k_dflt (k_extra "exec While Compare cons nil")))
local macro_rules | `(tactic| walk_at "subscriptTail Name Slice ref ref") => `(tactic| (k_here; (with_reducible show wpAny _ _ (subscriptTail _ (PySem.Expr.Slice none none none _) (Value.ref _) (Value.ref _)) _ _ _); k_dflt (refine' slice_cp ?F ?N ?l ?z ?_ ?s ?t; (case F => k_asm); (case N => k_asm); (case l => k_mem); (case s => with_unfolding_all rfl); (case t => intro _; with_unfolding_all rfl); (case z => rw [IntsAre.length (by assumption), sizeLine_eq]; omega)); intro D' h' F' N' l1; (try k_lt l1); (try k_sweep)))
local macro_rules | `(tactic| walk_at "subscriptTail Attribute Slice ref ref") => `(tactic| (k_here; (with_reducible show wpAny _ _ (subscriptTail _ (PySem.Expr.Slice none none none _) (Value.ref _) (Value.ref _)) _ _ _); k_dflt (refine' slice_cp ?F ?N ?l ?z ?_ ?s ?t; (case F => k_asm); (case N => k_asm); (case l => k_mem); (case s => with_unfolding_all rfl); (case t => intro _; with_unfolding_all rfl); (case z => rw [IntsAre.length (by assumption), sizeLine_eq]; omega)); intro D' h' F' N' l1; (try k_lt l1); (try k_sweep)))
local macro_rules | `(tactic| walk_at "getMethod ref") => `(tactic| (k_here; (with_reducible show wpAny _ _ (getMethod (Value.ref _) (PySem.Str.ofString "parent") _) _ _ _); k_dflt (refine' kmu_own ?k1 ?k2 ?k3 ?k4 ?k5 ?_; (case k1 => k_asm); (case k2 => k_asm); (case k3 => k_inst); (case k4 => k_is); (case k5 => k_is); k_whole)))
local macro_rules | `(tactic| walk_at "eval Name") => `(tactic| (k_here; k_dflt (refine' nameX_L ?F ?v ?_ ?a ?b; (case F => k_asm); (case a => first | rfl | assumption); (case b => rfl); (case v => rfl); k_whole)))
section
variable {w : World} {p : Program} {loose : List Str} {mean : ExcName → Option Value} {mg mb : Str → Option Value} {dp un : Nat} {gd : Option (List Code)} {cn : Str} {cs : Scope} {a : Addr} {ccd : Value} {cl : List (Str × Addr)} {outer : List Env} {A₀ : Around} {base h₀ : Heap} {L : Addr} {m : Str → Option Value} {news : List (Addr × Obj)} {s : Shared} {Q E : Value → Shared → Prop}
  (B : Below A₀ base outer h₀) (F : Fr h₀ L s.heap m) (X : (Ntt.hd.heap_39 w.params).In h₀) (N : News h₀ L s.heap news) (T : Top p loose mean mg mb h₀) (hk : cs.kind = .function)
include B F X N T hk
local macro_rules | `(tactic| walk_at "CompSrc") => `(tactic| k_dflt (k_extra "CompSrc"))
local macro_rules | `(tactic| walk_at "call ref") => `(tactic| (k_here; (with_reducible show wpAny _ _ (call (Value.ref 578) _ _) _ _ _); k_dflt (refine' at_spec ?B ?F ?X ?N ?T ?hk ?hd ?hu ?hsc ?hi ?hl ?hp ?hp2 ?hret; (case B => k_asm); (case F => k_asm); (case X => k_asm); (case N => k_asm); (case T => k_asm); (case hk => first | exact rfl | assumption); (case hd => ktr_room); (case hu => ktr_units); (case hsc => assumption); (case hi => assumption); (case hl => assumption); (case hp => decide); (case hp2 => decide); intro t h' tk' F' N'; (try dsimp only); (try k_sweep))))
local macro_rules | `(tactic| walk_at "call ref") => `(tactic| (k_here; (with_reducible show wpAny _ _ (call (Value.ref 606) _ _) _ _ _); refine Hold.out ?_))
set_option maxRecDepth 100000 in
set_option maxHeartbeats 16000000 in
theorem numbers_spec (hd : dp + 8 < recursionLimit) (hu : un + 40 < cLine) {sc : Addr} {vs : List Value} {ss : List Int} (hsc : base.IsList sc vs.toArray) (hi : IntsAre vs ss) (hl : ss.length ≤ 63)
   (hret : ∀ l its c h' tk', Fr h₀ L h' m → News h₀ L h' ((l, W.listOf (List.toArray its) c) :: news) → (∀ q ∈ news, q.1 ≠ l) → IntsAre its (numF ss) → Q (.ref l) { s with heap := h', toks := tk' }) :
    wpAny (model PySem.Challenge.rw_oo0012_03.row.prog w) (ktrTop dp un gd cn cs L a ccd cl outer) (call (.ref 611) [.ref sc]) Q E s := by
  w_on
  k_with_none
  revert X; k_fill; intro X
  k_with "CompSrc" => refine Hold.out ?_
  k_with "pyIter ref" => refine Hold.out ?_
  refine wpAny_call ?_
  ktr_unf
  k_steps
  refine ⟨?_⟩
  refine' digits_spec ?dB ?dF ?dX ?dN ?dT ?dhk ?dhd ?dhu ?dhret
  (case dB => k_asm)
  (case dF => k_asm)
  (case dX => k_asm)
  (case dN => k_asm)
  (case dT => k_asm)
  (case dhk => first | exact rfl | assumption)
  (case dhd => ktr_room)
  (case dhu => ktr_units)
  intro l its c h' tk' F' N' lt' hI'
  (try dsimp only)
  (try k_sweep)
  obtain ⟨ds, hds, hdl, hI⟩ := digs_hide hI'
  clear hI'
  k_steps
  · refine ⟨?_⟩
    refine LCg.CompSrc.ledger (by rfl) (by k_asm) (by k_asm) (by k_mem) (by rw [sizeLine_eq, List.size_toArray, IntsAre.length hI, hdl]; decide) ?_
    intro g'
    refine' kcf_list half hI (fun k' t' I' oI' C' oC' D' m' ys' h' tk' E' hk' hC' hx' F' N' off' ne' hMark' => ?_) ?_
    (all_goals (try simp only [LCg.Off3, and_true] at off'))
    kcf_last
    k_steps
    rename IntsAre _ (List.map half ds) => hI8
    rename _ ∧ LCg.Off1 _ news => ho8
    rename _ ∧ _ ∧ AllLt _ news => hl8
    rename Fr _ _ _ _ => lF'
    rename News _ _ _ _ => lN'
    rename IntsAre _ (List.take _ (List.drop 5 ss)) => hI9
    rw [take_six] at hI9
    refine ⟨?_⟩
    refine' listL (news := (_, W.listOf _ _) :: news) (τ := Unit) (fun _ => [(Str.ofString "script", .ref sc), (Str.ofString "found", .ref _)]) (fun i _ ms => ms = puts ((ss.drop 5).take 6) (ds.map half) i) () (by rfl) List.mem_cons_self hI9 lF' (kst_newsOf lN' ?sub) ?hoff hI8 ?kk ?ki (Hold.out ?turn) (Hold.out ?done)
    (case sub =>
      refine' List.forall_mem_cons.mpr ⟨?_, List.forall_mem_cons.mpr ⟨?_, ?_⟩⟩
      · kcf_m
      · kcf_m
      · intro p hp; kcf_m)
    (case hoff => exact List.forall_mem_cons.mpr ⟨Nat.ne_of_gt hl8.1, off1_mem ho8.2⟩)
    (case kk => kst_all)
    (case ki => rfl)
    all_goals (try clear lF' lN')
    case turn =>
      refine ⟨?_⟩
      rintro i j ⟨⟩ ws ms cnt t u h tk rest Q' hj hI2 hms hsub hoff1 F1 N1 nx
      dsimp only at F1 nx ⊢
      have hml : ms.length = 256 := by rw [hms, puts_len]; rw [List.length_map, hdl]
      have hb := fmod_in (x := (j.natAbs : Int)) (ns := ms) (by decide) (by omega : (ms.length : Int) = 256)
      k_steps
      exact nx () _ _ _ _ _ _ (by assumption) (by assumption) (by assumption) (by kst_all) (puts_step hms hj)
    case done =>
      refine ⟨?_⟩
      rintro ⟨⟩ ws ms cnt u h tk hI2 hms F1 N1
      dsimp only at F1 ⊢
      (try k_fold)
      k_steps
      rw [← base0_pos (by assumption) hds.out] at hms
      rw [hms] at hI2
      refine' hret _ _ _ _ _ ?ra ?rb (off1_mem ho8.2) hI2
      (case ra => k_asm)
      (case rb =>
        refine' kst_newsOf ?N ?q
        (case N => k_asm)
        refine' List.forall_mem_cons.mpr ⟨?_, ?_⟩
        · kcf_m
        · intro p hp; kcf_m)
  · rename _ ∧ AllLt _ news => hl8
    rename Fr _ _ _ _ => lF'
    rename News _ _ _ _ => lN'
    rename IntsAre _ (List.take _ (List.drop 5 ss)) => hI9
    rw [take_six] at hI9
    refine ⟨?_⟩
    refine' listL (news := (_, W.listOf _ _) :: news) (τ := Unit) (fun _ => [(Str.ofString "script", .ref sc), (Str.ofString "found", .ref _)]) (fun i _ ms => ms = puts ((ss.drop 5).take 6) (ds) i) () (by rfl) List.mem_cons_self hI9 lF' (kst_newsOf lN' ?sub) ?hoff hI ?kk ?ki (Hold.out ?turn) (Hold.out ?done)
    (case sub =>
      refine' List.forall_mem_cons.mpr ⟨?_, List.forall_mem_cons.mpr ⟨?_, ?_⟩⟩
      · kcf_m
      · kcf_m
      · intro p hp; kcf_m)
    (case hoff => exact List.forall_mem_cons.mpr ⟨Nat.ne_of_gt hl8.1, fun p hp => Nat.ne_of_lt (lt' p hp)⟩)
    (case kk => kst_all)
    (case ki => rfl)
    all_goals (try clear lF' lN')
    case turn =>
      refine ⟨?_⟩
      rintro i j ⟨⟩ ws ms cnt t u h tk rest Q' hj hI2 hms hsub hoff1 F1 N1 nx
      dsimp only at F1 nx ⊢
      have hml : ms.length = 256 := by rw [hms, puts_len]; exact hdl
      have hb := fmod_in (x := (j.natAbs : Int)) (ns := ms) (by decide) (by omega : (ms.length : Int) = 256)
      k_steps
      exact nx () _ _ _ _ _ _ (by assumption) (by assumption) (by assumption) (by kst_all) (puts_step hms hj)
    case done =>
      refine ⟨?_⟩
      rintro ⟨⟩ ws ms cnt u h tk hI2 hms F1 N1
      dsimp only at F1 ⊢
      (try k_fold)
      k_steps
      rw [← base0_neg (by assumption) hds.out] at hms
      rw [hms] at hI2
      refine' hret _ _ _ _ _ ?ra2 ?rb2 (fun p hp => Nat.ne_of_lt (lt' p hp)) hI2
      (case ra2 => k_asm)
      (case rb2 =>
        refine' kst_newsOf ?N2 ?q2
        (case N2 => k_asm)
        refine' List.forall_mem_cons.mpr ⟨?_, ?_⟩
        · kcf_m
        · intro p hp; kcf_m)
end
end Ntt
end

section
open PySem PySem.W PySem.Calls PyProof.Rows PyProof.V PySem.Spec
namespace Ntt
theorem eq_getD {xs ys : List Int} (hl : xs.length = ys.length) (h : ∀ p, p < xs.length → xs.getD p 0 = ys.getD p 0) : xs = ys := by
  refine List.ext_getElem hl fun p h1 h2 => ?_
  have := h p h1
  rwa [List.getD_eq_getElem?_getD, List.getD_eq_getElem?_getD, List.getElem?_eq_getElem h1, List.getElem?_eq_getElem h2] at this
theorem mem_getD {xs : List Int} {x : Int} (h : x ∈ xs) : ∃ p, p < xs.length ∧ xs.getD p 0 = x := by
  obtain ⟨p, hp, e⟩ := List.getElem_of_mem h
  exact ⟨p, hp, by rw [List.getD_eq_getElem?_getD, List.getElem?_eq_getElem hp]; exact e⟩
theorem getD_mem {xs : List Int} {p : Nat} (h : p < xs.length) : xs.getD p 0 ∈ xs := by
  rw [List.getD_eq_getElem?_getD, List.getElem?_eq_getElem h]; exact List.getElem_mem _
theorem getD_map (f : Int → Int) (xs : List Int) {p : Nat} (h : p < xs.length) : (xs.map f).getD p 0 = f (xs.getD p 0) := by
  rw [List.getD_eq_getElem?_getD, List.getD_eq_getElem?_getD, List.getElem?_map, List.getElem?_eq_getElem h]; rfl
theorem getD_zipW (f : Int → Int → Int) (xs ys : List Int) {p : Nat} (h : p < xs.length) (h' : p < ys.length) : (List.zipWith f xs ys).getD p 0 = f (xs.getD p 0) (ys.getD p 0) := by
  rw [List.getD_eq_getElem?_getD, List.getD_eq_getElem?_getD, List.getD_eq_getElem?_getD, List.getElem?_zipWith, List.getElem?_eq_getElem h, List.getElem?_eq_getElem h']; rfl
theorem fm_nn (a : Int) : 0 ≤ a.fmod 8380417 := Int.fmod_nonneg_of_pos _ (by decide)
theorem fm_lt (a : Int) : a.fmod 8380417 < 8380417 := Int.fmod_lt_of_pos _ (by decide)
theorem redF_bnd (cs : List Int) (hc : cs.length = 256) : ∀ x ∈ redF cs 256, 0 ≤ x ∧ x < 8380417 := by
  intro x hx
  obtain ⟨p, hp, rfl⟩ := mem_getD hx
  rw [redF_len, hc] at hp
  rw [redF_get cs hc 256 (Nat.le_refl _), if_pos hp]
  exact ⟨fm_nn _, fm_lt _⟩
theorem redI_bnd (cs : List Int) (hc : cs.length = 256) : ∀ x ∈ redI cs 256, 0 ≤ x ∧ x < 8380417 := by
  intro x hx
  obtain ⟨p, hp, rfl⟩ := mem_getD hx
  rw [redI_len, hc] at hp
  rw [redI_get cs hc 256 (Nat.le_refl _), if_pos hp]
  exact ⟨fm_nn _, fm_lt _⟩
theorem small_of {xs : List Int} (h : ∀ x ∈ xs, 0 ≤ x ∧ x < 8380417) : SmallL xs := ⟨fun x hx => by have := h x hx; omega⟩
theorem form_len (ns : List Int) (hn : ns.length = 256) : (redF (nttU zetas ns 8) 256).length = 256 := by rw [redF_len, nttU_len, hn]
theorem told_len (ns : List Int) (hn : ns.length = 256) : (redI (nttI zetas ns 8) 256).length = 256 := by rw [redI_len, nttI_len, hn]
theorem form_bnd (ns : List Int) (hn : ns.length = 256) : ∀ x ∈ redF (nttU zetas ns 8) 256, 0 ≤ x ∧ x < 8380417 := redF_bnd _ (by rw [nttU_len, hn])
theorem told_bnd (ns : List Int) (hn : ns.length = 256) : ∀ x ∈ redI (nttI zetas ns 8) 256, 0 ≤ x ∧ x < 8380417 := redI_bnd _ (by rw [nttI_len, hn])
theorem form_small (ns : List Int) (hn : ns.length = 256) : SmallL (redF (nttU zetas ns 8) 256) := small_of (form_bnd ns hn)
theorem form_cg (ns : List Int) (hn : ns.length = 256) {p : Nat} (hp : p < 256) : Cg ((redF (nttU zetas ns 8) 256).getD p 0) ((nttU zetas ns 8).getD p 0) := by
  rw [redF_get _ (by rw [nttU_len, hn]) 256 (Nat.le_refl _), if_pos hp]; exact Cg.fm _
theorem way2 (ns : List Int) (hn : ns.length = 256) : redI (nttI zetas (redF (nttU zetas ns 8) 256) 8) 256 = ns.map fun x => x.fmod 8380417 := by
  have hf := form_len ns hn
  refine eq_getD (by rw [told_len _ hf, List.length_map, hn]) fun p hp => ?_
  rw [told_len _ hf] at hp
  rw [round_trip ns _ hn hf (fun p hp => form_cg ns hn hp) hp, getD_map _ _ (by omega)]
theorem way3 (ns : List Int) (hn : ns.length = 256) (few : List (Nat × Int)) (hw : ∀ k, k < few.length → (few.getD k (0, 0)).1 < 256) (rows : List Int) (hr : rows = rwF few (List.replicate 256 0) few.length) :
    redI (nttI zetas (List.zipWith (fun a b => (a * b).fmod 8380417) (redF (nttU zetas rows 8) 256) (redF (nttU zetas ns 8) 256)) 8) 256 = (prF ns few (List.replicate 256 0) few.length).map fun x => x.fmod 8380417 := by
  have hrl : rows.length = 256 := by rw [hr, rwF_len, List.length_replicate]
  have h1 := form_len rows hrl
  have h2 := form_len ns hn
  have hz : (List.zipWith (fun a b => (a * b).fmod 8380417) (redF (nttU zetas rows 8) 256) (redF (nttU zetas ns 8) 256)).length = 256 := by rw [List.length_zipWith, h1, h2]; rfl
  have hp0 : (prF ns few (List.replicate 256 0) few.length).length = 256 := by rw [prF_len, List.length_replicate]
  refine eq_getD (by rw [told_len _ hz, List.length_map, hp0]) fun p hp => ?_
  rw [told_len _ hz] at hp
  rw [product_at ns hn few hw _ hz ?_ hp, getD_map _ _ (by omega)]
  intro p hp
  rw [getD_zipW _ _ _ (by omega) (by omega), ← hr]
  exact (Cg.fm _).trans (Cg.mul (form_cg rows hrl hp) (form_cg ns hn hp))
theorem zetas_len : zetas.length = 256 := by rw [zetas, List.length_map, rangeKs_length]
theorem zeta_lt : ∀ k : Fin 256, Builtin.powMod 1753 (tnF (k.val : Int) 8).natAbs 8380417 < 8380417 := by decide +kernel
theorem zetas_small : SmallL zetas := ⟨fun x hx => by
  obtain ⟨k, hk, rfl⟩ := List.mem_map.mp hx
  obtain ⟨h0, h1⟩ := mem_rangeKs hk
  obtain ⟨n, rfl⟩ := Int.eq_ofNat_of_zero_le h0
  have h := zeta_lt ⟨n, by omega⟩
  simp only at h
  unfold zetaF
  omega⟩
theorem pwL_bnd : ∀ n, ∀ x ∈ pwL n, 0 ≤ x ∧ x < 8380417
  | 0, x, hx => by rw [pwL, List.mem_singleton] at hx; omega
  | n + 1, x, hx => by
    rw [pwL] at hx
    rcases List.mem_append.mp hx with hx | hx
    · exact pwL_bnd n x hx
    · rw [List.mem_singleton.mp hx]; exact ⟨fm_nn _, fm_lt _⟩
theorem pwL_small : SmallL (pwL 511) := small_of (pwL_bnd 511)
theorem digs_bnd {n : Int} : ∀ k, ∀ x ∈ digs n k, 0 ≤ x ∧ x < 8380417
  | 0, x, hx => by rw [digs] at hx; exact absurd hx (List.not_mem_nil)
  | k + 1, x, hx => by
    rw [digs] at hx
    rcases List.mem_append.mp hx with hx | hx
    · exact digs_bnd k x hx
    · rw [List.mem_singleton.mp hx]; exact ⟨fm_nn _, fm_lt _⟩
theorem base0_bnd (ss : List Int) : ∀ x ∈ base0 ss, -8380417 < x ∧ x < 8380417 := by
  intro x hx
  unfold base0 at hx
  split at hx
  · obtain ⟨k, hk, rfl⟩ := List.mem_map.mp hx
    have := digs_bnd _ k hk
    unfold half; split <;> omega
  · have := digs_bnd _ x hx; omega
theorem base0_len (ss : List Int) : (base0 ss).length = 256 := by
  unfold base0; split
  · rw [List.length_map, digs_len]
  · exact digs_len _
theorem numF_len (ss : List Int) : (numF ss).length = 256 := by rw [numF, puts_len, base0_len]
theorem puts_bnd (xs fs : List Int) (b : Int) (hb : 0 ≤ b) (h : ∀ x ∈ fs, -b < x ∧ x < b) : ∀ k, ∀ x ∈ puts xs fs k, -b < x ∧ x < b + (k : Int) * 8380418
  | 0, x, hx => by have := h x hx; omega
  | k + 1, x, hx => by
    rw [puts] at hx
    rcases List.mem_or_eq_of_mem_set hx with hx | rfl
    · have := puts_bnd xs fs b hb h k x hx; omega
    · have h1 := fm_nn ((xs.getD k 0).fdiv 256)
      have h2 := fm_lt ((xs.getD k 0).fdiv 256)
      have h3 : -b < (puts xs fs k).getD ((xs.getD k 0).natAbs % 256) 0 ∧ (puts xs fs k).getD ((xs.getD k 0).natAbs % 256) 0 < b + (k : Int) * 8380418 ∨ (puts xs fs k).getD ((xs.getD k 0).natAbs % 256) 0 = 0 := by
        rcases Nat.lt_or_ge ((xs.getD k 0).natAbs % 256) (puts xs fs k).length with hl | hl
        · exact .inl (puts_bnd xs fs b hb h k _ (getD_mem hl))
        · exact .inr (getD_out hl)
      omega
theorem numF_small (ss : List Int) : SmallL (numF ss) := ⟨fun x hx => by
  have hl : ((ss.drop 5).take 6).length ≤ 6 := by rw [List.length_take]; omega
  have := puts_bnd ((ss.drop 5).take 6) (base0 ss) 8380417 (by decide) (base0_bnd ss) _ x hx
  omega⟩
theorem few_ok {few : List (Nat × Int)} (h : ∀ q ∈ few, q.1 < 256) : ∀ k, k < few.length → (few.getD k (0, 0)).1 < 256 := fun k hk => by
  rw [List.getD_eq_getElem?_getD, List.getElem?_eq_getElem hk]; exact h _ (List.getElem_mem _)
end Ntt
end

section
open PySem PySem.W PySem.Calls PyProof.Rows PyProof.V PySem.Spec
namespace Ntt
def pl (n : Int) : Nat × Int := (n.natAbs % 256, (n.fdiv 256).fmod 8380417 - 4190208)
def fewL (a b c : Int) : List (Nat × Int) := [pl a, pl b, pl c]
theorem abs_fm (j : Int) : (if j < 0 then -j else j).fmod 256 = ((j.natAbs % 256 : Nat) : Int) := by
  have e : (if j < 0 then -j else j) = (j.natAbs : Int) := by split <;> omega
  rw [e, Int.fmod_eq_emod_of_nonneg _ (by decide)]; omega
theorem few_lt (a b c : Int) : ∀ q ∈ fewL a b c, q.1 < 256 := by
  intro q hq
  simp only [fewL, List.mem_cons, List.not_mem_nil, or_false] at hq
  rcases hq with rfl | rfl | rfl <;> exact Nat.mod_lt _ (by decide)
theorem few_small (a b c : Int) : ∀ q ∈ fewL a b c, -(2 ^ 63) < q.2 ∧ q.2 < 2 ^ 63 := by
  intro q hq
  simp only [fewL, List.mem_cons, List.not_mem_nil, or_false] at hq
  rcases hq with rfl | rfl | rfl
  · have := fm_nn (a.fdiv 256); have := fm_lt (a.fdiv 256); simp only [pl]; omega
  · have := fm_nn (b.fdiv 256); have := fm_lt (b.fdiv 256); simp only [pl]; omega
  · have := fm_nn (c.fdiv 256); have := fm_lt (c.fdiv 256); simp only [pl]; omega
abbrev upd1 (rs : List Int) (n : Int) : List Int := rs.set ((if n < 0 then -n else n).fmod 256).toNat (rs.getD ((if n < 0 then -n else n).fmod 256).toNat 0 + ((n.fdiv 256).fmod 8380417 - 4190208))
theorem upd1_pl (rs : List Int) (n : Int) : upd1 rs n = rs.set (pl n).1 (rs.getD (pl n).1 0 + (pl n).2) := by
  simp only [upd1, pl, abs_ix]
theorem rows_ok {rs r3 : List Int} {a b c : Int} (hr : rs = (rangeKs 0 256).map fun _ => 0) (h : r3 = upd1 (upd1 (upd1 rs a) b) c) : r3 = rwF (fewL a b c) (List.replicate 256 0) (fewL a b c).length := by
  have e : rs = List.replicate 256 0 := by rw [hr, List.map_const', rangeKs_length]
  rw [h, e, upd1_pl, upd1_pl, upd1_pl]
  rfl
theorem tups3 {news : Led} {A B C : Addr} {a b c : Int} {oa ob oc : Obj} (h1 : (A, oa) ∈ news) (h2 : (B, ob) ∈ news) (h3 : (C, oc) ∈ news) (c1 : oa.cls = .type "tuple") (c2 : ob.cls = .type "tuple") (c3 : oc.cls = .type "tuple")
    (d1 : ∃ t t' n, oa.data = .seq #[.int ((if a < 0 then -a else a).fmod 256) t, .int ((a.fdiv 256).fmod 8380417 - 4190208) t'] n) (d2 : ∃ t t' n, ob.data = .seq #[.int ((if b < 0 then -b else b).fmod 256) t, .int ((b.fdiv 256).fmod 8380417 - 4190208) t'] n)
    (d3 : ∃ t t' n, oc.data = .seq #[.int ((if c < 0 then -c else c).fmod 256) t, .int ((c.fdiv 256).fmod 8380417 - 4190208) t'] n) : TupsAre [A, B, C] ((fewL a b c).map fun q => ((q.1 : Int), q.2)) news := by
  obtain ⟨t1, u1, n1, d1⟩ := d1
  obtain ⟨t2, u2, n2, d2⟩ := d2
  obtain ⟨t3, u3, n3, d3⟩ := d3
  rw [abs_fm] at d1 d2 d3
  refine ⟨rfl, fun i T q hT hq => ?_⟩
  match i, hT, hq with
  | 0, hT, hq => cases hT; cases hq; exact ⟨oa, t1, u1, n1, h1, c1, d1⟩
  | 1, hT, hq => cases hT; cases hq; exact ⟨ob, t2, u2, n2, h2, c2, d2⟩
  | 2, hT, hq => cases hT; cases hq; exact ⟨oc, t3, u3, n3, h3, c3, d3⟩
  | n + 3, hT, hq => cases hT
end Ntt
end

section
open PySem PySem.W PySem.Calls PyProof.Rows PyProof.V PySem.Spec
namespace Ntt
local macro_rules | `(tactic| walk_at "none 0") => `(tactic| skip)
local macro_rules | `(tactic| walk_at "none 1") => `(tactic| skip)
local macro_rules | `(tactic| walk_at "none 2") => `(tactic| skip)
local macro_rules | `(tactic| walk_at "none 3") => `(tactic| skip)
theorem ne_one {d : Addr} {news : List (Addr × Obj)} (h : AllLt d news) : ∀ p ∈ news, p.1 ≠ d + 1 := fun p hp => by
  have := kst_ltOf h p hp
  intro e; rw [e] at this; exact Nat.lt_irrefl _ (Nat.lt_of_succ_lt this)
theorem ne_two {d : Addr} {news : List (Addr × Obj)} (h : AllLt d news) : ∀ p ∈ news, p.1 ≠ d + 1 + 1 := fun p hp => by
  have := kst_ltOf h p hp
  intro e; rw [e] at this; exact Nat.lt_irrefl _ (Nat.lt_of_succ_lt (Nat.lt_of_succ_lt this))
theorem tnF_nn {i : Int} (h0 : 0 ≤ i) (h1 : i < 256) : 0 ≤ tnF i 8 := by
  obtain ⟨n, rfl⟩ := Int.eq_ofNat_of_zero_le h0
  have := (tnF_rv ⟨n, by omega⟩).1
  simp only at this
  rw [this]; exact Int.natCast_nonneg _
theorem units_under_tc (A : Around) (args : Args) : (A.under (.builtin "type.__call__" args)).units = A.units + 1 := by
  first | rfl | simp [Around.under, Code.cUnits, Code.frames, Code.isFrame]
local macro_rules | `(tactic| walk_at "pyIter ref") => `(tactic| k_dflt (k_extra "pyIter ref"))
local macro_rules | `(tactic| walk_at "call type:enumerate") => `(tactic| k_dflt (k_extra "call type:enumerate"))
local macro_rules | `(tactic| walk_at "call type:zip") => `(tactic| k_dflt (k_extra "call type:zip"))
local macro_rules | `(tactic| k_all) => `(tactic| with_reducible assumption)
local macro_rules | `(tactic| walk_at "call builtin:list.append") => `(tactic| (k_here; k_dflt ((show wpAny _ _ (call (Value.builtin "list.append") [Value.ref _, _]) _ _ _); refine' append_K ?k1 ?k2 ?k3 ?_ ?z; (case k1 => k_asm); (case k2 => k_asm); (case k3 => k_upd); (case z => size_fits); k_whole); intro h' F' N'; (try simp only [List.push_toArray] at N'); (try k_sweep)))
local macro_rules | `(tactic| walk_at "call ref") => `(tactic| (k_dflt (k_extra "call ref")))
local macro_rules | `(tactic| walk_at "exec For Name Call cons nil") => `(tactic| (k_here; kst_has; (rename Fr _ _ _ _ => lF'); (with_unfolding_all refine' For_invVF lF' ?k1 ?k2 ?_; (case k1 => exact rfl); (case k2 => exact rfl); k_whole)))
local macro_rules | `(tactic| walk_at "exec For Name Subscript cons nil") => `(tactic| (k_here; kst_has; (rename Fr _ _ _ _ => lF'); (with_unfolding_all refine' For_invVF lF' ?k1 ?k2 ?_; (case k1 => exact rfl); (case k2 => exact rfl); k_whole)))
local macro_rules | `(tactic| walk_at "subscriptTail") => `(tactic| k_dflt (k_extra "subscriptTail"))
local macro_rules | `(tactic| mul_fits) => `(tactic| first | exact mulR (by assumption) | exact mulL (by assumption) | exact mulLn (by assumption) | fail "mul_fits: none of ours")
local macro_rules | `(tactic| walk_at "exec For Tuple Call cons nil") => `(tactic| (k_here; (rename Fr _ _ _ _ => lF'); (with_unfolding_all refine' For_turns lF' ?_; k_whole)))
local macro_rules | `(tactic| k_room) => `(tactic| ktr_room)
local macro_rules | `(tactic| k_units) => `(tactic| ktr_units)
local macro_rules | `(tactic| walk_at "callWith ref") => `(tactic| (k_here; kco_here; k_dflt (refine' kcoKW ?k1 ?k2 ?k3 ?k4 ?k5 ?_; (case k1 => k_in); (case k2 => k_inst); (case k3 => rfl); (case k4 => k_is); (case k5 => exact rfl); k_whole)))
local macro_rules | `(tactic| ktr_unf) => `(tactic| k_dflt (first
  | (refine' code_def ?k1 ?k2 ?k3 ?k4 ?k5 ?kA ?kF ?kK ?k6 ?k7 ?k8 ?k9 ?kB ?_ ?c2 ?c3 ?c4 ?c5; (case kA => exact rfl); (case kF => exact rfl); (case kK => assumption); (case k1 => k_asm); (case k2 => k_asm); (case k3 => k_asm); (case k4 => k_asm); (case k5 => k_asm); (case k6 => k_is); (case k7 => k_is); (case k8 => ktr_room); (case k9 => first | exact BindsTo.of_eq rfl | exact binds_K (by k_in) rfl (by k_is) rfl rfl rfl | fail "k_enter: no rule for these arguments"); (case c5 => decide); (case kB => exact locs rfl); (case c2 => exact rfl); (case c3 => exact rfl); (case c4 => exact rfl); k_whole; intro g' L' h' FG' F' N' B' X' T'; (try dsimp only); (try k_lift B'); (try k_fold))
  | (refine' code_defC ?k1 ?k2 ?k3 ?k4 ?k5 ?kA ?kF ?kK ?k6 ?k7 ?k8 ?k9 ?kB ?kD ?_ ?c2 ?c3 ?c4; (case kA => exact rfl); (case kF => exact rfl); (case kK => assumption); (case k1 => k_asm); (case k2 => k_asm); (case k3 => k_asm); (case k4 => k_asm); (case k5 => k_asm); (case k6 => k_is); (case k7 => k_is); (case k8 => ktr_room); (case k9 => first | exact BindsTo.of_eq rfl | exact binds_K (by k_in) rfl (by k_is) rfl rfl rfl | fail "k_enter: no rule for these arguments"); (case kB => exact rfl); (case kD => decide +kernel); (case c2 => exact rfl); (case c3 => exact rfl); (case c4 => exact rfl); k_whole; intro g' L' h' tk' cells' FG' F' N' Y' B' X' T' l1; (try k_lt l1); k_cells Y'; (try simp only [List.cons_append, List.nil_append] at N'); (try dsimp only); (try k_lift B'); (try k_fold))))
local macro_rules | `(tactic| walk_at "call builtin:len") => `(tactic| (k_here; (with_reducible show wpAny _ _ (call (Value.builtin "len") [Value.ref _]) _ _ _); k_dflt (refine' kst_len ?k1 ?k2 ?k3 ?k4 ?_; (case k1 => k_asm); (case k2 => first | with_reducible assumption | k_mem); (case k3 => exact IntsAre.length (by assumption)); (case k4 => omega); k_whole)))
local macro_rules | `(tactic| k_mem) => `(tactic| (k_dflt assumption))
local macro_rules | `(tactic| walk_at "exec While Compare cons nil") => `(tactic| (k_dflt (k_extra "exec While Compare cons nil")))
local macro_rules | `(tactic| walk_at "subscriptTail Name Slice ref ref") => `(tactic| (k_here; (with_reducible show wpAny _ _ (subscriptTail _ (PySem.Expr.Slice none none none _) (Value.ref _) (Value.ref _)) _ _ _); k_dflt (refine' slice_cp ?F ?N ?l ?z ?_ ?s ?t; (case F => k_asm); (case N => k_asm); (case l => k_mem); (case s => with_unfolding_all rfl); (case t => intro _; with_unfolding_all rfl); (case z => rw [IntsAre.length (by assumption), sizeLine_eq]; omega)); intro D' h' F' N' l1; (try k_lt l1); (try k_sweep)))
local macro_rules | `(tactic| walk_at "subscriptTail Attribute Slice ref ref") => `(tactic| (k_here; (with_reducible show wpAny _ _ (subscriptTail _ (PySem.Expr.Slice none none none _) (Value.ref _) (Value.ref _)) _ _ _); k_dflt (refine' slice_cp ?F ?N ?l ?z ?_ ?s ?t; (case F => k_asm); (case N => k_asm); (case l => k_mem); (case s => with_unfolding_all rfl); (case t => intro _; with_unfolding_all rfl); (case z => rw [IntsAre.length (by assumption), sizeLine_eq]; omega)); intro D' h' F' N' l1; (try k_lt l1); (try k_sweep)))
local macro_rules | `(tactic| walk_at "getMethod ref") => `(tactic| (k_here; (with_reducible show wpAny _ _ (getMethod (Value.ref _) (PySem.Str.ofString "parent") _) _ _ _); k_dflt (refine' kmu_own ?k1 ?k2 ?k3 ?k4 ?k5 ?_; (case k1 => k_asm); (case k2 => k_asm); (case k3 => k_inst); (case k4 => k_is); (case k5 => k_is); k_whole)))
local macro_rules | `(tactic| walk_at "eval Name") => `(tactic| (k_here; k_dflt (refine' nameX_L ?F ?v ?_ ?a ?b; (case F => k_asm); (case a => first | rfl | assumption); (case b => rfl); (case v => rfl); k_whole)))
section
variable {w : World} {p : Program} {loose : List Str} {mean : ExcName → Option Value} {mg mb : Str → Option Value} {dp un : Nat} {gd : Option (List Code)} {cn : Str} {cs : Scope} {a : Addr} {ccd : Value} {cl : List (Str × Addr)} {outer : List Env} {A₀ : Around} {base h₀ : Heap} {L : Addr} {m : Str → Option Value} {news : List (Addr × Obj)} {s : Shared} {Q E : Value → Shared → Prop}
  (B : Below A₀ base outer h₀) (F : Fr h₀ L s.heap m) (X : (Ntt.hd.heap_39 w.params).In h₀) (N : News h₀ L s.heap news) (T : Top p loose mean mg mb h₀) (hk : cs.kind = .function)
include B F X N T hk
local macro_rules | `(tactic| walk_at "CompSrc") => `(tactic| k_dflt (k_extra "CompSrc"))
local macro_rules | `(tactic| walk_at "call builtin:pow") => `(tactic| k_dflt (k_extra "call builtin:pow"))
set_option maxRecDepth 100000 in
set_option maxHeartbeats 3000000 in
theorem ringnew_spec (hd : dp + 16 < recursionLimit) (hu : un + 80 < cLine)
   (hret : ∀ ring dring k1 k2 k3 k4 k5 k6 k7 k8 sh1 sh2 zl tq tn tf zits c h' tk', Fr h₀ L h' m → News h₀ L h' ((ring, instObj 369 dring) :: (dring, ringD w k1 k2 k3 k4 k5 k6 k7 k8 sh1 sh2 zl tq tn tf) :: (zl, W.listOf zits.toArray c) :: news) → IntsAre zits zetas → (∀ q ∈ news, q.1 < dring) → dring < ring → (∀ q ∈ news, q.1 ≠ zl) → ring ≠ zl → dring ≠ zl → Q (.ref ring) { s with heap := h', toks := tk' }) :
    wpAny (model PySem.Challenge.rw_oo0012_03.row.prog w) (ktrTop dp un gd cn cs L a ccd cl outer) (call (.ref 369) [.ref 585, .ref 585]) Q E s := by
  w_on
  k_with_none
  revert X; k_fill; intro X
  k_with "CompSrc" => refine Hold.out ?_
  k_with "call builtin:pow" => refine Hold.out ?_
  refine' call_cls ?k1 ?k2 ?k3 ?k4 ?k5 ?k6 ?_
  (case k1 => k_asm)
  (case k2 => k_asm)
  (case k3 => k_asm)
  (case k4 => k_is)
  (case k5 => k_is)
  (case k6 => k_is)
  intro x' d' h' F' N' l1 l2
  (try k_lt l1); (try k_lt2 l2); (try k_sweep)
  ktr_unf
  rename _ ∧ _ ∧ AllLt _ _ => hl1
  have hne1 := ne_one hl1.2.2
  have hne2 := ne_two hl1.2.2
  k_steps
  refine ⟨?_⟩
  refine LCg.CompSrc.range (n := 256) (by rfl) (by k_asm) (by k_asm) (by assumption) (by decide) (by rfl) (by rw [sizeLine_eq]; decide) ?_
  intro g'
  refine' kcf_range zetaF (fun k' t' I' oI' C' oC' D' m' ys' h' tk' E' hlo' hhi' hC' hx' F' N' off' ne' hMark' => ?_) ?_
  (all_goals (try simp only [LCg.Off3, and_true] at off'))
  kcf_last
  k_with "call ref" => refine Hold.out ?_
  k_steps
  · refine ⟨?_⟩
    have q1 : k' < 256 := by omega
    refine' br_spec ?B ?F ?X ?N ?T ?hk ?hd ?hu hlo' q1 ?hret
    (case B => k_asm)
    (case F => k_asm)
    (case X => k_asm)
    (case N => k_asm)
    (case T => k_asm)
    (case hk => first | exact rfl | assumption)
    (case hd => ktr_room)
    (case hu => simp only [units_in1, units_deeper, units_under_tc]; ktr_units)
    intro t h' tk' F' N'
    (try dsimp only)
    k_steps
    refine ⟨?_⟩
    refine' call_pow3 (pow_zeta _ _ _ _ (tnF_nn hlo' q1)) ?_
    intro k n
    k_steps
    exact kcf_el rfl rfl rfl
  · refine ⟨?_⟩
    refine' call_pow3 (pow_inv _ _ _) ?_
    intro k n
    k_steps
    rename _ ∧ _ ∧ _ ∧ _ ∧ _ ∧ _ ∧ _ ∧ _ ∧ LCg.Off1 _ news => o1x
    obtain ⟨_, _, _, _, _, _, ox1, ox2, ox3⟩ := o1x
    refine' hret _ _ _ _ _ _ _ _ _ _ _ _ _ _ _ _ _ _ _ _ ?ha ?hb ?hc ?hd ?he (off1_mem ox3) ox1 ox2
    (case ha => k_asm)
    (case hb =>
      refine' kst_newsOf ?N ?q
      (case N => k_asm)
      refine' List.forall_mem_cons.mpr ⟨?_, List.forall_mem_cons.mpr ⟨?_, List.forall_mem_cons.mpr ⟨?_, ?_⟩⟩⟩
      · kcf_m
      · kcf_m
      · kcf_m
      · intro p hp; kcf_m)
    (case hc => assumption)
    (case hd => exact l1)
    (case he => assumption)
end
end Ntt
end

section
open PySem PySem.W PySem.Calls PyProof.Rows PyProof.V PySem.Spec
namespace Ntt
local macro_rules | `(tactic| walk_at "none 0") => `(tactic| skip)
local macro_rules | `(tactic| walk_at "none 1") => `(tactic| skip)
local macro_rules | `(tactic| walk_at "none 2") => `(tactic| skip)
local macro_rules | `(tactic| walk_at "none 3") => `(tactic| skip)
local macro_rules | `(tactic| walk_at "none 4") => `(tactic| skip)
local macro_rules | `(tactic| walk_at "pyIter ref") => `(tactic| k_dflt (k_extra "pyIter ref"))
local macro_rules | `(tactic| walk_at "call type:enumerate") => `(tactic| k_dflt (k_extra "call type:enumerate"))
local macro_rules | `(tactic| walk_at "call type:zip") => `(tactic| k_dflt (k_extra "call type:zip"))
local macro_rules | `(tactic| k_all) => `(tactic| with_reducible assumption)
local macro_rules | `(tactic| walk_at "call builtin:list.append") => `(tactic| (k_here; k_dflt ((show wpAny _ _ (call (Value.builtin "list.append") [Value.ref _, _]) _ _ _); refine' append_K ?k1 ?k2 ?k3 ?_ ?z; (case k1 => k_asm); (case k2 => k_asm); (case k3 => k_upd); (case z => size_fits); k_whole); intro h' F' N'; (try simp only [List.push_toArray] at N'); (try k_sweep)))
local macro_rules | `(tactic| walk_at "call ref") => `(tactic| (k_dflt (k_extra "call ref")))
local macro_rules | `(tactic| walk_at "exec For Name Call cons nil") => `(tactic| (k_here; kst_has; (rename Fr _ _ _ _ => lF'); (with_unfolding_all refine' For_invVF lF' ?k1 ?k2 ?_; (case k1 => exact rfl); (case k2 => exact rfl); k_whole)))
local macro_rules | `(tactic| walk_at "exec For Name Subscript cons nil") => `(tactic| (k_here; kst_has; (rename Fr _ _ _ _ => lF'); (with_unfolding_all refine' For_invVF lF' ?k1 ?k2 ?_; (case k1 => exact rfl); (case k2 => exact rfl); k_whole)))
local macro_rules | `(tactic| walk_at "subscriptTail") => `(tactic| k_dflt (k_extra "subscriptTail"))
local macro_rules | `(tactic| mul_fits) => `(tactic| first | exact mulR (by assumption) | exact mulL (by assumption) | exact mulLn (by assumption) | fail "mul_fits: none of ours")
local macro_rules | `(tactic| walk_at "exec For Tuple Call cons nil") => `(tactic| (k_here; (rename Fr _ _ _ _ => lF'); (with_unfolding_all refine' For_turns lF' ?_; k_whole)))
local macro_rules | `(tactic| k_room) => `(tactic| ktr_room)
local macro_rules | `(tactic| k_units) => `(tactic| ktr_units)
local macro_rules | `(tactic| walk_at "callWith ref") => `(tactic| (k_here; kco_here; k_dflt (refine' kcoKW ?k1 ?k2 ?k3 ?k4 ?k5 ?_; (case k1 => k_in); (case k2 => k_inst); (case k3 => rfl); (case k4 => k_is); (case k5 => exact rfl); k_whole)))
local macro_rules | `(tactic| ktr_unf) => `(tactic| k_dflt (first
  | (refine' code_def ?k1 ?k2 ?k3 ?k4 ?k5 ?kA ?kF ?kK ?k6 ?k7 ?k8 ?k9 ?kB ?_ ?c2 ?c3 ?c4 ?c5; (case kA => exact rfl); (case kF => exact rfl); (case kK => assumption); (case k1 => k_asm); (case k2 => k_asm); (case k3 => k_asm); (case k4 => k_asm); (case k5 => k_asm); (case k6 => k_is); (case k7 => k_is); (case k8 => ktr_room); (case k9 => first | exact BindsTo.of_eq rfl | exact binds_K (by k_in) rfl (by k_is) rfl rfl rfl | fail "k_enter: no rule for these arguments"); (case c5 => decide); (case kB => exact locs rfl); (case c2 => exact rfl); (case c3 => exact rfl); (case c4 => exact rfl); k_whole; intro g' L' h' FG' F' N' B' X' T'; (try dsimp only); (try k_lift B'); (try k_fold))
  | (refine' code_defC ?k1 ?k2 ?k3 ?k4 ?k5 ?kA ?kF ?kK ?k6 ?k7 ?k8 ?k9 ?kB ?kD ?_ ?c2 ?c3 ?c4; (case kA => exact rfl); (case kF => exact rfl); (case kK => assumption); (case k1 => k_asm); (case k2 => k_asm); (case k3 => k_asm); (case k4 => k_asm); (case k5 => k_asm); (case k6 => k_is); (case k7 => k_is); (case k8 => ktr_room); (case k9 => first | exact BindsTo.of_eq rfl | exact binds_K (by k_in) rfl (by k_is) rfl rfl rfl | fail "k_enter: no rule for these arguments"); (case kB => exact rfl); (case kD => decide +kernel); (case c2 => exact rfl); (case c3 => exact rfl); (case c4 => exact rfl); k_whole; intro g' L' h' tk' cells' FG' F' N' Y' B' X' T' l1; (try k_lt l1); k_cells Y'; (try simp only [List.cons_append, List.nil_append] at N'); (try dsimp only); (try k_lift B'); (try k_fold))))
local macro_rules | `(tactic| walk_at "call builtin:len") => `(tactic| (k_here; (with_reducible show wpAny _ _ (call (Value.builtin "len") [Value.ref _]) _ _ _); k_dflt (refine' kst_len ?k1 ?k2 ?k3 ?k4 ?_; (case k1 => k_asm); (case k2 => first | with_reducible assumption | k_mem); (case k3 => exact IntsAre.length (by assumption)); (case k4 => omega); k_whole)))
local macro_rules | `(tactic| k_mem) => `(tactic| (k_dflt assumption))
local macro_rules | `(tactic| walk_at "exec While Compare cons nil") => `(tactic| (k_dflt (k_extra "exec While Compare cons nil")))
local macro_rules | `(tactic| walk_at "subscriptTail Name Slice ref ref") => `(tactic| (k_here; (with_reducible show wpAny _ _ (subscriptTail _ (PySem.Expr.Slice none none none _) (Value.ref _) (Value.ref _)) _ _ _); k_dflt (refine' slice_cp ?F ?N ?l ?z ?_ ?s ?t; (case F => k_asm); (case N => k_asm); (case l => k_mem); (case s => with_unfolding_all rfl); (case t => intro _; with_unfolding_all rfl); (case z => rw [IntsAre.length (by assumption), sizeLine_eq]; omega)); intro D' h' F' N' l1; (try k_lt l1); (try k_sweep)))
local macro_rules | `(tactic| walk_at "subscriptTail Attribute Slice ref ref") => `(tactic| (k_here; (with_reducible show wpAny _ _ (subscriptTail _ (PySem.Expr.Slice none none none _) (Value.ref _) (Value.ref _)) _ _ _); k_dflt (refine' slice_cp ?F ?N ?l ?z ?_ ?s ?t; (case F => k_asm); (case N => k_asm); (case l => k_mem); (case s => with_unfolding_all rfl); (case t => intro _; with_unfolding_all rfl); (case z => rw [IntsAre.length (by assumption), sizeLine_eq]; omega)); intro D' h' F' N' l1; (try k_lt l1); (try k_sweep)))
local macro_rules | `(tactic| walk_at "getMethod ref") => `(tactic| (k_here; (with_reducible show wpAny _ _ (getMethod (Value.ref _) (PySem.Str.ofString "parent") _) _ _ _); k_dflt (refine' kmu_own ?k1 ?k2 ?k3 ?k4 ?k5 ?_; (case k1 => k_asm); (case k2 => k_asm); (case k3 => k_inst); (case k4 => k_is); (case k5 => k_is); k_whole)))
local macro_rules | `(tactic| walk_at "eval Name") => `(tactic| (k_here; k_dflt (refine' nameX_L ?F ?v ?_ ?a ?b; (case F => k_asm); (case a => first | rfl | assumption); (case b => rfl); (case v => rfl); k_whole)))
section
variable {w : World} {p : Program} {loose : List Str} {mean : ExcName → Option Value} {mg mb : Str → Option Value} {dp un : Nat} {gd : Option (List Code)} {cn : Str} {cs : Scope} {a : Addr} {ccd : Value} {cl : List (Str × Addr)} {outer : List Env} {A₀ : Around} {base h₀ : Heap} {L : Addr} {m : Str → Option Value} {news : List (Addr × Obj)} {s : Shared} {Q E : Value → Shared → Prop}
  (B : Below A₀ base outer h₀) (F : Fr h₀ L s.heap m) (X : (Ntt.hd.heap_39 w.params).In h₀) (N : News h₀ L s.heap news) (T : Top p loose mean mg mb h₀) (hk : cs.kind = .function)
include B F X N T hk
local macro_rules | `(tactic| walk_at "CompSrc") => `(tactic| k_dflt (k_extra "CompSrc"))
local macro_rules | `(tactic| walk_at "eval ListComp") => `(tactic| k_dflt (k_extra "eval ListComp"))
set_option maxRecDepth 100000 in
set_option maxHeartbeats 8000000 in
theorem nmul_spec (hd : dp + 16 < recursionLimit) (hu : un + 80 < cLine) {x dx y dy ring dring sh1 sh2 zl lc lc' : Addr} {cits dits : List Value} {ns ms : List Int} {c1 c2 : Nat} {k1 k2 k3 k4 k5 k6 k7 k8 k9 k10 k11 k12 tq tn tf : Tok}
   (hm1 : (ring, instObj 369 dring) ∈ news) (hm2 : (dring, ringD w k1 k2 k3 k4 k5 k6 k7 k8 sh1 sh2 zl tq tn tf) ∈ news) (hm3 : (lc, W.listOf cits.toArray c1) ∈ news) (hi3 : IntsAre cits ns) (hl3 : ns.length = 256)
   (hm4 : (x, instObj 569 dx) ∈ news) (hm5 : (dx, polyD w k9 k10 ring lc) ∈ news)
   (hm6 : (lc', W.listOf dits.toArray c2) ∈ news) (hi6 : IntsAre dits ms) (hl6 : ms.length = 256)
   (hm7 : (y, instObj 569 dy) ∈ news) (hm8 : (dy, polyD w k11 k12 ring lc') ∈ news) (hs3 : SmallL ns)
   (hret : ∀ z d l its c k1 k2 h' tk', Fr h₀ L h' m → News h₀ L h' ((z, instObj 569 d) :: (d, polyD w k1 k2 ring l) :: (l, W.listOf (List.toArray its) c) :: news) → (∀ q ∈ news, q.1 < l) → l < d → d < z → IntsAre its (List.zipWith (fun a b => (a * b).fmod 8380417) ns ms) → Q (.ref z) { s with heap := h', toks := tk' }) :
    wpAny (model PySem.Challenge.rw_oo0012_03.row.prog w) (ktrTop dp un gd cn cs L a ccd cl outer) (call (.ref 566) [.ref x, .ref y]) Q E s := by
  w_on
  k_with_none
  revert X; k_fill; intro X
  k_with "eval ListComp" => refine Hold.out ?_
  k_with "call type:zip" => refine Hold.out ?_
  refine wpAny_call ?_
  ktr_unf
  k_steps
  refine ⟨?_⟩
  refine' pair_comp (by with_unfolding_all rfl) (by rfl) (by decide) ?_
  k_steps
  refine ⟨?_⟩
  rename Fr _ _ _ _ => lF'
  rename News _ _ _ _ => lN'
  refine' zip_comp (fun a b => (a * b).fmod 8380417) (by rfl) lF' lN' ?z1 hi3 ?z2 hi6 (by rw [hl3, hl6]) (by rw [hl3, sizeLine_eq]; decide) (by decide) (by rfl) (by rfl) (by rfl) (by decide) ?turn ?fin
  (case z1 => kcf_m)
  (case z2 => kcf_m)
  case turn =>
    intro x y t t' C oC m₂ h tk rest Q' E' hx hy hC ha hb F' N' hsub hne hQ
    have hx1 := (hs3.out x hx).1
    have hx2 := (hs3.out x hx).2
    have hmul : IntMulOk x y := .of_left (intBits_le_64 (by omega) (by omega))
    clear lF' lN'
    k_steps
    exact hQ _ _ _ (by assumption) (by assumption)
  case fin =>
    intro D vs h tk hvs F' N' hlt
    clear lF' lN'
    have hvl : (List.zipWith (fun a b => (a * b).fmod 8380417) ns ms).length = 256 := by rw [List.length_zipWith, hl3, hl6]; rfl
    generalize List.zipWith (fun a b => (a * b).fmod 8380417) ns ms = rs at hvs hret hvl
    (try dsimp only)
    k_with "call ref" => (
      refine' ringcallT_spec ?B ?F ?X ?N ?T ?hk ?hd ?hu ?hm1 ?hm2 ?hm3 ?hi3 ?hl3 ?hret
      (case B => k_asm)
      (case F => k_asm)
      (case X => k_asm)
      (case N => k_asm)
      (case T => k_asm)
      (case hk => first | exact rfl | assumption)
      (case hd => ktr_room)
      (case hu => ktr_units)
      (case hm1 => k_mem)
      (case hm2 => k_mem)
      (case hm3 => k_mem)
      (case hi3 => with_reducible assumption)
      (case hl3 => with_reducible assumption)
      intro x9 d9 k9 k9' h9 tk9 F9 N9 l9 l9'
      (try dsimp only)
      (try k_fold))
    k_steps
    refine' hret x9 d9 D vs _ k9 k9' h9 tk9 ?ra ?rb ?rc ?rd l9' hvs
    (case ra => k_asm)
    (case rb =>
      refine' kst_newsOf ?N ?q
      (case N => k_asm)
      refine' List.forall_mem_cons.mpr ⟨?_, List.forall_mem_cons.mpr ⟨?_, List.forall_mem_cons.mpr ⟨?_, ?_⟩⟩⟩
      · kcf_m
      · kcf_m
      · kcf_m
      · intro p hp; kcf_m)
    (case rc => intro q hq; exact hlt q (by kcf_m))
    (case rd => exact l9 _ (by kcf_m))
end
end Ntt
end

section
open PySem PySem.W PySem.Calls PyProof.Rows PyProof.V PySem.Spec
namespace Ntt
local macro_rules | `(tactic| walk_at "none 0") => `(tactic| skip)
local macro_rules | `(tactic| walk_at "none 1") => `(tactic| skip)
local macro_rules | `(tactic| walk_at "none 2") => `(tactic| skip)
local macro_rules | `(tactic| walk_at "none 3") => `(tactic| skip)
local macro_rules | `(tactic| walk_at "none 4") => `(tactic| skip)
local macro_rules | `(tactic| walk_at "none 5") => `(tactic| skip)
local macro_rules | `(tactic| walk_at "pyIter ref") => `(tactic| k_dflt (k_extra "pyIter ref"))
local macro_rules | `(tactic| walk_at "call type:enumerate") => `(tactic| k_dflt (k_extra "call type:enumerate"))
local macro_rules | `(tactic| walk_at "call type:zip") => `(tactic| k_dflt (k_extra "call type:zip"))
local macro_rules | `(tactic| k_all) => `(tactic| with_reducible assumption)
local macro_rules | `(tactic| walk_at "call builtin:list.append") => `(tactic| (k_here; k_dflt ((show wpAny _ _ (call (Value.builtin "list.append") [Value.ref _, _]) _ _ _); refine' append_K ?k1 ?k2 ?k3 ?_ ?z; (case k1 => k_asm); (case k2 => k_asm); (case k3 => k_upd); (case z => size_fits); k_whole); intro h' F' N'; (try simp only [List.push_toArray] at N'); (try k_sweep)))
local macro_rules | `(tactic| walk_at "call ref") => `(tactic| (k_dflt (k_extra "call ref")))
local macro_rules | `(tactic| walk_at "exec For Name Call cons nil") => `(tactic| (k_here; kst_has; (rename Fr _ _ _ _ => lF'); (with_unfolding_all refine' For_invVF lF' ?k1 ?k2 ?_; (case k1 => exact rfl); (case k2 => exact rfl); k_whole)))
local macro_rules | `(tactic| walk_at "exec For Name Subscript cons nil") => `(tactic| (k_here; kst_has; (rename Fr _ _ _ _ => lF'); (with_unfolding_all refine' For_invVF lF' ?k1 ?k2 ?_; (case k1 => exact rfl); (case k2 => exact rfl); k_whole)))
local macro_rules | `(tactic| walk_at "subscriptTail") => `(tactic| k_dflt (k_extra "subscriptTail"))
local macro_rules | `(tactic| mul_fits) => `(tactic| first | exact mulR (by assumption) | exact mulL (by assumption) | exact mulLn (by assumption) | fail "mul_fits: none of ours")
local macro_rules | `(tactic| walk_at "exec For Tuple Call cons nil") => `(tactic| (k_here; (rename Fr _ _ _ _ => lF'); (with_unfolding_all refine' For_turns lF' ?_; k_whole)))
local macro_rules | `(tactic| k_room) => `(tactic| ktr_room)
local macro_rules | `(tactic| k_units) => `(tactic| ktr_units)
local macro_rules | `(tactic| walk_at "callWith ref") => `(tactic| (k_here; kco_here; k_dflt (refine' kcoKW ?k1 ?k2 ?k3 ?k4 ?k5 ?_; (case k1 => k_in); (case k2 => k_inst); (case k3 => rfl); (case k4 => k_is); (case k5 => exact rfl); k_whole)))
local macro_rules | `(tactic| ktr_unf) => `(tactic| k_dflt (first
  | (refine' code_def ?k1 ?k2 ?k3 ?k4 ?k5 ?kA ?kF ?kK ?k6 ?k7 ?k8 ?k9 ?kB ?_ ?c2 ?c3 ?c4 ?c5; (case kA => exact rfl); (case kF => exact rfl); (case kK => assumption); (case k1 => k_asm); (case k2 => k_asm); (case k3 => k_asm); (case k4 => k_asm); (case k5 => k_asm); (case k6 => k_is); (case k7 => k_is); (case k8 => ktr_room); (case k9 => first | exact BindsTo.of_eq rfl | exact binds_K (by k_in) rfl (by k_is) rfl rfl rfl | fail "k_enter: no rule for these arguments"); (case c5 => decide); (case kB => exact locs rfl); (case c2 => exact rfl); (case c3 => exact rfl); (case c4 => exact rfl); k_whole; intro g' L' h' FG' F' N' B' X' T'; (try dsimp only); (try k_lift B'); (try k_fold))
  | (refine' code_defC ?k1 ?k2 ?k3 ?k4 ?k5 ?kA ?kF ?kK ?k6 ?k7 ?k8 ?k9 ?kB ?kD ?_ ?c2 ?c3 ?c4; (case kA => exact rfl); (case kF => exact rfl); (case kK => assumption); (case k1 => k_asm); (case k2 => k_asm); (case k3 => k_asm); (case k4 => k_asm); (case k5 => k_asm); (case k6 => k_is); (case k7 => k_is); (case k8 => ktr_room); (case k9 => first | exact BindsTo.of_eq rfl | exact binds_K (by k_in) rfl (by k_is) rfl rfl rfl | fail "k_enter: no rule for these arguments"); (case kB => exact rfl); (case kD => decide +kernel); (case c2 => exact rfl); (case c3 => exact rfl); (case c4 => exact rfl); k_whole; intro g' L' h' tk' cells' FG' F' N' Y' B' X' T' l1; (try k_lt l1); k_cells Y'; (try simp only [List.cons_append, List.nil_append] at N'); (try dsimp only); (try k_lift B'); (try k_fold))))
local macro_rules | `(tactic| walk_at "call builtin:len") => `(tactic| (k_here; (with_reducible show wpAny _ _ (call (Value.builtin "len") [Value.ref _]) _ _ _); k_dflt (refine' kst_len ?k1 ?k2 ?k3 ?k4 ?_; (case k1 => k_asm); (case k2 => first | with_reducible assumption | k_mem); (case k3 => exact IntsAre.length (by assumption)); (case k4 => omega); k_whole)))
local macro_rules | `(tactic| k_mem) => `(tactic| (k_dflt assumption))
local macro_rules | `(tactic| walk_at "exec While Compare cons nil") => `(tactic| (k_dflt (k_extra "exec While Compare cons nil")))
local macro_rules | `(tactic| walk_at "subscriptTail Name Slice ref ref") => `(tactic| (k_here; (with_reducible show wpAny _ _ (subscriptTail _ (PySem.Expr.Slice none none none _) (Value.ref _) (Value.ref _)) _ _ _); k_dflt (refine' slice_cp ?F ?N ?l ?z ?_ ?s ?t; (case F => k_asm); (case N => k_asm); (case l => k_mem); (case s => with_unfolding_all rfl); (case t => intro _; with_unfolding_all rfl); (case z => rw [IntsAre.length (by assumption), sizeLine_eq]; omega)); intro D' h' F' N' l1; (try k_lt l1); (try k_sweep)))
local macro_rules | `(tactic| walk_at "subscriptTail Attribute Slice ref ref") => `(tactic| (k_here; (with_reducible show wpAny _ _ (subscriptTail _ (PySem.Expr.Slice none none none _) (Value.ref _) (Value.ref _)) _ _ _); k_dflt (refine' slice_cp ?F ?N ?l ?z ?_ ?s ?t; (case F => k_asm); (case N => k_asm); (case l => k_mem); (case s => with_unfolding_all rfl); (case t => intro _; with_unfolding_all rfl); (case z => rw [IntsAre.length (by assumption), sizeLine_eq]; omega)); intro D' h' F' N' l1; (try k_lt l1); (try k_sweep)))
local macro_rules | `(tactic| walk_at "getMethod ref") => `(tactic| (k_here; (with_reducible show wpAny _ _ (getMethod (Value.ref _) (PySem.Str.ofString "parent") _) _ _ _); k_dflt (refine' kmu_own ?k1 ?k2 ?k3 ?k4 ?k5 ?_; (case k1 => k_asm); (case k2 => k_asm); (case k3 => k_inst); (case k4 => k_is); (case k5 => k_is); k_whole)))
local macro_rules | `(tactic| walk_at "eval Name") => `(tactic| (k_here; k_dflt (refine' nameX_L ?F ?v ?_ ?a ?b; (case F => k_asm); (case a => first | rfl | assumption); (case b => rfl); (case v => rfl); k_whole)))
section
variable {w : World} {p : Program} {loose : List Str} {mean : ExcName → Option Value} {mg mb : Str → Option Value} {dp un : Nat} {gd : Option (List Code)} {cn : Str} {cs : Scope} {a : Addr} {ccd : Value} {cl : List (Str × Addr)} {outer : List Env} {A₀ : Around} {base h₀ : Heap} {L : Addr} {m : Str → Option Value} {news : List (Addr × Obj)} {s : Shared} {Q E : Value → Shared → Prop}
  (B : Below A₀ base outer h₀) (F : Fr h₀ L s.heap m) (X : (Ntt.hd.heap_39 w.params).In h₀) (N : News h₀ L s.heap news) (T : Top p loose mean mg mb h₀) (hk : cs.kind = .function)
include B F X N T hk
local macro_rules | `(tactic| walk_at "CompSrc") => `(tactic| k_dflt (k_extra "CompSrc"))
local macro_rules | `(tactic| walk_at "exec Assign cons ListComp") => `(tactic| k_dflt (k_extra "exec Assign cons ListComp"))
set_option maxRecDepth 100000 in
set_option maxHeartbeats 8000000 in
theorem nadd_spec (hd : dp + 16 < recursionLimit) (hu : un + 80 < cLine) {x dx y dy ring dring sh1 sh2 zl lc lc' : Addr} {cits dits : List Value} {ns ms : List Int} {c1 c2 : Nat} {k1 k2 k3 k4 k5 k6 k7 k8 k9 k10 k11 k12 tq tn tf : Tok}
   (hm1 : (ring, instObj 369 dring) ∈ news) (hm2 : (dring, ringD w k1 k2 k3 k4 k5 k6 k7 k8 sh1 sh2 zl tq tn tf) ∈ news) (hm3 : (lc, W.listOf cits.toArray c1) ∈ news) (hi3 : IntsAre cits ns) (hl3 : ns.length = 256)
   (hm4 : (x, instObj 569 dx) ∈ news) (hm5 : (dx, polyD w k9 k10 ring lc) ∈ news)
   (hm6 : (lc', W.listOf dits.toArray c2) ∈ news) (hi6 : IntsAre dits ms) (hl6 : ms.length = 256)
   (hm7 : (y, instObj 569 dy) ∈ news) (hm8 : (dy, polyD w k11 k12 ring lc') ∈ news)
   (hret : ∀ z d l its c k1 k2 h' tk', Fr h₀ L h' m → News h₀ L h' ((z, instObj 569 d) :: (d, polyD w k1 k2 ring l) :: (l, W.listOf (List.toArray its) c) :: news) → (∀ q ∈ news, q.1 < l) → l < d → d < z → IntsAre its (List.zipWith (fun a b => (a + b).fmod 8380417) ns ms) → Q (.ref z) { s with heap := h', toks := tk' }) :
    wpAny (model PySem.Challenge.rw_oo0012_03.row.prog w) (ktrTop dp un gd cn cs L a ccd cl outer) (call (.ref 554) [.ref x, .ref y]) Q E s := by
  w_on
  k_with_none
  revert X; k_fill; intro X
  k_with "exec Assign cons ListComp" => refine Hold.out ?_
  k_with "call type:zip" => refine Hold.out ?_
  refine wpAny_call ?_
  ktr_unf
  k_steps
  refine ⟨?_⟩
  refine' pair_compA (by with_unfolding_all rfl) (by with_unfolding_all rfl) (by rfl) (by decide) ?_
  k_steps
  refine ⟨?_⟩
  rename Fr _ _ _ _ => lF'
  rename News _ _ _ _ => lN'
  refine' zip_compA (fun a b => (a + b).fmod 8380417) (by rfl) lF' lN' ?z1 hi3 ?z2 hi6 (by rw [hl3, hl6]) (by rw [hl3, sizeLine_eq]; decide) (by decide) (by rfl) (by rfl) (by rfl) (by decide) (by rfl) (by rfl) (by rfl) ?turn ?fin
  (case z1 => kcf_m)
  (case z2 => kcf_m)
  case turn =>
    intro x y t t' C oC m₂ h tk rest Q' E' hx hy hC ha hb F' N' hsub hne hQ
    clear lF' lN'
    simp only [List.forall_mem_cons] at hsub
    have hsub9 : ∀ p ∈ news, p ∈ rest := hsub.2
    have hsubC := hsub.1
    have r1 := hsub9 _ hm1
    have r2 := hsub9 _ hm2
    have r3 := hsub9 _ hm4
    have r4 := hsub9 _ hm5
    clear hsub
    k_steps
    exact hQ _ _ _ (by assumption) (by assumption)
  case fin =>
    intro D vs h tk hvs F' N' hlt
    clear lF' lN'
    have hvl : (List.zipWith (fun a b => (a + b).fmod 8380417) ns ms).length = 256 := by rw [List.length_zipWith, hl3, hl6]; rfl
    generalize List.zipWith (fun a b => (a + b).fmod 8380417) ns ms = rs at hvs hret hvl
    (try dsimp only)
    k_with "call ref" => (
      refine' ringcallT_spec ?B ?F ?X ?N ?T ?hk ?hd ?hu ?hm1 ?hm2 ?hm3 ?hi3 ?hl3 ?hret
      (case B => k_asm)
      (case F => k_asm)
      (case X => k_asm)
      (case N => k_asm)
      (case T => k_asm)
      (case hk => first | exact rfl | assumption)
      (case hd => ktr_room)
      (case hu => ktr_units)
      (case hm1 => k_mem)
      (case hm2 => k_mem)
      (case hm3 => k_mem)
      (case hi3 => with_reducible assumption)
      (case hl3 => with_reducible assumption)
      intro x9 d9 k9 k9' h9 tk9 F9 N9 l9 l9'
      (try dsimp only)
      (try k_fold))
    k_steps
    refine' hret x9 d9 D vs _ k9 k9' h9 tk9 ?ra ?rb ?rc ?rd l9' hvs
    (case ra => k_asm)
    (case rb =>
      refine' kst_newsOf ?N ?q
      (case N => k_asm)
      refine' List.forall_mem_cons.mpr ⟨?_, List.forall_mem_cons.mpr ⟨?_, List.forall_mem_cons.mpr ⟨?_, ?_⟩⟩⟩
      · kcf_m
      · kcf_m
      · kcf_m
      · intro p hp; kcf_m)
    (case rc => intro q hq; exact hlt q (by kcf_m))
    (case rd => exact l9 _ (by kcf_m))
end
end Ntt
end

section
open PySem PySem.W PySem.Calls PyProof.Rows PyProof.V PySem.Spec
namespace Ntt
local macro_rules | `(tactic| walk_at "none 0") => `(tactic| skip)
local macro_rules | `(tactic| walk_at "none 1") => `(tactic| skip)
local macro_rules | `(tactic| walk_at "none 2") => `(tactic| skip)
local macro_rules | `(tactic| walk_at "none 3") => `(tactic| skip)
local macro_rules | `(tactic| walk_at "none 4") => `(tactic| skip)
local macro_rules | `(tactic| walk_at "none 5") => `(tactic| skip)
local macro_rules | `(tactic| walk_at "none 6") => `(tactic| skip)
local macro_rules | `(tactic| walk_at "pyIter ref") => `(tactic| k_dflt (k_extra "pyIter ref"))
local macro_rules | `(tactic| walk_at "call type:enumerate") => `(tactic| k_dflt (k_extra "call type:enumerate"))
local macro_rules | `(tactic| walk_at "call type:zip") => `(tactic| k_dflt (k_extra "call type:zip"))
local macro_rules | `(tactic| k_all) => `(tactic| with_reducible assumption)
local macro_rules | `(tactic| walk_at "call builtin:list.append") => `(tactic| (k_here; k_dflt ((show wpAny _ _ (call (Value.builtin "list.append") [Value.ref _, _]) _ _ _); refine' append_K ?k1 ?k2 ?k3 ?_ ?z; (case k1 => k_asm); (case k2 => k_asm); (case k3 => k_upd); (case z => size_fits); k_whole); intro h' F' N'; (try simp only [List.push_toArray] at N'); (try k_sweep)))
local macro_rules | `(tactic| walk_at "call ref") => `(tactic| (k_dflt (k_extra "call ref")))
local macro_rules | `(tactic| walk_at "exec For Name Call cons nil") => `(tactic| (k_here; kst_has; (rename Fr _ _ _ _ => lF'); (with_unfolding_all refine' For_invVF lF' ?k1 ?k2 ?_; (case k1 => exact rfl); (case k2 => exact rfl); k_whole)))
local macro_rules | `(tactic| walk_at "exec For Name Subscript cons nil") => `(tactic| (k_here; kst_has; (rename Fr _ _ _ _ => lF'); (with_unfolding_all refine' For_invVF lF' ?k1 ?k2 ?_; (case k1 => exact rfl); (case k2 => exact rfl); k_whole)))
local macro_rules | `(tactic| walk_at "subscriptTail") => `(tactic| k_dflt (k_extra "subscriptTail"))
local macro_rules | `(tactic| mul_fits) => `(tactic| first | exact mulR (by assumption) | exact mulL (by assumption) | exact mulLn (by assumption) | fail "mul_fits: none of ours")
local macro_rules | `(tactic| walk_at "exec For Tuple Call cons nil") => `(tactic| (k_here; (rename Fr _ _ _ _ => lF'); (with_unfolding_all refine' For_turns lF' ?_; k_whole)))
local macro_rules | `(tactic| k_room) => `(tactic| ktr_room)
local macro_rules | `(tactic| k_units) => `(tactic| ktr_units)
local macro_rules | `(tactic| walk_at "callWith ref") => `(tactic| (k_here; kco_here; k_dflt (refine' kcoKW ?k1 ?k2 ?k3 ?k4 ?k5 ?_; (case k1 => k_in); (case k2 => k_inst); (case k3 => rfl); (case k4 => k_is); (case k5 => exact rfl); k_whole)))
local macro_rules | `(tactic| ktr_unf) => `(tactic| k_dflt (first
  | (refine' code_def ?k1 ?k2 ?k3 ?k4 ?k5 ?kA ?kF ?kK ?k6 ?k7 ?k8 ?k9 ?kB ?_ ?c2 ?c3 ?c4 ?c5; (case kA => exact rfl); (case kF => exact rfl); (case kK => assumption); (case k1 => k_asm); (case k2 => k_asm); (case k3 => k_asm); (case k4 => k_asm); (case k5 => k_asm); (case k6 => k_is); (case k7 => k_is); (case k8 => ktr_room); (case k9 => first | exact BindsTo.of_eq rfl | exact binds_K (by k_in) rfl (by k_is) rfl rfl rfl | fail "k_enter: no rule for these arguments"); (case c5 => decide); (case kB => exact locs rfl); (case c2 => exact rfl); (case c3 => exact rfl); (case c4 => exact rfl); k_whole; intro g' L' h' FG' F' N' B' X' T'; (try dsimp only); (try k_lift B'); (try k_fold))
  | (refine' code_defC ?k1 ?k2 ?k3 ?k4 ?k5 ?kA ?kF ?kK ?k6 ?k7 ?k8 ?k9 ?kB ?kD ?_ ?c2 ?c3 ?c4; (case kA => exact rfl); (case kF => exact rfl); (case kK => assumption); (case k1 => k_asm); (case k2 => k_asm); (case k3 => k_asm); (case k4 => k_asm); (case k5 => k_asm); (case k6 => k_is); (case k7 => k_is); (case k8 => ktr_room); (case k9 => first | exact BindsTo.of_eq rfl | exact binds_K (by k_in) rfl (by k_is) rfl rfl rfl | fail "k_enter: no rule for these arguments"); (case kB => exact rfl); (case kD => decide +kernel); (case c2 => exact rfl); (case c3 => exact rfl); (case c4 => exact rfl); k_whole; intro g' L' h' tk' cells' FG' F' N' Y' B' X' T' l1; (try k_lt l1); k_cells Y'; (try simp only [List.cons_append, List.nil_append] at N'); (try dsimp only); (try k_lift B'); (try k_fold))))
local macro_rules | `(tactic| walk_at "call builtin:len") => `(tactic| (k_here; (with_reducible show wpAny _ _ (call (Value.builtin "len") [Value.ref _]) _ _ _); k_dflt (refine' kst_len ?k1 ?k2 ?k3 ?k4 ?_; (case k1 => k_asm); (case k2 => first | with_reducible assumption | k_mem); (case k3 => exact IntsAre.length (by assumption)); (case k4 => omega); k_whole)))
local macro_rules | `(tactic| k_mem) => `(tactic| (k_dflt assumption))
local macro_rules | `(tactic| walk_at "exec While Compare cons nil") => `(tactic| (k_dflt (k_extra "exec While Compare cons nil")))
local macro_rules | `(tactic| walk_at "subscriptTail Name Slice ref ref") => `(tactic| (k_here; (with_reducible show wpAny _ _ (subscriptTail _ (PySem.Expr.Slice none none none _) (Value.ref _) (Value.ref _)) _ _ _); k_dflt (refine' slice_cp ?F ?N ?l ?z ?_ ?s ?t; (case F => k_asm); (case N => k_asm); (case l => k_mem); (case s => with_unfolding_all rfl); (case t => intro _; with_unfolding_all rfl); (case z => rw [IntsAre.length (by assumption), sizeLine_eq]; omega)); intro D' h' F' N' l1; (try k_lt l1); (try k_sweep)))
local macro_rules | `(tactic| walk_at "subscriptTail Attribute Slice ref ref") => `(tactic| (k_here; (with_reducible show wpAny _ _ (subscriptTail _ (PySem.Expr.Slice none none none _) (Value.ref _) (Value.ref _)) _ _ _); k_dflt (refine' slice_cp ?F ?N ?l ?z ?_ ?s ?t; (case F => k_asm); (case N => k_asm); (case l => k_mem); (case s => with_unfolding_all rfl); (case t => intro _; with_unfolding_all rfl); (case z => rw [IntsAre.length (by assumption), sizeLine_eq]; omega)); intro D' h' F' N' l1; (try k_lt l1); (try k_sweep)))
local macro_rules | `(tactic| walk_at "getMethod ref") => `(tactic| (k_here; (with_reducible show wpAny _ _ (getMethod (Value.ref _) (PySem.Str.ofString "parent") _) _ _ _); k_dflt (refine' kmu_own ?k1 ?k2 ?k3 ?k4 ?k5 ?_; (case k1 => k_asm); (case k2 => k_asm); (case k3 => k_inst); (case k4 => k_is); (case k5 => k_is); k_whole)))
local macro_rules | `(tactic| walk_at "eval Name") => `(tactic| (k_here; k_dflt (refine' nameX_L ?F ?v ?_ ?a ?b; (case F => k_asm); (case a => first | rfl | assumption); (case b => rfl); (case v => rfl); k_whole)))
section
variable {w : World} {p : Program} {loose : List Str} {mean : ExcName → Option Value} {mg mb : Str → Option Value} {dp un : Nat} {gd : Option (List Code)} {cn : Str} {cs : Scope} {a : Addr} {ccd : Value} {cl : List (Str × Addr)} {outer : List Env} {A₀ : Around} {base h₀ : Heap} {L : Addr} {m : Str → Option Value} {news : List (Addr × Obj)} {s : Shared} {Q E : Value → Shared → Prop}
  (B : Below A₀ base outer h₀) (F : Fr h₀ L s.heap m) (X : (Ntt.hd.heap_39 w.params).In h₀) (N : News h₀ L s.heap news) (T : Top p loose mean mg mb h₀) (hk : cs.kind = .function)
include B F X N T hk
local macro_rules | `(tactic| walk_at "CompSrc") => `(tactic| k_dflt (k_extra "CompSrc"))
local macro_rules | `(tactic| walk_at "exec Assign cons ListComp") => `(tactic| k_dflt (k_extra "exec Assign cons ListComp"))
set_option maxRecDepth 100000 in
set_option maxHeartbeats 8000000 in
theorem nsub_spec (hd : dp + 16 < recursionLimit) (hu : un + 80 < cLine) {x dx y dy ring dring sh1 sh2 zl lc lc' : Addr} {cits dits : List Value} {ns ms : List Int} {c1 c2 : Nat} {k1 k2 k3 k4 k5 k6 k7 k8 k9 k10 k11 k12 tq tn tf : Tok}
   (hm1 : (ring, instObj 369 dring) ∈ news) (hm2 : (dring, ringD w k1 k2 k3 k4 k5 k6 k7 k8 sh1 sh2 zl tq tn tf) ∈ news) (hm3 : (lc, W.listOf cits.toArray c1) ∈ news) (hi3 : IntsAre cits ns) (hl3 : ns.length = 256)
   (hm4 : (x, instObj 569 dx) ∈ news) (hm5 : (dx, polyD w k9 k10 ring lc) ∈ news)
   (hm6 : (lc', W.listOf dits.toArray c2) ∈ news) (hi6 : IntsAre dits ms) (hl6 : ms.length = 256)
   (hm7 : (y, instObj 569 dy) ∈ news) (hm8 : (dy, polyD w k11 k12 ring lc') ∈ news)
   (hret : ∀ z d l its c k1 k2 h' tk', Fr h₀ L h' m → News h₀ L h' ((z, instObj 569 d) :: (d, polyD w k1 k2 ring l) :: (l, W.listOf (List.toArray its) c) :: news) → (∀ q ∈ news, q.1 < l) → l < d → d < z → IntsAre its (List.zipWith (fun a b => (a - b).fmod 8380417) ns ms) → Q (.ref z) { s with heap := h', toks := tk' }) :
    wpAny (model PySem.Challenge.rw_oo0012_03.row.prog w) (ktrTop dp un gd cn cs L a ccd cl outer) (call (.ref 561) [.ref x, .ref y]) Q E s := by
  w_on
  k_with_none
  revert X; k_fill; intro X
  k_with "exec Assign cons ListComp" => refine Hold.out ?_
  k_with "call type:zip" => refine Hold.out ?_
  refine wpAny_call ?_
  ktr_unf
  k_steps
  refine ⟨?_⟩
  refine' pair_compA (by with_unfolding_all rfl) (by with_unfolding_all rfl) (by rfl) (by decide) ?_
  k_steps
  refine ⟨?_⟩
  rename Fr _ _ _ _ => lF'
  rename News _ _ _ _ => lN'
  refine' zip_compA (fun a b => (a - b).fmod 8380417) (by rfl) lF' lN' ?z1 hi3 ?z2 hi6 (by rw [hl3, hl6]) (by rw [hl3, sizeLine_eq]; decide) (by decide) (by rfl) (by rfl) (by rfl) (by decide) (by rfl) (by rfl) (by rfl) ?turn ?fin
  (case z1 => kcf_m)
  (case z2 => kcf_m)
  case turn =>
    intro x y t t' C oC m₂ h tk rest Q' E' hx hy hC ha hb F' N' hsub hne hQ
    clear lF' lN'
    simp only [List.forall_mem_cons] at hsub
    have hsub9 : ∀ p ∈ news, p ∈ rest := hsub.2
    have hsubC := hsub.1
    have r1 := hsub9 _ hm1
    have r2 := hsub9 _ hm2
    have r3 := hsub9 _ hm4
    have r4 := hsub9 _ hm5
    clear hsub
    k_steps
    exact hQ _ _ _ (by assumption) (by assumption)
  case fin =>
    intro D vs h tk hvs F' N' hlt
    clear lF' lN'
    have hvl : (List.zipWith (fun a b => (a - b).fmod 8380417) ns ms).length = 256 := by rw [List.length_zipWith, hl3, hl6]; rfl
    generalize List.zipWith (fun a b => (a - b).fmod 8380417) ns ms = rs at hvs hret hvl
    (try dsimp only)
    k_with "call ref" => (
      refine' ringcallT_spec ?B ?F ?X ?N ?T ?hk ?hd ?hu ?hm1 ?hm2 ?hm3 ?hi3 ?hl3 ?hret
      (case B => k_asm)
      (case F => k_asm)
      (case X => k_asm)
      (case N => k_asm)
      (case T => k_asm)
      (case hk => first | exact rfl | assumption)
      (case hd => ktr_room)
      (case hu => ktr_units)
      (case hm1 => k_mem)
      (case hm2 => k_mem)
      (case hm3 => k_mem)
      (case hi3 => with_reducible assumption)
      (case hl3 => with_reducible assumption)
      intro x9 d9 k9 k9' h9 tk9 F9 N9 l9 l9'
      (try dsimp only)
      (try k_fold))
    k_steps
    refine' hret x9 d9 D vs _ k9 k9' h9 tk9 ?ra ?rb ?rc ?rd l9' hvs
    (case ra => k_asm)
    (case rb =>
      refine' kst_newsOf ?N ?q
      (case N => k_asm)
      refine' List.forall_mem_cons.mpr ⟨?_, List.forall_mem_cons.mpr ⟨?_, List.forall_mem_cons.mpr ⟨?_, ?_⟩⟩⟩
      · kcf_m
      · kcf_m
      · kcf_m
      · intro p hp; kcf_m)
    (case rc => intro q hq; exact hlt q (by kcf_m))
    (case rd => exact l9 _ (by kcf_m))
end
end Ntt
end

section
open PySem PySem.W PySem.Calls PyProof.Rows PyProof.V PySem.Spec
namespace Ntt
local macro_rules | `(tactic| walk_at "none 0") => `(tactic| skip)
local macro_rules | `(tactic| walk_at "none 1") => `(tactic| skip)
local macro_rules | `(tactic| walk_at "none 2") => `(tactic| skip)
local macro_rules | `(tactic| walk_at "none 3") => `(tactic| skip)
local macro_rules | `(tactic| walk_at "none 4") => `(tactic| skip)
local macro_rules | `(tactic| walk_at "none 5") => `(tactic| skip)
local macro_rules | `(tactic| walk_at "none 6") => `(tactic| skip)
local macro_rules | `(tactic| walk_at "none 7") => `(tactic| skip)
local macro_rules | `(tactic| walk_at "none 8") => `(tactic| skip)
local macro_rules | `(tactic| k_steps) => `(tactic| repeat' (first | (k_unfold; (try dsimp only)) | walk1 | (dsimp only; walk1) | fail "no step"))
local macro_rules | `(tactic| walk_at "pyIter ref") => `(tactic| k_dflt (k_extra "pyIter ref"))
local macro_rules | `(tactic| walk_at "call type:enumerate") => `(tactic| k_dflt (k_extra "call type:enumerate"))
local macro_rules | `(tactic| walk_at "call type:zip") => `(tactic| k_dflt (k_extra "call type:zip"))
local macro_rules | `(tactic| k_all) => `(tactic| with_reducible assumption)
local macro_rules | `(tactic| walk_at "call builtin:list.append") => `(tactic| (k_here; k_dflt ((show wpAny _ _ (call (Value.builtin "list.append") [Value.ref _, _]) _ _ _); refine' append_K ?k1 ?k2 ?k3 ?_ ?z; (case k1 => k_asm); (case k2 => k_asm); (case k3 => k_upd); (case z => size_fits); k_whole); intro h' F' N'; (try simp only [List.push_toArray] at N'); (try k_sweep)))
local macro_rules | `(tactic| walk_at "call ref") => `(tactic| (k_dflt (k_extra "call ref")))
local macro_rules | `(tactic| walk_at "exec For Name Call cons nil") => `(tactic| (k_here; kst_has; (rename Fr _ _ _ _ => lF'); (with_unfolding_all refine' For_invVF lF' ?k1 ?k2 ?_; (case k1 => exact rfl); (case k2 => exact rfl); k_whole)))
local macro_rules | `(tactic| walk_at "exec For Name Subscript cons nil") => `(tactic| (k_here; kst_has; (rename Fr _ _ _ _ => lF'); (with_unfolding_all refine' For_invVF lF' ?k1 ?k2 ?_; (case k1 => exact rfl); (case k2 => exact rfl); k_whole)))
local macro_rules | `(tactic| walk_at "subscriptTail") => `(tactic| k_dflt (k_extra "subscriptTail"))
local macro_rules | `(tactic| mul_fits) => `(tactic| first | exact mulR (by assumption) | exact mulL (by assumption) | exact mulLn (by assumption) | fail "mul_fits: none of ours")
local macro_rules | `(tactic| walk_at "exec For Tuple Call cons nil") => `(tactic| (k_here; (rename Fr _ _ _ _ => lF'); (with_unfolding_all refine' For_turns lF' ?_; k_whole)))
local macro_rules | `(tactic| k_room) => `(tactic| ktr_room)
local macro_rules | `(tactic| k_units) => `(tactic| ktr_units)
local macro_rules | `(tactic| walk_at "callWith ref") => `(tactic| (k_here; kco_here; k_dflt (refine' kcoKW ?k1 ?k2 ?k3 ?k4 ?k5 ?_; (case k1 => k_in); (case k2 => k_inst); (case k3 => rfl); (case k4 => k_is); (case k5 => exact rfl); k_whole)))
local macro_rules | `(tactic| ktr_unf) => `(tactic| k_dflt (first
  | (refine' code_def ?k1 ?k2 ?k3 ?k4 ?k5 ?kA ?kF ?kK ?k6 ?k7 ?k8 ?k9 ?kB ?_ ?c2 ?c3 ?c4 ?c5; (case kA => exact rfl); (case kF => exact rfl); (case kK => assumption); (case k1 => k_asm); (case k2 => k_asm); (case k3 => k_asm); (case k4 => k_asm); (case k5 => k_asm); (case k6 => k_is); (case k7 => k_is); (case k8 => ktr_room); (case k9 => first | exact BindsTo.of_eq rfl | exact binds_K (by k_in) rfl (by k_is) rfl rfl rfl | fail "k_enter: no rule for these arguments"); (case c5 => decide); (case kB => exact locs rfl); (case c2 => exact rfl); (case c3 => exact rfl); (case c4 => exact rfl); k_whole; intro g' L' h' FG' F' N' B' X' T'; (try dsimp only); (try k_lift B'); (try k_fold))
  | (refine' code_defC ?k1 ?k2 ?k3 ?k4 ?k5 ?kA ?kF ?kK ?k6 ?k7 ?k8 ?k9 ?kB ?kD ?_ ?c2 ?c3 ?c4; (case kA => exact rfl); (case kF => exact rfl); (case kK => assumption); (case k1 => k_asm); (case k2 => k_asm); (case k3 => k_asm); (case k4 => k_asm); (case k5 => k_asm); (case k6 => k_is); (case k7 => k_is); (case k8 => ktr_room); (case k9 => first | exact BindsTo.of_eq rfl | exact binds_K (by k_in) rfl (by k_is) rfl rfl rfl | fail "k_enter: no rule for these arguments"); (case kB => exact rfl); (case kD => decide +kernel); (case c2 => exact rfl); (case c3 => exact rfl); (case c4 => exact rfl); k_whole; intro g' L' h' tk' cells' FG' F' N' Y' B' X' T' l1; (try k_lt l1); k_cells Y'; (try simp only [List.cons_append, List.nil_append] at N'); (try dsimp only); (try k_lift B'); (try k_fold))))
local macro_rules | `(tactic| walk_at "call builtin:len") => `(tactic| (k_here; (with_reducible show wpAny _ _ (call (Value.builtin "len") [Value.ref _]) _ _ _); k_dflt (refine' kst_len ?k1 ?k2 ?k3 ?k4 ?_; (case k1 => k_asm); (case k2 => first | with_reducible assumption | k_mem); (case k3 => exact IntsAre.length (by assumption)); (case k4 => omega); k_whole)))
local macro_rules | `(tactic| k_mem) => `(tactic| (k_dflt assumption))
local macro_rules | `(tactic| walk_at "exec While Compare cons nil") => `(tactic| (k_dflt (k_extra "exec While Compare cons nil")))
local macro_rules | `(tactic| walk_at "subscriptTail Name Slice ref ref") => `(tactic| (k_here; (with_reducible show wpAny _ _ (subscriptTail _ (PySem.Expr.Slice none none none _) (Value.ref _) (Value.ref _)) _ _ _); k_dflt (refine' slice_cp ?F ?N ?l ?z ?_ ?s ?t; (case F => k_asm); (case N => k_asm); (case l => k_mem); (case s => with_unfolding_all rfl); (case t => intro _; with_unfolding_all rfl); (case z => rw [IntsAre.length (by assumption), sizeLine_eq]; omega)); intro D' h' F' N' l1; (try k_lt l1); (try k_sweep)))
local macro_rules | `(tactic| walk_at "subscriptTail Attribute Slice ref ref") => `(tactic| (k_here; (with_reducible show wpAny _ _ (subscriptTail _ (PySem.Expr.Slice none none none _) (Value.ref _) (Value.ref _)) _ _ _); k_dflt (refine' slice_cp ?F ?N ?l ?z ?_ ?s ?t; (case F => k_asm); (case N => k_asm); (case l => k_mem); (case s => with_unfolding_all rfl); (case t => intro _; with_unfolding_all rfl); (case z => rw [IntsAre.length (by assumption), sizeLine_eq]; omega)); intro D' h' F' N' l1; (try k_lt l1); (try k_sweep)))
local macro_rules | `(tactic| walk_at "getMethod ref") => `(tactic| (k_here; (with_reducible show wpAny _ _ (getMethod (Value.ref _) (PySem.Str.ofString "parent") _) _ _ _); k_dflt (refine' kmu_own ?k1 ?k2 ?k3 ?k4 ?k5 ?_; (case k1 => k_asm); (case k2 => k_asm); (case k3 => k_inst); (case k4 => k_is); (case k5 => k_is); k_whole)))
local macro_rules | `(tactic| walk_at "eval Name") => `(tactic| (k_here; k_dflt (refine' nameX_L ?F ?v ?_ ?a ?b; (case F => k_asm); (case a => first | rfl | assumption); (case b => rfl); (case v => rfl); k_whole)))
section
variable {w : World} {p : Program} {loose : List Str} {mean : ExcName → Option Value} {mg mb : Str → Option Value} {dp un : Nat} {gd : Option (List Code)} {cn : Str} {cs : Scope} {a : Addr} {ccd : Value} {cl : List (Str × Addr)} {outer : List Env} {A₀ : Around} {base h₀ : Heap} {L : Addr} {m : Str → Option Value} {news : List (Addr × Obj)} {s : Shared} {Q E : Value → Shared → Prop}
  (B : Below A₀ base outer h₀) (F : Fr h₀ L s.heap m) (X : (Ntt.hd.heap_39 w.params).In h₀) (N : News h₀ L s.heap news) (T : Top p loose mean mg mb h₀) (hk : cs.kind = .function)
include B F X N T hk
local macro_rules | `(tactic| walk_at "CompSrc") => `(tactic| k_dflt (k_extra "CompSrc"))
set_option maxRecDepth 100000 in
set_option maxHeartbeats 8000000 in
theorem nmuli_spec (hd : dp + 16 < recursionLimit) (hu : un + 80 < cLine) {x dx ring dring sh1 sh2 zl lc : Addr} {cits : List Value} {ns : List Int} {kv : Int} {kt : Tok} {c1 : Nat} {k1 k2 k3 k4 k5 k6 k7 k8 k9 k10 tq tn tf : Tok}
   (hm1 : (ring, instObj 369 dring) ∈ news) (hm2 : (dring, ringD w k1 k2 k3 k4 k5 k6 k7 k8 sh1 sh2 zl tq tn tf) ∈ news) (hm3 : (lc, W.listOf cits.toArray c1) ∈ news) (hi3 : IntsAre cits ns) (hl3 : ns.length = 256)
   (hm4 : (x, instObj 569 dx) ∈ news) (hm5 : (dx, polyD w k9 k10 ring lc) ∈ news) (hs3 : SmallL ns)
   (hret : ∀ z d l its c k1 k2 h' tk', Fr h₀ L h' m → News h₀ L h' ((z, instObj 569 d) :: (d, polyD w k1 k2 ring l) :: (l, W.listOf (List.toArray its) c) :: news) → (∀ q ∈ news, q.1 ≠ l) → l < d → (∀ q ∈ news, q.1 < d) → d < z → IntsAre its (ns.map fun a => (a * kv).fmod 8380417) → Q (.ref z) { s with heap := h', toks := tk' }) :
    wpAny (model PySem.Challenge.rw_oo0012_03.row.prog w) (ktrTop dp un gd cn cs L a ccd cl outer) (call (.ref 191) [.ref x, .int kv kt]) Q E s := by
  w_on
  k_with_none
  revert X; k_fill; intro X
  k_with "CompSrc" => refine Hold.out ?_
  refine wpAny_call ?_
  ktr_unf
  k_steps
  refine ⟨?_⟩
  refine LCg.CompSrc.ledger (by rfl) (by k_asm) (by k_asm) (by k_mem) (by rw [sizeLine_eq, List.size_toArray, IntsAre.length hi3, hl3]; decide) ?_
  intro g'
  refine' kcf_list (fun a => (a * kv).fmod 8380417) hi3 (fun k' t' I' oI' C' oC' D' m' ys' h' tk' E' hk' hC' hx' F' N' off' ne' hMark' => ?_) ?_
  (all_goals (try simp only [LCg.Off3, and_true] at off'))
  kcf_last
  · have hx1 := (hs3.out k' hk').1
    have hx2 := (hs3.out k' hk').2
    have hmul : IntMulOk k' kv := .of_left (intBits_le_64 (by omega) (by omega))
    k_steps
  · k_with "call ref" => (
      refine' ringcallT_spec ?B ?F ?X ?N ?T ?hk ?hd ?hu ?hm1 ?hm2 ?hm3 ?hi3 ?hl3 ?hret
      (case B => k_asm)
      (case F => k_asm)
      (case X => k_asm)
      (case N => k_asm)
      (case T => k_asm)
      (case hk => first | exact rfl | assumption)
      (case hd => ktr_room)
      (case hu => ktr_units)
      (case hm1 => k_mem)
      (case hm2 => k_mem)
      (case hm3 => k_mem)
      (case hi3 => with_reducible assumption)
      (case hl3 => rw [List.length_map]; assumption)
      intro x9 d9 k9 k9' h9 tk9 F9 N9 l9 l9'
      (try dsimp only)
      (try k_fold))
    k_steps
    rename IntsAre _ (List.map _ ns) => hI9
    rename _ ∧ LCg.Off1 _ news => ho9
    refine' hret _ _ _ _ _ _ _ _ _ ?ra ?rb (off1_mem ho9.2) ?rd ?rf ?re hI9
    (case ra => k_asm)
    (case rb =>
      refine' kst_newsOf ?N ?q
      (case N => k_asm)
      refine' List.forall_mem_cons.mpr ⟨?_, List.forall_mem_cons.mpr ⟨?_, List.forall_mem_cons.mpr ⟨?_, ?_⟩⟩⟩
      · kcf_m
      · kcf_m
      · kcf_m
      · intro p hp; kcf_m)
    (case rd => rename ∀ q ∈ (_, LCg.lst _) :: _, _ => hl9; exact hl9 _ (by kcf_m))
    (case rf => rename ∀ q ∈ (_, LCg.lst _) :: _, _ => hl9; exact fun q hq => hl9 q (by kcf_m))
    (case re => assumption)
end
end Ntt
end

section
open PySem PySem.W PySem.Calls PyProof.Rows PyProof.V PySem.Spec
namespace Ntt
local macro_rules | `(tactic| walk_at "none 0") => `(tactic| skip)
local macro_rules | `(tactic| walk_at "none 1") => `(tactic| skip)
local macro_rules | `(tactic| walk_at "none 2") => `(tactic| skip)
local macro_rules | `(tactic| walk_at "none 3") => `(tactic| skip)
local macro_rules | `(tactic| walk_at "none 4") => `(tactic| skip)
local macro_rules | `(tactic| walk_at "none 5") => `(tactic| skip)
local macro_rules | `(tactic| walk_at "none 6") => `(tactic| skip)
local macro_rules | `(tactic| walk_at "none 7") => `(tactic| skip)
local macro_rules | `(tactic| walk_at "none 8") => `(tactic| skip)
local macro_rules | `(tactic| walk_at "pyIter ref") => `(tactic| k_dflt (k_extra "pyIter ref"))
local macro_rules | `(tactic| walk_at "call type:enumerate") => `(tactic| k_dflt (k_extra "call type:enumerate"))
local macro_rules | `(tactic| walk_at "call type:zip") => `(tactic| k_dflt (k_extra "call type:zip"))
local macro_rules | `(tactic| k_all) => `(tactic| with_reducible assumption)
local macro_rules | `(tactic| walk_at "call builtin:list.append") => `(tactic| (k_here; k_dflt ((show wpAny _ _ (call (Value.builtin "list.append") [Value.ref _, _]) _ _ _); refine' append_K ?k1 ?k2 ?k3 ?_ ?z; (case k1 => k_asm); (case k2 => k_asm); (case k3 => k_upd); (case z => size_fits); k_whole); intro h' F' N'; (try simp only [List.push_toArray] at N'); (try k_sweep)))
local macro_rules | `(tactic| walk_at "call ref") => `(tactic| (k_dflt (k_extra "call ref")))
local macro_rules | `(tactic| walk_at "exec For Name Call cons nil") => `(tactic| (k_here; kst_has; (rename Fr _ _ _ _ => lF'); (with_unfolding_all refine' For_invVF lF' ?k1 ?k2 ?_; (case k1 => exact rfl); (case k2 => exact rfl); k_whole)))
local macro_rules | `(tactic| walk_at "exec For Name Subscript cons nil") => `(tactic| (k_here; kst_has; (rename Fr _ _ _ _ => lF'); (with_unfolding_all refine' For_invVF lF' ?k1 ?k2 ?_; (case k1 => exact rfl); (case k2 => exact rfl); k_whole)))
local macro_rules | `(tactic| walk_at "subscriptTail") => `(tactic| k_dflt (k_extra "subscriptTail"))
local macro_rules | `(tactic| mul_fits) => `(tactic| first | exact mulR (by assumption) | exact mulL (by assumption) | exact mulLn (by assumption) | fail "mul_fits: none of ours")
local macro_rules | `(tactic| walk_at "exec For Tuple Call cons nil") => `(tactic| (k_here; (rename Fr _ _ _ _ => lF'); (with_unfolding_all refine' For_turns lF' ?_; k_whole)))
local macro_rules | `(tactic| k_room) => `(tactic| ktr_room)
local macro_rules | `(tactic| k_units) => `(tactic| ktr_units)
local macro_rules | `(tactic| walk_at "callWith ref") => `(tactic| (k_here; kco_here; k_dflt (refine' kcoKW ?k1 ?k2 ?k3 ?k4 ?k5 ?_; (case k1 => k_in); (case k2 => k_inst); (case k3 => rfl); (case k4 => k_is); (case k5 => exact rfl); k_whole)))
local macro_rules | `(tactic| ktr_unf) => `(tactic| k_dflt (first
  | (refine' code_def ?k1 ?k2 ?k3 ?k4 ?k5 ?kA ?kF ?kK ?k6 ?k7 ?k8 ?k9 ?kB ?_ ?c2 ?c3 ?c4 ?c5; (case kA => exact rfl); (case kF => exact rfl); (case kK => assumption); (case k1 => k_asm); (case k2 => k_asm); (case k3 => k_asm); (case k4 => k_asm); (case k5 => k_asm); (case k6 => k_is); (case k7 => k_is); (case k8 => ktr_room); (case k9 => first | exact BindsTo.of_eq rfl | exact binds_K (by k_in) rfl (by k_is) rfl rfl rfl | fail "k_enter: no rule for these arguments"); (case c5 => decide); (case kB => exact locs rfl); (case c2 => exact rfl); (case c3 => exact rfl); (case c4 => exact rfl); k_whole; intro g' L' h' FG' F' N' B' X' T'; (try dsimp only); (try k_lift B'); (try k_fold))
  | (refine' code_defC ?k1 ?k2 ?k3 ?k4 ?k5 ?kA ?kF ?kK ?k6 ?k7 ?k8 ?k9 ?kB ?kD ?_ ?c2 ?c3 ?c4; (case kA => exact rfl); (case kF => exact rfl); (case kK => assumption); (case k1 => k_asm); (case k2 => k_asm); (case k3 => k_asm); (case k4 => k_asm); (case k5 => k_asm); (case k6 => k_is); (case k7 => k_is); (case k8 => ktr_room); (case k9 => first | exact BindsTo.of_eq rfl | exact binds_K (by k_in) rfl (by k_is) rfl rfl rfl | fail "k_enter: no rule for these arguments"); (case kB => exact rfl); (case kD => decide +kernel); (case c2 => exact rfl); (case c3 => exact rfl); (case c4 => exact rfl); k_whole; intro g' L' h' tk' cells' FG' F' N' Y' B' X' T' l1; (try k_lt l1); k_cells Y'; (try simp only [List.cons_append, List.nil_append] at N'); (try dsimp only); (try k_lift B'); (try k_fold))))
local macro_rules | `(tactic| walk_at "call builtin:len") => `(tactic| (k_here; (with_reducible show wpAny _ _ (call (Value.builtin "len") [Value.ref _]) _ _ _); k_dflt (refine' kst_len ?k1 ?k2 ?k3 ?k4 ?_; (case k1 => k_asm); (case k2 => first | with_reducible assumption | k_mem); (case k3 => exact IntsAre.length (by assumption)); (case k4 => omega); k_whole)))
local macro_rules | `(tactic| k_mem) => `(tactic| (k_dflt assumption))
local macro_rules | `(tactic| walk_at "exec While Compare cons nil") => `(tactic| (k_dflt (k_extra "exec While Compare cons nil")))
local macro_rules | `(tactic| walk_at "subscriptTail Name Slice ref ref") => `(tactic| (k_here; (with_reducible show wpAny _ _ (subscriptTail _ (PySem.Expr.Slice none none none _) (Value.ref _) (Value.ref _)) _ _ _); k_dflt (refine' slice_cp ?F ?N ?l ?z ?_ ?s ?t; (case F => k_asm); (case N => k_asm); (case l => k_mem); (case s => with_unfolding_all rfl); (case t => intro _; with_unfolding_all rfl); (case z => rw [IntsAre.length (by assumption), sizeLine_eq]; omega)); intro D' h' F' N' l1; (try k_lt l1); (try k_sweep)))
local macro_rules | `(tactic| walk_at "subscriptTail Attribute Slice ref ref") => `(tactic| (k_here; (with_reducible show wpAny _ _ (subscriptTail _ (PySem.Expr.Slice none none none _) (Value.ref _) (Value.ref _)) _ _ _); k_dflt (refine' slice_cp ?F ?N ?l ?z ?_ ?s ?t; (case F => k_asm); (case N => k_asm); (case l => k_mem); (case s => with_unfolding_all rfl); (case t => intro _; with_unfolding_all rfl); (case z => rw [IntsAre.length (by assumption), sizeLine_eq]; omega)); intro D' h' F' N' l1; (try k_lt l1); (try k_sweep)))
local macro_rules | `(tactic| walk_at "getMethod ref") => `(tactic| (k_here; (with_reducible show wpAny _ _ (getMethod (Value.ref _) (PySem.Str.ofString "parent") _) _ _ _); k_dflt (refine' kmu_own ?k1 ?k2 ?k3 ?k4 ?k5 ?_; (case k1 => k_asm); (case k2 => k_asm); (case k3 => k_inst); (case k4 => k_is); (case k5 => k_is); k_whole)))
local macro_rules | `(tactic| walk_at "eval Name") => `(tactic| (k_here; k_dflt (refine' nameX_L ?F ?v ?_ ?a ?b; (case F => k_asm); (case a => first | rfl | assumption); (case b => rfl); (case v => rfl); k_whole)))
section
variable {w : World} {p : Program} {loose : List Str} {mean : ExcName → Option Value} {mg mb : Str → Option Value} {dp un : Nat} {gd : Option (List Code)} {cn : Str} {cs : Scope} {a : Addr} {ccd : Value} {cl : List (Str × Addr)} {outer : List Env} {A₀ : Around} {base h₀ : Heap} {L : Addr} {m : Str → Option Value} {news : List (Addr × Obj)} {s : Shared} {Q E : Value → Shared → Prop}
  (B : Below A₀ base outer h₀) (F : Fr h₀ L s.heap m) (X : (Ntt.hd.heap_39 w.params).In h₀) (N : News h₀ L s.heap news) (T : Top p loose mean mg mb h₀) (hk : cs.kind = .function)
include B F X N T hk
local macro_rules | `(tactic| walk_at "CompSrc") => `(tactic| k_dflt (k_extra "CompSrc"))
local macro_rules | `(tactic| walk_at "exec For Tuple Name cons nil") => `(tactic| (k_here; (rename Fr _ _ _ _ => lF'); (with_unfolding_all refine' For_turns lF' ?_; k_whole)))
set_option maxRecDepth 100000 in
set_option maxHeartbeats 8000000 in
theorem product_spec (hd : dp + 4 < recursionLimit) (hu : un + 20 < cLine) {ln lf : Addr} {nits : List Value} {ns : List Int} {c1 c2 : Nat} {Ts : List Addr} {few : List (Nat × Int)}
   (hm1 : (ln, W.listOf nits.toArray c1) ∈ news) (hi1 : IntsAre nits ns) (hl1 : ns.length = 256)
   (hm2 : (lf, W.listOf (Ts.map Value.ref).toArray c2) ∈ news) (hT : TupsAre Ts (few.map fun q => ((q.1 : Int), q.2)) news) (hw : ∀ q ∈ few, q.1 < 256) (hs : ∀ q ∈ few, -(2 ^ 63) < q.2 ∧ q.2 < 2 ^ 63)
   (hret : ∀ l its c h' tk', Fr h₀ L h' m → News h₀ L h' ((l, W.listOf (List.toArray its) c) :: news) → (∀ q ∈ news, q.1 ≠ l) → IntsAre its ((prF ns few (List.replicate 256 0) few.length).map fun x => x.fmod 8380417) → Q (.ref l) { s with heap := h', toks := tk' }) :
    wpAny (model PySem.Challenge.rw_oo0012_03.row.prog w) (ktrTop dp un gd cn cs L a ccd cl outer) (call (.ref 630) [.ref ln, .ref lf]) Q E s := by
  w_on
  k_with_none
  revert X; k_fill; intro X
  k_with "CompSrc" => refine Hold.out ?_
  k_with "pyIter ref" => refine Hold.out ?_
  k_with "call type:enumerate" => refine Hold.out ?_
  refine wpAny_call ?_
  ktr_unf
  k_steps
  refine ⟨?_⟩
  refine LCg.CompSrc.ledger (by rfl) (by k_asm) (by k_asm) (by k_mem) (by rw [sizeLine_eq, List.size_toArray, IntsAre.length hi1, hl1]; decide) ?_
  intro g'
  refine' kcf_list (fun _ => 0) hi1 (fun k' t' I' oI' C' oC' D' m' ys' h' tk' E' hk' hC' hx' F' N' off' ne' hMark' => ?_) ?_
  (all_goals (try simp only [LCg.Off3, and_true] at off'))
  kcf_last
  k_steps
  refine ⟨?_⟩
  rename IntsAre _ (List.map (fun _ => 0) ns) => hI8
  rw [show ns.map (fun _ => (0 : Int)) = List.replicate 256 0 by rw [List.map_const', hl1]] at hI8
  rename Fr _ _ _ _ => lF'
  rename News _ _ _ _ => lN'
  rename LCg.Off1 _ _ => hoff0
  refine' tupsL (news := news) (τ := Unit) (fun _ => [(Str.ofString "numbers", .ref ln), (Str.ofString "few", .ref lf), (Str.ofString "found", .ref _)]) (fun i _ ms => ms = prF ns few (List.replicate 256 0) i) () (by rfl) hm2 hT lF' (kst_newsOf lN' (by kst_inAny)) (off1_mem hoff0) hI8 ?kk ?ki (Hold.out ?turn) (Hold.out ?done)
  (case kk => kst_all)
  (case ki => rfl)
  all_goals (try clear lF' lN')
  case turn =>
    refine ⟨?_⟩
    rintro i q ⟨⟩ ws ms cnt T t t' u h tk rest Q' hq hT1 hI hms hsub hoff1 F1 N1 nx
    rw [List.getElem?_map] at hq
    obtain ⟨q0, hq0, rfl⟩ := Option.map_eq_some_iff.mp hq
    have hwq := hw q0 (List.mem_of_getElem? hq0)
    have hsq := hs q0 (List.mem_of_getElem? hq0)
    have hml : ms.length = 256 := by rw [hms, prF_len, List.length_replicate]
    dsimp only at hT1 F1 nx ⊢
    k_steps
    refine ⟨?_⟩
    rename Fr _ _ _ _ => lF'
    rename News _ _ _ _ => lN'
    refine' enumL (news := rest) (τ := Unit) (fun _ => [(Str.ofString "numbers", .ref ln), (Str.ofString "few", .ref lf), (Str.ofString "found", .ref _), (Str.ofString "place", .int (q0.1 : Int) t), (Str.ofString "much", .int q0.2 t')]) (fun j _ ms' => ms' = shN ns q0.1 q0.2 ms j) () (by rfl) (hsub _ hm1) hi1 lF' (kst_newsOf lN' (by kst_inAny)) hoff1 hI ?kk ?ki (Hold.out ?turnB) (Hold.out ?doneB)
    (case kk => kst_all)
    (case ki => rfl)
    all_goals (try clear lF' lN')
    case turnB =>
      refine ⟨?_⟩
      rintro j b ⟨⟩ ws2 ms2 cnt2 T2 t2 t2' u2 h2 tk2 rest2 Q2 hj hT2 hI2 hms2 hsub2 hoff2 F2 N2 nx2
      dsimp only at F2 nx2 ⊢
      have hlt : j < 256 := by have := (List.getElem?_eq_some_iff.mp hj).1; omega
      have hml2 : ms2.length = 256 := by rw [hms2, shN_len, hml]
      have hmul : IntMulOk b q0.2 := .of_right (intBits_le_64 (by omega) (by omega))
      have hnb : ns.getD j 0 = b := by rw [List.getD_eq_getElem?_getD, hj]; rfl
      k_steps
      · have e2 : ((j : Int) + (q0.1 : Int)).toNat = j + q0.1 := by omega
        refine nx2 () _ _ _ _ _ _ (by assumption) (by assumption) (by assumption) (by kst_all) ?_
        rw [shN, if_pos (by omega), ← hms2, hnb, e2]
      · have e2 : ((j : Int) + (q0.1 : Int) - 256).toNat = j + q0.1 - 256 := by omega
        refine nx2 () _ _ _ _ _ _ (by assumption) (by assumption) (by assumption) (by kst_all) ?_
        rw [shN, if_neg (by omega), ← hms2, hnb, e2]
    case doneB =>
      refine ⟨?_⟩
      rintro ⟨⟩ ws2 ms2 cnt2 u2 h2 tk2 hI2 hms2 F2 N2
      dsimp only at F2 ⊢
      k_steps
      refine nx () _ _ _ _ _ _ (by assumption) (by assumption) hI2 (by kst_all) ?_
      rw [hl1] at hms2
      rw [prF, ← hms, List.getD_eq_getElem?_getD, hq0]
      exact hms2
  case done =>
    refine ⟨?_⟩
    rintro ⟨⟩ ws ms cnt u h tk hI hms F1 N1
    dsimp only at F1 ⊢
    (try k_fold)
    rw [List.length_map] at hms
    k_steps
    refine ⟨?_⟩
    refine LCg.CompSrc.ledger (by rfl) (by k_asm) (by k_asm) (by k_mem) (by rw [sizeLine_eq, List.size_toArray, IntsAre.length hI, hms, prF_len, List.length_replicate]; decide) ?_
    intro g'
    refine' kcf_list (fun x => x.fmod 8380417) hI (fun k' t' I' oI' C' oC' D' m' ys' h' tk' E' hk' hC' hx' F' N' off' ne' hMark' => ?_) ?_
    (all_goals (try simp only [LCg.Off3, and_true] at off'))
    kcf_last
    k_steps
    rename IntsAre _ (List.map _ ms) => hI9
    rename _ ∧ LCg.Off1 _ news => ho9
    rw [hms] at hI9
    refine' hret _ _ _ _ _ ?ra ?rb (off1_mem ho9.2) hI9
    (case ra => k_asm)
    (case rb =>
      refine' kst_newsOf ?N ?q
      (case N => k_asm)
      refine' List.forall_mem_cons.mpr ⟨?_, ?_⟩
      · kcf_m
      · intro p hp; kcf_m)
end
end Ntt
end

section
open PySem PySem.W PySem.Calls PyProof.Rows PyProof.V PySem.Spec
namespace Ntt
local macro_rules | `(tactic| walk_at "none 0") => `(tactic| skip)
local macro_rules | `(tactic| walk_at "none 1") => `(tactic| skip)
local macro_rules | `(tactic| walk_at "none 2") => `(tactic| skip)
theorem lt_head {a d : Addr} {o : Obj} {news : Led} (h : ∀ q ∈ (a, o) :: news, q.1 < d) : @LT.lt Nat _ a d := h (a, o) List.mem_cons_self
def answers : List Str := [Str.ofString "type", Str.ofString "type", Str.ofString "none", Str.ofString "none", Str.ofString "none", Str.ofString "none", Str.ofString "type"]
def ToldIs (i : Nat) (vs : List Value) : Prop := ∃ ts : List Tok, ts.length = i ∧ vs = List.zipWith Value.str (answers.take i) ts
theorem led_ne {g₀ h : Heap} {L L' : Addr} {oL : Obj} {led : Led} (N : News g₀ L' h led) (ho : g₀.get? L = some oL) : ∀ q ∈ led, q.1 ≠ L := fun q hq z => by
  have := (N q hq).2.2
  rw [z, ho] at this; cases this
theorem split_off {h₀ h : Heap} {L' : Addr} {led : Led} (_N : News h₀ L' h led) (D : Addr) : ∃ R : Led, (∀ q ∈ led, q.1 ≠ D → q ∈ R) ∧ ∀ q ∈ R, q ∈ led ∧ q.1 ≠ D :=
  ⟨led.filter fun q => decide (q.1 ≠ D), fun q hq hn => List.mem_filter.mpr ⟨hq, decide_eq_true hn⟩, fun q hq => ⟨(List.mem_filter.mp hq).1, of_decide_eq_true (List.mem_filter.mp hq).2⟩⟩
theorem put_first {h₀ h : Heap} {L' a D : Addr} {oa oD : Obj} {led R : Led} (N : News h₀ L' h ((a, oa) :: led)) (hD : (D, oD) ∈ led) (hR : ∀ q ∈ R, q ∈ led ∧ q.1 ≠ D) : News h₀ L' h ((D, oD) :: (a, oa) :: R) := fun q hq => by
  rcases List.mem_cons.mp hq with rfl | hq
  · exact N _ (List.mem_cons_of_mem _ hD)
  · rcases List.mem_cons.mp hq with rfl | hq
    · exact N _ List.mem_cons_self
    · exact N _ (List.mem_cons_of_mem _ (hR q hq).1)
theorem told0 {l : List Value} (h : ToldIs 0 l) : l = [] := by
  obtain ⟨ts, ht, rfl⟩ := h
  rfl
theorem told1 {l : List Value} (h : ToldIs 1 l) : ∃ x1, l = [Value.str (Str.ofString "type") x1] := by
  obtain ⟨ts, ht, rfl⟩ := h
  rcases ts with _ | ⟨x1, _ | ⟨y, ys⟩⟩ <;> first | exact ⟨x1, rfl⟩ | (simp only [List.length_cons, List.length_nil] at ht; omega)
theorem told2 {l : List Value} (h : ToldIs 2 l) : ∃ x1 x2, l = [Value.str (Str.ofString "type") x1, Value.str (Str.ofString "type") x2] := by
  obtain ⟨ts, ht, rfl⟩ := h
  rcases ts with _ | ⟨x1, _ | ⟨x2, _ | ⟨y, ys⟩⟩⟩ <;> first | exact ⟨x1, x2, rfl⟩ | (simp only [List.length_cons, List.length_nil] at ht; omega)
theorem told3 {l : List Value} (h : ToldIs 3 l) : ∃ x1 x2 x3, l = [Value.str (Str.ofString "type") x1, Value.str (Str.ofString "type") x2, Value.str (Str.ofString "none") x3] := by
  obtain ⟨ts, ht, rfl⟩ := h
  rcases ts with _ | ⟨x1, _ | ⟨x2, _ | ⟨x3, _ | ⟨y, ys⟩⟩⟩⟩ <;> first | exact ⟨x1, x2, x3, rfl⟩ | (simp only [List.length_cons, List.length_nil] at ht; omega)
theorem told4 {l : List Value} (h : ToldIs 4 l) : ∃ x1 x2 x3 x4, l = [Value.str (Str.ofString "type") x1, Value.str (Str.ofString "type") x2, Value.str (Str.ofString "none") x3, Value.str (Str.ofString "none") x4] := by
  obtain ⟨ts, ht, rfl⟩ := h
  rcases ts with _ | ⟨x1, _ | ⟨x2, _ | ⟨x3, _ | ⟨x4, _ | ⟨y, ys⟩⟩⟩⟩⟩ <;> first | exact ⟨x1, x2, x3, x4, rfl⟩ | (simp only [List.length_cons, List.length_nil] at ht; omega)
theorem told5 {l : List Value} (h : ToldIs 5 l) : ∃ x1 x2 x3 x4 x5, l = [Value.str (Str.ofString "type") x1, Value.str (Str.ofString "type") x2, Value.str (Str.ofString "none") x3, Value.str (Str.ofString "none") x4, Value.str (Str.ofString "none") x5] := by
  obtain ⟨ts, ht, rfl⟩ := h
  rcases ts with _ | ⟨x1, _ | ⟨x2, _ | ⟨x3, _ | ⟨x4, _ | ⟨x5, _ | ⟨y, ys⟩⟩⟩⟩⟩⟩ <;> first | exact ⟨x1, x2, x3, x4, x5, rfl⟩ | (simp only [List.length_cons, List.length_nil] at ht; omega)
theorem told6 {l : List Value} (h : ToldIs 6 l) : ∃ x1 x2 x3 x4 x5 x6, l = [Value.str (Str.ofString "type") x1, Value.str (Str.ofString "type") x2, Value.str (Str.ofString "none") x3, Value.str (Str.ofString "none") x4, Value.str (Str.ofString "none") x5, Value.str (Str.ofString "none") x6] := by
  obtain ⟨ts, ht, rfl⟩ := h
  rcases ts with _ | ⟨x1, _ | ⟨x2, _ | ⟨x3, _ | ⟨x4, _ | ⟨x5, _ | ⟨x6, _ | ⟨y, ys⟩⟩⟩⟩⟩⟩⟩ <;> first | exact ⟨x1, x2, x3, x4, x5, x6, rfl⟩ | (simp only [List.length_cons, List.length_nil] at ht; omega)
theorem told7 {l : List Value} (h : ToldIs 7 l) : ∃ x1 x2 x3 x4 x5 x6 x7, l = [Value.str (Str.ofString "type") x1, Value.str (Str.ofString "type") x2, Value.str (Str.ofString "none") x3, Value.str (Str.ofString "none") x4, Value.str (Str.ofString "none") x5, Value.str (Str.ofString "none") x6, Value.str (Str.ofString "type") x7] := by
  obtain ⟨ts, ht, rfl⟩ := h
  rcases ts with _ | ⟨x1, _ | ⟨x2, _ | ⟨x3, _ | ⟨x4, _ | ⟨x5, _ | ⟨x6, _ | ⟨x7, _ | ⟨y, ys⟩⟩⟩⟩⟩⟩⟩⟩ <;> first | exact ⟨x1, x2, x3, x4, x5, x6, x7, rfl⟩ | (simp only [List.length_cons, List.length_nil] at ht; omega)
local macro_rules | `(tactic| k_steps) => `(tactic| repeat' (first | (k_unfold; (try dsimp only)) | walk1 | (dsimp only; walk1) | fail "no step"))
local macro_rules | `(tactic| walk_at "pyIter ref") => `(tactic| k_dflt (k_extra "pyIter ref"))
local macro_rules | `(tactic| walk_at "call type:enumerate") => `(tactic| k_dflt (k_extra "call type:enumerate"))
local macro_rules | `(tactic| walk_at "call type:zip") => `(tactic| k_dflt (k_extra "call type:zip"))
local macro_rules | `(tactic| k_all) => `(tactic| with_reducible assumption)
local macro_rules | `(tactic| walk_at "call builtin:list.append") => `(tactic| (k_here; k_dflt ((show wpAny _ _ (call (Value.builtin "list.append") [Value.ref _, _]) _ _ _); refine' append_K ?k1 ?k2 ?k3 ?_ ?z; (case k1 => k_asm); (case k2 => k_asm); (case k3 => k_upd); (case z => size_fits); k_whole); intro h' F' N'; (try simp only [List.push_toArray] at N'); (try k_sweep)))
local macro_rules | `(tactic| walk_at "call ref") => `(tactic| (k_dflt (k_extra "call ref")))
local macro_rules | `(tactic| walk_at "exec For Name Call cons nil") => `(tactic| (k_here; kst_has; (rename Fr _ _ _ _ => lF'); (with_unfolding_all refine' For_invVF lF' ?k1 ?k2 ?_; (case k1 => exact rfl); (case k2 => exact rfl); k_whole)))
local macro_rules | `(tactic| walk_at "exec For Name Subscript cons nil") => `(tactic| (k_here; kst_has; (rename Fr _ _ _ _ => lF'); (with_unfolding_all refine' For_invVF lF' ?k1 ?k2 ?_; (case k1 => exact rfl); (case k2 => exact rfl); k_whole)))
local macro_rules | `(tactic| walk_at "subscriptTail") => `(tactic| k_dflt (k_extra "subscriptTail"))
local macro_rules | `(tactic| mul_fits) => `(tactic| first | exact mulR (by assumption) | exact mulL (by assumption) | exact mulLn (by assumption) | fail "mul_fits: none of ours")
local macro_rules | `(tactic| walk_at "exec For Tuple Call cons nil") => `(tactic| (k_here; (rename Fr _ _ _ _ => lF'); (with_unfolding_all refine' For_turns lF' ?_; k_whole)))
local macro_rules | `(tactic| k_room) => `(tactic| ktr_room)
local macro_rules | `(tactic| k_units) => `(tactic| ktr_units)
local macro_rules | `(tactic| walk_at "callWith ref") => `(tactic| (k_here; kco_here; k_dflt (refine' kcoKW ?k1 ?k2 ?k3 ?k4 ?k5 ?_; (case k1 => k_in); (case k2 => k_inst); (case k3 => rfl); (case k4 => k_is); (case k5 => exact rfl); k_whole)))
local macro_rules | `(tactic| ktr_unf) => `(tactic| k_dflt (first
  | (refine' code_def ?k1 ?k2 ?k3 ?k4 ?k5 ?kA ?kF ?kK ?k6 ?k7 ?k8 ?k9 ?kB ?_ ?c2 ?c3 ?c4 ?c5; (case kA => exact rfl); (case kF => exact rfl); (case kK => assumption); (case k1 => k_asm); (case k2 => k_asm); (case k3 => k_asm); (case k4 => k_asm); (case k5 => k_asm); (case k6 => k_is); (case k7 => k_is); (case k8 => ktr_room); (case k9 => first | exact BindsTo.of_eq rfl | exact binds_K (by k_in) rfl (by k_is) rfl rfl rfl | fail "k_enter: no rule for these arguments"); (case c5 => decide); (case kB => exact locs rfl); (case c2 => exact rfl); (case c3 => exact rfl); (case c4 => exact rfl); k_whole; intro g' L' h' FG' F' N' B' X' T'; (try dsimp only); (try k_lift B'); (try k_fold))
  | (refine' code_defC ?k1 ?k2 ?k3 ?k4 ?k5 ?kA ?kF ?kK ?k6 ?k7 ?k8 ?k9 ?kB ?kD ?_ ?c2 ?c3 ?c4; (case kA => exact rfl); (case kF => exact rfl); (case kK => assumption); (case k1 => k_asm); (case k2 => k_asm); (case k3 => k_asm); (case k4 => k_asm); (case k5 => k_asm); (case k6 => k_is); (case k7 => k_is); (case k8 => ktr_room); (case k9 => first | exact BindsTo.of_eq rfl | exact binds_K (by k_in) rfl (by k_is) rfl rfl rfl | fail "k_enter: no rule for these arguments"); (case kB => exact rfl); (case kD => decide +kernel); (case c2 => exact rfl); (case c3 => exact rfl); (case c4 => exact rfl); k_whole; intro g' L' h' tk' cells' FG' F' N' Y' B' X' T' l1; (try k_lt l1); k_cells Y'; (try simp only [List.cons_append, List.nil_append] at N'); (try dsimp only); (try k_lift B'); (try k_fold))))
local macro_rules | `(tactic| walk_at "call builtin:len") => `(tactic| (k_here; (with_reducible show wpAny _ _ (call (Value.builtin "len") [Value.ref _]) _ _ _); k_dflt (refine' kst_len ?k1 ?k2 ?k3 ?k4 ?_; (case k1 => k_asm); (case k2 => first | with_reducible assumption | k_mem); (case k3 => exact IntsAre.length (by assumption)); (case k4 => omega); k_whole)))
local macro_rules | `(tactic| k_mem) => `(tactic| (k_dflt assumption))
local macro_rules | `(tactic| walk_at "exec While Compare cons nil") => `(tactic| (k_dflt (k_extra "exec While Compare cons nil")))
local macro_rules | `(tactic| walk_at "subscriptTail Name Slice ref ref") => `(tactic| (k_here; (with_reducible show wpAny _ _ (subscriptTail _ (PySem.Expr.Slice none none none _) (Value.ref _) (Value.ref _)) _ _ _); k_dflt (refine' slice_cp ?F ?N ?l ?z ?_ ?s ?t; (case F => k_asm); (case N => k_asm); (case l => k_mem); (case s => with_unfolding_all rfl); (case t => intro _; with_unfolding_all rfl); (case z => rw [IntsAre.length (by assumption), sizeLine_eq]; omega)); intro D' h' F' N' l1; (try k_lt l1); (try k_sweep)))
local macro_rules | `(tactic| walk_at "subscriptTail Attribute Slice ref ref") => `(tactic| (k_here; (with_reducible show wpAny _ _ (subscriptTail _ (PySem.Expr.Slice none none none _) (Value.ref _) (Value.ref _)) _ _ _); k_dflt (refine' slice_cp ?F ?N ?l ?z ?_ ?s ?t; (case F => k_asm); (case N => k_asm); (case l => k_mem); (case s => with_unfolding_all rfl); (case t => intro _; with_unfolding_all rfl); (case z => rw [IntsAre.length (by assumption), sizeLine_eq]; omega)); intro D' h' F' N' l1; (try k_lt l1); (try k_sweep)))
local macro_rules | `(tactic| walk_at "getMethod ref") => `(tactic| (k_here; (with_reducible show wpAny _ _ (getMethod (Value.ref _) (PySem.Str.ofString "parent") _) _ _ _); k_dflt (refine' kmu_own ?k1 ?k2 ?k3 ?k4 ?k5 ?_; (case k1 => k_asm); (case k2 => k_asm); (case k3 => k_inst); (case k4 => k_is); (case k5 => k_is); k_whole)))
local macro_rules | `(tactic| walk_at "eval Name") => `(tactic| (k_here; k_dflt (refine' nameX_L ?F ?v ?_ ?a ?b; (case F => k_asm); (case a => first | rfl | assumption); (case b => rfl); (case v => rfl); k_whole)))
section
variable {w : World} {p : Program} {loose : List Str} {mean : ExcName → Option Value} {mg mb : Str → Option Value} {dp un : Nat} {gd : Option (List Code)} {cn : Str} {cs : Scope} {a : Addr} {ccd : Value} {cl : List (Str × Addr)} {outer : List Env} {A₀ : Around} {base h₀ : Heap} {L : Addr} {m : Str → Option Value} {news : List (Addr × Obj)} {s : Shared} {Q E : Value → Shared → Prop}
  (B : Below A₀ base outer h₀) (F : Fr h₀ L s.heap m) (X : (Ntt.hd.heap_39 w.params).In h₀) (N : News h₀ L s.heap news) (T : Top p loose mean mg mb h₀) (hk : cs.kind = .function)
include B F X N T hk
end
local macro_rules | `(tactic| walk_at "pyIter ref") => `(tactic| k_dflt (k_extra "pyIter ref"))
local macro_rules | `(tactic| walk_at "exec For Name List cons nil") => `(tactic| k_dflt (k_extra "exec For Name List cons nil"))
local macro_rules | `(tactic| walk_at "noteFrame ref") => `(tactic| k_dflt (k_extra "noteFrame ref"))
local macro_rules | `(tactic| walk_at "eval Lambda") => `(tactic| (k_here; kn_here; k_dflt (refine' kla_eval ?d0 ?_; (case d0 => exact rfl)); (k_dflt (refine' kla_nest ?F ?N ?T ?C ?cd ?U ?t ?n ?cl ?_; (case F => k_asm); (case N => k_asm); (case T => k_asm); (case cd => exact rfl); (case C => kn_code); (case U => k_updF); (case t => kn_triples); (case n => kn_among); (case cl => exact rfl); k_whole); intro f' c' oc' vs' t' ct' h' tk' F' N' d1' d2' l1 l2; (try dsimp only at N'); (try simp only [List.append_toArray, List.cons_append, List.nil_append] at N'); replace l1 := lt_head l1; (try k_lt2 l2))))
local macro_rules | `(tactic| walk_at "leaving ref") => `(tactic| (k_here; k_dflt (first
  | (refine' leave_newG ?kf ?kk ?k1 ?k0 ?k2 ?k3 ?_; (case kf => rfl); (case kk => rfl); (case k0 => k_asm); (case k1 => k_asm); (case k2 => k_asm); (case k3 => k_asm); k_whole)
  | (refine' leave_onG ?kf ?k1 ?k2 ?k3 ?k4 ?_; (case kf => rfl); (case k3 => k_asm); (case k4 => k_asm); (case k2 => k_asm); (case k1 => k_asm); k_whole)); intro h' R' U'; (try dsimp only at R' U' ⊢)))
local macro_rules | `(tactic| walk_at "binaryOp Add ref") => `(tactic| ((with_reducible show wpAny _ _ (binaryOp Operator.Add (Value.ref _) (Value.ref _)) _ _ _); (k_here; k_dflt (refine' binop_two ?F ?X ?I ?J ?ne ?hc ?hd ?hs ?hf ?hr ?hp ?hs2 ?hr2 ?hp2 ?hsub ?_; (case F => k_asm); (case X => k_asm); (case I => k_inst); (case J => k_inst); (case ne => decide); (case hc => k_is); (case hd => k_is); (case hs => k_is); (case hf => k_is); (case hr => k_is); (case hp => first | exact .inl rfl | exact .inr ⟨_, rfl⟩); (case hs2 => k_is); (case hr2 => k_is); (case hp2 => first | exact .inl rfl | exact .inr ⟨_, rfl⟩); (case hsub => k_is); k_whole))))
local macro_rules | `(tactic| walk_at "binaryOp Sub ref") => `(tactic| ((with_reducible show wpAny _ _ (binaryOp Operator.Sub (Value.ref _) (Value.ref _)) _ _ _); (k_here; k_dflt (refine' binop_two ?F ?X ?I ?J ?ne ?hc ?hd ?hs ?hf ?hr ?hp ?hs2 ?hr2 ?hp2 ?hsub ?_; (case F => k_asm); (case X => k_asm); (case I => k_inst); (case J => k_inst); (case ne => decide); (case hc => k_is); (case hd => k_is); (case hs => k_is); (case hf => k_is); (case hr => k_is); (case hp => first | exact .inl rfl | exact .inr ⟨_, rfl⟩); (case hs2 => k_is); (case hr2 => k_is); (case hp2 => first | exact .inl rfl | exact .inr ⟨_, rfl⟩); (case hsub => k_is); k_whole))))
local macro_rules | `(tactic| walk_at "binaryOp Mult ref") => `(tactic| ((with_reducible show wpAny _ _ (binaryOp Operator.Mult (Value.ref _) (Value.ref _)) _ _ _); (k_here; k_dflt (refine' binop_two ?F ?X ?I ?J ?ne ?hc ?hd ?hs ?hf ?hr ?hp ?hs2 ?hr2 ?hp2 ?hsub ?_; (case F => k_asm); (case X => k_asm); (case I => k_inst); (case J => k_inst); (case ne => decide); (case hc => k_is); (case hd => k_is); (case hs => k_is); (case hf => k_is); (case hr => k_is); (case hp => first | exact .inl rfl | exact .inr ⟨_, rfl⟩); (case hs2 => k_is); (case hr2 => k_is); (case hp2 => first | exact .inl rfl | exact .inr ⟨_, rfl⟩); (case hsub => k_is); k_whole))))
local macro_rules | `(tactic| walk_at "exec Raise some none") => `(tactic| refine Raise_new rfl ?_)
/-- a premise that no tactic takes by itself -/
structure KeptR (P : Prop) : Prop where
  out : P
structure Seven (G : Prop) where
  P0 : Prop
  P1 : Prop
  P2 : Prop
  P3 : Prop
  P4 : Prop
  P5 : Prop
  P6 : Prop
  k : KeptR P0 → KeptR P1 → KeptR P2 → KeptR P3 → KeptR P4 → KeptR P5 → KeptR P6 → G
set_option maxRecDepth 100000 in
set_option maxHeartbeats 8000000 in
noncomputable def stR : Seven (∀ (w : World) (p : Program) (loose : List Str) (mean : ExcName → Option Value) (mg mb : Str → Option Value) (dp un : Nat) (gd : Option (List Code)) (cn : Str) (cs : Scope) (a : Addr) (ccd : Value) (cl : List (Str × Addr)) (A₀ : Around) (base h₀ : Heap) (L : Addr) (m : Str → Option Value) (news : List (Addr × Obj)) (s : Shared) (Q E : Value → Shared → Prop)
   (B : Below A₀ base [] h₀) (F : Fr h₀ L s.heap m) (X : (Ntt.hd.heap_39 w.params).In h₀) (T : Top p loose mean mg mb h₀) (XB : (Ntt.hd.heap_39 w.params).In base) (TB : Top p loose mean mg mb base) (hk : cs.kind = .function)
   (N : News h₀ L s.heap ((632, tabObj #[]) :: news)) (h632 : ∀ q ∈ news, q.1 ≠ 632) (hC : CodeHd base 636 632) (hd : dp + 16 < recursionLimit) (hu : un + 80 < cLine) (x dx y dy ring dring sh1 sh2 zl lc lc' : Addr) (cits dits : List Value) (ns ms : List Int) (c1 c2 : Nat) (k1 k2 k3 k4 k5 k6 k7 k8 k9 k10 k11 k12 tq tn tf : Tok)
   (hm1 : (ring, instObj 369 dring) ∈ news) (hm2 : (dring, ringD w k1 k2 k3 k4 k5 k6 k7 k8 sh1 sh2 zl tq tn tf) ∈ news) (hm3 : (lc, W.listOf cits.toArray c1) ∈ news) (hi3 : IntsAre cits ns) (hl3 : ns.length = 256)
   (hm4 : (x, instObj 505 dx) ∈ news) (hm5 : (dx, polyD w k9 k10 ring lc) ∈ news)
   (hm6 : (lc', W.listOf dits.toArray c2) ∈ news) (hi6 : IntsAre dits ms) (hl6 : ms.length = 256)
   (hm7 : (y, instObj 569 dy) ∈ news) (hm8 : (dy, polyD w k11 k12 ring lc') ∈ news)
   (hret : ∀ l ps t1 t2 t3 t4 t5 t6 t7 c h' tk', Fr h₀ L h' m → News h₀ L h' ((632, tabObj ps) :: (l, W.listOf #[.str (Str.ofString "type") t1, .str (Str.ofString "type") t2, .str (Str.ofString "none") t3, .str (Str.ofString "none") t4, .str (Str.ofString "none") t5, .str (Str.ofString "none") t6, .str (Str.ofString "type") t7] c) :: news) → (∀ q ∈ news, q.1 < l) → 632 < l → Q (.ref l) { s with heap := h', toks := tk' }),
    wpAny (model PySem.Challenge.rw_oo0012_03.row.prog w) (ktrTop dp un gd cn cs L a ccd cl []) (call (.ref 637) [.ref ring, .ref x, .ref y]) Q E s) := by
  refine' ⟨_, _, _, _, _, _, _, fun hk0 hk1 hk2 hk3 hk4 hk5 hk6 => ?main⟩
  case main =>
    intro w p loose mean mg mb dp un gd cn cs a ccd cl A₀ base h₀ L m news s Q E B F X T XB TB hk N h632 hC hd hu x dx y dy ring dring sh1 sh2 zl lc lc' cits dits ns ms c1 c2 k1 k2 k3 k4 k5 k6 k7 k8 k9 k10 k11 k12 tq tn tf hm1 hm2 hm3 hi3 hl3 hm4 hm5 hm6 hi6 hl6 hm7 hm8 hret
    w_on
    k_with_none
    revert X; k_fill; intro X
    k_with "pyIter ref" => refine Hold.out ?_
    k_with "noteFrame ref" => refine Hold.out ?_
    k_with "exec For Name List cons nil" => refine Hold.out ?_
    refine wpAny_call ?_
    refine' code_defT ?n1 ?n2 ?n3 ?n4 ?n5 ?nA ?nF ?nK ?n6 ?n7 ?n8 ?n9 ?nB ?nD ?_ ?m2 ?m3 ?m4
    (case nA => exact rfl)
    (case nF => exact rfl)
    (case nK => assumption)
    (case n1 => k_asm)
    (case n2 => k_asm)
    (case n3 => k_asm)
    (case n4 => k_asm)
    (case n5 => k_asm)
    (case n6 => k_is)
    (case n7 => k_is)
    (case n8 => ktr_room)
    (case n9 => first | exact BindsTo.of_eq rfl | exact binds_K (by k_in) rfl (by k_is) rfl rfl rfl)
    (case nB => exact rfl)
    (case nD => decide +kernel)
    (case m2 => exact rfl)
    (case m3 => exact rfl)
    (case m4 => exact rfl)
    intro g0 L0 h' tk' cells' FG F' N' Y' B' X' T' l1
    (try k_lt l1)
    k_cells Y'
    (try simp only [List.cons_append, List.nil_append] at N')
    (try dsimp only)
    (try k_lift B')
    (try k_fold)
    have hC2 := CodeHd.keeps hC (Below.stays B')
    clear hC
    obtain ⟨oL, esL, epL, hoL, -, -, -⟩ := FG.ns
    have hbL : base.get? L = none := by
      have := kts_self F
      cases e : base.get? L with
      | none => rfl
      | some o => rw [B.stays _ _ e] at this; cases this
    k_steps
    refine ⟨?_⟩
    with_reducible rename Fr g0 L0 _ _ => F1
    with_reducible rename News g0 L0 _ _ => N1
    obtain ⟨sl0, FH, NH⟩ := turn_of hoL KtsTurn.refl F1 N1
    with_unfolding_all refine' For_turns FH ?_
    clear FH NH
    k_steps
    refine ⟨?_⟩
    rename_i o1 o2 o3 d1 d2 d3 told ht lt ht2 f1 c1 oc1 vs1 tt1 ctv1 hh1 tkk1 da1 db1 la1 lb1 f2 c2 oc2 vs2 tt2 ctv2 hh2 tkk2 da2 db2 la2 lb2 f3 c3 oc3 vs3 tt3 ctv3 hh3 tkk3 da3 db3 la3 lb3 f4 c4 oc4 vs4 tt4 ctv4 hh4 tkk4 da4 db4 la4 lb4 f5 c5 oc5 vs5 tt5 ctv5 hh5 tkk5 da5 db5 la5 lb5 f6 c6 oc6 vs6 tt6 ctv6 hh6 tkk6 da6 db6 la6 lb6 f7 c7 oc7 vs7 tt7 ctv7 hh7 tkk7 da7 db7 la7 lb7 ll hl FL NL lll
    obtain ⟨sl1, FH, NH⟩ := turn_of hoL KtsTurn.refl FL NL
    have hLr := led_ne NL hoL
    obtain ⟨R, hR1, hR2⟩ := split_off NL told
    have hLt : told ≠ L := hLr (told, _) (by kcf_m)
    have NH2 := put_first (oD := W.listOf #[] 0) NH (by kcf_m) hR2
    have hlm : (ll, W.listOf (List.toArray [.ref f1, .ref f2, .ref f3, .ref f4, .ref f5, .ref f6, .ref f7]) 0) ∈ R := hR1 _ (by kcf_m) (neN (by (try dsimp only); omega))
    refine iter_listTurns (vs := [.ref f1, .ref f2, .ref f3, .ref f4, .ref f5, .ref f6, .ref f7]) (by rfl) FH NH2 (List.mem_cons_of_mem _ (List.mem_cons_of_mem _ hlm)) rfl rfl (fun I hI => ?_)
    clear FH NH
    have hIl := hI _ (List.mem_cons_of_mem _ (List.mem_cons_of_mem _ hlm))
    refine items_rule (σ := List Value × Nat × Array (Option Value)) (adr := [told, L]) (fun _ => [(Str.ofString "told", .ref told)]) (fun c => [(told, W.listOf c.1.toArray c.2.1), (L, { oL with slots := c.2.2 })]) (fun i c => ToldIs i c.1) _ (fun _ => rfl) ?off ?keep ?ws ?turn ?done _ 0 ([], 0, sl1) _ (List.drop_zero ..) rfl ?kk ⟨[], rfl, rfl⟩
    case off =>
      intro p hp b hb
      rcases List.mem_cons.mp hb with rfl | hb
      · exact (hR2 p hp).2
      · rw [List.mem_singleton.mp hb]
        exact hLr p (hR2 p hp).1
    case keep => intro p hp; rw [List.mem_singleton.mp hp]; exact hlm
    case ws =>
      intro q hq
      rw [List.mem_singleton.mp hq]
      exact below_adr (mus := [(told, W.listOf ([] : List Value).toArray 0), (L, { oL with slots := sl1 })]) hI 0
    case kk => kst_all
    case done =>
      intro c u h tk hIc FD ND
      obtain ⟨lst, cnt, slc⟩ := c
      obtain ⟨x1, x2, x3, x4, x5, x6, x7, rfl⟩ := told7 hIc
      obtain ⟨g1, T1, F2, NN⟩ := turn_to hoL FD ND (List.mem_cons_of_mem _ List.mem_cons_self)
      have B1 := turned_below T1 B' hbL
      have X1 := XB.keeps B1.stays
      have P1 := TB.keeps B1.stays
      have N2 : News g1 L0 h ((told, W.listOf (List.toArray [Value.str (Str.ofString "type") x1, Value.str (Str.ofString "type") x2, Value.str (Str.ofString "none") x3, Value.str (Str.ofString "none") x4, Value.str (Str.ofString "none") x5, Value.str (Str.ofString "none") x6, Value.str (Str.ofString "type") x7]) cnt) :: R) := NN _ (List.forall_mem_cons.mpr ⟨⟨List.mem_cons_self, hLt⟩, fun q hq => ⟨List.mem_append_right _ hq, hLr q (hR2 q hq).1⟩⟩)
      clear FD ND NN
      dsimp only at F2 ⊢
      k_steps
      refine' hret told _ x1 x2 x3 x4 x5 x6 x7 _ _ _ ?ra ?rb (fun q hq => kst_ltOf lt.2.2.2.2 q hq) lt.2.2.2.1
      (case ra => k_asm)
      (case rb =>
        refine' kst_newsOf ?rN ?rq
        (case rN => k_asm)
        refine' List.forall_mem_cons.mpr ⟨List.mem_cons_of_mem _ (hR1 _ (by kcf_m) (neN (by (try dsimp only); omega))), List.forall_mem_cons.mpr ⟨List.mem_cons_self, fun q hq => List.mem_cons_of_mem _ (hR1 _ (by kcf_m) (Nat.ne_of_lt (kst_ltOf lt.2.2.2.2 q hq)))⟩⟩)
    case turn =>
      intro i it v c u h tk rest Q' hx hv hIc hsub hoff' F1 N1 nx
      obtain ⟨lst, cnt, slc⟩ := c
      obtain ⟨g1, T1, F2, NN⟩ := turn_to hoL F1 N1 (List.mem_cons_of_mem _ List.mem_cons_self)
      have B1 := turned_below T1 B' hbL
      have X1 := XB.keeps B1.stays
      have P1 := TB.keeps B1.stays
      have N2 : News g1 L0 h ((told, W.listOf lst.toArray cnt) :: rest) := NN _ (List.forall_mem_cons.mpr ⟨⟨List.mem_cons_self, hLt⟩, fun q hq => ⟨List.mem_append_right _ hq, hoff' q hq L (List.mem_cons_of_mem _ List.mem_cons_self)⟩⟩)
      have hall : ∀ q ∈ _, q.1 ≠ told → q ∈ rest := fun q hq hn => hsub _ (hR1 q hq hn)
      simp only [List.forall_mem_cons] at hall
      obtain ⟨rll, rf7, rc7, rf6, rc6, rf5, rc5, rf4, rc4, rf3, rc3, rf2, rc2, rf1, rc1, rtold, ro1, ro2, ro3, r632, rnews⟩ := hall
      clear rtold F1 N1 NN
      have hoffT : ∀ p ∈ rest, p.1 ≠ told := fun p hp => hoff' p hp told List.mem_cons_self
      replace rll := rll (neN (by (try dsimp only); omega))
      replace rf7 := rf7 (neN (by (try dsimp only); omega))
      replace rc7 := rc7 (neN (by (try dsimp only); omega))
      replace rf6 := rf6 (neN (by (try dsimp only); omega))
      replace rc6 := rc6 (neN (by (try dsimp only); omega))
      replace rf5 := rf5 (neN (by (try dsimp only); omega))
      replace rc5 := rc5 (neN (by (try dsimp only); omega))
      replace rf4 := rf4 (neN (by (try dsimp only); omega))
      replace rc4 := rc4 (neN (by (try dsimp only); omega))
      replace rf3 := rf3 (neN (by (try dsimp only); omega))
      replace rc3 := rc3 (neN (by (try dsimp only); omega))
      replace rf2 := rf2 (neN (by (try dsimp only); omega))
      replace rc2 := rc2 (neN (by (try dsimp only); omega))
      replace rf1 := rf1 (neN (by (try dsimp only); omega))
      replace rc1 := rc1 (neN (by (try dsimp only); omega))
      replace ro1 := ro1 (neN (by (try dsimp only); omega))
      replace ro2 := ro2 (neN (by (try dsimp only); omega))
      replace ro3 := ro3 (neN (by (try dsimp only); omega))
      replace r632 := r632 (neN (by (try dsimp only); omega))
      have q1 := rnews _ hm1 (Nat.ne_of_lt (kst_ltOf lt.2.2.2.2 _ hm1))
      have q2 := rnews _ hm2 (Nat.ne_of_lt (kst_ltOf lt.2.2.2.2 _ hm2))
      have q3 := rnews _ hm3 (Nat.ne_of_lt (kst_ltOf lt.2.2.2.2 _ hm3))
      have q4 := rnews _ hm4 (Nat.ne_of_lt (kst_ltOf lt.2.2.2.2 _ hm4))
      have q5 := rnews _ hm5 (Nat.ne_of_lt (kst_ltOf lt.2.2.2.2 _ hm5))
      have q6 := rnews _ hm6 (Nat.ne_of_lt (kst_ltOf lt.2.2.2.2 _ hm6))
      have q7 := rnews _ hm7 (Nat.ne_of_lt (kst_ltOf lt.2.2.2.2 _ hm7))
      have q8 := rnews _ hm8 (Nat.ne_of_lt (kst_ltOf lt.2.2.2.2 _ hm8))
      dsimp only at hIc F2 nx ⊢
      have hi7 : i < 7 := (List.getElem?_eq_some_iff.mp hx).1
      obtain rfl | rfl | rfl | rfl | rfl | rfl | rfl : i = 0 ∨ i = 1 ∨ i = 2 ∨ i = 3 ∨ i = 4 ∨ i = 5 ∨ i = 6 := by omega
      · obtain rfl : it = .val (.ref f1) := (Option.some.inj hx).symm
        obtain rfl : v = .ref f1 := hv
        obtain rfl := told0 hIc
        (try clear hret)
        rename_i ra0q0 ra0q1
        revert w p loose mean mg mb dp un gd cn cs a ccd cl A₀ base h₀ L m news s Q E B F T XB TB hk N h632 hd hu x dx y dy ring dring sh1 sh2 zl lc lc' cits dits ns ms ra0q0 ra0q1 k1 k2 k3 k4 k5 k6 k7 k8 k9 k10 k11 k12 tq tn tf hm1 hm2 hm3 hi3 hl3 hm4 hm5 hm6 hi6 hl6 hm7 hm8 X g0 L0 h' tk' FG B' X' T' l1 o1 o2 o3 d1 d2 d3 hC2 oL esL epL hoL hbL told ht lt ht2 sl0 f1 c1 oc1 vs1 tt1 ctv1 hh1 tkk1 da1 db1 la1 lb1 f2 c2 oc2 vs2 tt2 ctv2 hh2 tkk2 da2 db2 la2 lb2 f3 c3 oc3 vs3 tt3 ctv3 hh3 tkk3 da3 db3 la3 lb3 f4 c4 oc4 vs4 tt4 ctv4 hh4 tkk4 da4 db4 la4 lb4 f5 c5 oc5 vs5 tt5 ctv5 hh5 tkk5 da5 db5 la5 lb5 f6 c6 oc6 vs6 tt6 ctv6 hh6 tkk6 da6 db6 la6 lb6 f7 c7 oc7 vs7 tt7 ctv7 hh7 tkk7 da7 db7 la7 lb7 ll hl FL NL lll sl1 hLr R hR1 hR2 hLt NH2 hlm I hI hIl u h tk rest Q' hsub hoff' cnt slc g1 T1 F2 B1 X1 P1 rnews hoffT rll rf7 rc7 rf6 rc6 rf5 rc5 rf4 rc4 rf3 rc3 rf2 rc2 rf1 rc1 ro1 ro2 ro3 r632 q1 q2 q3 q4 q5 q6 q7 q8 nx hi7 hx N2 hIc
        exact hk0.out
      · obtain rfl : it = .val (.ref f2) := (Option.some.inj hx).symm
        obtain rfl : v = .ref f2 := hv
        obtain ⟨x1, rfl⟩ := told1 hIc
        (try clear hret)
        rename_i ra1q0 ra1q1
        revert w p loose mean mg mb dp un gd cn cs a ccd cl A₀ base h₀ L m news s Q E B F T XB TB hk N h632 hd hu x dx y dy ring dring sh1 sh2 zl lc lc' cits dits ns ms ra1q0 ra1q1 k1 k2 k3 k4 k5 k6 k7 k8 k9 k10 k11 k12 tq tn tf hm1 hm2 hm3 hi3 hl3 hm4 hm5 hm6 hi6 hl6 hm7 hm8 X g0 L0 h' tk' FG B' X' T' l1 o1 o2 o3 d1 d2 d3 hC2 oL esL epL hoL hbL told ht lt ht2 sl0 f1 c1 oc1 vs1 tt1 ctv1 hh1 tkk1 da1 db1 la1 lb1 f2 c2 oc2 vs2 tt2 ctv2 hh2 tkk2 da2 db2 la2 lb2 f3 c3 oc3 vs3 tt3 ctv3 hh3 tkk3 da3 db3 la3 lb3 f4 c4 oc4 vs4 tt4 ctv4 hh4 tkk4 da4 db4 la4 lb4 f5 c5 oc5 vs5 tt5 ctv5 hh5 tkk5 da5 db5 la5 lb5 f6 c6 oc6 vs6 tt6 ctv6 hh6 tkk6 da6 db6 la6 lb6 f7 c7 oc7 vs7 tt7 ctv7 hh7 tkk7 da7 db7 la7 lb7 ll hl FL NL lll sl1 hLr R hR1 hR2 hLt NH2 hlm I hI hIl u h tk rest Q' hsub hoff' cnt slc g1 T1 F2 B1 X1 P1 rnews hoffT rll rf7 rc7 rf6 rc6 rf5 rc5 rf4 rc4 rf3 rc3 rf2 rc2 rf1 rc1 ro1 ro2 ro3 r632 q1 q2 q3 q4 q5 q6 q7 q8 nx hi7 hx x1 N2 hIc
        exact hk1.out
      · obtain rfl : it = .val (.ref f3) := (Option.some.inj hx).symm
        obtain rfl : v = .ref f3 := hv
        obtain ⟨x1, x2, rfl⟩ := told2 hIc
        (try clear hret)
        rename_i ra2q0 ra2q1
        revert w p loose mean mg mb dp un gd cn cs a ccd cl A₀ base h₀ L m news s Q E B F T XB TB hk N h632 hd hu x dx y dy ring dring sh1 sh2 zl lc lc' cits dits ns ms ra2q0 ra2q1 k1 k2 k3 k4 k5 k6 k7 k8 k9 k10 k11 k12 tq tn tf hm1 hm2 hm3 hi3 hl3 hm4 hm5 hm6 hi6 hl6 hm7 hm8 X g0 L0 h' tk' FG B' X' T' l1 o1 o2 o3 d1 d2 d3 hC2 oL esL epL hoL hbL told ht lt ht2 sl0 f1 c1 oc1 vs1 tt1 ctv1 hh1 tkk1 da1 db1 la1 lb1 f2 c2 oc2 vs2 tt2 ctv2 hh2 tkk2 da2 db2 la2 lb2 f3 c3 oc3 vs3 tt3 ctv3 hh3 tkk3 da3 db3 la3 lb3 f4 c4 oc4 vs4 tt4 ctv4 hh4 tkk4 da4 db4 la4 lb4 f5 c5 oc5 vs5 tt5 ctv5 hh5 tkk5 da5 db5 la5 lb5 f6 c6 oc6 vs6 tt6 ctv6 hh6 tkk6 da6 db6 la6 lb6 f7 c7 oc7 vs7 tt7 ctv7 hh7 tkk7 da7 db7 la7 lb7 ll hl FL NL lll sl1 hLr R hR1 hR2 hLt NH2 hlm I hI hIl u h tk rest Q' hsub hoff' cnt slc g1 T1 F2 B1 X1 P1 rnews hoffT rll rf7 rc7 rf6 rc6 rf5 rc5 rf4 rc4 rf3 rc3 rf2 rc2 rf1 rc1 ro1 ro2 ro3 r632 q1 q2 q3 q4 q5 q6 q7 q8 nx hi7 hx x1 x2 N2 hIc
        exact hk2.out
      · obtain rfl : it = .val (.ref f4) := (Option.some.inj hx).symm
        obtain rfl : v = .ref f4 := hv
        obtain ⟨x1, x2, x3, rfl⟩ := told3 hIc
        (try clear hret)
        rename_i ra3q0 ra3q1
        revert w p loose mean mg mb dp un gd cn cs a ccd cl A₀ base h₀ L m news s Q E B F T XB TB hk N h632 hd hu x dx y dy ring dring sh1 sh2 zl lc lc' cits dits ns ms ra3q0 ra3q1 k1 k2 k3 k4 k5 k6 k7 k8 k9 k10 k11 k12 tq tn tf hm1 hm2 hm3 hi3 hl3 hm4 hm5 hm6 hi6 hl6 hm7 hm8 X g0 L0 h' tk' FG B' X' T' l1 o1 o2 o3 d1 d2 d3 hC2 oL esL epL hoL hbL told ht lt ht2 sl0 f1 c1 oc1 vs1 tt1 ctv1 hh1 tkk1 da1 db1 la1 lb1 f2 c2 oc2 vs2 tt2 ctv2 hh2 tkk2 da2 db2 la2 lb2 f3 c3 oc3 vs3 tt3 ctv3 hh3 tkk3 da3 db3 la3 lb3 f4 c4 oc4 vs4 tt4 ctv4 hh4 tkk4 da4 db4 la4 lb4 f5 c5 oc5 vs5 tt5 ctv5 hh5 tkk5 da5 db5 la5 lb5 f6 c6 oc6 vs6 tt6 ctv6 hh6 tkk6 da6 db6 la6 lb6 f7 c7 oc7 vs7 tt7 ctv7 hh7 tkk7 da7 db7 la7 lb7 ll hl FL NL lll sl1 hLr R hR1 hR2 hLt NH2 hlm I hI hIl u h tk rest Q' hsub hoff' cnt slc g1 T1 F2 B1 X1 P1 rnews hoffT rll rf7 rc7 rf6 rc6 rf5 rc5 rf4 rc4 rf3 rc3 rf2 rc2 rf1 rc1 ro1 ro2 ro3 r632 q1 q2 q3 q4 q5 q6 q7 q8 nx hi7 hx x1 x2 x3 N2 hIc
        exact hk3.out
      · obtain rfl : it = .val (.ref f5) := (Option.some.inj hx).symm
        obtain rfl : v = .ref f5 := hv
        obtain ⟨x1, x2, x3, x4, rfl⟩ := told4 hIc
        (try clear hret)
        rename_i ra4q0 ra4q1
        revert w p loose mean mg mb dp un gd cn cs a ccd cl A₀ base h₀ L m news s Q E B F T XB TB hk N h632 hd hu x dx y dy ring dring sh1 sh2 zl lc lc' cits dits ns ms ra4q0 ra4q1 k1 k2 k3 k4 k5 k6 k7 k8 k9 k10 k11 k12 tq tn tf hm1 hm2 hm3 hi3 hl3 hm4 hm5 hm6 hi6 hl6 hm7 hm8 X g0 L0 h' tk' FG B' X' T' l1 o1 o2 o3 d1 d2 d3 hC2 oL esL epL hoL hbL told ht lt ht2 sl0 f1 c1 oc1 vs1 tt1 ctv1 hh1 tkk1 da1 db1 la1 lb1 f2 c2 oc2 vs2 tt2 ctv2 hh2 tkk2 da2 db2 la2 lb2 f3 c3 oc3 vs3 tt3 ctv3 hh3 tkk3 da3 db3 la3 lb3 f4 c4 oc4 vs4 tt4 ctv4 hh4 tkk4 da4 db4 la4 lb4 f5 c5 oc5 vs5 tt5 ctv5 hh5 tkk5 da5 db5 la5 lb5 f6 c6 oc6 vs6 tt6 ctv6 hh6 tkk6 da6 db6 la6 lb6 f7 c7 oc7 vs7 tt7 ctv7 hh7 tkk7 da7 db7 la7 lb7 ll hl FL NL lll sl1 hLr R hR1 hR2 hLt NH2 hlm I hI hIl u h tk rest Q' hsub hoff' cnt slc g1 T1 F2 B1 X1 P1 rnews hoffT rll rf7 rc7 rf6 rc6 rf5 rc5 rf4 rc4 rf3 rc3 rf2 rc2 rf1 rc1 ro1 ro2 ro3 r632 q1 q2 q3 q4 q5 q6 q7 q8 nx hi7 hx x1 x2 x3 x4 N2 hIc
        exact hk4.out
      · obtain rfl : it = .val (.ref f6) := (Option.some.inj hx).symm
        obtain rfl : v = .ref f6 := hv
        obtain ⟨x1, x2, x3, x4, x5, rfl⟩ := told5 hIc
        (try clear hret)
        rename_i ra5q0 ra5q1
        revert w p loose mean mg mb dp un gd cn cs a ccd cl A₀ base h₀ L m news s Q E B F T XB TB hk N h632 hd hu x dx y dy ring dring sh1 sh2 zl lc lc' cits dits ns ms ra5q0 ra5q1 k1 k2 k3 k4 k5 k6 k7 k8 k9 k10 k11 k12 tq tn tf hm1 hm2 hm3 hi3 hl3 hm4 hm5 hm6 hi6 hl6 hm7 hm8 X g0 L0 h' tk' FG B' X' T' l1 o1 o2 o3 d1 d2 d3 hC2 oL esL epL hoL hbL told ht lt ht2 sl0 f1 c1 oc1 vs1 tt1 ctv1 hh1 tkk1 da1 db1 la1 lb1 f2 c2 oc2 vs2 tt2 ctv2 hh2 tkk2 da2 db2 la2 lb2 f3 c3 oc3 vs3 tt3 ctv3 hh3 tkk3 da3 db3 la3 lb3 f4 c4 oc4 vs4 tt4 ctv4 hh4 tkk4 da4 db4 la4 lb4 f5 c5 oc5 vs5 tt5 ctv5 hh5 tkk5 da5 db5 la5 lb5 f6 c6 oc6 vs6 tt6 ctv6 hh6 tkk6 da6 db6 la6 lb6 f7 c7 oc7 vs7 tt7 ctv7 hh7 tkk7 da7 db7 la7 lb7 ll hl FL NL lll sl1 hLr R hR1 hR2 hLt NH2 hlm I hI hIl u h tk rest Q' hsub hoff' cnt slc g1 T1 F2 B1 X1 P1 rnews hoffT rll rf7 rc7 rf6 rc6 rf5 rc5 rf4 rc4 rf3 rc3 rf2 rc2 rf1 rc1 ro1 ro2 ro3 r632 q1 q2 q3 q4 q5 q6 q7 q8 nx hi7 hx x1 x2 x3 x4 x5 N2 hIc
        exact hk5.out
      · obtain rfl : it = .val (.ref f7) := (Option.some.inj hx).symm
        obtain rfl : v = .ref f7 := hv
        obtain ⟨x1, x2, x3, x4, x5, x6, rfl⟩ := told6 hIc
        (try clear hret)
        rename_i ra6q0 ra6q1
        revert w p loose mean mg mb dp un gd cn cs a ccd cl A₀ base h₀ L m news s Q E B F T XB TB hk N h632 hd hu x dx y dy ring dring sh1 sh2 zl lc lc' cits dits ns ms ra6q0 ra6q1 k1 k2 k3 k4 k5 k6 k7 k8 k9 k10 k11 k12 tq tn tf hm1 hm2 hm3 hi3 hl3 hm4 hm5 hm6 hi6 hl6 hm7 hm8 X g0 L0 h' tk' FG B' X' T' l1 o1 o2 o3 d1 d2 d3 hC2 oL esL epL hoL hbL told ht lt ht2 sl0 f1 c1 oc1 vs1 tt1 ctv1 hh1 tkk1 da1 db1 la1 lb1 f2 c2 oc2 vs2 tt2 ctv2 hh2 tkk2 da2 db2 la2 lb2 f3 c3 oc3 vs3 tt3 ctv3 hh3 tkk3 da3 db3 la3 lb3 f4 c4 oc4 vs4 tt4 ctv4 hh4 tkk4 da4 db4 la4 lb4 f5 c5 oc5 vs5 tt5 ctv5 hh5 tkk5 da5 db5 la5 lb5 f6 c6 oc6 vs6 tt6 ctv6 hh6 tkk6 da6 db6 la6 lb6 f7 c7 oc7 vs7 tt7 ctv7 hh7 tkk7 da7 db7 la7 lb7 ll hl FL NL lll sl1 hLr R hR1 hR2 hLt NH2 hlm I hI hIl u h tk rest Q' hsub hoff' cnt slc g1 T1 F2 B1 X1 P1 rnews hoffT rll rf7 rc7 rf6 rc6 rf5 rc5 rf4 rc4 rf3 rc3 rf2 rc2 rf1 rc1 ro1 ro2 ro3 r632 q1 q2 q3 q4 q5 q6 q7 q8 nx hi7 hx x1 x2 x3 x4 x5 x6 N2 hIc
        exact hk6.out
set_option maxRecDepth 100000 in
set_option maxHeartbeats 8000000 in
theorem ref_turn0 : stR.P0 := by
  intro w p loose mean mg mb dp un gd cn cs a ccd cl A₀ base h₀ L m news s Q E B F T XB TB hk N h632 hd hu x dx y dy ring dring sh1 sh2 zl lc lc' cits dits ns ms ra0q0 ra0q1 k1 k2 k3 k4 k5 k6 k7 k8 k9 k10 k11 k12 tq tn tf hm1 hm2 hm3 hi3 hl3 hm4 hm5 hm6 hi6 hl6 hm7 hm8 X g0 L0 h' tk' FG B' X' T' l1 o1 o2 o3 d1 d2 d3 hC2 oL esL epL hoL hbL told ht lt ht2 sl0 f1 c1 oc1 vs1 tt1 ctv1 hh1 tkk1 da1 db1 la1 lb1 f2 c2 oc2 vs2 tt2 ctv2 hh2 tkk2 da2 db2 la2 lb2 f3 c3 oc3 vs3 tt3 ctv3 hh3 tkk3 da3 db3 la3 lb3 f4 c4 oc4 vs4 tt4 ctv4 hh4 tkk4 da4 db4 la4 lb4 f5 c5 oc5 vs5 tt5 ctv5 hh5 tkk5 da5 db5 la5 lb5 f6 c6 oc6 vs6 tt6 ctv6 hh6 tkk6 da6 db6 la6 lb6 f7 c7 oc7 vs7 tt7 ctv7 hh7 tkk7 da7 db7 la7 lb7 ll hl FL NL lll sl1 hLr R hR1 hR2 hLt NH2 hlm I hI hIl u h tk rest Q' hsub hoff' cnt slc g1 T1 F2 B1 X1 P1 rnews hoffT rll rf7 rc7 rf6 rc6 rf5 rc5 rf4 rc4 rf3 rc3 rf2 rc2 rf1 rc1 ro1 ro2 ro3 r632 q1 q2 q3 q4 q5 q6 q7 q8 nx hi7 hx N2 hIc
  w_on
  k_with_none
  (have hK9 := X1); revert hK9; k_fill; intro hK9; clear hK9
  k_with "pyIter ref" => refine Hold.out ?_
  k_with "noteFrame ref" => refine Hold.out ?_
  k_with "exec For Name List cons nil" => refine Hold.out ?_
  k_steps
  refine ⟨?_⟩
  with_reducible rename RaisedSN _ _ _ _ _ _ _ => RR
  with_reducible rename Heap.UpToSlots _ _ => UU
  refine lands_G (Flies.of RR UU (by with_reducible assumption) (by with_reducible assumption) rfl) (fun h9 YY => ?_)
  refine handle_hit YY XB TB (by k_is) PyProof.Rows.Boot.«TypeError» (by decide) PySem.F.isExc_TypeError PySem.F.notTuple_TypeError (by rw [isSubtype_type]; kernel_rfl) (fun h8 g8 T8 F8 N8 B8 X8 P8 => ?_)
  k_steps
  with_reducible rename Fr g8 L0 _ _ => F9
  with_reducible rename News g8 L0 _ _ => N9
  obtain ⟨sl9, FH9, NH9⟩ := turn_of hoL (T1.trans T8) F9 N9
  (refine nx ([Value.str (Str.ofString "type") _], _, sl9) _ _ _ FH9 (kst_newsOf NH9 (List.forall_mem_cons.mpr ⟨by kcf_m, List.forall_mem_cons.mpr ⟨List.mem_cons_self, fun p hp => by kcf_m⟩⟩)) (by kst_all) ⟨[_], rfl, rfl⟩)
set_option maxRecDepth 100000 in
set_option maxHeartbeats 8000000 in
theorem ref_turn1 : stR.P1 := by
  intro w p loose mean mg mb dp un gd cn cs a ccd cl A₀ base h₀ L m news s Q E B F T XB TB hk N h632 hd hu x dx y dy ring dring sh1 sh2 zl lc lc' cits dits ns ms ra1q0 ra1q1 k1 k2 k3 k4 k5 k6 k7 k8 k9 k10 k11 k12 tq tn tf hm1 hm2 hm3 hi3 hl3 hm4 hm5 hm6 hi6 hl6 hm7 hm8 X g0 L0 h' tk' FG B' X' T' l1 o1 o2 o3 d1 d2 d3 hC2 oL esL epL hoL hbL told ht lt ht2 sl0 f1 c1 oc1 vs1 tt1 ctv1 hh1 tkk1 da1 db1 la1 lb1 f2 c2 oc2 vs2 tt2 ctv2 hh2 tkk2 da2 db2 la2 lb2 f3 c3 oc3 vs3 tt3 ctv3 hh3 tkk3 da3 db3 la3 lb3 f4 c4 oc4 vs4 tt4 ctv4 hh4 tkk4 da4 db4 la4 lb4 f5 c5 oc5 vs5 tt5 ctv5 hh5 tkk5 da5 db5 la5 lb5 f6 c6 oc6 vs6 tt6 ctv6 hh6 tkk6 da6 db6 la6 lb6 f7 c7 oc7 vs7 tt7 ctv7 hh7 tkk7 da7 db7 la7 lb7 ll hl FL NL lll sl1 hLr R hR1 hR2 hLt NH2 hlm I hI hIl u h tk rest Q' hsub hoff' cnt slc g1 T1 F2 B1 X1 P1 rnews hoffT rll rf7 rc7 rf6 rc6 rf5 rc5 rf4 rc4 rf3 rc3 rf2 rc2 rf1 rc1 ro1 ro2 ro3 r632 q1 q2 q3 q4 q5 q6 q7 q8 nx hi7 hx x1 N2 hIc
  w_on
  k_with_none
  (have hK9 := X1); revert hK9; k_fill; intro hK9; clear hK9
  k_with "pyIter ref" => refine Hold.out ?_
  k_with "noteFrame ref" => refine Hold.out ?_
  k_with "exec For Name List cons nil" => refine Hold.out ?_
  k_steps
  refine ⟨?_⟩
  with_reducible rename RaisedSN _ _ _ _ _ _ _ => RR
  with_reducible rename Heap.UpToSlots _ _ => UU
  refine lands_G (Flies.of RR UU (by with_reducible assumption) (by with_reducible assumption) rfl) (fun h9 YY => ?_)
  refine handle_hit YY XB TB (by k_is) PyProof.Rows.Boot.«TypeError» (by decide) PySem.F.isExc_TypeError PySem.F.notTuple_TypeError (by rw [isSubtype_type]; kernel_rfl) (fun h8 g8 T8 F8 N8 B8 X8 P8 => ?_)
  k_steps
  with_reducible rename Fr g8 L0 _ _ => F9
  with_reducible rename News g8 L0 _ _ => N9
  obtain ⟨sl9, FH9, NH9⟩ := turn_of hoL (T1.trans T8) F9 N9
  (refine nx ([Value.str (Str.ofString "type") x1, Value.str (Str.ofString "type") _], _, sl9) _ _ _ FH9 (kst_newsOf NH9 (List.forall_mem_cons.mpr ⟨by kcf_m, List.forall_mem_cons.mpr ⟨List.mem_cons_self, fun p hp => by kcf_m⟩⟩)) (by kst_all) ⟨[x1, _], rfl, rfl⟩)
set_option maxRecDepth 100000 in
set_option maxHeartbeats 8000000 in
theorem ref_turn2 : stR.P2 := by
  intro w p loose mean mg mb dp un gd cn cs a ccd cl A₀ base h₀ L m news s Q E B F T XB TB hk N h632 hd hu x dx y dy ring dring sh1 sh2 zl lc lc' cits dits ns ms ra2q0 ra2q1 k1 k2 k3 k4 k5 k6 k7 k8 k9 k10 k11 k12 tq tn tf hm1 hm2 hm3 hi3 hl3 hm4 hm5 hm6 hi6 hl6 hm7 hm8 X g0 L0 h' tk' FG B' X' T' l1 o1 o2 o3 d1 d2 d3 hC2 oL esL epL hoL hbL told ht lt ht2 sl0 f1 c1 oc1 vs1 tt1 ctv1 hh1 tkk1 da1 db1 la1 lb1 f2 c2 oc2 vs2 tt2 ctv2 hh2 tkk2 da2 db2 la2 lb2 f3 c3 oc3 vs3 tt3 ctv3 hh3 tkk3 da3 db3 la3 lb3 f4 c4 oc4 vs4 tt4 ctv4 hh4 tkk4 da4 db4 la4 lb4 f5 c5 oc5 vs5 tt5 ctv5 hh5 tkk5 da5 db5 la5 lb5 f6 c6 oc6 vs6 tt6 ctv6 hh6 tkk6 da6 db6 la6 lb6 f7 c7 oc7 vs7 tt7 ctv7 hh7 tkk7 da7 db7 la7 lb7 ll hl FL NL lll sl1 hLr R hR1 hR2 hLt NH2 hlm I hI hIl u h tk rest Q' hsub hoff' cnt slc g1 T1 F2 B1 X1 P1 rnews hoffT rll rf7 rc7 rf6 rc6 rf5 rc5 rf4 rc4 rf3 rc3 rf2 rc2 rf1 rc1 ro1 ro2 ro3 r632 q1 q2 q3 q4 q5 q6 q7 q8 nx hi7 hx x1 x2 N2 hIc
  w_on
  k_with_none
  (have hK9 := X1); revert hK9; k_fill; intro hK9; clear hK9
  k_with "pyIter ref" => refine Hold.out ?_
  k_with "noteFrame ref" => refine Hold.out ?_
  k_with "exec For Name List cons nil" => refine Hold.out ?_
  k_steps
  refine ⟨?_⟩
  with_reducible rename RaisedSN _ _ _ _ _ _ _ => RR
  with_reducible rename Heap.UpToSlots _ _ => UU
  refine lands_G (Flies.of RR UU (by with_reducible assumption) (by with_reducible assumption) rfl) (fun h9 YY => ?_)
  refine handle_miss YY XB TB (by k_is) PyProof.Rows.Boot.«TypeError» (by decide) PySem.F.isExc_TypeError PySem.F.notTuple_TypeError (by rw [isSubtype_type]; kernel_rfl) ?_
  refine handle_hit YY XB TB (by k_is) PyProof.Rows.Boot.«NotImplementedError» (by decide) PySem.F.isExc_NotImplementedError PySem.F.notTuple_NotImplementedError (by rw [isSubtype_type]; kernel_rfl) (fun h8 g8 T8 F8 N8 B8 X8 P8 => ?_)
  k_steps
  with_reducible rename Fr g8 L0 _ _ => F9
  with_reducible rename News g8 L0 _ _ => N9
  obtain ⟨sl9, FH9, NH9⟩ := turn_of hoL (T1.trans T8) F9 N9
  (refine nx ([Value.str (Str.ofString "type") x1, Value.str (Str.ofString "type") x2, Value.str (Str.ofString "none") _], _, sl9) _ _ _ FH9 (kst_newsOf NH9 (List.forall_mem_cons.mpr ⟨by kcf_m, List.forall_mem_cons.mpr ⟨List.mem_cons_self, fun p hp => by kcf_m⟩⟩)) (by kst_all) ⟨[x1, x2, _], rfl, rfl⟩)
set_option maxRecDepth 100000 in
set_option maxHeartbeats 8000000 in
theorem ref_turn3 : stR.P3 := by
  intro w p loose mean mg mb dp un gd cn cs a ccd cl A₀ base h₀ L m news s Q E B F T XB TB hk N h632 hd hu x dx y dy ring dring sh1 sh2 zl lc lc' cits dits ns ms ra3q0 ra3q1 k1 k2 k3 k4 k5 k6 k7 k8 k9 k10 k11 k12 tq tn tf hm1 hm2 hm3 hi3 hl3 hm4 hm5 hm6 hi6 hl6 hm7 hm8 X g0 L0 h' tk' FG B' X' T' l1 o1 o2 o3 d1 d2 d3 hC2 oL esL epL hoL hbL told ht lt ht2 sl0 f1 c1 oc1 vs1 tt1 ctv1 hh1 tkk1 da1 db1 la1 lb1 f2 c2 oc2 vs2 tt2 ctv2 hh2 tkk2 da2 db2 la2 lb2 f3 c3 oc3 vs3 tt3 ctv3 hh3 tkk3 da3 db3 la3 lb3 f4 c4 oc4 vs4 tt4 ctv4 hh4 tkk4 da4 db4 la4 lb4 f5 c5 oc5 vs5 tt5 ctv5 hh5 tkk5 da5 db5 la5 lb5 f6 c6 oc6 vs6 tt6 ctv6 hh6 tkk6 da6 db6 la6 lb6 f7 c7 oc7 vs7 tt7 ctv7 hh7 tkk7 da7 db7 la7 lb7 ll hl FL NL lll sl1 hLr R hR1 hR2 hLt NH2 hlm I hI hIl u h tk rest Q' hsub hoff' cnt slc g1 T1 F2 B1 X1 P1 rnews hoffT rll rf7 rc7 rf6 rc6 rf5 rc5 rf4 rc4 rf3 rc3 rf2 rc2 rf1 rc1 ro1 ro2 ro3 r632 q1 q2 q3 q4 q5 q6 q7 q8 nx hi7 hx x1 x2 x3 N2 hIc
  w_on
  k_with_none
  (have hK9 := X1); revert hK9; k_fill; intro hK9; clear hK9
  k_with "pyIter ref" => refine Hold.out ?_
  k_with "noteFrame ref" => refine Hold.out ?_
  k_with "exec For Name List cons nil" => refine Hold.out ?_
  k_steps
  refine ⟨?_⟩
  with_reducible rename RaisedSN _ _ _ _ _ _ _ => RR
  with_reducible rename Heap.UpToSlots _ _ => UU
  refine lands_G (Flies.of RR UU (by with_reducible assumption) (by with_reducible assumption) rfl) (fun h9 YY => ?_)
  refine handle_miss YY XB TB (by k_is) PyProof.Rows.Boot.«TypeError» (by decide) PySem.F.isExc_TypeError PySem.F.notTuple_TypeError (by rw [isSubtype_type]; kernel_rfl) ?_
  refine handle_hit YY XB TB (by k_is) PyProof.Rows.Boot.«NotImplementedError» (by decide) PySem.F.isExc_NotImplementedError PySem.F.notTuple_NotImplementedError (by rw [isSubtype_type]; kernel_rfl) (fun h8 g8 T8 F8 N8 B8 X8 P8 => ?_)
  k_steps
  with_reducible rename Fr g8 L0 _ _ => F9
  with_reducible rename News g8 L0 _ _ => N9
  obtain ⟨sl9, FH9, NH9⟩ := turn_of hoL (T1.trans T8) F9 N9
  (refine nx ([Value.str (Str.ofString "type") x1, Value.str (Str.ofString "type") x2, Value.str (Str.ofString "none") x3, Value.str (Str.ofString "none") _], _, sl9) _ _ _ FH9 (kst_newsOf NH9 (List.forall_mem_cons.mpr ⟨by kcf_m, List.forall_mem_cons.mpr ⟨List.mem_cons_self, fun p hp => by kcf_m⟩⟩)) (by kst_all) ⟨[x1, x2, x3, _], rfl, rfl⟩)
set_option maxRecDepth 100000 in
set_option maxHeartbeats 8000000 in
theorem ref_turn4 : stR.P4 := by
  intro w p loose mean mg mb dp un gd cn cs a ccd cl A₀ base h₀ L m news s Q E B F T XB TB hk N h632 hd hu x dx y dy ring dring sh1 sh2 zl lc lc' cits dits ns ms ra4q0 ra4q1 k1 k2 k3 k4 k5 k6 k7 k8 k9 k10 k11 k12 tq tn tf hm1 hm2 hm3 hi3 hl3 hm4 hm5 hm6 hi6 hl6 hm7 hm8 X g0 L0 h' tk' FG B' X' T' l1 o1 o2 o3 d1 d2 d3 hC2 oL esL epL hoL hbL told ht lt ht2 sl0 f1 c1 oc1 vs1 tt1 ctv1 hh1 tkk1 da1 db1 la1 lb1 f2 c2 oc2 vs2 tt2 ctv2 hh2 tkk2 da2 db2 la2 lb2 f3 c3 oc3 vs3 tt3 ctv3 hh3 tkk3 da3 db3 la3 lb3 f4 c4 oc4 vs4 tt4 ctv4 hh4 tkk4 da4 db4 la4 lb4 f5 c5 oc5 vs5 tt5 ctv5 hh5 tkk5 da5 db5 la5 lb5 f6 c6 oc6 vs6 tt6 ctv6 hh6 tkk6 da6 db6 la6 lb6 f7 c7 oc7 vs7 tt7 ctv7 hh7 tkk7 da7 db7 la7 lb7 ll hl FL NL lll sl1 hLr R hR1 hR2 hLt NH2 hlm I hI hIl u h tk rest Q' hsub hoff' cnt slc g1 T1 F2 B1 X1 P1 rnews hoffT rll rf7 rc7 rf6 rc6 rf5 rc5 rf4 rc4 rf3 rc3 rf2 rc2 rf1 rc1 ro1 ro2 ro3 r632 q1 q2 q3 q4 q5 q6 q7 q8 nx hi7 hx x1 x2 x3 x4 N2 hIc
  w_on
  k_with_none
  (have hK9 := X1); revert hK9; k_fill; intro hK9; clear hK9
  k_with "pyIter ref" => refine Hold.out ?_
  k_with "noteFrame ref" => refine Hold.out ?_
  k_with "exec For Name List cons nil" => refine Hold.out ?_
  k_steps
  refine ⟨?_⟩
  with_reducible rename RaisedSN _ _ _ _ _ _ _ => RR
  with_reducible rename Heap.UpToSlots _ _ => UU
  refine lands_G (Flies.of RR UU (by with_reducible assumption) (by with_reducible assumption) rfl) (fun h9 YY => ?_)
  refine handle_miss YY XB TB (by k_is) PyProof.Rows.Boot.«TypeError» (by decide) PySem.F.isExc_TypeError PySem.F.notTuple_TypeError (by rw [isSubtype_type]; kernel_rfl) ?_
  refine handle_hit YY XB TB (by k_is) PyProof.Rows.Boot.«NotImplementedError» (by decide) PySem.F.isExc_NotImplementedError PySem.F.notTuple_NotImplementedError (by rw [isSubtype_type]; kernel_rfl) (fun h8 g8 T8 F8 N8 B8 X8 P8 => ?_)
  k_steps
  with_reducible rename Fr g8 L0 _ _ => F9
  with_reducible rename News g8 L0 _ _ => N9
  obtain ⟨sl9, FH9, NH9⟩ := turn_of hoL (T1.trans T8) F9 N9
  (refine nx ([Value.str (Str.ofString "type") x1, Value.str (Str.ofString "type") x2, Value.str (Str.ofString "none") x3, Value.str (Str.ofString "none") x4, Value.str (Str.ofString "none") _], _, sl9) _ _ _ FH9 (kst_newsOf NH9 (List.forall_mem_cons.mpr ⟨by kcf_m, List.forall_mem_cons.mpr ⟨List.mem_cons_self, fun p hp => by kcf_m⟩⟩)) (by kst_all) ⟨[x1, x2, x3, x4, _], rfl, rfl⟩)
set_option maxRecDepth 100000 in
set_option maxHeartbeats 8000000 in
theorem ref_turn5 : stR.P5 := by
  intro w p loose mean mg mb dp un gd cn cs a ccd cl A₀ base h₀ L m news s Q E B F T XB TB hk N h632 hd hu x dx y dy ring dring sh1 sh2 zl lc lc' cits dits ns ms ra5q0 ra5q1 k1 k2 k3 k4 k5 k6 k7 k8 k9 k10 k11 k12 tq tn tf hm1 hm2 hm3 hi3 hl3 hm4 hm5 hm6 hi6 hl6 hm7 hm8 X g0 L0 h' tk' FG B' X' T' l1 o1 o2 o3 d1 d2 d3 hC2 oL esL epL hoL hbL told ht lt ht2 sl0 f1 c1 oc1 vs1 tt1 ctv1 hh1 tkk1 da1 db1 la1 lb1 f2 c2 oc2 vs2 tt2 ctv2 hh2 tkk2 da2 db2 la2 lb2 f3 c3 oc3 vs3 tt3 ctv3 hh3 tkk3 da3 db3 la3 lb3 f4 c4 oc4 vs4 tt4 ctv4 hh4 tkk4 da4 db4 la4 lb4 f5 c5 oc5 vs5 tt5 ctv5 hh5 tkk5 da5 db5 la5 lb5 f6 c6 oc6 vs6 tt6 ctv6 hh6 tkk6 da6 db6 la6 lb6 f7 c7 oc7 vs7 tt7 ctv7 hh7 tkk7 da7 db7 la7 lb7 ll hl FL NL lll sl1 hLr R hR1 hR2 hLt NH2 hlm I hI hIl u h tk rest Q' hsub hoff' cnt slc g1 T1 F2 B1 X1 P1 rnews hoffT rll rf7 rc7 rf6 rc6 rf5 rc5 rf4 rc4 rf3 rc3 rf2 rc2 rf1 rc1 ro1 ro2 ro3 r632 q1 q2 q3 q4 q5 q6 q7 q8 nx hi7 hx x1 x2 x3 x4 x5 N2 hIc
  w_on
  k_with_none
  (have hK9 := X1); revert hK9; k_fill; intro hK9; clear hK9
  k_with "pyIter ref" => refine Hold.out ?_
  k_with "noteFrame ref" => refine Hold.out ?_
  k_with "exec For Name List cons nil" => refine Hold.out ?_
  k_steps
  refine ⟨?_⟩
  with_reducible rename RaisedSN _ _ _ _ _ _ _ => RR
  with_reducible rename Heap.UpToSlots _ _ => UU
  refine lands_G (Flies.of RR UU (by with_reducible assumption) (by with_reducible assumption) rfl) (fun h9 YY => ?_)
  refine handle_miss YY XB TB (by k_is) PyProof.Rows.Boot.«TypeError» (by decide) PySem.F.isExc_TypeError PySem.F.notTuple_TypeError (by rw [isSubtype_type]; kernel_rfl) ?_
  refine handle_hit YY XB TB (by k_is) PyProof.Rows.Boot.«NotImplementedError» (by decide) PySem.F.isExc_NotImplementedError PySem.F.notTuple_NotImplementedError (by rw [isSubtype_type]; kernel_rfl) (fun h8 g8 T8 F8 N8 B8 X8 P8 => ?_)
  k_steps
  with_reducible rename Fr g8 L0 _ _ => F9
  with_reducible rename News g8 L0 _ _ => N9
  obtain ⟨sl9, FH9, NH9⟩ := turn_of hoL (T1.trans T8) F9 N9
  (refine nx ([Value.str (Str.ofString "type") x1, Value.str (Str.ofString "type") x2, Value.str (Str.ofString "none") x3, Value.str (Str.ofString "none") x4, Value.str (Str.ofString "none") x5, Value.str (Str.ofString "none") _], _, sl9) _ _ _ FH9 (kst_newsOf NH9 (List.forall_mem_cons.mpr ⟨by kcf_m, List.forall_mem_cons.mpr ⟨List.mem_cons_self, fun p hp => by kcf_m⟩⟩)) (by kst_all) ⟨[x1, x2, x3, x4, x5, _], rfl, rfl⟩)
set_option maxRecDepth 100000 in
set_option maxHeartbeats 8000000 in
theorem ref_turn6 : stR.P6 := by
  intro w p loose mean mg mb dp un gd cn cs a ccd cl A₀ base h₀ L m news s Q E B F T XB TB hk N h632 hd hu x dx y dy ring dring sh1 sh2 zl lc lc' cits dits ns ms ra6q0 ra6q1 k1 k2 k3 k4 k5 k6 k7 k8 k9 k10 k11 k12 tq tn tf hm1 hm2 hm3 hi3 hl3 hm4 hm5 hm6 hi6 hl6 hm7 hm8 X g0 L0 h' tk' FG B' X' T' l1 o1 o2 o3 d1 d2 d3 hC2 oL esL epL hoL hbL told ht lt ht2 sl0 f1 c1 oc1 vs1 tt1 ctv1 hh1 tkk1 da1 db1 la1 lb1 f2 c2 oc2 vs2 tt2 ctv2 hh2 tkk2 da2 db2 la2 lb2 f3 c3 oc3 vs3 tt3 ctv3 hh3 tkk3 da3 db3 la3 lb3 f4 c4 oc4 vs4 tt4 ctv4 hh4 tkk4 da4 db4 la4 lb4 f5 c5 oc5 vs5 tt5 ctv5 hh5 tkk5 da5 db5 la5 lb5 f6 c6 oc6 vs6 tt6 ctv6 hh6 tkk6 da6 db6 la6 lb6 f7 c7 oc7 vs7 tt7 ctv7 hh7 tkk7 da7 db7 la7 lb7 ll hl FL NL lll sl1 hLr R hR1 hR2 hLt NH2 hlm I hI hIl u h tk rest Q' hsub hoff' cnt slc g1 T1 F2 B1 X1 P1 rnews hoffT rll rf7 rc7 rf6 rc6 rf5 rc5 rf4 rc4 rf3 rc3 rf2 rc2 rf1 rc1 ro1 ro2 ro3 r632 q1 q2 q3 q4 q5 q6 q7 q8 nx hi7 hx x1 x2 x3 x4 x5 x6 N2 hIc
  w_on
  k_with_none
  (have hK9 := X1); revert hK9; k_fill; intro hK9; clear hK9
  k_with "pyIter ref" => refine Hold.out ?_
  k_with "noteFrame ref" => refine Hold.out ?_
  k_with "exec For Name List cons nil" => refine Hold.out ?_
  k_steps
  refine ⟨?_⟩
  with_reducible rename RaisedSN _ _ _ _ _ _ _ => RR
  with_reducible rename Heap.UpToSlots _ _ => UU
  refine lands_G (Flies.of RR UU (by with_reducible assumption) (by with_reducible assumption) rfl) (fun h9 YY => ?_)
  refine handle_hit YY XB TB (by k_is) PyProof.Rows.Boot.«TypeError» (by decide) PySem.F.isExc_TypeError PySem.F.notTuple_TypeError (by rw [isSubtype_type]; kernel_rfl) (fun h8 g8 T8 F8 N8 B8 X8 P8 => ?_)
  k_steps
  with_reducible rename Fr g8 L0 _ _ => F9
  with_reducible rename News g8 L0 _ _ => N9
  obtain ⟨sl9, FH9, NH9⟩ := turn_of hoL (T1.trans T8) F9 N9
  (refine nx ([Value.str (Str.ofString "type") x1, Value.str (Str.ofString "type") x2, Value.str (Str.ofString "none") x3, Value.str (Str.ofString "none") x4, Value.str (Str.ofString "none") x5, Value.str (Str.ofString "none") x6, Value.str (Str.ofString "type") _], _, sl9) _ _ _ FH9 (kst_newsOf NH9 (List.forall_mem_cons.mpr ⟨by kcf_m, List.forall_mem_cons.mpr ⟨List.mem_cons_self, fun p hp => by kcf_m⟩⟩)) (by kst_all) ⟨[x1, x2, x3, x4, x5, x6, _], rfl, rfl⟩)
theorem refusals_spec {w : World} {p : Program} {loose : List Str} {mean : ExcName → Option Value} {mg mb : Str → Option Value} {dp un : Nat} {gd : Option (List Code)} {cn : Str} {cs : Scope} {a : Addr} {ccd : Value} {cl : List (Str × Addr)} {A₀ : Around} {base h₀ : Heap} {L : Addr} {m : Str → Option Value} {news : List (Addr × Obj)} {s : Shared} {Q E : Value → Shared → Prop}
   (B : Below A₀ base [] h₀) (F : Fr h₀ L s.heap m) (X : (Ntt.hd.heap_39 w.params).In h₀) (T : Top p loose mean mg mb h₀) (XB : (Ntt.hd.heap_39 w.params).In base) (TB : Top p loose mean mg mb base) (hk : cs.kind = .function)
   (N : News h₀ L s.heap ((632, tabObj #[]) :: news)) (h632 : ∀ q ∈ news, q.1 ≠ 632) (hC : CodeHd base 636 632) (hd : dp + 16 < recursionLimit) (hu : un + 80 < cLine) {x dx y dy ring dring sh1 sh2 zl lc lc' : Addr} {cits dits : List Value} {ns ms : List Int} {c1 c2 : Nat} {k1 k2 k3 k4 k5 k6 k7 k8 k9 k10 k11 k12 tq tn tf : Tok}
   (hm1 : (ring, instObj 369 dring) ∈ news) (hm2 : (dring, ringD w k1 k2 k3 k4 k5 k6 k7 k8 sh1 sh2 zl tq tn tf) ∈ news) (hm3 : (lc, W.listOf cits.toArray c1) ∈ news) (hi3 : IntsAre cits ns) (hl3 : ns.length = 256)
   (hm4 : (x, instObj 505 dx) ∈ news) (hm5 : (dx, polyD w k9 k10 ring lc) ∈ news)
   (hm6 : (lc', W.listOf dits.toArray c2) ∈ news) (hi6 : IntsAre dits ms) (hl6 : ms.length = 256)
   (hm7 : (y, instObj 569 dy) ∈ news) (hm8 : (dy, polyD w k11 k12 ring lc') ∈ news)
   (hret : ∀ l ps t1 t2 t3 t4 t5 t6 t7 c h' tk', Fr h₀ L h' m → News h₀ L h' ((632, tabObj ps) :: (l, W.listOf #[.str (Str.ofString "type") t1, .str (Str.ofString "type") t2, .str (Str.ofString "none") t3, .str (Str.ofString "none") t4, .str (Str.ofString "none") t5, .str (Str.ofString "none") t6, .str (Str.ofString "type") t7] c) :: news) → (∀ q ∈ news, q.1 < l) → 632 < l → Q (.ref l) { s with heap := h', toks := tk' }) :
    wpAny (model PySem.Challenge.rw_oo0012_03.row.prog w) (ktrTop dp un gd cn cs L a ccd cl []) (call (.ref 637) [.ref ring, .ref x, .ref y]) Q E s := stR.k ⟨ref_turn0⟩ ⟨ref_turn1⟩ ⟨ref_turn2⟩ ⟨ref_turn3⟩ ⟨ref_turn4⟩ ⟨ref_turn5⟩ ⟨ref_turn6⟩ w p loose mean mg mb dp un gd cn cs a ccd cl A₀ base h₀ L m news s Q E B F X T XB TB hk N h632 hC hd hu x dx y dy ring dring sh1 sh2 zl lc lc' cits dits ns ms c1 c2 k1 k2 k3 k4 k5 k6 k7 k8 k9 k10 k11 k12 tq tn tf hm1 hm2 hm3 hi3 hl3 hm4 hm5 hm6 hi6 hl6 hm7 hm8 hret
section
end
end Ntt
end

section
open PySem PySem.W PySem.Calls PyProof.Rows PyProof.V PySem.Spec
namespace Ntt
theorem mem_off {p q : Addr × Obj} {own rest : Led} (h : q ∈ own ++ p :: rest) (hne : q ≠ p) : q ∈ own ++ rest := by
  rcases List.mem_append.mp h with h | h
  · exact List.mem_append_left _ h
  · rcases List.mem_cons.mp h with h | h
    · exact absurd h hne
    · exact List.mem_append_right _ h
theorem list_ne_tab {a b : Addr} {its : Array Value} {n : Nat} {ps : Array Value} : ((a, W.listOf its n) : Addr × Obj) ≠ (b, tabObj ps) := fun e => by
  have := congrArg (fun q => q.2.cls) e
  cases this
theorem inst_ne_tab {a b C d : Addr} {ps : Array Value} : ((a, instObj C d) : Addr × Obj) ≠ (b, tabObj ps) := fun e => by
  have := congrArg (fun q => q.2.cls) e
  cases this
theorem dict_ne_tab {a b : Addr} {es : List DictEntry} {n : Nat} {ps : Array Value} : ((a, dictOf es n) : Addr × Obj) ≠ (b, tabObj ps) := fun e => by
  have := congrArg (fun q => q.2.cls) e
  cases this
set_option maxRecDepth 100000 in
theorem refusals_upd {w : World} {p : Program} {loose : List Str} {mean : ExcName → Option Value} {mg mb : Str → Option Value} {dp un : Nat} {gd : Option (List Code)} {cn : Str} {cs : Scope} {a : Addr} {ccd : Value} {cl : List (Str × Addr)} {A₀ : Around} {base h₀ : Heap} {L : Addr} {m : Str → Option Value} {news : List (Addr × Obj)} {s : Shared} {Q E : Value → Shared → Prop} {g : Obj → List (Addr × Obj)}
   (B : Below A₀ base [] h₀) (F : Fr h₀ L s.heap m) (X : (Ntt.hd.heap_39 w.params).In h₀) (N : News h₀ L s.heap news) (T : Top p loose mean mg mb h₀) (XB : (Ntt.hd.heap_39 w.params).In base) (TB : Top p loose mean mg mb base) (hk : cs.kind = .function)
   (U : UpdF 632 (tabObj #[]) news g) (hC : CodeHd base 636 632) (hd : dp + 16 < recursionLimit) (hu : un + 80 < cLine) {x dx y dy ring dring sh1 sh2 zl lc lc' : Addr} {cits dits : List Value} {ns ms : List Int} {c1 c2 : Nat} {k1 k2 k3 k4 k5 k6 k7 k8 k9 k10 k11 k12 tq tn tf : Tok}
   (hm1 : (ring, instObj 369 dring) ∈ news) (hm2 : (dring, ringD w k1 k2 k3 k4 k5 k6 k7 k8 sh1 sh2 zl tq tn tf) ∈ news) (hm3 : (lc, W.listOf cits.toArray c1) ∈ news) (hi3 : IntsAre cits ns) (hl3 : ns.length = 256)
   (hm4 : (x, instObj 505 dx) ∈ news) (hm5 : (dx, polyD w k9 k10 ring lc) ∈ news)
   (hm6 : (lc', W.listOf dits.toArray c2) ∈ news) (hi6 : IntsAre dits ms) (hl6 : ms.length = 256)
   (hm7 : (y, instObj 569 dy) ∈ news) (hm8 : (dy, polyD w k11 k12 ring lc') ∈ news)
   (hret : ∀ l ps t1 t2 t3 t4 t5 t6 t7 c h' tk', Fr h₀ L h' m → News h₀ L h' ((l, W.listOf #[.str (Str.ofString "type") t1, .str (Str.ofString "type") t2, .str (Str.ofString "none") t3, .str (Str.ofString "none") t4, .str (Str.ofString "none") t5, .str (Str.ofString "none") t6, .str (Str.ofString "type") t7] c) :: g (tabObj ps)) → (∀ q ∈ g (tabObj ps), q.1 < l) → Q (.ref l) { s with heap := h', toks := tk' }) :
    wpAny (model PySem.Challenge.rw_oo0012_03.row.prog w) (ktrTop dp un gd cn cs L a ccd cl []) (call (.ref 637) [.ref ring, .ref x, .ref y]) Q E s := by
  obtain ⟨own, rest, rfl, hg, h1, h2⟩ := U.split
  refine refusals_spec (news := own ++ rest) B F X T XB TB hk (fun q hq => N q ?_) ?_ hC hd hu (mem_off hm1 inst_ne_tab) (mem_off hm2 dict_ne_tab) (mem_off hm3 list_ne_tab) hi3 hl3 (mem_off hm4 inst_ne_tab) (mem_off hm5 dict_ne_tab) (mem_off hm6 list_ne_tab) hi6 hl6 (mem_off hm7 inst_ne_tab) (mem_off hm8 dict_ne_tab) ?_
  · rcases List.mem_cons.mp hq with rfl | hq
    · exact List.mem_append_right _ List.mem_cons_self
    · rcases List.mem_append.mp hq with hq | hq
      · exact List.mem_append_left _ hq
      · exact List.mem_append_right _ (List.mem_cons_of_mem _ hq)
  · intro q hq
    rcases List.mem_append.mp hq with hq | hq
    · exact h1 q hq
    · exact h2 q hq
  · intro l ps t1 t2 t3 t4 t5 t6 t7 c h' tk' F' N' hlt h632
    refine hret l ps t1 t2 t3 t4 t5 t6 t7 c h' tk' F' (fun q hq => N' q ?_) fun q hq => ?_
    · rw [hg] at hq
      rcases List.mem_cons.mp hq with rfl | hq
      · exact List.mem_cons_of_mem _ List.mem_cons_self
      · rcases List.mem_append.mp hq with hq | hq
        · exact List.mem_cons_of_mem _ (List.mem_cons_of_mem _ (List.mem_append_left _ hq))
        · rcases List.mem_cons.mp hq with rfl | hq
          · exact List.mem_cons_self
          · exact List.mem_cons_of_mem _ (List.mem_cons_of_mem _ (List.mem_append_right _ hq))
    · rw [hg] at hq
      rcases List.mem_append.mp hq with hq | hq
      · exact hlt q (List.mem_append_left _ hq)
      · rcases List.mem_cons.mp hq with rfl | hq
        · exact h632
        · exact hlt q (List.mem_append_right _ hq)
end Ntt
end

section
open PySem PySem.W PySem.Calls PyProof.Rows PyProof.V PySem.Spec
namespace Ntt
local macro_rules | `(tactic| walk_at "none 0") => `(tactic| skip)
local macro_rules | `(tactic| walk_at "none 1") => `(tactic| skip)
local macro_rules | `(tactic| walk_at "none 2") => `(tactic| skip)
local macro_rules | `(tactic| walk_at "none 3") => `(tactic| skip)
local macro_rules | `(tactic| walk_at "none 4") => `(tactic| skip)
local macro_rules | `(tactic| walk_at "none 5") => `(tactic| skip)
local macro_rules | `(tactic| walk_at "none 6") => `(tactic| skip)
local macro_rules | `(tactic| walk_at "none 7") => `(tactic| skip)
local macro_rules | `(tactic| walk_at "none 8") => `(tactic| skip)
local macro_rules | `(tactic| walk_at "none 9") => `(tactic| skip)
local macro_rules | `(tactic| walk_at "none 10") => `(tactic| skip)
local macro_rules | `(tactic| walk_at "none 11") => `(tactic| skip)
local macro_rules | `(tactic| walk_at "none 12") => `(tactic| skip)
theorem named_bnd {a b k : Int} (h : k ∈ [a.fmod 256, b.fmod 256]) : 0 ≤ k ∧ k < 256 := by
  rcases List.mem_cons.mp h with rfl | h
  · exact ⟨Int.fmod_nonneg_of_pos _ (by decide), Int.fmod_lt_of_pos _ (by decide)⟩
  · rw [List.mem_singleton.mp h]; exact ⟨Int.fmod_nonneg_of_pos _ (by decide), Int.fmod_lt_of_pos _ (by decide)⟩
theorem turned_get {k : Nat} (hk : k < 256) : ((rangeKs 0 256).map fun p => tnF p 8).getD k 0 = tnF (k : Int) 8 := by
  rw [List.getD_eq_getElem?_getD, List.getElem?_map]
  simp [rangeKs, hk]
theorem num_hide {M : Model} {A : Around} {E : Value → Shared → Prop} {Q : Value → Shared → Prop} {s : Shared} {h₀ h : Heap} {L : Addr} {m₁ : Str → Option Value} {x : Str} {n : Int} {t : Tok} {b : String} (F : Fr h₀ L h (fun y => if y = x then some (.int n t) else m₁ y))
    (k : ∀ n' : Int, Hold (n' = n) → Fr h₀ L h (fun y => if y = x then some (.int n' t) else m₁ y) → wpAny M A (call (.builtin b) [.int n' t]) Q E s) : wpAny M A (call (.builtin b) [.int n t]) Q E s := k n ⟨rfl⟩ F
theorem good_end {zs : List Int} {cl : Str → Option Addr} {mean : ExcName → Option Value} {s₁ s' : Shared} {L : Addr} {m : Str → Option Value} (F : Fr s₁.heap L s'.heap m) (hg : s'.gens = #[]) (hos : s'.os = s₁.os) :
    GoodW PySem.Challenge.rw_oo0012_03.row.claim cl mean [ofPy (PyData.list (zs.map .int))] s₁ (.ok (.ret (.bool true))) s' := by
  refine goodW_bool F hg (raisesW_false ?_) ?_ hos
  · wrow_none_raised
  · wrow_post
local macro_rules | `(tactic| k_steps) => `(tactic| repeat' (first | (k_unfold; (try dsimp only)) | walk1 | (dsimp only; walk1) | fail "no step"))
local macro_rules | `(tactic| walk_at "pyIter ref") => `(tactic| k_dflt (k_extra "pyIter ref"))
local macro_rules | `(tactic| walk_at "call type:enumerate") => `(tactic| k_dflt (k_extra "call type:enumerate"))
local macro_rules | `(tactic| walk_at "call type:zip") => `(tactic| k_dflt (k_extra "call type:zip"))
local macro_rules | `(tactic| k_all) => `(tactic| with_reducible assumption)
local macro_rules | `(tactic| walk_at "call builtin:list.append") => `(tactic| (k_here; k_dflt ((show wpAny _ _ (call (Value.builtin "list.append") [Value.ref _, _]) _ _ _); refine' append_K ?k1 ?k2 ?k3 ?_ ?z; (case k1 => k_asm); (case k2 => k_asm); (case k3 => k_upd); (case z => size_fits); k_whole); intro h' F' N'; (try simp only [List.push_toArray] at N'); (try k_sweep)))
local macro_rules | `(tactic| walk_at "call ref") => `(tactic| (k_dflt (k_extra "call ref")))
local macro_rules | `(tactic| walk_at "exec For Name Call cons nil") => `(tactic| (k_here; kst_has; (rename Fr _ _ _ _ => lF'); (with_unfolding_all refine' For_invVF lF' ?k1 ?k2 ?_; (case k1 => exact rfl); (case k2 => exact rfl); k_whole)))
local macro_rules | `(tactic| walk_at "exec For Name Subscript cons nil") => `(tactic| (k_here; kst_has; (rename Fr _ _ _ _ => lF'); (with_unfolding_all refine' For_invVF lF' ?k1 ?k2 ?_; (case k1 => exact rfl); (case k2 => exact rfl); k_whole)))
local macro_rules | `(tactic| walk_at "subscriptTail") => `(tactic| k_dflt (k_extra "subscriptTail"))
local macro_rules | `(tactic| mul_fits) => `(tactic| first | exact mulR (by assumption) | exact mulL (by assumption) | exact mulLn (by assumption) | fail "mul_fits: none of ours")
local macro_rules | `(tactic| walk_at "exec For Tuple Call cons nil") => `(tactic| (k_here; (rename Fr _ _ _ _ => lF'); (with_unfolding_all refine' For_turns lF' ?_; k_whole)))
local macro_rules | `(tactic| k_room) => `(tactic| ktr_room)
local macro_rules | `(tactic| k_units) => `(tactic| ktr_units)
local macro_rules | `(tactic| walk_at "callWith ref") => `(tactic| (k_here; kco_here; k_dflt (refine' kcoKW ?k1 ?k2 ?k3 ?k4 ?k5 ?_; (case k1 => k_in); (case k2 => k_inst); (case k3 => rfl); (case k4 => k_is); (case k5 => exact rfl); k_whole)))
local macro_rules | `(tactic| ktr_unf) => `(tactic| k_dflt (first
  | (refine' code_def ?k1 ?k2 ?k3 ?k4 ?k5 ?kA ?kF ?kK ?k6 ?k7 ?k8 ?k9 ?kB ?_ ?c2 ?c3 ?c4 ?c5; (case kA => exact rfl); (case kF => exact rfl); (case kK => assumption); (case k1 => k_asm); (case k2 => k_asm); (case k3 => k_asm); (case k4 => k_asm); (case k5 => k_asm); (case k6 => k_is); (case k7 => k_is); (case k8 => ktr_room); (case k9 => first | exact BindsTo.of_eq rfl | exact binds_K (by k_in) rfl (by k_is) rfl rfl rfl | fail "k_enter: no rule for these arguments"); (case c5 => decide); (case kB => exact locs rfl); (case c2 => exact rfl); (case c3 => exact rfl); (case c4 => exact rfl); k_whole; intro g' L' h' FG' F' N' B' X' T'; (try dsimp only); (try k_lift B'); (try k_fold))
  | (refine' code_defC ?k1 ?k2 ?k3 ?k4 ?k5 ?kA ?kF ?kK ?k6 ?k7 ?k8 ?k9 ?kB ?kD ?_ ?c2 ?c3 ?c4; (case kA => exact rfl); (case kF => exact rfl); (case kK => assumption); (case k1 => k_asm); (case k2 => k_asm); (case k3 => k_asm); (case k4 => k_asm); (case k5 => k_asm); (case k6 => k_is); (case k7 => k_is); (case k8 => ktr_room); (case k9 => first | exact BindsTo.of_eq rfl | exact binds_K (by k_in) rfl (by k_is) rfl rfl rfl | fail "k_enter: no rule for these arguments"); (case kB => exact rfl); (case kD => decide +kernel); (case c2 => exact rfl); (case c3 => exact rfl); (case c4 => exact rfl); k_whole; intro g' L' h' tk' cells' FG' F' N' Y' B' X' T' l1; (try k_lt l1); k_cells Y'; (try simp only [List.cons_append, List.nil_append] at N'); (try dsimp only); (try k_lift B'); (try k_fold))))
local macro_rules | `(tactic| walk_at "call builtin:len") => `(tactic| (k_here; (with_reducible show wpAny _ _ (call (Value.builtin "len") [Value.ref _]) _ _ _); k_dflt (refine' kst_len ?k1 ?k2 ?k3 ?k4 ?_; (case k1 => k_asm); (case k2 => first | with_reducible assumption | k_mem); (case k3 => exact IntsAre.length (by assumption)); (case k4 => omega); k_whole)))
local macro_rules | `(tactic| k_mem) => `(tactic| (k_dflt assumption))
local macro_rules | `(tactic| walk_at "exec While Compare cons nil") => `(tactic| (k_dflt (k_extra "exec While Compare cons nil")))
local macro_rules | `(tactic| walk_at "subscriptTail Name Slice ref ref") => `(tactic| (k_here; (with_reducible show wpAny _ _ (subscriptTail _ (PySem.Expr.Slice none none none _) (Value.ref _) (Value.ref _)) _ _ _); k_dflt (refine' slice_cp ?F ?N ?l ?z ?_ ?s ?t; (case F => k_asm); (case N => k_asm); (case l => k_mem); (case s => with_unfolding_all rfl); (case t => intro _; with_unfolding_all rfl); (case z => rw [IntsAre.length (by assumption), sizeLine_eq]; omega)); intro D' h' F' N' l1; (try k_lt l1); (try k_sweep)))
local macro_rules | `(tactic| walk_at "subscriptTail Attribute Slice ref ref") => `(tactic| (k_here; (with_reducible show wpAny _ _ (subscriptTail _ (PySem.Expr.Slice none none none _) (Value.ref _) (Value.ref _)) _ _ _); k_dflt (refine' slice_cp ?F ?N ?l ?z ?_ ?s ?t; (case F => k_asm); (case N => k_asm); (case l => k_mem); (case s => with_unfolding_all rfl); (case t => intro _; with_unfolding_all rfl); (case z => rw [IntsAre.length (by assumption), sizeLine_eq]; omega)); intro D' h' F' N' l1; (try k_lt l1); (try k_sweep)))
local macro_rules | `(tactic| walk_at "getMethod ref") => `(tactic| (k_here; (with_reducible show wpAny _ _ (getMethod (Value.ref _) (PySem.Str.ofString "parent") _) _ _ _); k_dflt (refine' kmu_own ?k1 ?k2 ?k3 ?k4 ?k5 ?_; (case k1 => k_asm); (case k2 => k_asm); (case k3 => k_inst); (case k4 => k_is); (case k5 => k_is); k_whole)))
local macro_rules | `(tactic| walk_at "eval Name") => `(tactic| (k_here; k_dflt (refine' nameX_L ?F ?v ?_ ?a ?b; (case F => k_asm); (case a => first | rfl | assumption); (case b => rfl); (case v => rfl); k_whole)))
theorem off_r {D a : Addr} {o : Obj} {led : Led} (h : LCg.Off1 D led) (hm : (a, o) ∈ led) : @Ne Nat a D := off1_mem h _ hm
theorem off_l {D a : Addr} {o : Obj} {led : Led} (h : LCg.Off1 D led) (hm : (a, o) ∈ led) : @Ne Nat D a := Ne.symm (off1_mem h _ hm)
theorem lt6 {a b c d e f : Addr × Obj} {r : Led} {x : Addr} (h : ∀ q ∈ a :: b :: c :: d :: e :: f :: r, q.1 < x) : @LT.lt Nat _ a.1 x ∧ @LT.lt Nat _ b.1 x ∧ @LT.lt Nat _ c.1 x ∧ @LT.lt Nat _ d.1 x ∧ @LT.lt Nat _ e.1 x ∧ @LT.lt Nat _ f.1 x :=
  ⟨h _ (.head _), h _ (.tail _ (.head _)), h _ (.tail _ (.tail _ (.head _))), h _ (.tail _ (.tail _ (.tail _ (.head _)))), h _ (.tail _ (.tail _ (.tail _ (.tail _ (.head _))))), h _ (.tail _ (.tail _ (.tail _ (.tail _ (.tail _ (.head _))))))⟩
local macro_rules | `(tactic| walk_at "FinE") => `(tactic| ((unfold LCg.FinE); intro D' h' tk' F' N' o1'; (try simp only [List.nil_append, List.cons_append] at N'); (try dsimp only)))
local macro_rules | `(tactic| walk_at "FinA") => `(tactic| ((unfold LCg.FinA); intro D' h' tk' F' N' o1'; (try simp only [List.nil_append, List.cons_append] at N'); (try dsimp only)))
local macro_rules | `(tactic| k_ne) => `(tactic| (refine neN ?_; (try dsimp only); first | exact off_r (by with_reducible assumption) (by kcf_m) | exact off_l (by with_reducible assumption) (by kcf_m) | omega))
local macro_rules | `(tactic| k_lt $h:ident) => `(tactic| first | (replace $h := lt6 $h; dsimp only at $h:ident) | (replace $h := allLt_of $h; simp only [AllLt, and_true] at $h:ident))
local macro_rules | `(tactic| walk_at "callWith ref") => `(tactic| (k_here; k_dflt (first
  | (refine' callWith_K ?k1 ?k2 ?_; (case k1 => k_asm); (case k2 => k_is); k_whole)
  | (refine' callWith_K0 ?k1 ?k2 ?_; (case k1 => first | with_reducible assumption | exact Frag.In.keeps (by with_reducible assumption) (Fr.keep (by with_reducible assumption))); (case k2 => k_is); k_whole))))
local macro_rules | `(tactic| walk_at "callWith ref") => `(tactic| (k_here; kco_here; k_dflt (first | (refine' kco_callWith0 ?k1 ?k2 ?k3 ?k4 ?_; (case k1 => k_in); (case k2 => k_inst); (case k3 => rfl); (case k4 => k_is); k_whole; try dsimp only [List.nil_append, List.cons_append]) | (refine' kco_callWith ?k1 ?k2 ?k3 ?k4 ?_; (case k1 => k_in); (case k2 => k_inst); (case k3 => rfl); (case k4 => k_is); k_whole) | (refine' kcoKW ?k1 ?k2 ?k3 ?k4 ?k5 ?_; (case k1 => k_in); (case k2 => k_inst); (case k3 => rfl); (case k4 => k_is); (case k5 => exact rfl); k_whole))))
local macro_rules | `(tactic| walk_at "eval Call") => `(tactic| (k_here; (with_reducible show wpAny _ _ (eval (PySem.Expr.Call (PySem.Expr.Name (PySem.Str.ofString "_law_at") _) _ _ _) _) _ _ _); k_dflt (refine Call_ ?_)))
local macro_rules | `(tactic| walk_at "call ref") => `(tactic| ((with_reducible show wpAny _ _ (call (Value.ref 578) _ _) _ _ _); k_dflt (refine' at_spec ?B ?F ?X ?N ?T ?hk ?hd ?hu ?hsc ?hi ?hl ?hp ?hp2 ?_; (case B => k_asm); (case F => k_asm); (case X => k_asm); (case N => k_asm); (case T => k_asm); (case hk => first | exact rfl | assumption); (case hd => ktr_room); (case hu => ktr_units); (case hsc => with_reducible assumption); (case hi => with_reducible assumption); (case hl => omega); (case hp => decide); (case hp2 => decide); intro t h' tk' F' N'; (try dsimp only); (try k_sweep))))
local macro_rules | `(tactic| walk_at "CompSrc") => `(tactic| k_dflt (k_extra "CompSrc"))
local macro_rules | `(tactic| walk_at "call ref") => `(tactic| k_dflt (k_extra "call ref"))
local macro_rules | `(tactic| walk_at "binaryOp Mult int ref") => `(tactic| ((with_reducible show wpAny _ _ (binaryOp Operator.Mult (Value.int _ _) (Value.ref _)) _ _ _); (k_here; k_dflt (refine' binop_intR ?F ?X ?I ?hc ?hs ?hr ?hf ?hsub ?_; (case F => k_asm); (case X => k_asm); (case I => k_inst); (case hc => k_is); (case hs => k_is); (case hr => k_is); (case hf => k_is); (case hsub => k_is); k_whole))))
local macro_rules | `(tactic| walk_at "eval ListComp") => `(tactic| k_dflt (k_extra "eval ListComp"))
local macro_rules | `(tactic| walk_at "call builtin:abs") => `(tactic| k_dflt (k_extra "call builtin:abs"))
def maskL {α : Type} : List Bool → List α → List α
  | true :: bs, x :: xs => x :: maskL bs xs
  | false :: bs, _ :: xs => maskL bs xs
  | _, l => l
theorem maskL_mem {α : Type} {p : α} : ∀ (bs : List Bool) (l : List α), p ∈ maskL bs l → p ∈ l
  | [], l, h => by cases l <;> exact h
  | true :: bs, x :: xs, h => by
    rcases List.mem_cons.mp h with rfl | h
    · exact List.mem_cons_self
    · exact List.mem_cons_of_mem _ (maskL_mem bs xs h)
  | false :: bs, x :: xs, h => List.mem_cons_of_mem _ (maskL_mem bs xs h)
  | true :: bs, [], h => h
  | false :: bs, [], h => h
theorem newsMask {h₀ h : Heap} {L : Addr} {news : List (Addr × Obj)} (bs : List Bool) (N : News h₀ L h news) : News h₀ L h (maskL bs news) := fun p hp => N p (maskL_mem bs news hp)
theorem mulA {a b : Int} (h : ∀ z : Int, IntMulOk z b) : IntMulOk a b := h a
theorem consLt (o : Obj) {led : Led} {a b : Addr} (h : ∀ q ∈ led, q.1 < b) (h2 : a < b) : ∀ q ∈ (a, o) :: led, q.1 < b := fun q hq => by
  rcases List.mem_cons.mp hq with rfl | hq
  · exact h2
  · exact h q hq
theorem lt2 {a b : Addr × Obj} {x : Addr} (h : ∀ q ∈ [a, b], q.1 < x) : @LT.lt Nat _ a.1 x ∧ @LT.lt Nat _ b.1 x := ⟨h _ (.head _), h _ (.tail _ (.head _))⟩
theorem off1_lt {D : Addr} {l : Led} (h : ∀ q ∈ l, q.1 < D) : LCg.Off1 D l := off1_of fun q hq => Nat.ne_of_lt (h q hq)
theorem ltc (o : Obj) {led : Led} {a b : Addr} (h : ∀ q ∈ led, q.1 < a) (h2 : a < b) : ∀ q ∈ (a, o) :: led, q.1 < b := fun q hq => by
  rcases List.mem_cons.mp hq with rfl | hq
  · exact h2
  · exact Nat.lt_trans (h q hq) h2
local macro_rules | `(tactic| k_mem) => `(tactic| (with_reducible (repeat (first | exact List.mem_cons_self | refine List.mem_cons_of_mem _ ?_)); done))
local macro_rules | `(tactic| k_ne) => `(tactic| (refine neN ?_; (try dsimp only); first | exact off_r (by with_reducible assumption) (by with_reducible (repeat (first | exact List.mem_cons_self | refine List.mem_cons_of_mem _ ?_))) | exact off_l (by with_reducible assumption) (by with_reducible (repeat (first | exact List.mem_cons_self | refine List.mem_cons_of_mem _ ?_))) | omega))
local macro_rules | `(tactic| k_lt $h:ident) => `(tactic| first | (replace $h := lt2 $h; dsimp only at $h:ident) | (replace $h := off1_lt $h))
local macro_rules | `(tactic| walk_at "eval Name") => `(tactic| (k_here; (with_reducible show wpAny _ _ (eval (PySem.Expr.Name _ _) (envOfC _ _ _ _ _)) _ _ _); k_dflt (first
  | (refine' nameX_L ?F ?v ?_ ?a ?b; (case a => rfl); (case b => kernel_rfl!); (case F => k_asm); (case v => rfl); k_whole)
  | (refine' nameX_K ?F ?X ?T ?e ?_ ?a ?b; (case a => rfl); (case b => kernel_rfl!); (case F => k_asm); (case X => k_asm); (case T => k_asm); (case e => k_is); k_whole)
  | (refine' nameX_B ?F ?X ?T ?e ?v ?n ?_ ?a ?b; (case a => rfl); (case b => kernel_rfl!); (case F => k_asm); (case X => k_asm); (case T => k_asm); (case e => k_is); (case v => boot_fast); (case n => decide); k_whole)
  | (refine' nameX_C ?N ?c ?m ?d ?_ ?a ?b; (case a => rfl); (case b => kernel_rfl!); (case N => k_asm); (case c => rfl); (case m => k_mem); (case d => k_asm); k_whole))))
local macro_rules | `(tactic| walk_at "storeName") => `(tactic| (k_here; (with_reducible show wpAny _ _ (storeName (envOfC _ _ _ _ _) _ _) _ _ _); k_dflt (first
  | (refine' storeX_L ?F ?N ?_ ?a ?b; (case a => rfl); (case b => kernel_rfl!); (case F => k_asm); (case N => k_asm); k_whole; intro h' F' N'; (try k_sweep))
  | (refine' storeX_C ?F ?N ?c ?U ?d ?_ ?a ?b; (case a => rfl); (case b => kernel_rfl!); (case F => k_asm); (case N => k_asm); (case c => rfl); (case U => k_updF); (case d => k_asm); k_whole; intro h' o' F' N' d'; (try dsimp only at N'); (try k_sweep)))))
local macro_rules | `(tactic| mul_fits) => `(tactic| first | with_reducible assumption | exact mulA (by with_reducible assumption))
local macro_rules | `(tactic| k_in) => `(tactic| first | with_reducible assumption | exact Frag.In.keeps (by with_reducible assumption) (Fr.keep (by with_reducible assumption)))
/-- a premise that no tactic takes by itself -/
structure Kept (P : Prop) : Prop where
  out : P
/-- G, from what is left to prove -/
structure One (G : Prop) where
  P : Prop
  k : Kept P → G
structure Two (G : Prop) where
  P : Prop
  Q : Prop
  k : Kept P → Kept Q → G
structure Three (G : Prop) where
  P : Prop
  Q : Prop
  R : Prop
  k : Kept P → Kept Q → Kept R → G
set_option maxRecDepth 100000 in
set_option maxHeartbeats 8000000 in
noncomputable def stA : One PySem.Challenge.rw_oo0012_03.Holds := by
  refine' ⟨_, fun hk => ?main⟩
  case main => exact Ntt.hd (by
    w_on
    k_with_none
    k_with "CompSrc" => refine Hold.out ?_
    k_with "call type:zip" => refine Hold.out ?_
    k_with "pyIter ref" => refine Hold.out ?_
    k_with "call ref" => ((first | (with_reducible show wpAny _ _ (call (Value.ref 369) _ _) _ _ _) | (with_reducible show wpAny _ _ (call (Value.ref 599) _ _) _ _ _) | (with_reducible show wpAny _ _ (call (Value.ref 611) _ _) _ _ _) | (with_reducible show wpAny _ _ (call (Value.ref 606) _ _) _ _ _) | (with_reducible show wpAny _ _ (call (Value.ref 392) _ _) _ _ _) | (with_reducible show wpAny _ _ (call (Value.ref 535) _ _) _ _ _) | (with_reducible show wpAny _ _ (call (Value.ref 566) _ _) _ _ _) | (with_reducible show wpAny _ _ (call (Value.ref 554) _ _) _ _ _) | (with_reducible show wpAny _ _ (call (Value.ref 561) _ _) _ _ _) | (with_reducible show wpAny _ _ (call (Value.ref 191) _ _) _ _ _) | (with_reducible show wpAny _ _ (call (Value.ref 592) _ _) _ _ _) | (with_reducible show wpAny _ _ (call (Value.ref 618) _ _) _ _ _) | (with_reducible show wpAny _ _ (call (Value.ref 625) _ _) _ _ _) | (with_reducible show wpAny _ _ (call (Value.ref 630) _ _) _ _ _) | (with_reducible show wpAny _ _ (call (Value.ref 637) _ _) _ _ _)); refine Hold.out ?_)
    w_strict (k_go0; (all_goals try k_fold); k_steps)
    rename_i w5 w4 w3 w2 w1 w0 w9 X0 X' T' K' F' lf1 cd1 cd2 N' l0
    with_reducible rename Flt.MathXP _ _ _ => zX
    with_reducible rename LooseAre _ _ _ => zV
    with_reducible rename Tables _ _ _ _ => zB
    with_reducible rename TopE _ _ _ _ => zTE
    with_reducible rename TopW _ _ _ => zTW
    clear zX zV zB zTE zTW
    replace w2 : _ = Data.cell none := w2
    replace w1 : _ = Data.cell none := w1
    replace w0 : _ = Data.cell none := w0
    replace w9 : _ = Data.cell none := w9
    replace X0 : _ = Data.cell none := X0
    replace X' : _ = Data.cell none := X'
    rename_i ka0 ka1 ka2 ka3 ka4 ka5 ka6 ka7 ka8 ka9 ka10 ka11 ka12 ka13 ka14 ka15 ka16 ka17 ka18 ka19 ka20 ka21 ka22 ka23 ka24 ka25 ka26 ka27 ka28 ka29 ka30 ka31 ka32 ka33 ka34 ka35 ka36 ka37 ka38 ka39 ka40
    clear ka5 ka6 ka13 hT8 ka15 hT9 ka17 ka18 ka19 ka20 ka21 ka22 ka23 ka26 ka27 ka28 ka29 ka30 ka32 ka34 ka35 T'
    refine ⟨?_⟩
    refine' ringnew_spec ?aB ?aF ?aX ?aN ?aT ?ahk ?ahd ?ahu ?aret
    (case aB => k_asm)
    (case aF => k_asm)
    (case aX => k_asm)
    (case aN => k_asm)
    (case aT => k_asm)
    (case ahk => first | exact rfl | assumption)
    (case ahd => ktr_room)
    (case ahu => first | (simp only [units_deeper, units_caller, cLine]; done) | (simp only [units_deeper, units_caller, cLine]; decide) | ktr_units)
    intro ring dring k1 k2 k3 k4 k5 k6 k7 k8 sh1 sh2 zl tq tn tf zits zc h9 tk9 F9 N9 hz9 lr1 lr2 lz1 lz2 lz3
    (try dsimp only)
    replace lr2 := off1_lt (ltc (tabObj #[]) lr1 lr2)
    replace lr1 := off1_lt lr1
    have lz4 : LCg.Off1 zl ((ring, instObj 369 dring) :: (dring, instObj 369 dring) :: _) := ⟨lz2, lz3, off1_of lz1⟩
    clear lz1 lz2 lz3
    obtain ⟨zs, hzs, ⟨hzl, hzsm⟩, hzi⟩ := ints_hide (fun zs => zs.length = 256 ∧ SmallL zs) hz9 ⟨zetas_len, zetas_small⟩
    clear hz9
    k_steps
    refine ⟨?_⟩
    refine' powers_spec ?bB ?bF ?bX ?bN ?bT ?bhk ?bhd ?bhu ?bret
    (case bB => k_asm)
    (case bF => k_asm)
    (case bX => k_asm)
    (case bN => k_asm)
    (case bT => k_asm)
    (case bhk => first | exact rfl | assumption)
    (case bhd => ktr_room)
    (case bhu => first | (simp only [units_deeper, units_caller, cLine]; done) | (simp only [units_deeper, units_caller, cLine]; decide) | ktr_units)
    intro lpw pits pc h10 tk10 F10 N10 lpw1 hpi
    (try dsimp only)
    (try k_lt lpw1)
    obtain ⟨ps, hps, ⟨hpl, hpsm⟩, hpi'⟩ := ints_hide (fun zs => zs.length = 512 ∧ SmallL zs) hpi ⟨pwL_len 511, pwL_small⟩
    clear hpi
    k_steps
    refine ⟨?_⟩
    refine' numbers_spec ?cB ?cF ?cX ?cN ?cT ?chk ?chd ?chu ?csc ?ci ?cl ?cret
    (case cB => k_asm)
    (case cF => k_asm)
    (case cX => k_asm)
    (case cN => k_asm)
    (case cT => k_asm)
    (case chk => first | exact rfl | assumption)
    (case chd => ktr_room)
    (case chu => first | (simp only [units_deeper, units_caller, cLine]; done) | (simp only [units_deeper, units_caller, cLine]; decide) | ktr_units)
    (case csc => assumption)
    (case ci => assumption)
    (case cl => omega)
    intro lnu nits nc h11 tk11 F11 N11 lnu1 hni
    (try dsimp only)
    replace lnu1 := off1_of lnu1
    obtain ⟨ns, hns, ⟨hnl, hnsm⟩, hni'⟩ := ints_hide (fun zs => zs.length = 256 ∧ SmallL zs) hni ⟨numF_len _, numF_small _⟩
    clear hni
    k_with "call ref" => ((with_reducible show wpAny _ _ (call (Value.ref ring) _ _) _ _ _); refine Hold.out ?_)
    clear ka36 ka37 cd1 N' h9 tk9 F9 N9 h10 tk10 F10 N10
    revert ka0 ka1 ka2 ka3 ka4 ka7 ka8 ka9 ka10 ka11 ka12 ka14 ka16 ka24 ka25 ka31 ka33 ka38 ka39 ka40 w5 w4 w3 K' F' lf1 lifted cd2 codeHd l0 w2 w1 w0 w9 X0 X' ring dring k1 k2 k3 k4 k5 k6 k7 k8 sh1 sh2 zl tq tn tf zits zc lr2 lr1 lz4 zs hzs hzi hzl hzsm lpw pits pc lpw1 ps hps hpi' hpl hpsm lnu nits nc h11 tk11 F11 N11 lnu1 ns hns hni' hnl hnsm
    exact hk.out)

set_option maxRecDepth 100000 in
set_option maxHeartbeats 8000000 in
noncomputable def stB : Two (stA.P) := by
  refine' ⟨_, _, fun hkA hkB => ?main⟩
  case main =>
    intro ka0 ka1 ka2 ka3 ka4 ka7 ka8 ka9 ka10 ka11 ka12 ka14 ka16 ka24 ka25 ka31 ka33 ka38 ka39 ka40 w5 w4 w3 K' F' lf1 lifted cd2 codeHd l0 w2 w1 w0 w9 X0 X' ring dring k1 k2 k3 k4 k5 k6 k7 k8 sh1 sh2 zl tq tn tf zits zc lr2 lr1 lz4 zs hzs hzi hzl hzsm lpw pits pc lpw1 ps hps hpi' hpl hpsm lnu nits nc h11 tk11 F11 N11 lnu1 ns hns hni' hnl hnsm
    w_on
    (have hK9 := K'); revert hK9; k_fill; intro hK9; clear hK9
    k_with_none
    k_with "CompSrc" => refine Hold.out ?_
    k_with "call type:zip" => refine Hold.out ?_
    k_with "pyIter ref" => refine Hold.out ?_
    k_with "call ref" => ((first | (with_reducible show wpAny _ _ (call (Value.ref 369) _ _) _ _ _) | (with_reducible show wpAny _ _ (call (Value.ref 599) _ _) _ _ _) | (with_reducible show wpAny _ _ (call (Value.ref 611) _ _) _ _ _) | (with_reducible show wpAny _ _ (call (Value.ref 606) _ _) _ _ _) | (with_reducible show wpAny _ _ (call (Value.ref 392) _ _) _ _ _) | (with_reducible show wpAny _ _ (call (Value.ref 535) _ _) _ _ _) | (with_reducible show wpAny _ _ (call (Value.ref 566) _ _) _ _ _) | (with_reducible show wpAny _ _ (call (Value.ref 554) _ _) _ _ _) | (with_reducible show wpAny _ _ (call (Value.ref 561) _ _) _ _ _) | (with_reducible show wpAny _ _ (call (Value.ref 191) _ _) _ _ _) | (with_reducible show wpAny _ _ (call (Value.ref 592) _ _) _ _ _) | (with_reducible show wpAny _ _ (call (Value.ref 618) _ _) _ _ _) | (with_reducible show wpAny _ _ (call (Value.ref 625) _ _) _ _ _) | (with_reducible show wpAny _ _ (call (Value.ref 630) _ _) _ _ _) | (with_reducible show wpAny _ _ (call (Value.ref 637) _ _) _ _ _)); refine Hold.out ?_)
    k_with "call ref" => ((with_reducible show wpAny _ _ (call (Value.ref ring) _ _) _ _ _); refine Hold.out ?_)
    k_steps
    · refine ⟨?_⟩
      rename_i kc0 kc1 kc2 kc3 kc4 kc5 kc6 kc7 kc8 kc9 kc10 kc11 kc12 kc13 kc14 kc15 kc16 kc17 kc18 kc19 kc20 kc21 kc22 kc23 kc24 kc25 kc26 kc27 kc28 kc29 kc30 kc31 kc32 kc33 kc34 kc35 kc36 kc37 kc38 kc39 kc40
      clear h11 tk11 kc1 kc3 kc4 kc5 kc8 kc11 kc12 kc13 kc15 kc16 kc17 kc18 kc20 kc23 kc26 kc29 kc31 kc32 kc33 kc34 tk
      revert ka0 ka1 ka2 ka3 ka4 ka7 ka8 ka9 ka10 ka11 ka12 ka14 ka16 ka24 ka25 ka31 ka33 ka38 ka39 ka40 w5 w4 w3 K' F' lf1 lifted cd2 codeHd l0 w2 w1 w0 w9 X0 X' ring dring k1 k2 k3 k4 k5 k6 k7 k8 sh1 sh2 zl tq tn tf zits zc lr2 lr1 lz4 zs hzs hzi hzl hzsm lpw pits pc lpw1 ps hps hpi' hpl hpsm lnu nits nc lnu1 ns hns hni' hnl hnsm kc0 kc2 kc6 kc7 kc9 kc10 kc14 kc19 kc21 kc22 kc24 kc25 kc27 kc28 kc30 kc35 kc36 kc37 kc38 kc39 kc40
      exact hkA.out
    · refine ⟨?_⟩
      rename_i kd0 kd1 kd2 kd3 kd4 kd5 kd6 kd7 kd8 kd9 kd10 kd11 kd12 kd13 kd14 kd15 kd16 kd17 kd18 kd19 kd20 kd21 kd22 kd23 kd24 kd25 kd26 kd27 kd28 kd29 kd30 kd31 kd32 kd33 kd34 kd35 kd36 kd37 kd38 kd39 kd40
      clear h11 tk11 kd1 kd3 kd4 kd5 kd8 kd11 kd12 kd13 kd15 kd16 kd17 kd18 kd20 kd23 kd26 kd29 kd31 kd32 kd34
      revert ka0 ka1 ka2 ka3 ka4 ka7 ka8 ka9 ka10 ka11 ka12 ka14 ka16 ka24 ka25 ka31 ka33 ka38 ka39 ka40 w5 w4 w3 K' F' lf1 lifted cd2 codeHd l0 w2 w1 w0 w9 X0 X' ring dring k1 k2 k3 k4 k5 k6 k7 k8 sh1 sh2 zl tq tn tf zits zc lr2 lr1 lz4 zs hzs hzi hzl hzsm lpw pits pc lpw1 ps hps hpi' hpl hpsm lnu nits nc lnu1 ns hns hni' hnl hnsm kd0 kd2 kd6 kd7 kd9 kd10 kd14 kd19 kd21 kd22 kd24 kd25 kd27 kd28 kd30 kd33 kd35 tk kd36 kd37 kd38 kd39 kd40
      exact hkB.out


set_option maxRecDepth 100000 in
set_option maxHeartbeats 8000000 in
noncomputable def stC : Three (stB.Q) := by
  refine' ⟨_, _, _, fun hkA hkB hkC => ?main⟩
  case main =>
    intro ka0 ka1 ka2 ka3 ka4 ka7 ka8 ka9 ka10 ka11 ka12 ka14 ka16 ka24 ka25 ka31 ka33 ka38 ka39 ka40 w5 w4 w3 K' F' lf1 lifted cd2 codeHd l0 w2 w1 w0 w9 X0 X' ring dring k1 k2 k3 k4 k5 k6 k7 k8 sh1 sh2 zl tq tn tf zits zc lr2 lr1 lz4 zs hzs hzi hzl hzsm lpw pits pc lpw1 ps hps hpi' hpl hpsm lnu nits nc lnu1 ns hns hni' hnl hnsm kd0 kd2 kd6 kd7 kd9 kd10 kd14 kd19 kd21 kd22 kd24 kd25 kd27 kd28 kd30 kd33 kd35 tk kd36 kd37 kd38 kd39 kd40
    w_on
    (have hK9 := K'); revert hK9; k_fill; intro hK9; clear hK9
    k_with_none
    k_with "CompSrc" => refine Hold.out ?_
    k_with "call type:zip" => refine Hold.out ?_
    k_with "pyIter ref" => refine Hold.out ?_
    k_with "call ref" => ((first | (with_reducible show wpAny _ _ (call (Value.ref 369) _ _) _ _ _) | (with_reducible show wpAny _ _ (call (Value.ref 599) _ _) _ _ _) | (with_reducible show wpAny _ _ (call (Value.ref 611) _ _) _ _ _) | (with_reducible show wpAny _ _ (call (Value.ref 606) _ _) _ _ _) | (with_reducible show wpAny _ _ (call (Value.ref 392) _ _) _ _ _) | (with_reducible show wpAny _ _ (call (Value.ref 535) _ _) _ _ _) | (with_reducible show wpAny _ _ (call (Value.ref 566) _ _) _ _ _) | (with_reducible show wpAny _ _ (call (Value.ref 554) _ _) _ _ _) | (with_reducible show wpAny _ _ (call (Value.ref 561) _ _) _ _ _) | (with_reducible show wpAny _ _ (call (Value.ref 191) _ _) _ _ _) | (with_reducible show wpAny _ _ (call (Value.ref 592) _ _) _ _ _) | (with_reducible show wpAny _ _ (call (Value.ref 618) _ _) _ _ _) | (with_reducible show wpAny _ _ (call (Value.ref 625) _ _) _ _ _) | (with_reducible show wpAny _ _ (call (Value.ref 630) _ _) _ _ _) | (with_reducible show wpAny _ _ (call (Value.ref 637) _ _) _ _ _)); refine Hold.out ?_)
    k_with "call ref" => ((with_reducible show wpAny _ _ (call (Value.ref ring) _ _) _ _ _); refine Hold.out ?_)
    refine' ringcallN_spec ?rmB ?rmF ?rmX ?rmN ?rmT ?rmhk ?rmhd ?rmhu ?rmm1 ?rmm2 ?rmm3 ?rmi3 ?rml3 ?rmhret
    (case rmB => k_asm)
    (case rmF => k_asm)
    (case rmX => k_asm)
    (case rmN => k_asm)
    (case rmT => k_asm)
    (case rmhk => first | exact rfl | assumption)
    (case rmhd => ktr_room)
    (case rmhu => first | (simp only [units_deeper, units_caller, cLine]; done) | (simp only [units_deeper, units_caller, cLine]; decide) | ktr_units | (simp only [units_in1, units_deeper, units_under_tc]; ktr_units))
    (case rmm1 => k_mem)
    (case rmm2 => k_mem)
    (case rmm3 => k_mem)
    (case rmi3 => with_reducible assumption)
    (case rml3 => with_reducible assumption)
    intro xrm drm urm vrm hrm tkrm Frm Nrm larm lbrm
    (try dsimp only)
    replace lbrm := off1_lt (ltc (tabObj #[]) larm lbrm)
    replace larm := off1_lt larm
    k_steps
    refine ⟨?_⟩
    refine' tontt_spec ?d_B ?d_F ?d_X ?d_N ?d_T ?d_hk ?d_hd ?d_hu ?d_m1 ?d_m2 ?d_m3 ?d_i3 ?d_l3 ?d_m4 ?d_m5 ?d_m6 ?d_i6 ?d_l6 ?d_s6 ?d_hret
    (case d_B => k_asm)
    (case d_F => k_asm)
    (case d_X => k_asm)
    (case d_N => k_asm)
    (case d_T => k_asm)
    (case d_hk => first | exact rfl | assumption)
    (case d_hd => ktr_room)
    (case d_hu => first | (simp only [units_deeper, units_caller, cLine]; done) | (simp only [units_deeper, units_caller, cLine]; decide) | ktr_units | (simp only [units_in1, units_deeper, units_under_tc]; ktr_units))
    (case d_m4 => k_mem)
    (case d_m5 => k_mem)
    (case d_m1 => k_mem)
    (case d_m2 => k_mem)
    (case d_m3 => k_mem)
    (case d_m6 => k_mem)
    (case d_i3 => with_reducible assumption)
    (case d_l3 => with_reducible assumption)
    (case d_i6 => with_reducible assumption)
    (case d_l6 => with_reducible assumption)
    (case d_s6 => with_reducible assumption)
    intro fo dfo lfo fits fc q1 q2 h12 tk12 F12 N12 lfo1 lfo2 lfo3 hfi
    (try dsimp only)
    replace lfo3 := off1_lt (ltc (tabObj #[]) (ltc (tabObj #[]) lfo1 lfo2) lfo3)
    replace lfo2 := off1_lt (ltc (tabObj #[]) lfo1 lfo2)
    replace lfo1 := off1_lt lfo1
    obtain ⟨fs, hfs, ⟨hfl, hfsm, hfb⟩, hfi'⟩ := ints_hide (fun zs => zs.length = 256 ∧ SmallL zs ∧ Hold (∀ x ∈ zs, 0 ≤ x ∧ x < 8380417)) hfi (by rw [hzs.out]; exact ⟨form_len _ hnl, form_small _ hnl, ⟨form_bnd _ hnl⟩⟩)
    clear hfi
    k_steps
    refine ⟨?_⟩
    refine LCg.CompSrc.ledger (by rfl) (by k_asm) (by k_asm) (by k_mem) (by first | size_fits | exact Nat.le_of_ble_eq_true rfl | (rw [sizeLine_eq, List.size_toArray, IntsAre.length (IntsAre.cons _ _ (IntsAre.cons _ _ IntsAre.nil)), hnl]; decide)) ?_
    intro g'
    refine' kcf_list (fun p => fs.getD p.toNat 0) (IntsAre.cons _ _ (IntsAre.cons _ _ IntsAre.nil)) (fun k' t' I' oI' C' oC' D' m' ys' h' tk' E' hk' hC' hx' F' N' off' ne' hMark' => ?_) ?_
    (all_goals (try simp only [LCg.Off3, and_true] at off'))
    kcf_last
    · have hkb := named_bnd hk'
      have hkc := hkb.1
      have hkd := hkb.2
      k_steps
      all_goals exact kcf_el rfl rfl rfl
    k_steps
    refine ⟨?_⟩
    refine LCg.CompSrc.ledger (by rfl) (by k_asm) (by k_asm) (by k_mem) (by first | size_fits | exact Nat.le_of_ble_eq_true rfl | (rw [sizeLine_eq, List.size_toArray, IntsAre.length (IntsAre.cons _ _ (IntsAre.cons _ _ IntsAre.nil)), hnl]; decide)) ?_
    intro g'
    refine' kcf_list (fun p => fs.getD p.toNat 0) (IntsAre.cons _ _ (IntsAre.cons _ _ IntsAre.nil)) (fun k' t' I' oI' C' oC' D' m' ys' h' tk' E' hk' hC' hx' F' N' off' ne' hMark' => ?_) ?_
    (all_goals (try simp only [LCg.Off3, and_true] at off'))
    kcf_last
    · have hkb := named_bnd hk'
      have hw : (worthF ps ns (2 * tnF k' 8 + 1) 256).fmod 8380417 = fs.getD k'.toNat 0 := by
        have := ntt_worth ns hnl (p := k'.toNat) (by omega)
        rw [show ((k'.toNat : Nat) : Int) = k' by omega, ← hzs.out, ← hfs.out, ← hps.out] at this
        exact this.symm
      k_steps
      refine ⟨?_⟩
      refine' worth_spec ?f_B ?f_F ?f_X ?f_N ?f_T ?f_hk ?f_hd ?f_hu ?f_m1 ?f_i1 ?f_l1 ?f_s1 ?f_m2 ?f_i2 ?f_l2 ?f_hret
      (case f_B => k_asm)
      (case f_F => k_asm)
      (case f_X => k_asm)
      (case f_N => k_asm)
      (case f_T => k_asm)
      (case f_hk => first | exact rfl | assumption)
      (case f_hd => ktr_room)
      (case f_hu => first | (simp only [units_deeper, units_caller, cLine]; done) | (simp only [units_deeper, units_caller, cLine]; decide) | ktr_units | (simp only [units_in1, units_deeper, units_under_tc]; ktr_units))
      (case f_m1 => k_mem)
      (case f_m2 => k_mem)
      (case f_i1 => with_reducible assumption)
      (case f_l1 => with_reducible assumption)
      (case f_s1 => with_reducible assumption)
      (case f_i2 => with_reducible assumption)
      (case f_l2 => with_reducible assumption)
      intro t9 h9 tk9 F9 N9
      (try dsimp only)
      rw [hw]
      k_steps
      all_goals exact kcf_el rfl rfl rfl
    k_steps

    · refine ⟨?_⟩
      rename_i ke0 ke1 ke2 ke3 ke4 ke5 ke6 ke7 ke8 ke9 ke10 ke11 ke12 ke13 ke14 ke15 ke16 ke17 ke18 ke19 ke20 ke21 ke22 ke23 ke24 ke25
      clear kd33 ke0 kd37 hrm tkrm ke1 ke2 h12 tk12 ke3 ke6 ke7 ke12 ke13 ke14 ke15 g' ke21
      revert ka0 ka1 ka2 ka3 ka4 ka7 ka8 ka9 ka10 ka11 ka12 ka14 ka16 ka24 ka25 ka31 ka33 ka38 ka39 ka40 w5 w4 w3 K' F' lf1 lifted cd2 codeHd l0 w2 w1 w0 w9 X0 X' ring dring k1 k2 k3 k4 k5 k6 k7 k8 sh1 sh2 zl tq tn tf zits zc lr2 lr1 lz4 zs hzs hzi hzl hzsm lpw pits pc lpw1 ps hps hpi' hpl hpsm lnu nits nc lnu1 ns hns hni' hnl hnsm kd0 kd2 kd6 kd7 kd9 kd10 kd14 kd19 kd21 kd22 kd24 kd25 kd27 kd28 kd30 kd35 kd36 kd40 xrm drm urm vrm lbrm larm fo dfo lfo fits fc q1 q2 lfo3 lfo2 lfo1 fs hfs hfi' hfl hfsm hfb ke4 ke5 ke8 ke9 ke10 ke11 ke16 ys ke17 ke18 ke19 ke20 ke22 ke23 ke24 ke25 tk
      exact hkA.out
    · refine ⟨?_⟩
      rename_i kf0 kf1 kf2 kf3 kf4 kf5 kf6 kf7 kf8 kf9 kf10 kf11 kf12 kf13 kf14 kf15 kf16 kf17 kf18 kf19 kf20 kf21 kf22 kf23 kf24 kf25 kf26 kf27
      clear kd33 kf0 kd37 hrm tkrm kf1 kf2 h12 tk12 kf3 kf6 kf7 kf12 kf13 kf14 kf15 g' kf21 kf26
      revert ka0 ka1 ka2 ka3 ka4 ka7 ka8 ka9 ka10 ka11 ka12 ka14 ka16 ka24 ka25 ka31 ka33 ka38 ka39 ka40 w5 w4 w3 K' F' lf1 lifted cd2 codeHd l0 w2 w1 w0 w9 X0 X' ring dring k1 k2 k3 k4 k5 k6 k7 k8 sh1 sh2 zl tq tn tf zits zc lr2 lr1 lz4 zs hzs hzi hzl hzsm lpw pits pc lpw1 ps hps hpi' hpl hpsm lnu nits nc lnu1 ns hns hni' hnl hnsm kd0 kd2 kd6 kd7 kd9 kd10 kd14 kd19 kd21 kd22 kd24 kd25 kd27 kd28 kd30 kd35 kd36 kd40 xrm drm urm vrm lbrm larm fo dfo lfo fits fc q1 q2 lfo3 lfo2 lfo1 fs hfs hfi' hfl hfsm hfb kf4 kf5 kf8 kf9 kf10 kf11 kf16 ys kf17 kf18 kf19 kf20 kf22 kf23 kf24 kf25 kf27 tk
      exact hkB.out
    · refine ⟨?_⟩
      rename_i kg0 kg1 kg2 kg3 kg4 kg5 kg6 kg7 kg8 kg9 kg10 kg11 kg12 kg13 kg14 kg15 kg16 kg17 kg18 kg19 kg20 kg21 kg22 kg23 kg24 kg25 kg26 kg27 kg28 kg29 kg30 kg31 kg32 kg33 kg34 kg35 kg36 kg37 kg38
      clear kd33 kg0 kd37 hrm tkrm kg1 kg2 h12 tk12 kg3 kg6 kg7 kg12 kg13 g' kg18 kg19 kg22 kg26 kg27 kg38
      revert ka0 ka1 ka2 ka3 ka4 ka7 ka8 ka9 ka10 ka11 ka12 ka14 ka16 ka24 ka25 ka31 ka33 ka38 ka39 ka40 w5 w4 w3 K' F' lf1 lifted cd2 codeHd l0 w2 w1 w0 w9 X0 X' ring dring k1 k2 k3 k4 k5 k6 k7 k8 sh1 sh2 zl tq tn tf zits zc lr2 lr1 lz4 zs hzs hzi hzl hzsm lpw pits pc lpw1 ps hps hpi' hpl hpsm lnu nits nc lnu1 ns hns hni' hnl hnsm kd0 kd2 kd6 kd7 kd9 kd10 kd14 kd19 kd21 kd22 kd24 kd25 kd27 kd28 kd30 kd35 kd36 kd40 xrm drm urm vrm lbrm larm fo dfo lfo fits fc q1 q2 lfo3 lfo2 lfo1 fs hfs hfi' hfl hfsm hfb kg4 kg5 kg8 kg9 kg10 kg11 kg14 ys kg15 kg16 kg17 kg20 kg21 kg23 tk kg24 kg25 kg28 kg29 kg30 kg31 kg32 kg33 kg34 kg35 kg36 kg37
      exact hkC.out


set_option maxRecDepth 100000 in
set_option maxHeartbeats 8000000 in
noncomputable def stD : One (stC.R) := by
  refine' ⟨_, fun hk => ?main⟩
  case main =>
    intro ka0 ka1 ka2 ka3 ka4 ka7 ka8 ka9 ka10 ka11 ka12 ka14 ka16 ka24 ka25 ka31 ka33 ka38 ka39 ka40 w5 w4 w3 K' F' lf1 lifted cd2 codeHd l0 w2 w1 w0 w9 X0 X' ring dring k1 k2 k3 k4 k5 k6 k7 k8 sh1 sh2 zl tq tn tf zits zc lr2 lr1 lz4 zs hzs hzi hzl hzsm lpw pits pc lpw1 ps hps hpi' hpl hpsm lnu nits nc lnu1 ns hns hni' hnl hnsm kd0 kd2 kd6 kd7 kd9 kd10 kd14 kd19 kd21 kd22 kd24 kd25 kd27 kd28 kd30 kd35 kd36 kd40 xrm drm urm vrm lbrm larm fo dfo lfo fits fc q1 q2 lfo3 lfo2 lfo1 fs hfs hfi' hfl hfsm hfb kg4 kg5 kg8 kg9 kg10 kg11 kg14 ys kg15 kg16 kg17 kg20 kg21 kg23 tk kg24 kg25 kg28 kg29 kg30 kg31 kg32 kg33 kg34 kg35 kg36 kg37
    w_on
    (have hK9 := K'); revert hK9; k_fill; intro hK9; clear hK9
    k_with_none
    k_with "CompSrc" => refine Hold.out ?_
    k_with "call type:zip" => refine Hold.out ?_
    k_with "pyIter ref" => refine Hold.out ?_
    k_with "call ref" => ((first | (with_reducible show wpAny _ _ (call (Value.ref 369) _ _) _ _ _) | (with_reducible show wpAny _ _ (call (Value.ref 599) _ _) _ _ _) | (with_reducible show wpAny _ _ (call (Value.ref 611) _ _) _ _ _) | (with_reducible show wpAny _ _ (call (Value.ref 606) _ _) _ _ _) | (with_reducible show wpAny _ _ (call (Value.ref 392) _ _) _ _ _) | (with_reducible show wpAny _ _ (call (Value.ref 535) _ _) _ _ _) | (with_reducible show wpAny _ _ (call (Value.ref 566) _ _) _ _ _) | (with_reducible show wpAny _ _ (call (Value.ref 554) _ _) _ _ _) | (with_reducible show wpAny _ _ (call (Value.ref 561) _ _) _ _ _) | (with_reducible show wpAny _ _ (call (Value.ref 191) _ _) _ _ _) | (with_reducible show wpAny _ _ (call (Value.ref 592) _ _) _ _ _) | (with_reducible show wpAny _ _ (call (Value.ref 618) _ _) _ _ _) | (with_reducible show wpAny _ _ (call (Value.ref 625) _ _) _ _ _) | (with_reducible show wpAny _ _ (call (Value.ref 630) _ _) _ _ _) | (with_reducible show wpAny _ _ (call (Value.ref 637) _ _) _ _ _)); refine Hold.out ?_)
    k_with "call ref" => ((with_reducible show wpAny _ _ (call (Value.ref ring) _ _) _ _ _); refine Hold.out ?_)
    refine LCg.CompSrc.range (n := 256) (by rfl) (by k_asm) (by k_asm) (by assumption) (by decide) (by rfl) (by rw [sizeLine_eq]; decide) ?_
    intro g'
    refine' kcf_range (fun _ => 0) (fun k' t' I' oI' C' oC' D' m' ys' h' tk' E' hlo' hhi' hC' hx' F' N' off' ne' hMark' => ?_) ?_
    (all_goals (try simp only [LCg.Off3, and_true] at off'))
    kcf_last
    · k_steps
    unfold KPfDone
    intro ys hys
    obtain ⟨rs, hrs, hrl, hri⟩ := ints_hide (fun zs => zs.length = 256) hys (by rw [List.length_map, rangeKs_length])
    clear hys
    k_steps
    refine ⟨?_⟩
    k_with_none
    k_with "CompSrc" => refine Hold.out ?_
    k_with "call type:zip" => refine Hold.out ?_
    k_with "call ref" => ((first | (with_reducible show wpAny _ _ (call (Value.ref 369) _ _) _ _ _) | (with_reducible show wpAny _ _ (call (Value.ref 599) _ _) _ _ _) | (with_reducible show wpAny _ _ (call (Value.ref 611) _ _) _ _ _) | (with_reducible show wpAny _ _ (call (Value.ref 606) _ _) _ _ _) | (with_reducible show wpAny _ _ (call (Value.ref 392) _ _) _ _ _) | (with_reducible show wpAny _ _ (call (Value.ref 535) _ _) _ _ _) | (with_reducible show wpAny _ _ (call (Value.ref 566) _ _) _ _ _) | (with_reducible show wpAny _ _ (call (Value.ref 554) _ _) _ _ _) | (with_reducible show wpAny _ _ (call (Value.ref 561) _ _) _ _ _) | (with_reducible show wpAny _ _ (call (Value.ref 191) _ _) _ _ _) | (with_reducible show wpAny _ _ (call (Value.ref 592) _ _) _ _ _) | (with_reducible show wpAny _ _ (call (Value.ref 618) _ _) _ _ _) | (with_reducible show wpAny _ _ (call (Value.ref 625) _ _) _ _ _) | (with_reducible show wpAny _ _ (call (Value.ref 630) _ _) _ _ _) | (with_reducible show wpAny _ _ (call (Value.ref 637) _ _) _ _ _)); refine Hold.out ?_)
    k_with "call ref" => ((with_reducible show wpAny _ _ (call (Value.ref ring) _ _) _ _ _); refine Hold.out ?_)
    k_with "call builtin:abs" => refine Hold.out ?_
    k_steps
    refine ⟨?_⟩
    with_reducible rename Fr _ _ _ _ => lFA
    refine num_hide lFA (fun nA hnA FA => ?_)
    clear lFA
    k_with_none
    walk1
    k_with_none
    k_with "CompSrc" => refine Hold.out ?_
    k_with "call type:zip" => refine Hold.out ?_
    k_with "call ref" => ((first | (with_reducible show wpAny _ _ (call (Value.ref 369) _ _) _ _ _) | (with_reducible show wpAny _ _ (call (Value.ref 599) _ _) _ _ _) | (with_reducible show wpAny _ _ (call (Value.ref 611) _ _) _ _ _) | (with_reducible show wpAny _ _ (call (Value.ref 606) _ _) _ _ _) | (with_reducible show wpAny _ _ (call (Value.ref 392) _ _) _ _ _) | (with_reducible show wpAny _ _ (call (Value.ref 535) _ _) _ _ _) | (with_reducible show wpAny _ _ (call (Value.ref 566) _ _) _ _ _) | (with_reducible show wpAny _ _ (call (Value.ref 554) _ _) _ _ _) | (with_reducible show wpAny _ _ (call (Value.ref 561) _ _) _ _ _) | (with_reducible show wpAny _ _ (call (Value.ref 191) _ _) _ _ _) | (with_reducible show wpAny _ _ (call (Value.ref 592) _ _) _ _ _) | (with_reducible show wpAny _ _ (call (Value.ref 618) _ _) _ _ _) | (with_reducible show wpAny _ _ (call (Value.ref 625) _ _) _ _ _) | (with_reducible show wpAny _ _ (call (Value.ref 630) _ _) _ _ _) | (with_reducible show wpAny _ _ (call (Value.ref 637) _ _) _ _ _)); refine Hold.out ?_)
    k_with "call ref" => ((with_reducible show wpAny _ _ (call (Value.ref ring) _ _) _ _ _); refine Hold.out ?_)
    k_with "call builtin:abs" => refine Hold.out ?_
    k_steps
    refine ⟨?_⟩
    with_reducible rename Fr _ _ _ _ => lFB
    refine num_hide lFB (fun nB hnB FB => ?_)
    clear lFB
    k_with_none
    walk1
    k_with_none
    k_with "CompSrc" => refine Hold.out ?_
    k_with "call type:zip" => refine Hold.out ?_
    k_with "call ref" => ((first | (with_reducible show wpAny _ _ (call (Value.ref 369) _ _) _ _ _) | (with_reducible show wpAny _ _ (call (Value.ref 599) _ _) _ _ _) | (with_reducible show wpAny _ _ (call (Value.ref 611) _ _) _ _ _) | (with_reducible show wpAny _ _ (call (Value.ref 606) _ _) _ _ _) | (with_reducible show wpAny _ _ (call (Value.ref 392) _ _) _ _ _) | (with_reducible show wpAny _ _ (call (Value.ref 535) _ _) _ _ _) | (with_reducible show wpAny _ _ (call (Value.ref 566) _ _) _ _ _) | (with_reducible show wpAny _ _ (call (Value.ref 554) _ _) _ _ _) | (with_reducible show wpAny _ _ (call (Value.ref 561) _ _) _ _ _) | (with_reducible show wpAny _ _ (call (Value.ref 191) _ _) _ _ _) | (with_reducible show wpAny _ _ (call (Value.ref 592) _ _) _ _ _) | (with_reducible show wpAny _ _ (call (Value.ref 618) _ _) _ _ _) | (with_reducible show wpAny _ _ (call (Value.ref 625) _ _) _ _ _) | (with_reducible show wpAny _ _ (call (Value.ref 630) _ _) _ _ _) | (with_reducible show wpAny _ _ (call (Value.ref 637) _ _) _ _ _)); refine Hold.out ?_)
    k_with "call ref" => ((with_reducible show wpAny _ _ (call (Value.ref ring) _ _) _ _ _); refine Hold.out ?_)
    k_with "call builtin:abs" => refine Hold.out ?_
    k_steps
    refine ⟨?_⟩
    with_reducible rename Fr _ _ _ _ => lFC
    refine num_hide lFC (fun nC hnC FC => ?_)
    clear lFC
    k_with_none
    walk1
    k_with_none
    k_with "CompSrc" => refine Hold.out ?_
    k_with "call type:zip" => refine Hold.out ?_
    k_with "call ref" => ((first | (with_reducible show wpAny _ _ (call (Value.ref 369) _ _) _ _ _) | (with_reducible show wpAny _ _ (call (Value.ref 599) _ _) _ _ _) | (with_reducible show wpAny _ _ (call (Value.ref 611) _ _) _ _ _) | (with_reducible show wpAny _ _ (call (Value.ref 606) _ _) _ _ _) | (with_reducible show wpAny _ _ (call (Value.ref 392) _ _) _ _ _) | (with_reducible show wpAny _ _ (call (Value.ref 535) _ _) _ _ _) | (with_reducible show wpAny _ _ (call (Value.ref 566) _ _) _ _ _) | (with_reducible show wpAny _ _ (call (Value.ref 554) _ _) _ _ _) | (with_reducible show wpAny _ _ (call (Value.ref 561) _ _) _ _ _) | (with_reducible show wpAny _ _ (call (Value.ref 191) _ _) _ _ _) | (with_reducible show wpAny _ _ (call (Value.ref 592) _ _) _ _ _) | (with_reducible show wpAny _ _ (call (Value.ref 618) _ _) _ _ _) | (with_reducible show wpAny _ _ (call (Value.ref 625) _ _) _ _ _) | (with_reducible show wpAny _ _ (call (Value.ref 630) _ _) _ _ _) | (with_reducible show wpAny _ _ (call (Value.ref 637) _ _) _ _ _)); refine Hold.out ?_)
    k_with "call ref" => ((with_reducible show wpAny _ _ (call (Value.ref ring) _ _) _ _ _); refine Hold.out ?_)
    rename_i kh0 kh1 kh2 kh3 kh4 kh5 kh6 kh7 kh8 kh9 kh10 kh11 kh12 kh13 kh14 kh15 kh16 kh17 kh18 kh19 kh20 kh21 kh22 kh23 kh24 kh25 kh26 kh27 kh28 kh29 kh30 kh31 kh32 kh33 kh34 kh35 kh36 kh37 kh38 kh39 kh40 kh41 kh42 kh43 kh44 kh45 kh46 kh47 kh48 kh49 kh50 kh51 kh52 kh53 kh54 kh55 kh56 kh57 kh58 kh59 kh60 kh61 kh62 kh63 kh64 kh65 kh66 kh67
    clear kh1 kg25 kg30 kg31 kg32 kg33 kg34 kg35 g' kh4 kh5 kh8 kh10 kh11 kh12 kh13 kh17 kh18 kh19 kh20 kh21 kh25 kh26 kh27 kh28 kh30 kh31 kh32 kh33 kh34 kh37 kh39 kh41 kh42 kh43 kh44 kh46 kh47 kh48 kh49 kh50 kh53 kh55 kh59 kh60 kh62 kh63
    revert ka0 ka1 ka2 ka3 ka4 ka7 ka8 ka9 ka10 ka11 ka12 ka14 ka16 ka24 ka25 ka31 ka33 ka38 ka39 ka40 w5 w4 w3 K' F' lf1 lifted cd2 codeHd l0 w2 w1 w0 w9 X0 X' ring dring k1 k2 k3 k4 k5 k6 k7 k8 sh1 sh2 zl tq tn tf zits zc lr2 lr1 lz4 zs hzs hzi hzl hzsm lpw pits pc lpw1 ps hps hpi' hpl hpsm lnu nits nc lnu1 ns hns hni' hnl hnsm kd0 kd2 kd6 kd7 kd9 kd10 kd14 kd19 kd21 kd22 kd24 kd25 kd27 kd28 kd30 kd35 kd36 kd40 xrm drm urm vrm lbrm larm fo dfo lfo fits fc q1 q2 lfo3 lfo2 lfo1 fs hfs hfi' hfl hfsm hfb kg4 kg5 kg8 kg9 kg10 kg11 kg14 kh0 kg15 kg16 kg17 kg20 kg21 kg23 kg24 kg28 kg29 ys rs hrs hrl kh2 kh3 kh6 kh7 kh9 kh14 kh15 kh16 kh22 kh23 kh24 kh29 nA hnA kh35 kh36 kh38 kh40 kh45 nB hnB kh51 kh52 kh54 kh56 kh57 kh58 kh61 kh64 kh65 tk nC hnC FC kh66 kh67
    exact hk.out


set_option maxRecDepth 100000 in
set_option maxHeartbeats 8000000 in
noncomputable def stE : One (stD.P) := by
  refine' ⟨_, fun hk => ?main⟩
  case main =>
    intro ka0 ka1 ka2 ka3 ka4 ka7 ka8 ka9 ka10 ka11 ka12 ka14 ka16 ka24 ka25 ka31 ka33 ka38 ka39 ka40 w5 w4 w3 K' F' lf1 lifted cd2 codeHd l0 w2 w1 w0 w9 X0 X' ring dring k1 k2 k3 k4 k5 k6 k7 k8 sh1 sh2 zl tq tn tf zits zc lr2 lr1 lz4 zs hzs hzi hzl hzsm lpw pits pc lpw1 ps hps hpi' hpl hpsm lnu nits nc lnu1 ns hns hni' hnl hnsm kd0 kd2 kd6 kd7 kd9 kd10 kd14 kd19 kd21 kd22 kd24 kd25 kd27 kd28 kd30 kd35 kd36 kd40 xrm drm urm vrm lbrm larm fo dfo lfo fits fc q1 q2 lfo3 lfo2 lfo1 fs hfs hfi' hfl hfsm hfb kg4 kg5 kg8 kg9 kg10 kg11 kg14 kh0 kg15 kg16 kg17 kg20 kg21 kg23 kg24 kg28 kg29 ys rs hrs hrl kh2 kh3 kh6 kh7 kh9 kh14 kh15 kh16 kh22 kh23 kh24 kh29 nA hnA kh35 kh36 kh38 kh40 kh45 nB hnB kh51 kh52 kh54 kh56 kh57 kh58 kh61 kh64 kh65 tk nC hnC FC kh66 kh67
    w_on
    (have hK9 := K'); revert hK9; k_fill; intro hK9; clear hK9
    k_with_none
    k_with "CompSrc" => refine Hold.out ?_
    k_with "call type:zip" => refine Hold.out ?_
    k_with "call ref" => ((first | (with_reducible show wpAny _ _ (call (Value.ref 369) _ _) _ _ _) | (with_reducible show wpAny _ _ (call (Value.ref 599) _ _) _ _ _) | (with_reducible show wpAny _ _ (call (Value.ref 611) _ _) _ _ _) | (with_reducible show wpAny _ _ (call (Value.ref 606) _ _) _ _ _) | (with_reducible show wpAny _ _ (call (Value.ref 392) _ _) _ _ _) | (with_reducible show wpAny _ _ (call (Value.ref 535) _ _) _ _ _) | (with_reducible show wpAny _ _ (call (Value.ref 566) _ _) _ _ _) | (with_reducible show wpAny _ _ (call (Value.ref 554) _ _) _ _ _) | (with_reducible show wpAny _ _ (call (Value.ref 561) _ _) _ _ _) | (with_reducible show wpAny _ _ (call (Value.ref 191) _ _) _ _ _) | (with_reducible show wpAny _ _ (call (Value.ref 592) _ _) _ _ _) | (with_reducible show wpAny _ _ (call (Value.ref 618) _ _) _ _ _) | (with_reducible show wpAny _ _ (call (Value.ref 625) _ _) _ _ _) | (with_reducible show wpAny _ _ (call (Value.ref 630) _ _) _ _ _) | (with_reducible show wpAny _ _ (call (Value.ref 637) _ _) _ _ _)); refine Hold.out ?_)
    k_with "call ref" => ((with_reducible show wpAny _ _ (call (Value.ref ring) _ _) _ _ _); refine Hold.out ?_)
    k_steps
    refine ⟨?_⟩
    with_reducible rename IntsAre _ (List.set _ _ _) => hrows
    obtain ⟨rw3, hrw3, hrw3l, hrw3i⟩ := ints_hide (fun zs => zs.length = 256) hrows (by simp only [List.length_set]; exact hrl)
    clear hrows
    rename_i ki0 ki1 ki2 ki3 ki4 ki5 ki6 ki7 ki8 ki9 ki10 ki11 ki12 ki13 ki14 ki15 ki16 ki17 ki18 ki19 ki20 ki21 ki22 ki23 ki24 ki25 ki26 ki27 ki28 ki29 ki30 ki31 ki32 ki33 ki34 ki35 ki36 ki37 ki38 ki39 ki40 ki41 ki42 ki43 ki44 ki45 ki46 ki47 ki48 ki49 ki50 ki51 ki52 ki53
    clear kh15 kh16 kh23 kh57 kh58 kh64 ki0 kh66 ki2 ki4 ki5 ki6 ki7 ki8 ki9 ki10 ki13 ki14 ki15 ki17 ki18 ki19 ki22 ki23 ki26 ki27 ki28 ki30 ki31 ki32 ki35 ki36 ki39 ki40 ki41 ki42 ki44 ki45 ki46 ki47
    revert ka0 ka1 ka2 ka3 ka4 ka7 ka8 ka9 ka10 ka11 ka12 ka14 ka16 ka24 ka25 ka31 ka33 ka38 ka39 ka40 w5 w4 w3 K' F' lf1 lifted cd2 codeHd l0 w2 w1 w0 w9 X0 X' ring dring k1 k2 k3 k4 k5 k6 k7 k8 sh1 sh2 zl tq tn tf zits zc lr2 lr1 lz4 zs hzs hzi hzl hzsm lpw pits pc lpw1 ps hps hpi' hpl hpsm lnu nits nc lnu1 ns hns hni' hnl hnsm kd0 kd2 kd6 kd7 kd9 kd10 kd14 kd19 kd21 kd22 kd24 kd25 kd27 kd28 kd30 kd35 kd36 kd40 xrm drm urm vrm lbrm larm fo dfo lfo fits fc q1 q2 lfo3 lfo2 lfo1 fs hfs hfi' hfl hfsm hfb kg4 kg5 kg8 kg9 kg10 kg11 kg14 kh0 kg15 kg16 kg17 kg20 kg21 kg23 kg24 kg28 kg29 ys rs hrs hrl kh2 kh3 kh6 kh7 kh9 kh14 kh22 kh24 kh29 nA hnA kh35 kh36 kh38 kh40 kh45 nB hnB kh51 kh52 kh54 kh56 kh61 nC hnC kh67 ki1 ki3 ki11 ki12 ki16 ki20 ki21 ki24 ki25 ki29 ki33 ki34 ki37 ki38 ki43 tk ki48 ki49 ki50 ki51 ki52 ki53 rw3 hrw3 hrw3l hrw3i
    exact hk.out


set_option maxRecDepth 100000 in
set_option maxHeartbeats 8000000 in
theorem way3_end : stE.P := by
  intro ka0 ka1 ka2 ka3 ka4 ka7 ka8 ka9 ka10 ka11 ka12 ka14 ka16 ka24 ka25 ka31 ka33 ka38 ka39 ka40 w5 w4 w3 K' F' lf1 lifted cd2 codeHd l0 w2 w1 w0 w9 X0 X' ring dring k1 k2 k3 k4 k5 k6 k7 k8 sh1 sh2 zl tq tn tf zits zc lr2 lr1 lz4 zs hzs hzi hzl hzsm lpw pits pc lpw1 ps hps hpi' hpl hpsm lnu nits nc lnu1 ns hns hni' hnl hnsm kd0 kd2 kd6 kd7 kd9 kd10 kd14 kd19 kd21 kd22 kd24 kd25 kd27 kd28 kd30 kd35 kd36 kd40 xrm drm urm vrm lbrm larm fo dfo lfo fits fc q1 q2 lfo3 lfo2 lfo1 fs hfs hfi' hfl hfsm hfb kg4 kg5 kg8 kg9 kg10 kg11 kg14 kh0 kg15 kg16 kg17 kg20 kg21 kg23 kg24 kg28 kg29 ys rs hrs hrl kh2 kh3 kh6 kh7 kh9 kh14 kh22 kh24 kh29 nA hnA kh35 kh36 kh38 kh40 kh45 nB hnB kh51 kh52 kh54 kh56 kh61 nC hnC kh67 ki1 ki3 ki11 ki12 ki16 ki20 ki21 ki24 ki25 ki29 ki33 ki34 ki37 ki38 ki43 tk ki48 ki49 ki50 ki51 ki52 ki53 rw3 hrw3 hrw3l hrw3i
  w_on
  (have hK9 := K'); revert hK9; k_fill; intro hK9; clear hK9
  k_with_none
  k_with "CompSrc" => refine Hold.out ?_
  k_with "call type:zip" => refine Hold.out ?_
  k_with "call ref" => ((first | (with_reducible show wpAny _ _ (call (Value.ref 369) _ _) _ _ _) | (with_reducible show wpAny _ _ (call (Value.ref 599) _ _) _ _ _) | (with_reducible show wpAny _ _ (call (Value.ref 611) _ _) _ _ _) | (with_reducible show wpAny _ _ (call (Value.ref 606) _ _) _ _ _) | (with_reducible show wpAny _ _ (call (Value.ref 392) _ _) _ _ _) | (with_reducible show wpAny _ _ (call (Value.ref 535) _ _) _ _ _) | (with_reducible show wpAny _ _ (call (Value.ref 566) _ _) _ _ _) | (with_reducible show wpAny _ _ (call (Value.ref 554) _ _) _ _ _) | (with_reducible show wpAny _ _ (call (Value.ref 561) _ _) _ _ _) | (with_reducible show wpAny _ _ (call (Value.ref 191) _ _) _ _ _) | (with_reducible show wpAny _ _ (call (Value.ref 592) _ _) _ _ _) | (with_reducible show wpAny _ _ (call (Value.ref 618) _ _) _ _ _) | (with_reducible show wpAny _ _ (call (Value.ref 625) _ _) _ _ _) | (with_reducible show wpAny _ _ (call (Value.ref 630) _ _) _ _ _) | (with_reducible show wpAny _ _ (call (Value.ref 637) _ _) _ _ _)); refine Hold.out ?_)
  k_with "call ref" => ((with_reducible show wpAny _ _ (call (Value.ref ring) _ _) _ _ _); refine Hold.out ?_)
  refine' ringcallN_spec ?zrB ?zrF ?zrX ?zrN ?zrT ?zrhk ?zrhd ?zrhu ?zrm1 ?zrm2 ?zrm3 ?zri3 ?zrl3 ?zrhret
  (case zrB => k_asm)
  (case zrF => k_asm)
  (case zrX => k_asm)
  (case zrN => k_asm)
  (case zrT => k_asm)
  (case zrhk => first | exact rfl | assumption)
  (case zrhd => ktr_room)
  (case zrhu => first | (simp only [units_deeper, units_caller, cLine]; done) | (simp only [units_deeper, units_caller, cLine]; decide) | ktr_units | (simp only [units_in1, units_deeper, units_under_tc]; ktr_units))
  (case zrm1 => k_mem)
  (case zrm2 => k_mem)
  (case zrm3 => k_mem)
  (case zri3 => with_reducible assumption)
  (case zrl3 => with_reducible assumption)
  intro xzr dzr uzr vzr hzr tkzr Fzr Nzr lazr lbzr
  (try dsimp only)
  replace lbzr := off1_lt (ltc (tabObj #[]) lazr lbzr)
  replace lazr := off1_lt lazr
  k_steps
  refine ⟨?_⟩
  refine' tontt_spec ?ztB ?ztF ?ztX ?ztN ?ztT ?zthk ?zthd ?zthu ?ztm1 ?ztm2 ?ztm3 ?zti3 ?ztl3 ?ztm4 ?ztm5 ?ztm6 ?zti6 ?ztl6 ?zts6 ?zthret
  (case ztB => k_asm)
  (case ztF => k_asm)
  (case ztX => k_asm)
  (case ztN => k_asm)
  (case ztT => k_asm)
  (case zthk => first | exact rfl | assumption)
  (case zthd => ktr_room)
  (case zthu => first | (simp only [units_deeper, units_caller, cLine]; done) | (simp only [units_deeper, units_caller, cLine]; decide) | ktr_units | (simp only [units_in1, units_deeper, units_under_tc]; ktr_units))
  (case ztm4 => k_mem)
  (case ztm5 => k_mem)
  (case ztm1 => k_mem)
  (case ztm2 => k_mem)
  (case ztm3 => k_mem)
  (case ztm6 => k_mem)
  (case zti3 => with_reducible assumption)
  (case ztl3 => with_reducible assumption)
  (case zti6 => with_reducible assumption)
  (case ztl6 => with_reducible assumption)
  (case zts6 => with_reducible assumption)
  intro go dgo lgo gits gc gq1 gq2 hzt tkzt Fzt Nzt lgo1 lgo2 lgo3 hgi
  (try dsimp only)
  replace lgo3 := off1_lt (ltc (tabObj #[]) (ltc (tabObj #[]) lgo1 lgo2) lgo3)
  replace lgo2 := off1_lt (ltc (tabObj #[]) lgo1 lgo2)
  replace lgo1 := off1_lt lgo1
  obtain ⟨gs, hgs, ⟨hgl, hgsm⟩, hgi'⟩ := ints_hide (fun zs => zs.length = 256 ∧ SmallL zs) hgi (by rw [hzs.out]; exact ⟨form_len _ hrw3l, form_small _ hrw3l⟩)
  clear hgi
  k_steps
  refine ⟨?_⟩
  refine' nmul_spec ?zmB ?zmF ?zmX ?zmN ?zmT ?zmhk ?zmhd ?zmhu ?zmm1 ?zmm2 ?zmm3 ?zmi3 ?zml3 ?zmm4 ?zmm5 ?zmm6 ?zmi6 ?zml6 ?zmm7 ?zmm8 ?zms3 ?zmhret
  (case zmB => k_asm)
  (case zmF => k_asm)
  (case zmX => k_asm)
  (case zmN => k_asm)
  (case zmT => k_asm)
  (case zmhk => first | exact rfl | assumption)
  (case zmhd => ktr_room)
  (case zmhu => first | (simp only [units_deeper, units_caller, cLine]; done) | (simp only [units_deeper, units_caller, cLine]; decide) | ktr_units | (simp only [units_in1, units_deeper, units_under_tc]; ktr_units))
  (case zmm4 => k_mem)
  (case zmm5 => k_mem)
  (case zmm7 => k_mem)
  (case zmm8 => k_mem)
  (case zmm1 => k_mem)
  (case zmm2 => k_mem)
  (case zmm3 => k_mem)
  (case zmm6 => k_mem)
  (case zmi3 => with_reducible assumption)
  (case zml3 => with_reducible assumption)
  (case zmi6 => with_reducible assumption)
  (case zml6 => with_reducible assumption)
  (case zms3 => with_reducible assumption)
  intro zzm dzm lzm izm czm uzm vzm hzm tkzm Fzm Nzm lazm lbzm lczm hizm
  (try dsimp only)
  (try dsimp only [PySem.W.CmpBack])
  replace lczm := off1_lt (ltc (tabObj #[]) (ltc (tabObj #[]) lazm lbzm) lczm)
  replace lbzm := off1_lt (ltc (tabObj #[]) lazm lbzm)
  replace lazm := off1_lt lazm
  k_steps
  refine ⟨?_⟩
  refine' fromntt_spec ?zfB ?zfF ?zfX ?zfN ?zfT ?zfhk ?zfhd ?zfhu ?zfm1 ?zfm2 ?zfm3 ?zfi3 ?zfl3 ?zfm4 ?zfm5 ?zfm6 ?zfi6 ?zfl6 ?zfs6 ?zfhret
  (case zfB => k_asm)
  (case zfF => k_asm)
  (case zfX => k_asm)
  (case zfN => k_asm)
  (case zfT => k_asm)
  (case zfhk => first | exact rfl | assumption)
  (case zfhd => ktr_room)
  (case zfhu => first | (simp only [units_deeper, units_caller, cLine]; done) | (simp only [units_deeper, units_caller, cLine]; decide) | ktr_units | (simp only [units_in1, units_deeper, units_under_tc]; ktr_units))
  (case zfm4 => k_mem)
  (case zfm5 => k_mem)
  (case zfm1 => k_mem)
  (case zfm2 => k_mem)
  (case zfm3 => k_mem)
  (case zfm6 => k_mem)
  (case zfi3 => with_reducible assumption)
  (case zfi6 => with_reducible assumption)
  (case zfl6 => with_reducible assumption)
  (case zfs6 => with_reducible assumption)
  (case zfl3 => rw [List.length_zipWith, hgl, hfl]; rfl)
  intro to dto lto tits tc q3 q4 h13 tk13 F13 N13 lto1 lto2 lto3 hti
  (try dsimp only)
  replace lto3 := off1_lt (ltc (tabObj #[]) (ltc (tabObj #[]) lto1 lto2) lto3)
  replace lto2 := off1_lt (ltc (tabObj #[]) lto1 lto2)
  replace lto1 := off1_lt lto1
  have hrows : rw3 = rwF (fewL nA nB nC) (List.replicate 256 0) (fewL nA nB nC).length := rows_ok hrs.out hrw3.out
  rw [hgs.out, hfs.out, hzs.out, way3 ns hnl (fewL nA nB nC) (few_ok (few_lt nA nB nC)) rw3 hrows] at hti
  clear hrows
  k_steps
  refine ⟨?_⟩
  refine' product_spec (Ts := [_, _, _]) (few := fewL nA nB nC) ?yB ?yF ?yX ?yN ?yT ?yhk ?yhd ?yhu ?ym1 ?yi1 ?yl1 ?ym2 ?yhT (few_lt nA nB nC) (few_small nA nB nC) ?yret
  (case yB => k_asm)
  (case yF => k_asm)
  (case yX => k_asm)
  (case yN => k_asm)
  (case yT => k_asm)
  (case yhk => first | exact rfl | assumption)
  (case yhd => ktr_room)
  (case yhu => first | (simp only [units_deeper, units_caller, cLine]; done) | (simp only [units_deeper, units_caller, cLine]; decide) | ktr_units | (simp only [units_in1, units_deeper, units_under_tc]; ktr_units))
  (case ym1 => k_mem)
  (case yi1 => with_reducible assumption)
  (case yl1 => with_reducible assumption)
  (case ym2 => kcf_m)
  (case yhT => exact tups3 (by kcf_m) (by kcf_m) (by kcf_m) rfl rfl rfl ⟨_, _, _, rfl⟩ ⟨_, _, _, rfl⟩ ⟨_, _, _, rfl⟩)
  intro ly yits yc hy tky Fy Ny ly1 hyi
  (try dsimp only)
  k_steps
  all_goals repeat' (first | (k_end; wrow_close) | walk1 | (dsimp only; walk1) | fail "no step")



set_option maxRecDepth 100000 in
set_option maxHeartbeats 8000000 in
theorem way2_end : stC.Q := by
  intro ka0 ka1 ka2 ka3 ka4 ka7 ka8 ka9 ka10 ka11 ka12 ka14 ka16 ka24 ka25 ka31 ka33 ka38 ka39 ka40 w5 w4 w3 K' F' lf1 lifted cd2 codeHd l0 w2 w1 w0 w9 X0 X' ring dring k1 k2 k3 k4 k5 k6 k7 k8 sh1 sh2 zl tq tn tf zits zc lr2 lr1 lz4 zs hzs hzi hzl hzsm lpw pits pc lpw1 ps hps hpi' hpl hpsm lnu nits nc lnu1 ns hns hni' hnl hnsm kd0 kd2 kd6 kd7 kd9 kd10 kd14 kd19 kd21 kd22 kd24 kd25 kd27 kd28 kd30 kd35 kd36 kd40 xrm drm urm vrm lbrm larm fo dfo lfo fits fc q1 q2 lfo3 lfo2 lfo1 fs hfs hfi' hfl hfsm hfb kf4 kf5 kf8 kf9 kf10 kf11 kf16 ys kf17 kf18 kf19 kf20 kf22 kf23 kf24 kf25 kf27 tk
  w_on
  (have hK9 := K'); revert hK9; k_fill; intro hK9; clear hK9
  k_with_none
  k_with "CompSrc" => refine Hold.out ?_
  k_with "call type:zip" => refine Hold.out ?_
  k_with "pyIter ref" => refine Hold.out ?_
  k_with "call ref" => ((first | (with_reducible show wpAny _ _ (call (Value.ref 369) _ _) _ _ _) | (with_reducible show wpAny _ _ (call (Value.ref 599) _ _) _ _ _) | (with_reducible show wpAny _ _ (call (Value.ref 611) _ _) _ _ _) | (with_reducible show wpAny _ _ (call (Value.ref 606) _ _) _ _ _) | (with_reducible show wpAny _ _ (call (Value.ref 392) _ _) _ _ _) | (with_reducible show wpAny _ _ (call (Value.ref 535) _ _) _ _ _) | (with_reducible show wpAny _ _ (call (Value.ref 566) _ _) _ _ _) | (with_reducible show wpAny _ _ (call (Value.ref 554) _ _) _ _ _) | (with_reducible show wpAny _ _ (call (Value.ref 561) _ _) _ _ _) | (with_reducible show wpAny _ _ (call (Value.ref 191) _ _) _ _ _) | (with_reducible show wpAny _ _ (call (Value.ref 592) _ _) _ _ _) | (with_reducible show wpAny _ _ (call (Value.ref 618) _ _) _ _ _) | (with_reducible show wpAny _ _ (call (Value.ref 625) _ _) _ _ _) | (with_reducible show wpAny _ _ (call (Value.ref 630) _ _) _ _ _) | (with_reducible show wpAny _ _ (call (Value.ref 637) _ _) _ _ _)); refine Hold.out ?_)
  k_with "call ref" => ((with_reducible show wpAny _ _ (call (Value.ref ring) _ _) _ _ _); refine Hold.out ?_)
  refine' fromntt_spec ?gB ?gF ?gX ?gN ?gT ?ghk ?ghd ?ghu ?gm1 ?gm2 ?gm3 ?gi3 ?gl3 ?gm4 ?gm5 ?gm6 ?gi6 ?gl6 ?gs6 ?gret
  (case gB => k_asm)
  (case gF => k_asm)
  (case gX => k_asm)
  (case gN => k_asm)
  (case gT => k_asm)
  (case ghk => first | exact rfl | assumption)
  (case ghd => ktr_room)
  (case ghu => ktr_units)
  (case gm4 => k_mem)
  (case gm5 => k_mem)
  (case gm1 => k_mem)
  (case gm2 => k_mem)
  (case gm3 => k_mem)
  (case gm6 => k_mem)
  (case gi3 => with_reducible assumption)
  (case gl3 => with_reducible assumption)
  (case gi6 => with_reducible assumption)
  (case gl6 => with_reducible assumption)
  (case gs6 => with_reducible assumption)
  intro to dto lto tits tc q3 q4 h13 tk13 F13 N13 lto1 lto2 lto3 hti
  (try dsimp only)
  replace lto3 := off1_lt (ltc (tabObj #[]) (ltc (tabObj #[]) lto1 lto2) lto3)
  replace lto2 := off1_lt (ltc (tabObj #[]) lto1 lto2)
  replace lto1 := off1_lt lto1
  rw [hfs.out, hzs.out, way2 ns hnl] at hti
  k_steps
  refine ⟨?_⟩
  refine LCg.CompSrc.ledger (by rfl) (by k_asm) (by k_asm) (by k_mem) (by rw [sizeLine_eq, List.size_toArray, IntsAre.length hni', hnl]; decide) ?_
  intro g'
  refine' kcf_list (fun x => x.fmod 8380417) hni' (fun k' t' I' oI' C' oC' D' m' ys' h' tk' E' hk' hC' hx' F' N' off' ne' hMark' => ?_) ?_
  (all_goals (try simp only [LCg.Off3, and_true] at off'))
  kcf_last
  k_steps
  all_goals repeat' (first | (k_end; wrow_close) | (k_unfold; (try dsimp only)) | walk1 | (dsimp only; walk1) | fail "no step")



set_option maxRecDepth 100000 in
set_option maxHeartbeats 8000000 in
theorem way0_end : stC.P := by
  intro ka0 ka1 ka2 ka3 ka4 ka7 ka8 ka9 ka10 ka11 ka12 ka14 ka16 ka24 ka25 ka31 ka33 ka38 ka39 ka40 w5 w4 w3 K' F' lf1 lifted cd2 codeHd l0 w2 w1 w0 w9 X0 X' ring dring k1 k2 k3 k4 k5 k6 k7 k8 sh1 sh2 zl tq tn tf zits zc lr2 lr1 lz4 zs hzs hzi hzl hzsm lpw pits pc lpw1 ps hps hpi' hpl hpsm lnu nits nc lnu1 ns hns hni' hnl hnsm kd0 kd2 kd6 kd7 kd9 kd10 kd14 kd19 kd21 kd22 kd24 kd25 kd27 kd28 kd30 kd35 kd36 kd40 xrm drm urm vrm lbrm larm fo dfo lfo fits fc q1 q2 lfo3 lfo2 lfo1 fs hfs hfi' hfl hfsm hfb ke4 ke5 ke8 ke9 ke10 ke11 ke16 ys ke17 ke18 ke19 ke20 ke22 ke23 ke24 ke25 tk
  w_on
  (have hK9 := K'); revert hK9; k_fill; intro hK9; clear hK9
  k_with_none
  k_with "CompSrc" => refine Hold.out ?_
  k_with "call type:zip" => refine Hold.out ?_
  k_with "pyIter ref" => refine Hold.out ?_
  k_with "call ref" => ((first | (with_reducible show wpAny _ _ (call (Value.ref 369) _ _) _ _ _) | (with_reducible show wpAny _ _ (call (Value.ref 599) _ _) _ _ _) | (with_reducible show wpAny _ _ (call (Value.ref 611) _ _) _ _ _) | (with_reducible show wpAny _ _ (call (Value.ref 606) _ _) _ _ _) | (with_reducible show wpAny _ _ (call (Value.ref 392) _ _) _ _ _) | (with_reducible show wpAny _ _ (call (Value.ref 535) _ _) _ _ _) | (with_reducible show wpAny _ _ (call (Value.ref 566) _ _) _ _ _) | (with_reducible show wpAny _ _ (call (Value.ref 554) _ _) _ _ _) | (with_reducible show wpAny _ _ (call (Value.ref 561) _ _) _ _ _) | (with_reducible show wpAny _ _ (call (Value.ref 191) _ _) _ _ _) | (with_reducible show wpAny _ _ (call (Value.ref 592) _ _) _ _ _) | (with_reducible show wpAny _ _ (call (Value.ref 618) _ _) _ _ _) | (with_reducible show wpAny _ _ (call (Value.ref 625) _ _) _ _ _) | (with_reducible show wpAny _ _ (call (Value.ref 630) _ _) _ _ _) | (with_reducible show wpAny _ _ (call (Value.ref 637) _ _) _ _ _)); refine Hold.out ?_)
  k_with "call ref" => ((with_reducible show wpAny _ _ (call (Value.ref ring) _ _) _ _ _); refine Hold.out ?_)
  refine' refusals_upd ?oB ?oF ?oX ?oN ?oT ?oXB ?oTB ?ohk ?oU ?oC ?ohd ?ohu ?om1 ?om2 ?om3 ?oi3 ?ol3 ?om4 ?om5 ?om6 ?oi6 ?ol6 ?om7 ?om8 ?oret
  (case oB => k_asm)
  (case oF => k_asm)
  (case oX => k_asm)
  (case oN => k_asm)
  (case oT => k_asm)
  (case oXB => k_asm)
  (case oTB => k_asm)
  (case ohk => first | exact rfl | assumption)
  (case ohd => ktr_room)
  (case ohu => first | (simp only [units_deeper, units_caller, cLine]; done) | (simp only [units_deeper, units_caller, cLine]; decide) | ktr_units)
  (case oU => k_updF)
  (case oC => k_asm)
  (case om4 => k_mem)
  (case om5 => k_mem)
  (case om7 => k_mem)
  (case om8 => k_mem)
  (case om1 => k_mem)
  (case om2 => k_mem)
  (case om3 => k_mem)
  (case om6 => k_mem)
  (case oi3 => with_reducible assumption)
  (case ol3 => with_reducible assumption)
  (case oi6 => with_reducible assumption)
  (case ol6 => with_reducible assumption)
  intro lto ps2 y1 y2 y3 y4 y5 y6 y7 yc h13 tk13 F13 N13 lt13
  (try dsimp only)
  (try dsimp only at N13 lt13)
  (try k_lt lt13)
  k_steps
  all_goals first
    | (exfalso; have hM9 := hfb.out _ (by with_reducible assumption); omega)
    | (exfalso; omega)
    | (have hM9 := hfb.out _ (by with_reducible assumption); rw [decide_eq_true hM9.2]; repeat' (first | (k_end; wrow_close) | walk1 | (dsimp only; walk1) | fail "no step"))
    | (repeat' (first | (k_end; wrow_close) | walk1 | (dsimp only; walk1) | fail "no step"))



set_option maxRecDepth 100000 in
set_option maxHeartbeats 8000000 in
noncomputable def stW0 : One (stB.P) := by
  refine' ⟨_, fun hk => ?main⟩
  case main =>
    intro ka0 ka1 ka2 ka3 ka4 ka7 ka8 ka9 ka10 ka11 ka12 ka14 ka16 ka24 ka25 ka31 ka33 ka38 ka39 ka40 w5 w4 w3 K' F' lf1 lifted cd2 codeHd l0 w2 w1 w0 w9 X0 X' ring dring k1 k2 k3 k4 k5 k6 k7 k8 sh1 sh2 zl tq tn tf zits zc lr2 lr1 lz4 zs hzs hzi hzl hzsm lpw pits pc lpw1 ps hps hpi' hpl hpsm lnu nits nc lnu1 ns hns hni' hnl hnsm kc0 kc2 kc6 kc7 kc9 kc10 kc14 kc19 kc21 kc22 kc24 kc25 kc27 kc28 kc30 kc35 kc36 kc37 kc38 kc39 kc40
    w_on
    (have hK9 := K'); revert hK9; k_fill; intro hK9; clear hK9
    k_with_none
    k_with "CompSrc" => refine Hold.out ?_
    k_with "call type:zip" => refine Hold.out ?_
    k_with "pyIter ref" => refine Hold.out ?_
    k_with "call ref" => ((first | (with_reducible show wpAny _ _ (call (Value.ref 369) _ _) _ _ _) | (with_reducible show wpAny _ _ (call (Value.ref 599) _ _) _ _ _) | (with_reducible show wpAny _ _ (call (Value.ref 611) _ _) _ _ _) | (with_reducible show wpAny _ _ (call (Value.ref 606) _ _) _ _ _) | (with_reducible show wpAny _ _ (call (Value.ref 392) _ _) _ _ _) | (with_reducible show wpAny _ _ (call (Value.ref 535) _ _) _ _ _) | (with_reducible show wpAny _ _ (call (Value.ref 566) _ _) _ _ _) | (with_reducible show wpAny _ _ (call (Value.ref 554) _ _) _ _ _) | (with_reducible show wpAny _ _ (call (Value.ref 561) _ _) _ _ _) | (with_reducible show wpAny _ _ (call (Value.ref 191) _ _) _ _ _) | (with_reducible show wpAny _ _ (call (Value.ref 592) _ _) _ _ _) | (with_reducible show wpAny _ _ (call (Value.ref 618) _ _) _ _ _) | (with_reducible show wpAny _ _ (call (Value.ref 625) _ _) _ _ _) | (with_reducible show wpAny _ _ (call (Value.ref 630) _ _) _ _ _) | (with_reducible show wpAny _ _ (call (Value.ref 637) _ _) _ _ _)); refine Hold.out ?_)
    k_with "call ref" => ((with_reducible show wpAny _ _ (call (Value.ref ring) _ _) _ _ _); refine Hold.out ?_)
    k_with "eval ListComp" => ((with_reducible show wpAny _ _ (eval (PySem.Expr.ListComp _ [⟨PySem.Expr.Tuple _ _ _, _, _, _⟩] _ _) _) _ _ _); refine Hold.out ?_)
    refine' digits_spec ?e_B ?e_F ?e_X ?e_N ?e_T ?e_hk ?e_hd ?e_hu ?e_hret
    (case e_B => k_asm)
    (case e_F => k_asm)
    (case e_X => k_asm)
    (case e_N => k_asm)
    (case e_T => k_asm)
    (case e_hk => first | exact rfl | assumption)
    (case e_hd => ktr_room)
    (case e_hu => first | (simp only [units_deeper, units_caller, cLine]; done) | (simp only [units_deeper, units_caller, cLine]; decide) | ktr_units | (simp only [units_in1, units_deeper, units_under_tc]; ktr_units))
    intro lot oits oc h12 tk12 F12 N12 lot1 hoi
    (try dsimp only)
    (try k_lt lot1)
    obtain ⟨os, hos, ⟨hol, hosm⟩, hoi'⟩ := ints_hide (fun zs => zs.length = 256 ∧ SmallL zs) hoi ⟨digs_len 256, small_of (digs_bnd 256)⟩
    clear hoi
    k_steps
    refine ⟨?_⟩
    rename_i km_d1_0 km_d1_1 km_d1_2 km_d1_3 km_d1_4 km_d1_5
    clear kc36 kc37 kc38 h12 tk12
    revert ka0 ka1 ka2 ka3 ka4 ka7 ka8 ka9 ka10 ka11 ka12 ka14 ka16 ka24 ka25 ka31 ka33 ka38 ka39 ka40 w5 w4 w3 K' F' lf1 lifted cd2 codeHd l0 w2 w1 w0 w9 X0 X' ring dring k1 k2 k3 k4 k5 k6 k7 k8 sh1 sh2 zl tq tn tf zits zc lr2 lr1 lz4 zs hzs hzi hzl hzsm lpw pits pc lpw1 ps hps hpi' hpl hpsm lnu nits nc lnu1 ns hns hni' hnl hnsm kc0 kc2 kc6 kc7 kc9 kc10 kc14 kc19 kc21 kc22 kc24 kc25 kc27 kc28 kc30 kc35 lot oits oc lot1 os hos hoi' hol hosm km_d1_0 tk km_d1_1 km_d1_2 km_d1_3 km_d1_4 km_d1_5
    exact hk.out


set_option maxRecDepth 100000 in
set_option maxHeartbeats 8000000 in
noncomputable def stW1 : One (stW0.P) := by
  refine' ⟨_, fun hk => ?main⟩
  case main =>
    intro ka0 ka1 ka2 ka3 ka4 ka7 ka8 ka9 ka10 ka11 ka12 ka14 ka16 ka24 ka25 ka31 ka33 ka38 ka39 ka40 w5 w4 w3 K' F' lf1 lifted cd2 codeHd l0 w2 w1 w0 w9 X0 X' ring dring k1 k2 k3 k4 k5 k6 k7 k8 sh1 sh2 zl tq tn tf zits zc lr2 lr1 lz4 zs hzs hzi hzl hzsm lpw pits pc lpw1 ps hps hpi' hpl hpsm lnu nits nc lnu1 ns hns hni' hnl hnsm kc0 kc2 kc6 kc7 kc9 kc10 kc14 kc19 kc21 kc22 kc24 kc25 kc27 kc28 kc30 kc35 lot oits oc lot1 os hos hoi' hol hosm km_d1_0 tk km_d1_1 km_d1_2 km_d1_3 km_d1_4 km_d1_5
    w_on
    (have hK9 := K'); revert hK9; k_fill; intro hK9; clear hK9
    k_with_none
    k_with "CompSrc" => refine Hold.out ?_
    k_with "call type:zip" => refine Hold.out ?_
    k_with "pyIter ref" => refine Hold.out ?_
    k_with "call ref" => ((first | (with_reducible show wpAny _ _ (call (Value.ref 369) _ _) _ _ _) | (with_reducible show wpAny _ _ (call (Value.ref 599) _ _) _ _ _) | (with_reducible show wpAny _ _ (call (Value.ref 611) _ _) _ _ _) | (with_reducible show wpAny _ _ (call (Value.ref 606) _ _) _ _ _) | (with_reducible show wpAny _ _ (call (Value.ref 392) _ _) _ _ _) | (with_reducible show wpAny _ _ (call (Value.ref 535) _ _) _ _ _) | (with_reducible show wpAny _ _ (call (Value.ref 566) _ _) _ _ _) | (with_reducible show wpAny _ _ (call (Value.ref 554) _ _) _ _ _) | (with_reducible show wpAny _ _ (call (Value.ref 561) _ _) _ _ _) | (with_reducible show wpAny _ _ (call (Value.ref 191) _ _) _ _ _) | (with_reducible show wpAny _ _ (call (Value.ref 592) _ _) _ _ _) | (with_reducible show wpAny _ _ (call (Value.ref 618) _ _) _ _ _) | (with_reducible show wpAny _ _ (call (Value.ref 625) _ _) _ _ _) | (with_reducible show wpAny _ _ (call (Value.ref 630) _ _) _ _ _) | (with_reducible show wpAny _ _ (call (Value.ref 637) _ _) _ _ _)); refine Hold.out ?_)
    k_with "call ref" => ((with_reducible show wpAny _ _ (call (Value.ref ring) _ _) _ _ _); refine Hold.out ?_)
    k_with "eval ListComp" => ((with_reducible show wpAny _ _ (eval (PySem.Expr.ListComp _ [⟨PySem.Expr.Tuple _ _ _, _, _, _⟩] _ _) _) _ _ _); refine Hold.out ?_)
    refine' ringcallT_spec ?raB ?raF ?raX ?raN ?raT ?rahk ?rahd ?rahu ?ram1 ?ram2 ?ram3 ?rai3 ?ral3 ?rahret
    (case raB => k_asm)
    (case raF => k_asm)
    (case raX => k_asm)
    (case raN => k_asm)
    (case raT => k_asm)
    (case rahk => first | exact rfl | assumption)
    (case rahd => ktr_room)
    (case rahu => first | (simp only [units_deeper, units_caller, cLine]; done) | (simp only [units_deeper, units_caller, cLine]; decide) | ktr_units | (simp only [units_in1, units_deeper, units_under_tc]; ktr_units))
    (case ram1 => k_mem)
    (case ram2 => k_mem)
    (case ram3 => k_mem)
    (case rai3 => with_reducible assumption)
    (case ral3 => with_reducible assumption)
    intro xra dra ura vra hra tkra Fra Nra lara lbra
    (try dsimp only)
    replace lbra := off1_lt (ltc (tabObj #[]) lara lbra)
    replace lara := off1_lt lara
    k_steps
    refine ⟨?_⟩
    refine' ringcallT_spec ?rbB ?rbF ?rbX ?rbN ?rbT ?rbhk ?rbhd ?rbhu ?rbm1 ?rbm2 ?rbm3 ?rbi3 ?rbl3 ?rbhret
    (case rbB => k_asm)
    (case rbF => k_asm)
    (case rbX => k_asm)
    (case rbN => k_asm)
    (case rbT => k_asm)
    (case rbhk => first | exact rfl | assumption)
    (case rbhd => ktr_room)
    (case rbhu => first | (simp only [units_deeper, units_caller, cLine]; done) | (simp only [units_deeper, units_caller, cLine]; decide) | ktr_units | (simp only [units_in1, units_deeper, units_under_tc]; ktr_units))
    (case rbm1 => k_mem)
    (case rbm2 => k_mem)
    (case rbm3 => k_mem)
    (case rbi3 => with_reducible assumption)
    (case rbl3 => with_reducible assumption)
    intro xrb drb urb vrb hrb tkrb Frb Nrb larb lbrb
    (try dsimp only)
    replace lbrb := off1_lt (ltc (tabObj #[]) larb lbrb)
    replace larb := off1_lt larb
    k_steps
    refine ⟨?_⟩
    rename_i km_m0_0 km_m0_1 km_m0_2 km_m0_3 km_m0_4 km_m0_5 km_m0_6 km_m0_7 km_m0_8 km_m0_9 km_m0_10 km_m0_11 km_m0_12 km_m0_13 km_m0_14 km_m0_15 km_m0_16 km_m0_17 km_m0_18 km_m0_19
    clear km_d1_0 km_m0_0 km_d1_2 hra tkra km_m0_2 hrb tkrb km_m0_4 km_m0_8 km_m0_10 km_m0_11 km_m0_14
    revert ka0 ka1 ka2 ka3 ka4 ka7 ka8 ka9 ka10 ka11 ka12 ka14 ka16 ka24 ka25 ka31 ka33 ka38 ka39 ka40 w5 w4 w3 K' F' lf1 lifted cd2 codeHd l0 w2 w1 w0 w9 X0 X' ring dring k1 k2 k3 k4 k5 k6 k7 k8 sh1 sh2 zl tq tn tf zits zc lr2 lr1 lz4 zs hzs hzi hzl hzsm lpw pits pc lpw1 ps hps hpi' hpl hpsm lnu nits nc lnu1 ns hns hni' hnl hnsm kc0 kc2 kc6 kc7 kc9 kc10 kc14 kc19 kc21 kc22 kc24 kc25 kc27 kc28 kc30 kc35 lot oits oc lot1 os hos hoi' hol hosm km_d1_1 km_d1_5 xra dra ura vra lbra lara km_m0_1 km_m0_3 xrb drb urb vrb lbrb larb km_m0_5 km_m0_6 km_m0_7 km_m0_9 km_m0_12 km_m0_13 km_m0_15 km_m0_16 km_m0_17 km_m0_18 km_m0_19 tk
    exact hk.out


set_option maxRecDepth 100000 in
set_option maxHeartbeats 8000000 in
noncomputable def stW2 : One (stW1.P) := by
  refine' ⟨_, fun hk => ?main⟩
  case main =>
    intro ka0 ka1 ka2 ka3 ka4 ka7 ka8 ka9 ka10 ka11 ka12 ka14 ka16 ka24 ka25 ka31 ka33 ka38 ka39 ka40 w5 w4 w3 K' F' lf1 lifted cd2 codeHd l0 w2 w1 w0 w9 X0 X' ring dring k1 k2 k3 k4 k5 k6 k7 k8 sh1 sh2 zl tq tn tf zits zc lr2 lr1 lz4 zs hzs hzi hzl hzsm lpw pits pc lpw1 ps hps hpi' hpl hpsm lnu nits nc lnu1 ns hns hni' hnl hnsm kc0 kc2 kc6 kc7 kc9 kc10 kc14 kc19 kc21 kc22 kc24 kc25 kc27 kc28 kc30 kc35 lot oits oc lot1 os hos hoi' hol hosm km_d1_1 km_d1_5 xra dra ura vra lbra lara km_m0_1 km_m0_3 xrb drb urb vrb lbrb larb km_m0_5 km_m0_6 km_m0_7 km_m0_9 km_m0_12 km_m0_13 km_m0_15 km_m0_16 km_m0_17 km_m0_18 km_m0_19 tk
    w_on
    (have hK9 := K'); revert hK9; k_fill; intro hK9; clear hK9
    k_with_none
    k_with "CompSrc" => refine Hold.out ?_
    k_with "call type:zip" => refine Hold.out ?_
    k_with "pyIter ref" => refine Hold.out ?_
    k_with "call ref" => ((first | (with_reducible show wpAny _ _ (call (Value.ref 369) _ _) _ _ _) | (with_reducible show wpAny _ _ (call (Value.ref 599) _ _) _ _ _) | (with_reducible show wpAny _ _ (call (Value.ref 611) _ _) _ _ _) | (with_reducible show wpAny _ _ (call (Value.ref 606) _ _) _ _ _) | (with_reducible show wpAny _ _ (call (Value.ref 392) _ _) _ _ _) | (with_reducible show wpAny _ _ (call (Value.ref 535) _ _) _ _ _) | (with_reducible show wpAny _ _ (call (Value.ref 566) _ _) _ _ _) | (with_reducible show wpAny _ _ (call (Value.ref 554) _ _) _ _ _) | (with_reducible show wpAny _ _ (call (Value.ref 561) _ _) _ _ _) | (with_reducible show wpAny _ _ (call (Value.ref 191) _ _) _ _ _) | (with_reducible show wpAny _ _ (call (Value.ref 592) _ _) _ _ _) | (with_reducible show wpAny _ _ (call (Value.ref 618) _ _) _ _ _) | (with_reducible show wpAny _ _ (call (Value.ref 625) _ _) _ _ _) | (with_reducible show wpAny _ _ (call (Value.ref 630) _ _) _ _ _) | (with_reducible show wpAny _ _ (call (Value.ref 637) _ _) _ _ _)); refine Hold.out ?_)
    k_with "call ref" => ((with_reducible show wpAny _ _ (call (Value.ref ring) _ _) _ _ _); refine Hold.out ?_)
    k_with "eval ListComp" => ((with_reducible show wpAny _ _ (eval (PySem.Expr.ListComp _ [⟨PySem.Expr.Tuple _ _ _, _, _, _⟩] _ _) _) _ _ _); refine Hold.out ?_)
    refine' nmul_spec ?pmB ?pmF ?pmX ?pmN ?pmT ?pmhk ?pmhd ?pmhu ?pmm1 ?pmm2 ?pmm3 ?pmi3 ?pml3 ?pmm4 ?pmm5 ?pmm6 ?pmi6 ?pml6 ?pmm7 ?pmm8 ?pms3 ?pmhret
    (case pmB => k_asm)
    (case pmF => k_asm)
    (case pmX => k_asm)
    (case pmN => k_asm)
    (case pmT => k_asm)
    (case pmhk => first | exact rfl | assumption)
    (case pmhd => ktr_room)
    (case pmhu => first | (simp only [units_deeper, units_caller, cLine]; done) | (simp only [units_deeper, units_caller, cLine]; decide) | ktr_units | (simp only [units_in1, units_deeper, units_under_tc]; ktr_units))
    (case pmm4 => k_mem)
    (case pmm5 => k_mem)
    (case pmm7 => k_mem)
    (case pmm8 => k_mem)
    (case pmm1 => k_mem)
    (case pmm2 => k_mem)
    (case pmm3 => k_mem)
    (case pmm6 => k_mem)
    (case pmi3 => with_reducible assumption)
    (case pml3 => with_reducible assumption)
    (case pmi6 => with_reducible assumption)
    (case pml6 => with_reducible assumption)
    (case pms3 => with_reducible assumption)
    intro zpm dpm lpm ipm cpm upm vpm hpm tkpm Fpm Npm lapm lbpm lcpm hipm
    (try dsimp only)
    (try dsimp only [PySem.W.CmpBack])
    replace lcpm := off1_lt (ltc (tabObj #[]) (ltc (tabObj #[]) lapm lbpm) lcpm)
    replace lbpm := off1_lt (ltc (tabObj #[]) lapm lbpm)
    replace lapm := off1_lt lapm
    k_steps
    refine ⟨?_⟩
    (refine' pair_comp (by with_unfolding_all rfl) (by rfl) (by decide) ?_)
    k_steps
    refine ⟨?_⟩
    with_reducible rename Fr _ _ _ _ => lFq1
    with_reducible rename News _ _ _ _ => lNq1
    (refine' zip_comp (fun a b => (a * b).fmod 8380417) (by rfl) lFq1 lNq1 ?z1q1 hni' ?z2q1 hoi' (by rw [hnl, hol]) (by rw [hnl, sizeLine_eq]; decide) (by decide) (by rfl) (by rfl) (by rfl) (by decide) ?ztq1 ?zfq1)
    (case z1q1 => kcf_m)
    (case z2q1 => kcf_m)
    case ztq1 =>
      intro x y t t' C oC m₂ h tk rest Q' E' hx hy hC ha hb F' N' hsub hne hQ
      have hx1 := (hnsm.out x hx).1
      have hx2 := (hnsm.out x hx).2
      have hmul : IntMulOk x y := .of_left (intBits_le_64 (by omega) (by omega))
      clear lFq1 lNq1
      k_steps
      exact hQ _ _ _ (by assumption) (by assumption)
    intro Dq1 vsq1 hq1 tkq1 hvsq1 Fq1 Nq1 ltq1
    clear lFq1 lNq1
    (try dsimp only)
    (try k_lt ltq1)
    k_steps
    refine ⟨?_⟩
    clear km_m0_15 km_m0_17 km_m0_18 tk hpm tkpm
    revert ka0 ka1 ka2 ka3 ka4 ka7 ka8 ka9 ka10 ka11 ka12 ka14 ka16 ka24 ka25 ka31 ka33 ka38 ka39 ka40 w5 w4 w3 K' F' lf1 lifted cd2 codeHd l0 w2 w1 w0 w9 X0 X' ring dring k1 k2 k3 k4 k5 k6 k7 k8 sh1 sh2 zl tq tn tf zits zc lr2 lr1 lz4 zs hzs hzi hzl hzsm lpw pits pc lpw1 ps hps hpi' hpl hpsm lnu nits nc lnu1 ns hns hni' hnl hnsm kc0 kc2 kc6 kc7 kc9 kc10 kc14 kc19 kc21 kc22 kc24 kc25 kc27 kc28 kc30 kc35 lot oits oc lot1 os hos hoi' hol hosm km_d1_1 km_d1_5 xra dra ura vra lbra lara km_m0_1 km_m0_3 xrb drb urb vrb lbrb larb km_m0_5 km_m0_6 km_m0_7 km_m0_9 km_m0_12 km_m0_13 km_m0_16 km_m0_19 zpm dpm lpm ipm cpm upm vpm hipm lcpm lbpm lapm Dq1 vsq1 hq1 tkq1 hvsq1 Fq1 Nq1 ltq1
    exact hk.out


set_option maxRecDepth 100000 in
set_option maxHeartbeats 8000000 in
noncomputable def stW3 : One (stW2.P) := by
  refine' ⟨_, fun hk => ?main⟩
  case main =>
    intro ka0 ka1 ka2 ka3 ka4 ka7 ka8 ka9 ka10 ka11 ka12 ka14 ka16 ka24 ka25 ka31 ka33 ka38 ka39 ka40 w5 w4 w3 K' F' lf1 lifted cd2 codeHd l0 w2 w1 w0 w9 X0 X' ring dring k1 k2 k3 k4 k5 k6 k7 k8 sh1 sh2 zl tq tn tf zits zc lr2 lr1 lz4 zs hzs hzi hzl hzsm lpw pits pc lpw1 ps hps hpi' hpl hpsm lnu nits nc lnu1 ns hns hni' hnl hnsm kc0 kc2 kc6 kc7 kc9 kc10 kc14 kc19 kc21 kc22 kc24 kc25 kc27 kc28 kc30 kc35 lot oits oc lot1 os hos hoi' hol hosm km_d1_1 km_d1_5 xra dra ura vra lbra lara km_m0_1 km_m0_3 xrb drb urb vrb lbrb larb km_m0_5 km_m0_6 km_m0_7 km_m0_9 km_m0_12 km_m0_13 km_m0_16 km_m0_19 zpm dpm lpm ipm cpm upm vpm hipm lcpm lbpm lapm Dq1 vsq1 hq1 tkq1 hvsq1 Fq1 Nq1 ltq1
    w_on
    (have hK9 := K'); revert hK9; k_fill; intro hK9; clear hK9
    k_with_none
    k_with "CompSrc" => refine Hold.out ?_
    k_with "call type:zip" => refine Hold.out ?_
    k_with "pyIter ref" => refine Hold.out ?_
    k_with "call ref" => ((first | (with_reducible show wpAny _ _ (call (Value.ref 369) _ _) _ _ _) | (with_reducible show wpAny _ _ (call (Value.ref 599) _ _) _ _ _) | (with_reducible show wpAny _ _ (call (Value.ref 611) _ _) _ _ _) | (with_reducible show wpAny _ _ (call (Value.ref 606) _ _) _ _ _) | (with_reducible show wpAny _ _ (call (Value.ref 392) _ _) _ _ _) | (with_reducible show wpAny _ _ (call (Value.ref 535) _ _) _ _ _) | (with_reducible show wpAny _ _ (call (Value.ref 566) _ _) _ _ _) | (with_reducible show wpAny _ _ (call (Value.ref 554) _ _) _ _ _) | (with_reducible show wpAny _ _ (call (Value.ref 561) _ _) _ _ _) | (with_reducible show wpAny _ _ (call (Value.ref 191) _ _) _ _ _) | (with_reducible show wpAny _ _ (call (Value.ref 592) _ _) _ _ _) | (with_reducible show wpAny _ _ (call (Value.ref 618) _ _) _ _ _) | (with_reducible show wpAny _ _ (call (Value.ref 625) _ _) _ _ _) | (with_reducible show wpAny _ _ (call (Value.ref 630) _ _) _ _ _) | (with_reducible show wpAny _ _ (call (Value.ref 637) _ _) _ _ _)); refine Hold.out ?_)
    k_with "call ref" => ((with_reducible show wpAny _ _ (call (Value.ref ring) _ _) _ _ _); refine Hold.out ?_)
    k_with "eval ListComp" => ((with_reducible show wpAny _ _ (eval (PySem.Expr.ListComp _ [⟨PySem.Expr.Tuple _ _ _, _, _, _⟩] _ _) _) _ _ _); refine Hold.out ?_)
    refine' nadd_spec ?paB ?paF ?paX ?paN ?paT ?pahk ?pahd ?pahu ?pam1 ?pam2 ?pam3 ?pai3 ?pal3 ?pam4 ?pam5 ?pam6 ?pai6 ?pal6 ?pam7 ?pam8 ?pahret
    (case paB => k_asm)
    (case paF => k_asm)
    (case paX => k_asm)
    (case paN => k_asm)
    (case paT => k_asm)
    (case pahk => first | exact rfl | assumption)
    (case pahd => ktr_room)
    (case pahu => first | (simp only [units_deeper, units_caller, cLine]; done) | (simp only [units_deeper, units_caller, cLine]; decide) | ktr_units | (simp only [units_in1, units_deeper, units_under_tc]; ktr_units))
    (case pam4 => k_mem)
    (case pam5 => k_mem)
    (case pam7 => k_mem)
    (case pam8 => k_mem)
    (case pam1 => k_mem)
    (case pam2 => k_mem)
    (case pam3 => k_mem)
    (case pam6 => k_mem)
    (case pai3 => with_reducible assumption)
    (case pal3 => with_reducible assumption)
    (case pai6 => with_reducible assumption)
    (case pal6 => with_reducible assumption)
    intro zpa dpa lpa ipa cpa upa vpa hpa tkpa Fpa Npa lapa lbpa lcpa hipa
    (try dsimp only)
    (try dsimp only [PySem.W.CmpBack])
    replace lcpa := off1_lt (ltc (tabObj #[]) (ltc (tabObj #[]) lapa lbpa) lcpa)
    replace lbpa := off1_lt (ltc (tabObj #[]) lapa lbpa)
    replace lapa := off1_lt lapa
    k_steps
    refine ⟨?_⟩
    (refine' pair_comp (by with_unfolding_all rfl) (by rfl) (by decide) ?_)
    k_steps
    refine ⟨?_⟩
    with_reducible rename Fr _ _ _ _ => lFq2
    with_reducible rename News _ _ _ _ => lNq2
    (refine' zip_comp (fun a b => (a + b).fmod 8380417) (by rfl) lFq2 lNq2 ?z1q2 hni' ?z2q2 hoi' (by rw [hnl, hol]) (by rw [hnl, sizeLine_eq]; decide) (by decide) (by rfl) (by rfl) (by rfl) (by decide) ?ztq2 ?zfq2)
    (case z1q2 => kcf_m)
    (case z2q2 => kcf_m)
    case ztq2 =>
      intro x y t t' C oC m₂ h tk rest Q' E' hx hy hC ha hb F' N' hsub hne hQ
      clear lFq2 lNq2
      k_steps
      exact hQ _ _ _ (by assumption) (by assumption)
    intro Dq2 vsq2 hq2 tkq2 hvsq2 Fq2 Nq2 ltq2
    clear lFq2 lNq2
    (try dsimp only)
    (try k_lt ltq2)
    k_steps
    refine ⟨?_⟩
    clear hq1 tkq1 Fq1 Nq1 hpa tkpa
    revert ka0 ka1 ka2 ka3 ka4 ka7 ka8 ka9 ka10 ka11 ka12 ka14 ka16 ka24 ka25 ka31 ka33 ka38 ka39 ka40 w5 w4 w3 K' F' lf1 lifted cd2 codeHd l0 w2 w1 w0 w9 X0 X' ring dring k1 k2 k3 k4 k5 k6 k7 k8 sh1 sh2 zl tq tn tf zits zc lr2 lr1 lz4 zs hzs hzi hzl hzsm lpw pits pc lpw1 ps hps hpi' hpl hpsm lnu nits nc lnu1 ns hns hni' hnl hnsm kc0 kc2 kc6 kc7 kc9 kc10 kc14 kc19 kc21 kc22 kc24 kc25 kc27 kc28 kc30 kc35 lot oits oc lot1 os hos hoi' hol hosm km_d1_1 km_d1_5 xra dra ura vra lbra lara km_m0_1 km_m0_3 xrb drb urb vrb lbrb larb km_m0_5 km_m0_6 km_m0_7 km_m0_9 km_m0_12 km_m0_13 km_m0_16 km_m0_19 zpm dpm lpm ipm cpm upm vpm hipm lcpm lbpm lapm Dq1 vsq1 hvsq1 ltq1 zpa dpa lpa ipa cpa upa vpa hipa lcpa lbpa lapa Dq2 vsq2 hq2 tkq2 hvsq2 Fq2 Nq2 ltq2
    exact hk.out


set_option maxRecDepth 100000 in
set_option maxHeartbeats 8000000 in
noncomputable def stW4 : One (stW3.P) := by
  refine' ⟨_, fun hk => ?main⟩
  case main =>
    intro ka0 ka1 ka2 ka3 ka4 ka7 ka8 ka9 ka10 ka11 ka12 ka14 ka16 ka24 ka25 ka31 ka33 ka38 ka39 ka40 w5 w4 w3 K' F' lf1 lifted cd2 codeHd l0 w2 w1 w0 w9 X0 X' ring dring k1 k2 k3 k4 k5 k6 k7 k8 sh1 sh2 zl tq tn tf zits zc lr2 lr1 lz4 zs hzs hzi hzl hzsm lpw pits pc lpw1 ps hps hpi' hpl hpsm lnu nits nc lnu1 ns hns hni' hnl hnsm kc0 kc2 kc6 kc7 kc9 kc10 kc14 kc19 kc21 kc22 kc24 kc25 kc27 kc28 kc30 kc35 lot oits oc lot1 os hos hoi' hol hosm km_d1_1 km_d1_5 xra dra ura vra lbra lara km_m0_1 km_m0_3 xrb drb urb vrb lbrb larb km_m0_5 km_m0_6 km_m0_7 km_m0_9 km_m0_12 km_m0_13 km_m0_16 km_m0_19 zpm dpm lpm ipm cpm upm vpm hipm lcpm lbpm lapm Dq1 vsq1 hvsq1 ltq1 zpa dpa lpa ipa cpa upa vpa hipa lcpa lbpa lapa Dq2 vsq2 hq2 tkq2 hvsq2 Fq2 Nq2 ltq2
    w_on
    (have hK9 := K'); revert hK9; k_fill; intro hK9; clear hK9
    k_with_none
    k_with "CompSrc" => refine Hold.out ?_
    k_with "call type:zip" => refine Hold.out ?_
    k_with "pyIter ref" => refine Hold.out ?_
    k_with "call ref" => ((first | (with_reducible show wpAny _ _ (call (Value.ref 369) _ _) _ _ _) | (with_reducible show wpAny _ _ (call (Value.ref 599) _ _) _ _ _) | (with_reducible show wpAny _ _ (call (Value.ref 611) _ _) _ _ _) | (with_reducible show wpAny _ _ (call (Value.ref 606) _ _) _ _ _) | (with_reducible show wpAny _ _ (call (Value.ref 392) _ _) _ _ _) | (with_reducible show wpAny _ _ (call (Value.ref 535) _ _) _ _ _) | (with_reducible show wpAny _ _ (call (Value.ref 566) _ _) _ _ _) | (with_reducible show wpAny _ _ (call (Value.ref 554) _ _) _ _ _) | (with_reducible show wpAny _ _ (call (Value.ref 561) _ _) _ _ _) | (with_reducible show wpAny _ _ (call (Value.ref 191) _ _) _ _ _) | (with_reducible show wpAny _ _ (call (Value.ref 592) _ _) _ _ _) | (with_reducible show wpAny _ _ (call (Value.ref 618) _ _) _ _ _) | (with_reducible show wpAny _ _ (call (Value.ref 625) _ _) _ _ _) | (with_reducible show wpAny _ _ (call (Value.ref 630) _ _) _ _ _) | (with_reducible show wpAny _ _ (call (Value.ref 637) _ _) _ _ _)); refine Hold.out ?_)
    k_with "call ref" => ((with_reducible show wpAny _ _ (call (Value.ref ring) _ _) _ _ _); refine Hold.out ?_)
    k_with "eval ListComp" => ((with_reducible show wpAny _ _ (eval (PySem.Expr.ListComp _ [⟨PySem.Expr.Tuple _ _ _, _, _, _⟩] _ _) _) _ _ _); refine Hold.out ?_)
    refine' nsub_spec ?puB ?puF ?puX ?puN ?puT ?puhk ?puhd ?puhu ?pum1 ?pum2 ?pum3 ?pui3 ?pul3 ?pum4 ?pum5 ?pum6 ?pui6 ?pul6 ?pum7 ?pum8 ?puhret
    (case puB => k_asm)
    (case puF => k_asm)
    (case puX => k_asm)
    (case puN => k_asm)
    (case puT => k_asm)
    (case puhk => first | exact rfl | assumption)
    (case puhd => ktr_room)
    (case puhu => first | (simp only [units_deeper, units_caller, cLine]; done) | (simp only [units_deeper, units_caller, cLine]; decide) | ktr_units | (simp only [units_in1, units_deeper, units_under_tc]; ktr_units))
    (case pum4 => k_mem)
    (case pum5 => k_mem)
    (case pum7 => k_mem)
    (case pum8 => k_mem)
    (case pum1 => k_mem)
    (case pum2 => k_mem)
    (case pum3 => k_mem)
    (case pum6 => k_mem)
    (case pui3 => with_reducible assumption)
    (case pul3 => with_reducible assumption)
    (case pui6 => with_reducible assumption)
    (case pul6 => with_reducible assumption)
    intro zpu dpu lpu ipu cpu upu vpu hpu tkpu Fpu Npu lapu lbpu lcpu hipu
    (try dsimp only)
    (try dsimp only [PySem.W.CmpBack])
    replace lcpu := off1_lt (ltc (tabObj #[]) (ltc (tabObj #[]) lapu lbpu) lcpu)
    replace lbpu := off1_lt (ltc (tabObj #[]) lapu lbpu)
    replace lapu := off1_lt lapu
    k_steps
    refine ⟨?_⟩
    (refine' pair_comp (by with_unfolding_all rfl) (by rfl) (by decide) ?_)
    k_steps
    refine ⟨?_⟩
    with_reducible rename Fr _ _ _ _ => lFq3
    with_reducible rename News _ _ _ _ => lNq3
    (refine' zip_comp (fun a b => (a - b).fmod 8380417) (by rfl) lFq3 lNq3 ?z1q3 hni' ?z2q3 hoi' (by rw [hnl, hol]) (by rw [hnl, sizeLine_eq]; decide) (by decide) (by rfl) (by rfl) (by rfl) (by decide) ?ztq3 ?zfq3)
    (case z1q3 => kcf_m)
    (case z2q3 => kcf_m)
    case ztq3 =>
      intro x y t t' C oC m₂ h tk rest Q' E' hx hy hC ha hb F' N' hsub hne hQ
      clear lFq3 lNq3
      k_steps
      exact hQ _ _ _ (by assumption) (by assumption)
    intro Dq3 vsq3 hq3 tkq3 hvsq3 Fq3 Nq3 ltq3
    clear lFq3 lNq3
    (try dsimp only)
    (try k_lt ltq3)
    k_steps
    refine ⟨?_⟩
    clear hq2 tkq2 Fq2 Nq2 hpu tkpu
    revert ka0 ka1 ka2 ka3 ka4 ka7 ka8 ka9 ka10 ka11 ka12 ka14 ka16 ka24 ka25 ka31 ka33 ka38 ka39 ka40 w5 w4 w3 K' F' lf1 lifted cd2 codeHd l0 w2 w1 w0 w9 X0 X' ring dring k1 k2 k3 k4 k5 k6 k7 k8 sh1 sh2 zl tq tn tf zits zc lr2 lr1 lz4 zs hzs hzi hzl hzsm lpw pits pc lpw1 ps hps hpi' hpl hpsm lnu nits nc lnu1 ns hns hni' hnl hnsm kc0 kc2 kc6 kc7 kc9 kc10 kc14 kc19 kc21 kc22 kc24 kc25 kc27 kc28 kc30 kc35 lot oits oc lot1 os hos hoi' hol hosm km_d1_1 km_d1_5 xra dra ura vra lbra lara km_m0_1 km_m0_3 xrb drb urb vrb lbrb larb km_m0_5 km_m0_6 km_m0_7 km_m0_9 km_m0_12 km_m0_13 km_m0_16 km_m0_19 zpm dpm lpm ipm cpm upm vpm hipm lcpm lbpm lapm Dq1 vsq1 hvsq1 ltq1 zpa dpa lpa ipa cpa upa vpa hipa lcpa lbpa lapa Dq2 vsq2 hvsq2 ltq2 zpu dpu lpu ipu cpu upu vpu hipu lcpu lbpu lapu Dq3 vsq3 hq3 tkq3 hvsq3 Fq3 Nq3 ltq3
    exact hk.out


set_option maxRecDepth 100000 in
set_option maxHeartbeats 8000000 in
noncomputable def stW5 : One (stW4.P) := by
  refine' ⟨_, fun hk => ?main⟩
  case main =>
    intro ka0 ka1 ka2 ka3 ka4 ka7 ka8 ka9 ka10 ka11 ka12 ka14 ka16 ka24 ka25 ka31 ka33 ka38 ka39 ka40 w5 w4 w3 K' F' lf1 lifted cd2 codeHd l0 w2 w1 w0 w9 X0 X' ring dring k1 k2 k3 k4 k5 k6 k7 k8 sh1 sh2 zl tq tn tf zits zc lr2 lr1 lz4 zs hzs hzi hzl hzsm lpw pits pc lpw1 ps hps hpi' hpl hpsm lnu nits nc lnu1 ns hns hni' hnl hnsm kc0 kc2 kc6 kc7 kc9 kc10 kc14 kc19 kc21 kc22 kc24 kc25 kc27 kc28 kc30 kc35 lot oits oc lot1 os hos hoi' hol hosm km_d1_1 km_d1_5 xra dra ura vra lbra lara km_m0_1 km_m0_3 xrb drb urb vrb lbrb larb km_m0_5 km_m0_6 km_m0_7 km_m0_9 km_m0_12 km_m0_13 km_m0_16 km_m0_19 zpm dpm lpm ipm cpm upm vpm hipm lcpm lbpm lapm Dq1 vsq1 hvsq1 ltq1 zpa dpa lpa ipa cpa upa vpa hipa lcpa lbpa lapa Dq2 vsq2 hvsq2 ltq2 zpu dpu lpu ipu cpu upu vpu hipu lcpu lbpu lapu Dq3 vsq3 hq3 tkq3 hvsq3 Fq3 Nq3 ltq3
    w_on
    (have hK9 := K'); revert hK9; k_fill; intro hK9; clear hK9
    k_with_none
    k_with "CompSrc" => refine Hold.out ?_
    k_with "call type:zip" => refine Hold.out ?_
    k_with "pyIter ref" => refine Hold.out ?_
    k_with "call ref" => ((first | (with_reducible show wpAny _ _ (call (Value.ref 369) _ _) _ _ _) | (with_reducible show wpAny _ _ (call (Value.ref 599) _ _) _ _ _) | (with_reducible show wpAny _ _ (call (Value.ref 611) _ _) _ _ _) | (with_reducible show wpAny _ _ (call (Value.ref 606) _ _) _ _ _) | (with_reducible show wpAny _ _ (call (Value.ref 392) _ _) _ _ _) | (with_reducible show wpAny _ _ (call (Value.ref 535) _ _) _ _ _) | (with_reducible show wpAny _ _ (call (Value.ref 566) _ _) _ _ _) | (with_reducible show wpAny _ _ (call (Value.ref 554) _ _) _ _ _) | (with_reducible show wpAny _ _ (call (Value.ref 561) _ _) _ _ _) | (with_reducible show wpAny _ _ (call (Value.ref 191) _ _) _ _ _) | (with_reducible show wpAny _ _ (call (Value.ref 592) _ _) _ _ _) | (with_reducible show wpAny _ _ (call (Value.ref 618) _ _) _ _ _) | (with_reducible show wpAny _ _ (call (Value.ref 625) _ _) _ _ _) | (with_reducible show wpAny _ _ (call (Value.ref 630) _ _) _ _ _) | (with_reducible show wpAny _ _ (call (Value.ref 637) _ _) _ _ _)); refine Hold.out ?_)
    k_with "call ref" => ((with_reducible show wpAny _ _ (call (Value.ref ring) _ _) _ _ _); refine Hold.out ?_)
    k_with "eval ListComp" => ((with_reducible show wpAny _ _ (eval (PySem.Expr.ListComp _ [⟨PySem.Expr.Tuple _ _ _, _, _, _⟩] _ _) _) _ _ _); refine Hold.out ?_)
    refine' nmuli_spec ?pkB ?pkF ?pkX ?pkN ?pkT ?pkhk ?pkhd ?pkhu ?pkm1 ?pkm2 ?pkm3 ?pki3 ?pkl3 ?pkm4 ?pkm5 ?pks3 ?pkhret
    (case pkB => k_asm)
    (case pkF => k_asm)
    (case pkX => k_asm)
    (case pkN => k_asm)
    (case pkT => k_asm)
    (case pkhk => first | exact rfl | assumption)
    (case pkhd => ktr_room)
    (case pkhu => first | (simp only [units_deeper, units_caller, cLine]; done) | (simp only [units_deeper, units_caller, cLine]; decide) | ktr_units | (simp only [units_in1, units_deeper, units_under_tc]; ktr_units))
    (case pkm4 => k_mem)
    (case pkm5 => k_mem)
    (case pkm1 => k_mem)
    (case pkm2 => k_mem)
    (case pkm3 => k_mem)
    (case pki3 => with_reducible assumption)
    (case pkl3 => with_reducible assumption)
    (case pks3 => with_reducible assumption)
    intro zpk dpk lpk ipk cpk upk vpk hpk tkpk Fpk Npk lapk lbpk ldpk lcpk hipk
    (try dsimp only)
    (try dsimp only [PySem.W.CmpBack])
    replace lcpk := off1_lt (ltc (tabObj #[]) (consLt (tabObj #[]) ldpk lbpk) lcpk)
    replace lbpk := off1_lt (consLt (tabObj #[]) ldpk lbpk)
    clear ldpk
    replace lapk := off1_of lapk
    k_steps
    refine ⟨?_⟩
    refine LCg.CompSrc.ledger (by rfl) (by k_asm) (by k_asm) (by k_mem) (by rw [sizeLine_eq, List.size_toArray, IntsAre.length hni', hnl]; decide) ?_
    intro g'
    refine' kcf_list (fun a => (a * _).fmod 8380417) hni' (fun k' t' I' oI' C' oC' D' m' ys' h' tk' E' hk' hC' hx' F' N' off' ne' hMark' => ?_) ?_
    (all_goals (try simp only [LCg.Off3, and_true] at off'))
    kcf_last
    · have hx1 := (hnsm.out k' hk').1
      have hx2 := (hnsm.out k' hk').2
      have hmul : ∀ z : Int, IntMulOk z k' := fun z => .of_right (intBits_le_64 (by omega) (by omega))
      k_steps
      all_goals exact kcf_el (by rw [Int.mul_comm]) rfl rfl
    k_steps
    refine ⟨?_⟩
    rename_i km_t0_0 km_t0_1 km_t0_2 km_t0_3 km_t0_4 km_t0_5 km_t0_6 km_t0_7 km_t0_8 km_t0_9 km_t0_10 km_t0_11 km_t0_12 km_t0_13 km_t0_14 km_t0_15 km_t0_16 km_t0_17 km_t0_18
    clear hq3 tkq3 hpk tkpk Fpk km_t0_0 g' km_t0_6 km_t0_7 km_t0_18
    revert ka0 ka1 ka2 ka3 ka4 ka7 ka8 ka9 ka10 ka11 ka12 ka14 ka16 ka24 ka25 ka31 ka33 ka38 ka39 ka40 w5 w4 w3 K' F' lf1 lifted cd2 codeHd l0 w2 w1 w0 w9 X0 X' ring dring k1 k2 k3 k4 k5 k6 k7 k8 sh1 sh2 zl tq tn tf zits zc lr2 lr1 lz4 zs hzs hzi hzl hzsm lpw pits pc lpw1 ps hps hpi' hpl hpsm lnu nits nc lnu1 ns hns hni' hnl hnsm kc0 kc2 kc6 kc7 kc9 kc10 kc14 kc19 kc21 kc22 kc24 kc25 kc27 kc28 kc30 kc35 lot oits oc lot1 os hos hoi' hol hosm km_d1_1 km_d1_5 xra dra ura vra lbra lara km_m0_1 km_m0_3 xrb drb urb vrb lbrb larb km_m0_5 km_m0_6 km_m0_7 km_m0_9 km_m0_12 km_m0_13 km_m0_16 km_m0_19 zpm dpm lpm ipm cpm upm vpm hipm lcpm lbpm lapm Dq1 vsq1 hvsq1 ltq1 zpa dpa lpa ipa cpa upa vpa hipa lcpa lbpa lapa Dq2 vsq2 hvsq2 ltq2 zpu dpu lpu ipu cpu upu vpu hipu lcpu lbpu lapu Dq3 vsq3 hvsq3 ltq3 zpk dpk lpk ipk cpk upk vpk hipk lcpk lbpk lapk ys km_t0_1 km_t0_2 km_t0_3 km_t0_4 km_t0_5 km_t0_8 km_t0_9 km_t0_10 km_t0_11 km_t0_12 km_t0_13 km_t0_14 km_t0_15 km_t0_16 km_t0_17
    exact hk.out


set_option maxRecDepth 100000 in
set_option maxHeartbeats 8000000 in
noncomputable def stW6 : One (stW5.P) := by
  refine' ⟨_, fun hk => ?main⟩
  case main =>
    intro ka0 ka1 ka2 ka3 ka4 ka7 ka8 ka9 ka10 ka11 ka12 ka14 ka16 ka24 ka25 ka31 ka33 ka38 ka39 ka40 w5 w4 w3 K' F' lf1 lifted cd2 codeHd l0 w2 w1 w0 w9 X0 X' ring dring k1 k2 k3 k4 k5 k6 k7 k8 sh1 sh2 zl tq tn tf zits zc lr2 lr1 lz4 zs hzs hzi hzl hzsm lpw pits pc lpw1 ps hps hpi' hpl hpsm lnu nits nc lnu1 ns hns hni' hnl hnsm kc0 kc2 kc6 kc7 kc9 kc10 kc14 kc19 kc21 kc22 kc24 kc25 kc27 kc28 kc30 kc35 lot oits oc lot1 os hos hoi' hol hosm km_d1_1 km_d1_5 xra dra ura vra lbra lara km_m0_1 km_m0_3 xrb drb urb vrb lbrb larb km_m0_5 km_m0_6 km_m0_7 km_m0_9 km_m0_12 km_m0_13 km_m0_16 km_m0_19 zpm dpm lpm ipm cpm upm vpm hipm lcpm lbpm lapm Dq1 vsq1 hvsq1 ltq1 zpa dpa lpa ipa cpa upa vpa hipa lcpa lbpa lapa Dq2 vsq2 hvsq2 ltq2 zpu dpu lpu ipu cpu upu vpu hipu lcpu lbpu lapu Dq3 vsq3 hvsq3 ltq3 zpk dpk lpk ipk cpk upk vpk hipk lcpk lbpk lapk ys km_t0_1 km_t0_2 km_t0_3 km_t0_4 km_t0_5 km_t0_8 km_t0_9 km_t0_10 km_t0_11 km_t0_12 km_t0_13 km_t0_14 km_t0_15 km_t0_16 km_t0_17
    w_on
    (have hK9 := K'); revert hK9; k_fill; intro hK9; clear hK9
    k_with_none
    k_with "CompSrc" => refine Hold.out ?_
    k_with "call type:zip" => refine Hold.out ?_
    k_with "pyIter ref" => refine Hold.out ?_
    k_with "call ref" => ((first | (with_reducible show wpAny _ _ (call (Value.ref 369) _ _) _ _ _) | (with_reducible show wpAny _ _ (call (Value.ref 599) _ _) _ _ _) | (with_reducible show wpAny _ _ (call (Value.ref 611) _ _) _ _ _) | (with_reducible show wpAny _ _ (call (Value.ref 606) _ _) _ _ _) | (with_reducible show wpAny _ _ (call (Value.ref 392) _ _) _ _ _) | (with_reducible show wpAny _ _ (call (Value.ref 535) _ _) _ _ _) | (with_reducible show wpAny _ _ (call (Value.ref 566) _ _) _ _ _) | (with_reducible show wpAny _ _ (call (Value.ref 554) _ _) _ _ _) | (with_reducible show wpAny _ _ (call (Value.ref 561) _ _) _ _ _) | (with_reducible show wpAny _ _ (call (Value.ref 191) _ _) _ _ _) | (with_reducible show wpAny _ _ (call (Value.ref 592) _ _) _ _ _) | (with_reducible show wpAny _ _ (call (Value.ref 618) _ _) _ _ _) | (with_reducible show wpAny _ _ (call (Value.ref 625) _ _) _ _ _) | (with_reducible show wpAny _ _ (call (Value.ref 630) _ _) _ _ _) | (with_reducible show wpAny _ _ (call (Value.ref 637) _ _) _ _ _)); refine Hold.out ?_)
    k_with "call ref" => ((with_reducible show wpAny _ _ (call (Value.ref ring) _ _) _ _ _); refine Hold.out ?_)
    k_with "eval ListComp" => ((with_reducible show wpAny _ _ (eval (PySem.Expr.ListComp _ [⟨PySem.Expr.Tuple _ _ _, _, _, _⟩] _ _) _) _ _ _); refine Hold.out ?_)
    refine LCg.CompSrc.range (n := 256) (by rfl) (by k_asm) (by k_asm) (by assumption) (by decide) (by rfl) (by rw [sizeLine_eq]; decide) ?_
    intro g'
    refine' kcf_range (fun p => tnF p 8) (fun k' t' I' oI' C' oC' D' m' ys' h' tk' E' hlo' hhi' hC' hx' F' N' off' ne' hMark' => ?_) ?_
    (all_goals (try simp only [LCg.Off3, and_true] at off'))
    kcf_last
    · k_steps
      refine ⟨?_⟩
      refine' turned_spec ?tnB ?tnF ?tnX ?tnN ?tnT ?tnhk ?tnhd ?tnhu ?tnhret
      (case tnB => k_asm)
      (case tnF => k_asm)
      (case tnX => k_asm)
      (case tnN => k_asm)
      (case tnT => k_asm)
      (case tnhk => first | exact rfl | assumption)
      (case tnhd => ktr_room)
      (case tnhu => first | (simp only [units_deeper, units_caller, cLine]; done) | (simp only [units_deeper, units_caller, cLine]; decide) | ktr_units | (simp only [units_in1, units_deeper, units_under_tc]; ktr_units))
      intro t9 h9 tk9 F9 N9
      (try dsimp only)
      k_steps
      all_goals exact kcf_el rfl rfl rfl
    unfold KPfDone
    intro ys hys
    obtain ⟨ts, hts, ⟨htl, htg⟩, hti⟩ := ints_hide (fun zs => zs.length = 256 ∧ Hold (∀ k, k < 256 → zs.getD k 0 = tnF (k : Int) 8)) hys ⟨by rw [List.length_map, rangeKs_length], ⟨fun k hk => turned_get hk⟩⟩
    clear hys
    rename_i km_T1_0
    revert ka0 ka1 ka2 ka3 ka4 ka7 ka8 ka9 ka10 ka11 ka12 ka14 ka16 ka24 ka25 ka31 ka33 ka38 ka39 ka40 w5 w4 w3 K' F' lf1 lifted cd2 codeHd l0 w2 w1 w0 w9 X0 X' ring dring k1 k2 k3 k4 k5 k6 k7 k8 sh1 sh2 zl tq tn tf zits zc lr2 lr1 lz4 zs hzs hzi hzl hzsm lpw pits pc lpw1 ps hps hpi' hpl hpsm lnu nits nc lnu1 ns hns hni' hnl hnsm kc0 kc2 kc6 kc7 kc9 kc10 kc14 kc19 kc21 kc22 kc24 kc25 kc27 kc28 kc30 kc35 lot oits oc lot1 os hos hoi' hol hosm km_d1_1 km_d1_5 xra dra ura vra lbra lara km_m0_1 km_m0_3 xrb drb urb vrb lbrb larb km_m0_5 km_m0_6 km_m0_7 km_m0_9 km_m0_12 km_m0_13 km_m0_16 km_m0_19 zpm dpm lpm ipm cpm upm vpm hipm lcpm lbpm lapm Dq1 vsq1 hvsq1 ltq1 zpa dpa lpa ipa cpa upa vpa hipa lcpa lbpa lapa Dq2 vsq2 hvsq2 ltq2 zpu dpu lpu ipu cpu upu vpu hipu lcpu lbpu lapu Dq3 vsq3 hvsq3 ltq3 zpk dpk lpk ipk cpk upk vpk hipk lcpk lbpk lapk km_T1_0 km_t0_1 km_t0_2 km_t0_3 km_t0_4 km_t0_5 km_t0_8 km_t0_9 km_t0_10 km_t0_11 km_t0_12 km_t0_13 km_t0_14 km_t0_15 km_t0_16 km_t0_17 g' ys ts hts hti htl htg
    exact hk.out


set_option maxRecDepth 100000 in
set_option maxHeartbeats 8000000 in
noncomputable def stW7 : One (stW6.P) := by
  refine' ⟨_, fun hk => ?main⟩
  case main =>
    intro ka0 ka1 ka2 ka3 ka4 ka7 ka8 ka9 ka10 ka11 ka12 ka14 ka16 ka24 ka25 ka31 ka33 ka38 ka39 ka40 w5 w4 w3 K' F' lf1 lifted cd2 codeHd l0 w2 w1 w0 w9 X0 X' ring dring k1 k2 k3 k4 k5 k6 k7 k8 sh1 sh2 zl tq tn tf zits zc lr2 lr1 lz4 zs hzs hzi hzl hzsm lpw pits pc lpw1 ps hps hpi' hpl hpsm lnu nits nc lnu1 ns hns hni' hnl hnsm kc0 kc2 kc6 kc7 kc9 kc10 kc14 kc19 kc21 kc22 kc24 kc25 kc27 kc28 kc30 kc35 lot oits oc lot1 os hos hoi' hol hosm km_d1_1 km_d1_5 xra dra ura vra lbra lara km_m0_1 km_m0_3 xrb drb urb vrb lbrb larb km_m0_5 km_m0_6 km_m0_7 km_m0_9 km_m0_12 km_m0_13 km_m0_16 km_m0_19 zpm dpm lpm ipm cpm upm vpm hipm lcpm lbpm lapm Dq1 vsq1 hvsq1 ltq1 zpa dpa lpa ipa cpa upa vpa hipa lcpa lbpa lapa Dq2 vsq2 hvsq2 ltq2 zpu dpu lpu ipu cpu upu vpu hipu lcpu lbpu lapu Dq3 vsq3 hvsq3 ltq3 zpk dpk lpk ipk cpk upk vpk hipk lcpk lbpk lapk km_T1_0 km_t0_1 km_t0_2 km_t0_3 km_t0_4 km_t0_5 km_t0_8 km_t0_9 km_t0_10 km_t0_11 km_t0_12 km_t0_13 km_t0_14 km_t0_15 km_t0_16 km_t0_17 g' ys ts hts hti htl htg
    w_on
    (have hK9 := K'); revert hK9; k_fill; intro hK9; clear hK9
    k_with_none
    k_with "CompSrc" => refine Hold.out ?_
    k_with "call type:zip" => refine Hold.out ?_
    k_with "pyIter ref" => refine Hold.out ?_
    k_with "call ref" => ((first | (with_reducible show wpAny _ _ (call (Value.ref 369) _ _) _ _ _) | (with_reducible show wpAny _ _ (call (Value.ref 599) _ _) _ _ _) | (with_reducible show wpAny _ _ (call (Value.ref 611) _ _) _ _ _) | (with_reducible show wpAny _ _ (call (Value.ref 606) _ _) _ _ _) | (with_reducible show wpAny _ _ (call (Value.ref 392) _ _) _ _ _) | (with_reducible show wpAny _ _ (call (Value.ref 535) _ _) _ _ _) | (with_reducible show wpAny _ _ (call (Value.ref 566) _ _) _ _ _) | (with_reducible show wpAny _ _ (call (Value.ref 554) _ _) _ _ _) | (with_reducible show wpAny _ _ (call (Value.ref 561) _ _) _ _ _) | (with_reducible show wpAny _ _ (call (Value.ref 191) _ _) _ _ _) | (with_reducible show wpAny _ _ (call (Value.ref 592) _ _) _ _ _) | (with_reducible show wpAny _ _ (call (Value.ref 618) _ _) _ _ _) | (with_reducible show wpAny _ _ (call (Value.ref 625) _ _) _ _ _) | (with_reducible show wpAny _ _ (call (Value.ref 630) _ _) _ _ _) | (with_reducible show wpAny _ _ (call (Value.ref 637) _ _) _ _ _)); refine Hold.out ?_)
    k_with "call ref" => ((with_reducible show wpAny _ _ (call (Value.ref ring) _ _) _ _ _); refine Hold.out ?_)
    k_with "eval ListComp" => ((with_reducible show wpAny _ _ (eval (PySem.Expr.ListComp _ [⟨PySem.Expr.Tuple _ _ _, _, _, _⟩] _ _) _) _ _ _); refine Hold.out ?_)
    k_steps
    refine ⟨?_⟩
    rename_i km_t1_0 km_t1_1 km_t1_2 km_t1_3 km_t1_4 km_t1_5
    clear km_t0_4 km_t0_5 km_t0_10 km_t0_11 km_t0_12 km_t0_13 km_t0_14 km_t0_15 km_t0_16 km_t0_17 g'
    revert ka0 ka1 ka2 ka3 ka4 ka7 ka8 ka9 ka10 ka11 ka12 ka14 ka16 ka24 ka25 ka31 ka33 ka38 ka39 ka40 w5 w4 w3 K' F' lf1 lifted cd2 codeHd l0 w2 w1 w0 w9 X0 X' ring dring k1 k2 k3 k4 k5 k6 k7 k8 sh1 sh2 zl tq tn tf zits zc lr2 lr1 lz4 zs hzs hzi hzl hzsm lpw pits pc lpw1 ps hps hpi' hpl hpsm lnu nits nc lnu1 ns hns hni' hnl hnsm kc0 kc2 kc6 kc7 kc9 kc10 kc14 kc19 kc21 kc22 kc24 kc25 kc27 kc28 kc30 kc35 lot oits oc lot1 os hos hoi' hol hosm km_d1_1 km_d1_5 xra dra ura vra lbra lara km_m0_1 km_m0_3 xrb drb urb vrb lbrb larb km_m0_5 km_m0_6 km_m0_7 km_m0_9 km_m0_12 km_m0_13 km_m0_16 km_m0_19 zpm dpm lpm ipm cpm upm vpm hipm lcpm lbpm lapm Dq1 vsq1 hvsq1 ltq1 zpa dpa lpa ipa cpa upa vpa hipa lcpa lbpa lapa Dq2 vsq2 hvsq2 ltq2 zpu dpu lpu ipu cpu upu vpu hipu lcpu lbpu lapu Dq3 vsq3 hvsq3 ltq3 zpk dpk lpk ipk cpk upk vpk hipk lcpk lbpk lapk km_T1_0 km_t0_1 km_t0_2 km_t0_3 km_t0_8 km_t0_9 ys ts hts hti htl htg km_t1_0 km_t1_1 km_t1_2 km_t1_3 km_t1_4 km_t1_5
    exact hk.out


set_option maxRecDepth 100000 in
set_option maxHeartbeats 8000000 in
noncomputable def stW8 : One (stW7.P) := by
  refine' ⟨_, fun hk => ?main⟩
  case main =>
    intro ka0 ka1 ka2 ka3 ka4 ka7 ka8 ka9 ka10 ka11 ka12 ka14 ka16 ka24 ka25 ka31 ka33 ka38 ka39 ka40 w5 w4 w3 K' F' lf1 lifted cd2 codeHd l0 w2 w1 w0 w9 X0 X' ring dring k1 k2 k3 k4 k5 k6 k7 k8 sh1 sh2 zl tq tn tf zits zc lr2 lr1 lz4 zs hzs hzi hzl hzsm lpw pits pc lpw1 ps hps hpi' hpl hpsm lnu nits nc lnu1 ns hns hni' hnl hnsm kc0 kc2 kc6 kc7 kc9 kc10 kc14 kc19 kc21 kc22 kc24 kc25 kc27 kc28 kc30 kc35 lot oits oc lot1 os hos hoi' hol hosm km_d1_1 km_d1_5 xra dra ura vra lbra lara km_m0_1 km_m0_3 xrb drb urb vrb lbrb larb km_m0_5 km_m0_6 km_m0_7 km_m0_9 km_m0_12 km_m0_13 km_m0_16 km_m0_19 zpm dpm lpm ipm cpm upm vpm hipm lcpm lbpm lapm Dq1 vsq1 hvsq1 ltq1 zpa dpa lpa ipa cpa upa vpa hipa lcpa lbpa lapa Dq2 vsq2 hvsq2 ltq2 zpu dpu lpu ipu cpu upu vpu hipu lcpu lbpu lapu Dq3 vsq3 hvsq3 ltq3 zpk dpk lpk ipk cpk upk vpk hipk lcpk lbpk lapk km_T1_0 km_t0_1 km_t0_2 km_t0_3 km_t0_8 km_t0_9 ys ts hts hti htl htg km_t1_0 km_t1_1 km_t1_2 km_t1_3 km_t1_4 km_t1_5
    w_on
    (have hK9 := K'); revert hK9; k_fill; intro hK9; clear hK9
    k_with_none
    k_with "CompSrc" => refine Hold.out ?_
    k_with "call type:zip" => refine Hold.out ?_
    k_with "pyIter ref" => refine Hold.out ?_
    k_with "call ref" => ((first | (with_reducible show wpAny _ _ (call (Value.ref 369) _ _) _ _ _) | (with_reducible show wpAny _ _ (call (Value.ref 599) _ _) _ _ _) | (with_reducible show wpAny _ _ (call (Value.ref 611) _ _) _ _ _) | (with_reducible show wpAny _ _ (call (Value.ref 606) _ _) _ _ _) | (with_reducible show wpAny _ _ (call (Value.ref 392) _ _) _ _ _) | (with_reducible show wpAny _ _ (call (Value.ref 535) _ _) _ _ _) | (with_reducible show wpAny _ _ (call (Value.ref 566) _ _) _ _ _) | (with_reducible show wpAny _ _ (call (Value.ref 554) _ _) _ _ _) | (with_reducible show wpAny _ _ (call (Value.ref 561) _ _) _ _ _) | (with_reducible show wpAny _ _ (call (Value.ref 191) _ _) _ _ _) | (with_reducible show wpAny _ _ (call (Value.ref 592) _ _) _ _ _) | (with_reducible show wpAny _ _ (call (Value.ref 618) _ _) _ _ _) | (with_reducible show wpAny _ _ (call (Value.ref 625) _ _) _ _ _) | (with_reducible show wpAny _ _ (call (Value.ref 630) _ _) _ _ _) | (with_reducible show wpAny _ _ (call (Value.ref 637) _ _) _ _ _)); refine Hold.out ?_)
    k_with "call ref" => ((with_reducible show wpAny _ _ (call (Value.ref ring) _ _) _ _ _); refine Hold.out ?_)
    k_with "eval ListComp" => ((with_reducible show wpAny _ _ (eval (PySem.Expr.ListComp _ [⟨PySem.Expr.Tuple _ _ _, _, _, _⟩] _ _) _) _ _ _); refine Hold.out ?_)
    refine' fromntt_spec ?fnB ?fnF ?fnX ?fnN ?fnT ?fnhk ?fnhd ?fnhu ?fnm1 ?fnm2 ?fnm3 ?fni3 ?fnl3 ?fnm4 ?fnm5 ?fnm6 ?fni6 ?fnl6 ?fns6 ?fnhret
    (case fnB => k_asm)
    (case fnF => k_asm)
    (case fnX => k_asm)
    (case fnN => k_asm)
    (case fnT => k_asm)
    (case fnhk => first | exact rfl | assumption)
    (case fnhd => ktr_room)
    (case fnhu => first | (simp only [units_deeper, units_caller, cLine]; done) | (simp only [units_deeper, units_caller, cLine]; decide) | ktr_units | (simp only [units_in1, units_deeper, units_under_tc]; ktr_units))
    (case fnm4 => k_mem)
    (case fnm5 => k_mem)
    (case fnm1 => k_mem)
    (case fnm2 => k_mem)
    (case fnm3 => k_mem)
    (case fnm6 => k_mem)
    (case fni3 => with_reducible assumption)
    (case fnl3 => with_reducible assumption)
    (case fni6 => with_reducible assumption)
    (case fnl6 => with_reducible assumption)
    (case fns6 => with_reducible assumption)
    intro to dto lto tits tc q3 q4 h13 tk13 F13 N13 lto1 lto2 lto3 hui0
    (try dsimp only)
    replace lto3 := off1_lt (ltc (tabObj #[]) (ltc (tabObj #[]) lto1 lto2) lto3)
    replace lto2 := off1_lt (ltc (tabObj #[]) lto1 lto2)
    replace lto1 := off1_lt lto1
    obtain ⟨us, hus, ⟨hul, hub⟩, hui⟩ := ints_hide (fun zs => zs.length = 256 ∧ Hold (∀ x ∈ zs, 0 ≤ x ∧ x < 8380417)) hui0 (by rw [hzs.out]; exact ⟨told_len _ hnl, ⟨told_bnd _ hnl⟩⟩)
    clear hui0
    k_steps
    refine ⟨?_⟩
    rename_i km_n0_0 km_n0_1 km_n0_2 km_n0_3 km_n0_4 km_n0_5 km_n0_6 km_n0_7 km_n0_8 km_n0_9 km_n0_10 km_n0_11
    clear km_t1_1 km_t1_2 h13 tk13 km_n0_1 km_n0_3 km_n0_4
    revert ka0 ka1 ka2 ka3 ka4 ka7 ka8 ka9 ka10 ka11 ka12 ka14 ka16 ka24 ka25 ka31 ka33 ka38 ka39 ka40 w5 w4 w3 K' F' lf1 lifted cd2 codeHd l0 w2 w1 w0 w9 X0 X' ring dring k1 k2 k3 k4 k5 k6 k7 k8 sh1 sh2 zl tq tn tf zits zc lr2 lr1 lz4 zs hzs hzi hzl hzsm lpw pits pc lpw1 ps hps hpi' hpl hpsm lnu nits nc lnu1 ns hns hni' hnl hnsm kc0 kc2 kc6 kc7 kc9 kc10 kc14 kc19 kc21 kc22 kc24 kc25 kc27 kc28 kc30 kc35 lot oits oc lot1 os hos hoi' hol hosm km_d1_1 km_d1_5 xra dra ura vra lbra lara km_m0_1 km_m0_3 xrb drb urb vrb lbrb larb km_m0_5 km_m0_6 km_m0_7 km_m0_9 km_m0_12 km_m0_13 km_m0_16 km_m0_19 zpm dpm lpm ipm cpm upm vpm hipm lcpm lbpm lapm Dq1 vsq1 hvsq1 ltq1 zpa dpa lpa ipa cpa upa vpa hipa lcpa lbpa lapa Dq2 vsq2 hvsq2 ltq2 zpu dpu lpu ipu cpu upu vpu hipu lcpu lbpu lapu Dq3 vsq3 hvsq3 ltq3 zpk dpk lpk ipk cpk upk vpk hipk lcpk lbpk lapk km_T1_0 km_t0_1 km_t0_2 km_t0_3 km_t0_8 km_t0_9 ys ts hts hti htl htg km_t1_0 km_t1_5 to dto lto tits tc q3 q4 lto3 lto2 lto1 us hus hui hul hub km_n0_0 km_n0_2 km_n0_5 km_n0_6 km_n0_7 km_n0_8 km_n0_9 km_n0_10 km_n0_11 tk
    exact hk.out


set_option maxRecDepth 100000 in
set_option maxHeartbeats 8000000 in
noncomputable def stW9 : One (stW8.P) := by
  refine' ⟨_, fun hk => ?main⟩
  case main =>
    intro ka0 ka1 ka2 ka3 ka4 ka7 ka8 ka9 ka10 ka11 ka12 ka14 ka16 ka24 ka25 ka31 ka33 ka38 ka39 ka40 w5 w4 w3 K' F' lf1 lifted cd2 codeHd l0 w2 w1 w0 w9 X0 X' ring dring k1 k2 k3 k4 k5 k6 k7 k8 sh1 sh2 zl tq tn tf zits zc lr2 lr1 lz4 zs hzs hzi hzl hzsm lpw pits pc lpw1 ps hps hpi' hpl hpsm lnu nits nc lnu1 ns hns hni' hnl hnsm kc0 kc2 kc6 kc7 kc9 kc10 kc14 kc19 kc21 kc22 kc24 kc25 kc27 kc28 kc30 kc35 lot oits oc lot1 os hos hoi' hol hosm km_d1_1 km_d1_5 xra dra ura vra lbra lara km_m0_1 km_m0_3 xrb drb urb vrb lbrb larb km_m0_5 km_m0_6 km_m0_7 km_m0_9 km_m0_12 km_m0_13 km_m0_16 km_m0_19 zpm dpm lpm ipm cpm upm vpm hipm lcpm lbpm lapm Dq1 vsq1 hvsq1 ltq1 zpa dpa lpa ipa cpa upa vpa hipa lcpa lbpa lapa Dq2 vsq2 hvsq2 ltq2 zpu dpu lpu ipu cpu upu vpu hipu lcpu lbpu lapu Dq3 vsq3 hvsq3 ltq3 zpk dpk lpk ipk cpk upk vpk hipk lcpk lbpk lapk km_T1_0 km_t0_1 km_t0_2 km_t0_3 km_t0_8 km_t0_9 ys ts hts hti htl htg km_t1_0 km_t1_5 to dto lto tits tc q3 q4 lto3 lto2 lto1 us hus hui hul hub km_n0_0 km_n0_2 km_n0_5 km_n0_6 km_n0_7 km_n0_8 km_n0_9 km_n0_10 km_n0_11 tk
    w_on
    (have hK9 := K'); revert hK9; k_fill; intro hK9; clear hK9
    k_with_none
    k_with "CompSrc" => refine Hold.out ?_
    k_with "call type:zip" => refine Hold.out ?_
    k_with "pyIter ref" => refine Hold.out ?_
    k_with "call ref" => ((first | (with_reducible show wpAny _ _ (call (Value.ref 369) _ _) _ _ _) | (with_reducible show wpAny _ _ (call (Value.ref 599) _ _) _ _ _) | (with_reducible show wpAny _ _ (call (Value.ref 611) _ _) _ _ _) | (with_reducible show wpAny _ _ (call (Value.ref 606) _ _) _ _ _) | (with_reducible show wpAny _ _ (call (Value.ref 392) _ _) _ _ _) | (with_reducible show wpAny _ _ (call (Value.ref 535) _ _) _ _ _) | (with_reducible show wpAny _ _ (call (Value.ref 566) _ _) _ _ _) | (with_reducible show wpAny _ _ (call (Value.ref 554) _ _) _ _ _) | (with_reducible show wpAny _ _ (call (Value.ref 561) _ _) _ _ _) | (with_reducible show wpAny _ _ (call (Value.ref 191) _ _) _ _ _) | (with_reducible show wpAny _ _ (call (Value.ref 592) _ _) _ _ _) | (with_reducible show wpAny _ _ (call (Value.ref 618) _ _) _ _ _) | (with_reducible show wpAny _ _ (call (Value.ref 625) _ _) _ _ _) | (with_reducible show wpAny _ _ (call (Value.ref 630) _ _) _ _ _) | (with_reducible show wpAny _ _ (call (Value.ref 637) _ _) _ _ _)); refine Hold.out ?_)
    k_with "call ref" => ((with_reducible show wpAny _ _ (call (Value.ref ring) _ _) _ _ _); refine Hold.out ?_)
    k_with "eval ListComp" => ((with_reducible show wpAny _ _ (eval (PySem.Expr.ListComp _ [⟨PySem.Expr.Tuple _ _ _, _, _, _⟩] _ _) _) _ _ _); refine Hold.out ?_)
    refine LCg.CompSrc.ledger (by rfl) (by k_asm) (by k_asm) (by k_mem) (by first | size_fits | exact Nat.le_of_ble_eq_true rfl | (rw [sizeLine_eq, List.size_toArray, IntsAre.length (IntsAre.cons _ _ (IntsAre.cons _ _ IntsAre.nil)), hnl]; decide)) ?_
    intro g'
    refine' kcf_list (fun p => us.getD p.toNat 0) (IntsAre.cons _ _ (IntsAre.cons _ _ IntsAre.nil)) (fun k' t' I' oI' C' oC' D' m' ys' h' tk' E' hk' hC' hx' F' N' off' ne' hMark' => ?_) ?_
    (all_goals (try simp only [LCg.Off3, and_true] at off'))
    kcf_last
    · have hkb := named_bnd hk'
      have hkc := hkb.1
      have hkd := hkb.2
      k_steps
      all_goals exact kcf_el rfl rfl rfl
    k_steps
    refine ⟨?_⟩
    rename_i km_n1_0 km_n1_1 km_n1_2 km_n1_3 km_n1_4 km_n1_5 km_n1_6 km_n1_7 km_n1_8 km_n1_9
    clear km_n0_7 km_n0_9 km_n1_1 tk g'
    revert ka0 ka1 ka2 ka3 ka4 ka7 ka8 ka9 ka10 ka11 ka12 ka14 ka16 ka24 ka25 ka31 ka33 ka38 ka39 ka40 w5 w4 w3 K' F' lf1 lifted cd2 codeHd l0 w2 w1 w0 w9 X0 X' ring dring k1 k2 k3 k4 k5 k6 k7 k8 sh1 sh2 zl tq tn tf zits zc lr2 lr1 lz4 zs hzs hzi hzl hzsm lpw pits pc lpw1 ps hps hpi' hpl hpsm lnu nits nc lnu1 ns hns hni' hnl hnsm kc0 kc2 kc6 kc7 kc9 kc10 kc14 kc19 kc21 kc22 kc24 kc25 kc27 kc28 kc30 kc35 lot oits oc lot1 os hos hoi' hol hosm km_d1_1 km_d1_5 xra dra ura vra lbra lara km_m0_1 km_m0_3 xrb drb urb vrb lbrb larb km_m0_5 km_m0_6 km_m0_7 km_m0_9 km_m0_12 km_m0_13 km_m0_16 km_m0_19 zpm dpm lpm ipm cpm upm vpm hipm lcpm lbpm lapm Dq1 vsq1 hvsq1 ltq1 zpa dpa lpa ipa cpa upa vpa hipa lcpa lbpa lapa Dq2 vsq2 hvsq2 ltq2 zpu dpu lpu ipu cpu upu vpu hipu lcpu lbpu lapu Dq3 vsq3 hvsq3 ltq3 zpk dpk lpk ipk cpk upk vpk hipk lcpk lbpk lapk km_T1_0 km_t0_1 km_t0_2 km_t0_3 km_t0_8 km_t0_9 km_n1_0 ts hts hti htl htg km_t1_0 km_t1_5 to dto lto tits tc q3 q4 lto3 lto2 lto1 us hus hui hul hub km_n0_0 km_n0_2 km_n0_5 km_n0_6 km_n0_8 km_n0_11 ys km_n1_2 km_n1_3 km_n1_4 km_n1_5 km_n1_6 km_n1_7 km_n1_8 km_n1_9
    exact hk.out


set_option maxRecDepth 100000 in
set_option maxHeartbeats 8000000 in
noncomputable def stW10 : One (stW9.P) := by
  refine' ⟨_, fun hk => ?main⟩
  case main =>
    intro ka0 ka1 ka2 ka3 ka4 ka7 ka8 ka9 ka10 ka11 ka12 ka14 ka16 ka24 ka25 ka31 ka33 ka38 ka39 ka40 w5 w4 w3 K' F' lf1 lifted cd2 codeHd l0 w2 w1 w0 w9 X0 X' ring dring k1 k2 k3 k4 k5 k6 k7 k8 sh1 sh2 zl tq tn tf zits zc lr2 lr1 lz4 zs hzs hzi hzl hzsm lpw pits pc lpw1 ps hps hpi' hpl hpsm lnu nits nc lnu1 ns hns hni' hnl hnsm kc0 kc2 kc6 kc7 kc9 kc10 kc14 kc19 kc21 kc22 kc24 kc25 kc27 kc28 kc30 kc35 lot oits oc lot1 os hos hoi' hol hosm km_d1_1 km_d1_5 xra dra ura vra lbra lara km_m0_1 km_m0_3 xrb drb urb vrb lbrb larb km_m0_5 km_m0_6 km_m0_7 km_m0_9 km_m0_12 km_m0_13 km_m0_16 km_m0_19 zpm dpm lpm ipm cpm upm vpm hipm lcpm lbpm lapm Dq1 vsq1 hvsq1 ltq1 zpa dpa lpa ipa cpa upa vpa hipa lcpa lbpa lapa Dq2 vsq2 hvsq2 ltq2 zpu dpu lpu ipu cpu upu vpu hipu lcpu lbpu lapu Dq3 vsq3 hvsq3 ltq3 zpk dpk lpk ipk cpk upk vpk hipk lcpk lbpk lapk km_T1_0 km_t0_1 km_t0_2 km_t0_3 km_t0_8 km_t0_9 km_n1_0 ts hts hti htl htg km_t1_0 km_t1_5 to dto lto tits tc q3 q4 lto3 lto2 lto1 us hus hui hul hub km_n0_0 km_n0_2 km_n0_5 km_n0_6 km_n0_8 km_n0_11 ys km_n1_2 km_n1_3 km_n1_4 km_n1_5 km_n1_6 km_n1_7 km_n1_8 km_n1_9
    w_on
    (have hK9 := K'); revert hK9; k_fill; intro hK9; clear hK9
    k_with_none
    k_with "CompSrc" => refine Hold.out ?_
    k_with "call type:zip" => refine Hold.out ?_
    k_with "pyIter ref" => refine Hold.out ?_
    k_with "call ref" => ((first | (with_reducible show wpAny _ _ (call (Value.ref 369) _ _) _ _ _) | (with_reducible show wpAny _ _ (call (Value.ref 599) _ _) _ _ _) | (with_reducible show wpAny _ _ (call (Value.ref 611) _ _) _ _ _) | (with_reducible show wpAny _ _ (call (Value.ref 606) _ _) _ _ _) | (with_reducible show wpAny _ _ (call (Value.ref 392) _ _) _ _ _) | (with_reducible show wpAny _ _ (call (Value.ref 535) _ _) _ _ _) | (with_reducible show wpAny _ _ (call (Value.ref 566) _ _) _ _ _) | (with_reducible show wpAny _ _ (call (Value.ref 554) _ _) _ _ _) | (with_reducible show wpAny _ _ (call (Value.ref 561) _ _) _ _ _) | (with_reducible show wpAny _ _ (call (Value.ref 191) _ _) _ _ _) | (with_reducible show wpAny _ _ (call (Value.ref 592) _ _) _ _ _) | (with_reducible show wpAny _ _ (call (Value.ref 618) _ _) _ _ _) | (with_reducible show wpAny _ _ (call (Value.ref 625) _ _) _ _ _) | (with_reducible show wpAny _ _ (call (Value.ref 630) _ _) _ _ _) | (with_reducible show wpAny _ _ (call (Value.ref 637) _ _) _ _ _)); refine Hold.out ?_)
    k_with "call ref" => ((with_reducible show wpAny _ _ (call (Value.ref ring) _ _) _ _ _); refine Hold.out ?_)
    k_with "eval ListComp" => ((with_reducible show wpAny _ _ (eval (PySem.Expr.ListComp _ [⟨PySem.Expr.Tuple _ _ _, _, _, _⟩] _ _) _) _ _ _); refine Hold.out ?_)
    refine LCg.CompSrc.ledger (by rfl) (by k_asm) (by k_asm) (by k_mem) (by first | size_fits | exact Nat.le_of_ble_eq_true rfl | (rw [sizeLine_eq, List.size_toArray, IntsAre.length (IntsAre.cons _ _ (IntsAre.cons _ _ IntsAre.nil)), hnl]; decide)) ?_
    intro g'
    refine' kcf_list (fun p => us.getD p.toNat 0) (IntsAre.cons _ _ (IntsAre.cons _ _ IntsAre.nil)) (fun k' t' I' oI' C' oC' D' m' ys' h' tk' E' hk' hC' hx' F' N' off' ne' hMark' => ?_) ?_
    (all_goals (try simp only [LCg.Off3, and_true] at off'))
    kcf_last
    · have hkb := named_bnd hk'
      have hw : (backF ps ts ns k' 256 * 8347681).fmod 8380417 = us.getD k'.toNat 0 := by
        have := inv_back ts ns htg.out hnl (p := k'.toNat) (by omega)
        rw [show ((k'.toNat : Nat) : Int) = k' by omega, ← hzs.out, ← hus.out, ← hps.out] at this
        exact this.symm
      k_steps
      refine ⟨?_⟩
      refine' back_spec ?bkB ?bkF ?bkX ?bkN ?bkT ?bkhk ?bkhd ?bkhu ?bkm1 ?bki1 ?bkl1 ?bks1 ?bkm2 ?bki2 ?bkl2 ?bkm3 ?bki3 ?bkl3 ?bkh0 ?bkh1 ?bkhret
      (case bkB => k_asm)
      (case bkF => k_asm)
      (case bkX => k_asm)
      (case bkN => k_asm)
      (case bkT => k_asm)
      (case bkhk => first | exact rfl | assumption)
      (case bkhd => ktr_room)
      (case bkhu => first | (simp only [units_deeper, units_caller, cLine]; done) | (simp only [units_deeper, units_caller, cLine]; decide) | ktr_units | (simp only [units_in1, units_deeper, units_under_tc]; ktr_units))
      (case bkm1 => k_mem)
      (case bkm2 => k_mem)
      (case bkm3 => k_mem)
      (case bki1 => with_reducible assumption)
      (case bkl1 => with_reducible assumption)
      (case bks1 => with_reducible assumption)
      (case bki2 => with_reducible assumption)
      (case bkl2 => with_reducible assumption)
      (case bki3 => with_reducible assumption)
      (case bkl3 => with_reducible assumption)
      (case bkh0 => exact hkb.1)
      (case bkh1 => exact hkb.2)
      intro t9 h9 tk9 F9 N9
      (try dsimp only)
      rw [hw]
      k_steps
      all_goals exact kcf_el rfl rfl rfl
    revert ka0 ka1 ka2 ka3 ka4 ka7 ka8 ka9 ka10 ka11 ka12 ka14 ka16 ka24 ka25 ka31 ka33 ka38 ka39 ka40 w5 w4 w3 K' F' lf1 lifted cd2 codeHd l0 w2 w1 w0 w9 X0 X' ring dring k1 k2 k3 k4 k5 k6 k7 k8 sh1 sh2 zl tq tn tf zits zc lr2 lr1 lz4 zs hzs hzi hzl hzsm lpw pits pc lpw1 ps hps hpi' hpl hpsm lnu nits nc lnu1 ns hns hni' hnl hnsm kc0 kc2 kc6 kc7 kc9 kc10 kc14 kc19 kc21 kc22 kc24 kc25 kc27 kc28 kc30 kc35 lot oits oc lot1 os hos hoi' hol hosm km_d1_1 km_d1_5 xra dra ura vra lbra lara km_m0_1 km_m0_3 xrb drb urb vrb lbrb larb km_m0_5 km_m0_6 km_m0_7 km_m0_9 km_m0_12 km_m0_13 km_m0_16 km_m0_19 zpm dpm lpm ipm cpm upm vpm hipm lcpm lbpm lapm Dq1 vsq1 hvsq1 ltq1 zpa dpa lpa ipa cpa upa vpa hipa lcpa lbpa lapa Dq2 vsq2 hvsq2 ltq2 zpu dpu lpu ipu cpu upu vpu hipu lcpu lbpu lapu Dq3 vsq3 hvsq3 ltq3 zpk dpk lpk ipk cpk upk vpk hipk lcpk lbpk lapk km_T1_0 km_t0_1 km_t0_2 km_t0_3 km_t0_8 km_t0_9 km_n1_0 ts hts hti htl htg km_t1_0 km_t1_5 to dto lto tits tc q3 q4 lto3 lto2 lto1 us hus hui hul hub km_n0_0 km_n0_2 km_n0_5 km_n0_6 km_n0_8 km_n0_11 ys km_n1_2 km_n1_3 km_n1_4 km_n1_5 km_n1_6 km_n1_7 km_n1_8 km_n1_9 g'
    exact hk.out


set_option maxRecDepth 100000 in
set_option maxHeartbeats 8000000 in
theorem way1_end : stW10.P := by
  intro ka0 ka1 ka2 ka3 ka4 ka7 ka8 ka9 ka10 ka11 ka12 ka14 ka16 ka24 ka25 ka31 ka33 ka38 ka39 ka40 w5 w4 w3 K' F' lf1 lifted cd2 codeHd l0 w2 w1 w0 w9 X0 X' ring dring k1 k2 k3 k4 k5 k6 k7 k8 sh1 sh2 zl tq tn tf zits zc lr2 lr1 lz4 zs hzs hzi hzl hzsm lpw pits pc lpw1 ps hps hpi' hpl hpsm lnu nits nc lnu1 ns hns hni' hnl hnsm kc0 kc2 kc6 kc7 kc9 kc10 kc14 kc19 kc21 kc22 kc24 kc25 kc27 kc28 kc30 kc35 lot oits oc lot1 os hos hoi' hol hosm km_d1_1 km_d1_5 xra dra ura vra lbra lara km_m0_1 km_m0_3 xrb drb urb vrb lbrb larb km_m0_5 km_m0_6 km_m0_7 km_m0_9 km_m0_12 km_m0_13 km_m0_16 km_m0_19 zpm dpm lpm ipm cpm upm vpm hipm lcpm lbpm lapm Dq1 vsq1 hvsq1 ltq1 zpa dpa lpa ipa cpa upa vpa hipa lcpa lbpa lapa Dq2 vsq2 hvsq2 ltq2 zpu dpu lpu ipu cpu upu vpu hipu lcpu lbpu lapu Dq3 vsq3 hvsq3 ltq3 zpk dpk lpk ipk cpk upk vpk hipk lcpk lbpk lapk km_T1_0 km_t0_1 km_t0_2 km_t0_3 km_t0_8 km_t0_9 km_n1_0 ts hts hti htl htg km_t1_0 km_t1_5 to dto lto tits tc q3 q4 lto3 lto2 lto1 us hus hui hul hub km_n0_0 km_n0_2 km_n0_5 km_n0_6 km_n0_8 km_n0_11 ys km_n1_2 km_n1_3 km_n1_4 km_n1_5 km_n1_6 km_n1_7 km_n1_8 km_n1_9 g'
  w_on
  (have hK9 := K'); revert hK9; k_fill; intro hK9; clear hK9
  k_with_none
  k_with "CompSrc" => refine Hold.out ?_
  k_with "call type:zip" => refine Hold.out ?_
  k_with "pyIter ref" => refine Hold.out ?_
  k_with "call ref" => ((first | (with_reducible show wpAny _ _ (call (Value.ref 369) _ _) _ _ _) | (with_reducible show wpAny _ _ (call (Value.ref 599) _ _) _ _ _) | (with_reducible show wpAny _ _ (call (Value.ref 611) _ _) _ _ _) | (with_reducible show wpAny _ _ (call (Value.ref 606) _ _) _ _ _) | (with_reducible show wpAny _ _ (call (Value.ref 392) _ _) _ _ _) | (with_reducible show wpAny _ _ (call (Value.ref 535) _ _) _ _ _) | (with_reducible show wpAny _ _ (call (Value.ref 566) _ _) _ _ _) | (with_reducible show wpAny _ _ (call (Value.ref 554) _ _) _ _ _) | (with_reducible show wpAny _ _ (call (Value.ref 561) _ _) _ _ _) | (with_reducible show wpAny _ _ (call (Value.ref 191) _ _) _ _ _) | (with_reducible show wpAny _ _ (call (Value.ref 592) _ _) _ _ _) | (with_reducible show wpAny _ _ (call (Value.ref 618) _ _) _ _ _) | (with_reducible show wpAny _ _ (call (Value.ref 625) _ _) _ _ _) | (with_reducible show wpAny _ _ (call (Value.ref 630) _ _) _ _ _) | (with_reducible show wpAny _ _ (call (Value.ref 637) _ _) _ _ _)); refine Hold.out ?_)
  k_with "call ref" => ((with_reducible show wpAny _ _ (call (Value.ref ring) _ _) _ _ _); refine Hold.out ?_)
  k_with "eval ListComp" => ((with_reducible show wpAny _ _ (eval (PySem.Expr.ListComp _ [⟨PySem.Expr.Tuple _ _ _, _, _, _⟩] _ _) _) _ _ _); refine Hold.out ?_)
  show KPfDone _
  k_steps
  (all_goals try (exfalso; have hM9 := hub.out _ (by with_reducible assumption); omega))
  (all_goals try (exfalso; omega))
  (all_goals (have hM9 := hub.out _ (by with_reducible assumption); rw [decide_eq_true hM9.2]))
  rename_i km_B_0 km_B_1 km_B_2 km_B_3 km_B_4 km_B_5 km_B_6 km_B_7 km_B_8 km_B_9 km_B_10 km_B_11 km_B_12 km_B_13 km_B_14 km_B_15 km_B_16 km_B_17 km_B_18 km_B_19 km_B_20 km_B_21 km_B_22
  clear ka0 ka3 ka4 ka8 ka12 ka25 ka31 ka33 ka38 ka39 ka40 w5 w4 w3 K' F' lf1 lifted cd2 codeHd l0 w2 w1 w0 w9 X0 X' dring k1 k2 k3 k4 k5 k6 k7 k8 sh1 sh2 zl tq tn tf zits zc lr2 lr1 lz4 zs hzs hzi hzl hzsm lpw pits pc lpw1 ps hps hpi' hpl hpsm lnu nits nc lnu1 ns hns hni' hnl hnsm kc0 kc2 kc6 kc7 kc9 kc10 kc19 kc21 kc22 kc24 kc27 kc28 kc30 kc35 oits oc lot1 os hos hoi' hol hosm km_d1_1 km_d1_5 xra dra ura vra lbra lara km_m0_1 km_m0_3 drb urb vrb lbrb larb km_m0_5 km_m0_6 km_m0_7 km_m0_9 km_m0_12 km_m0_13 km_m0_16 km_m0_19 zpm dpm lpm ipm cpm upm vpm hipm lcpm lbpm lapm Dq1 vsq1 hvsq1 ltq1 zpa dpa lpa ipa cpa upa vpa hipa lcpa lbpa lapa Dq2 vsq2 hvsq2 ltq2 zpu dpu lpu ipu cpu upu vpu hipu lcpu lbpu lapu Dq3 vsq3 hvsq3 ltq3 zpk dpk lpk ipk cpk upk vpk hipk lcpk lbpk lapk km_T1_0 km_t0_1 km_t0_2 km_t0_3 km_t0_8 km_t0_9 km_n1_0 ts hts hti htl htg km_t1_0 km_t1_5 to dto lto tits tc q3 q4 lto3 lto2 lto1 us hus hui hul hub km_n0_0 km_n0_2 km_n0_5 km_n0_6 km_n0_8 km_n0_11 km_B_0 km_n1_2 km_n1_3 km_n1_4 km_n1_5 km_n1_6 km_n1_9 g' ys km_B_1 km_B_2 km_B_3 km_B_5 km_B_6 km_B_7 km_B_9 km_B_10 km_B_12 km_B_13 km_B_14 km_B_16 km_B_17 km_B_20 km_B_21 km_B_22 hM9
  (k_end; exact good_end (by with_reducible assumption) (by with_reducible assumption) rfl)


theorem way1 : stB.P := stW0.k ⟨stW1.k ⟨stW2.k ⟨stW3.k ⟨stW4.k ⟨stW5.k ⟨stW6.k ⟨stW7.k ⟨stW8.k ⟨stW9.k ⟨stW10.k ⟨way1_end⟩⟩⟩⟩⟩⟩⟩⟩⟩⟩⟩
end Ntt
end

theorem PySem.Challenge.cw_oo0012_03_holds : PySem.Challenge.rw_oo0012_03.Holds :=
  Ntt.stA.k ⟨Ntt.stB.k ⟨Ntt.way1⟩ ⟨Ntt.stC.k ⟨Ntt.way0_end⟩ ⟨Ntt.way2_end⟩ ⟨Ntt.stD.k ⟨Ntt.stE.k ⟨Ntt.way3_end⟩⟩⟩⟩⟩
