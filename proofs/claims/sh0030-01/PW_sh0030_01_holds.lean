import PyProof.Rows.All
import Wide.All
import OpenK.AllK
import Wide.FinOn
import PySem.Challenge.RW_sh0030_01
set_option compiler.extract_closed false
open PySem PySem.W PySem.Spec PySem.Calls PyProof.Rows
set_option Elab.async false
set_option maxRecDepth 100000
set_option maxHeartbeats 8000000
set_option rowWalk.seconds 0
namespace Mine
noncomputable def vw : Program := { PySem.Challenge.pw_sh0030_01 with main := { PySem.Challenge.pw_sh0030_01.main with body := [0,1,3,5,6,7,8,10,11,12,13,14,16,17,18,20,22,23,24,25,26,27,28].filterMap fun i => PySem.Challenge.pw_sh0030_01.main.body[i]? } }
noncomputable abbrev ls : List PySem.Str := [PySem.Str.ofString "_twin_re_1", PySem.Str.ofString "_twin_re_2", PySem.Str.ofString "tspecials", PySem.Str.ofString "_name_disallowed_re", PySem.Str.ofString "_value_disallowed_re", PySem.Str.ofString "_formatparam"]
theorem well : PySem.Challenge.rw_sh0030_01.wellSaid = true := by
  unfold OpenLaw.wellSaid OpenRow.wellSaid OpenRow.partSaid looksOpen
  repeat' (with_reducible refine look_both ?_ ?_)
  all_goals (try rw [PySem.W.Fast.te8326940854005059898])
  all_goals (try rw [PySem.W.Fast.te17119622794617984870])
  all_goals (try rw [PySem.W.Fast.te8377067652309620493])
  all_goals (try rw [PySem.W.Fast.te12862048085361865435])
  all_goals (try rw [PySem.W.Fast.te11788848310118352699])
  all_goals (try rw [PySem.W.Fast.te18344453789297297638])
  all_goals (try rw [PySem.W.Fast.te9558739934217749035])
  all_goals (try rw [PySem.W.Fast.te8179353310426384613])
  all_goals (try rw [PySem.W.Fast.te16286561074155671207])
  all_goals decide +kernel
local macro_rules | `(tactic| o_law) => `(tactic| refine holds_law well fun said => ?_)
local macro_rules | `(tactic| o_head $H) => `(tactic| (
    refine holds_open (q := vw) (loose := ls) (Xt := fun s => xlAt vw [] s && recOk (RowW.records (OpenRow.toRowW (OpenLaw.row PySem.Challenge.rw_sh0030_01))) s) (XP := XL vw []) (Yf := Hook.obs $H) (Ya := Hook.val $H) (YP := Hook.says $H) (N := 3286) ?hl (Hook.of $H) (Hook.keeps $H) (fun s e => xl_of s (Bool.and_eq_true_iff.mp e).1) XL.keeps (by rfl) (by rfl) (by rfl) (fun s e => recFacts_of (Bool.and_eq_true_iff.mp e).2) (by rfl) (by first | assumption | decide +kernel) (by decide +kernel) ⟨rfl, rfl, rfl, rfl, rfl, by decide +kernel⟩ ?hw ?hc
    (case hl => (show ∀ w : World, _ = _); intro w; unfold openEnds fencedOpening topFrom; rw [PySem.W.Fast.te10274390034422433532, PySem.W.Fast.te14082659384304107361, PySem.W.Fast.te14364793385576792824, PySem.W.Fast.te1435165496053646825, PySem.W.Fast.te4187177175401517315]; kernel_rfl)))
open_top hd for PySem.Challenge.rw_sh0030_01

section
section
variable {w : World} {A : Around} {s : Shared} {R : Result → Shared → Prop} {K : Frag} {prog : Program}
  {name qual : Str} {params : Arguments} {body : List Stmt} {scope : Scope} {dV kV doc pm cdv ct oc : Value} {an od : Option Addr} {osl : Array (Option Value)} {f : Addr} {args : Args}
theorem enterS (binds : List (Str × Value)) (X : K.In s.heap) (hlim : s.heap.NoLimit)
    (ho : K.lookup f = some ⟨oc, od, .func (fnOf name qual params body scope dV kV doc pm an cdv ct), osl⟩) (hcd : codeIn K cdv qual = true) (hroom : A.depth < recursionLimit)
    (hbind : BindsTo s (fnOf name qual params body scope dV kV doc pm an cdv ct) args binds) (hloc : (binds.all fun y => scope.names.lookup y.1 == some .local) = true)
    (h : ∀ L' h₁, Fr s.heap L' h₁ (fun y => binds.reverse.lookup y) → News s.heap L' h₁ [] →
      wpAny (model prog w) (A.deeper (envOf qual scope L' f cdv)) (execs body (envOf qual scope L' f cdv))
        (fun fl s' => R (.ok (.ret (match fl with | .ret v => v | _ => .none))) s') (fun _ _ => False)
        { s with heap := h₁, toks := s.toks + binds.length })
    (hco : scope.isCoroutine = false) (hgen : scope.isGenerator = false) (hk : scope.kind = .function)
    (hcell : (scope.names.all fun x => x.2 != .cell) = true) : codeAny (model prog w) A (.call (.ref f) args) R s := by
  refine codeAny_call_def (fd := fnOf name qual params body scope dV kV doc pm an cdv ct) (body := body) (binds := binds) hroom (X _ _ ho) rfl hlim (codeRec_of X hcd) rfl hbind (fun x hx => ?_) (fun y hy => ?_) (fun h₁ hns hk₁ => ?_) hco hgen hk
  · simpa using List.all_eq_true.mp hcell x hx
  · exact beq_iff_eq.mp (List.all_eq_true.mp hloc y hy)
  exact wpAny_mono (h s.heap.objs.size h₁ ⟨hns, hk₁, Nat.le_refl _⟩ News.nil) (fun _ _ y => y) fun _ _ y => y.elim
end
abbrev prg : Program := PySem.Challenge.rw_sh0030_01.row.prog
def PureCall (w : World) (A : Around) (f : Addr) (args : Args) (s : Shared) (V : Value → Prop) : Prop :=
  ∀ R : Result → Shared → Prop, (∀ v h' tk, V v → (∀ a o, s.heap.get? a = some o → h'.get? a = some o) → R (.ok (.ret v)) { s with heap := h', toks := tk }) → codeAny (model prg w) A (.call (.ref f) args) R s
theorem PureCall.use {w : World} {A : Around} {f : Addr} {pos : List Value} {s : Shared} {V : Value → Prop} {h₀ : Heap} {L : Addr} {m : Str → Option Value} {news : List (Addr × Obj)} {Q : Value → Shared → Prop} {E : Value → Shared → Prop}
    (P : PureCall w A f ⟨pos, []⟩ s V) (F : Fr h₀ L s.heap m) (N : News h₀ L s.heap news)
    (h : ∀ v h' tk, V v → Fr h₀ L h' m → News h₀ L h' news → (∀ a o, s.heap.get? a = some o → h'.get? a = some o) → Q v { s with heap := h', toks := tk }) : wpAny (model prg w) A (call (.ref f) pos []) Q E s :=
  wpAny_call (P _ fun v h' tk hv hk => h v h' tk hv (F.keeps hk) (N.grown hk) hk)
def StepJ (h₀ : Heap) (L : Addr) (I : Addr) (oI : Obj) (J : (Str → Option Value) → List (Addr × Obj) → Prop) (s₁ : Shared) (Q : Flow → Shared → Prop) (f : Flow) (s₂ : Shared) : Prop :=
  match f with
  | .ret v => Q (.ret v) s₂
  | .brk => Q .next s₂
  | _ => ∃ h' tk m' nx, s₂ = { s₁ with heap := h', toks := tk } ∧ Fr h₀ L h' m' ∧ News h₀ L h' (nx ++ [(I, oI)]) ∧ (∀ p ∈ nx, p.1 ≠ I) ∧ J m' nx
section
variable {prog : Program} {w : World} {A : Around} {E : Value → Shared → Prop} {s : Shared} {env : Env} {h₀ : Heap} {x : Str} {body : List Stmt} {Q : Flow → Shared → Prop}
theorem iter_rangeJ {r : Addr} {a b c : Int} {t₀ u₀ v₀ : Tok} (n : Nat) (J : Nat → (Str → Option Value) → List (Addr × Obj) → Prop) {m₀ : Str → Option Value} {news : List (Addr × Obj)}
    (hh : A.handled = none) (hr : IsRange s.heap r a b c t₀ u₀ v₀) (hsmall : Builtin.Range.small a b c = true) (hn : Builtin.Range.rangeSize a b c = (n : Int)) (F : Fr h₀ env.locals s.heap m₀) (N : News h₀ env.locals s.heap news) (hj : J 0 m₀ news)
    (turn : ∀ i t m₁ nx h tk I oI, i < n → J i m₁ nx → (∀ p ∈ nx, p.1 ≠ I) → Fr h₀ env.locals h (fun y => if y = x then some (.int (a + (i : Int) * c) t) else m₁ y) → News h₀ env.locals h (nx ++ [(I, oI)]) →
      wpAny (model prog w) A (execs body env) (StepJ h₀ env.locals I oI (J (i + 1)) { s with heap := h, toks := tk } Q) E { s with heap := h, toks := tk })
    (done : ∀ m₁ nx h tk, J n m₁ nx → Fr h₀ env.locals h m₁ → News h₀ env.locals h nx → Q .next { s with heap := h, toks := tk }) :
    wpAny (model prog w) A (pyIter (.ref r)) (fun it s₂ => LoopAtV prog w A h₀ env x body Q E it s₂) E s := by
  refine wpAny_pyIter_range hr hsmall ?_
  have W := Walks.range (prog := prog) (w := w) hh s.heap.objs.size a c n
  refine ⟨_, _, _, n, _, _, m₀, news, J, rfl, W, ?_, ?_, ?_, ?_, F.push _, (fun p hp => ⟨Heap.get?_push_of_some _ (N p hp).1, (N p hp).2⟩), hj, ?_, ?_⟩
  · intro hm
    exact absurd F.ns.lt ((List.mem_singleton.mp hm) ▸ Nat.lt_irrefl _)
  · intro q hq
    rw [List.mem_singleton.mp hq]
    exact next_is_new F
  · intro p hp hI
    exact absurd (Heap.lt_size (N p hp).1) ((List.mem_singleton.mp hI) ▸ Nat.lt_irrefl _)
  · show IsRangeIter _ _ _ _ _
    rw [hn]
    simpa using Heap.get?_push_size _ rfl
  · rintro i v m₁ news₁ s₁ own ⟨hh', tk', rfl⟩ hin ⟨t, rfl⟩ hJ hoff hown hval hall hst F₁ N₁
    have hst' : hh'.get? s.heap.objs.size = some _ := hst
    have hio := hall s.heap.objs.size (List.mem_singleton.mpr rfl) (next_is_new F) _ hst'
    generalize hoI : ({ cls := .type "range_iterator", data := .fields #[rawInt (a + ((i + 1 : Nat) : Int) * c), rawInt ((n : Int) - ((i + 1 : Nat) : Int)), rawInt c] } : Obj) = oI at hio hst'
    have hone := own_one (h₀ := h₀) hown (fun b hb => .inl (List.mem_singleton.mp hb)) hst' N₁
    have N₂ : News h₀ env.locals hh' (news₁ ++ [(s.heap.objs.size, oI)]) := fun p hp => by
      rcases List.mem_append.mp hp with hp | hp
      · exact N₁ _ (List.mem_append_right _ hp)
      · rw [List.mem_singleton.mp hp]; exact N₁ _ (List.mem_append_left _ hio)
    refine wpAny_mono (turn i t m₁ news₁ hh' tk' _ oI hin hJ (fun p hp e => hoff p hp (List.mem_singleton.mpr e)) F₁ N₂) (fun f s₂ q => ?_) fun _ _ e => e
    have fin : (∃ h' tk m' nx, s₂ = { ({ s with heap := hh', toks := tk' } : Shared) with heap := h', toks := tk } ∧ Fr h₀ env.locals h' m' ∧ News h₀ env.locals h' (nx ++ [(s.heap.objs.size, oI)]) ∧ (∀ p ∈ nx, p.1 ≠ s.heap.objs.size) ∧ J (i + 1) m' nx) →
        LoopStepU h₀ env.locals [s.heap.objs.size] own (J (i + 1)) { s with heap := hh', toks := tk' } .next s₂ := by
      rintro ⟨h', tk, m', nx, e, F', N', hne, hJ'⟩
      refine ⟨rfl, h', tk, m', nx, e, F', fun p hp => ?_, fun p hp hq => hne p hp (List.mem_singleton.mp hq), hJ'⟩
      rcases List.mem_append.mp hp with hp | hp
      · rw [hone p hp]; exact N' _ (List.mem_append_right _ (List.mem_singleton.mpr rfl))
      · exact N' p (List.mem_append_left _ hp)
    cases f with
    | ret v => exact .ret q
    | brk => exact .brk q
    | next => exact .next (fin q)
    | cont => exact .cont (fin q)
  · rintro h' tk m' news' F' N' _ hJ'
    exact done m' news' h' tk hJ' F' N'
end
def upd (l : List (Str × Option Value)) (m₀ : Str → Option Value) : Str → Option Value := fun z => match l.lookup z with | some v => v | none => m₀ z
def AllAt (m : Str → Option Value) : List (Str × Option Value) → Prop
  | [] => True
  | p :: r => m p.1 = p.2 ∧ AllAt m r
def Off (m m₀ : Str → Option Value) (z : Str) : List (Str × Option Value) → Prop
  | [] => m z = m₀ z
  | p :: r => z ≠ p.1 → Off m m₀ z r
def MapIs (x : Str) (l : List (Str × Option Value)) (m₀ m : Str → Option Value) : Prop := AllAt m l ∧ ∀ z, z ≠ x → Off m m₀ z l
theorem AllAt.get {m : Str → Option Value} {z : Str} {v : Option Value} : ∀ {l : List (Str × Option Value)}, AllAt m l → l.lookup z = some v → m z = v
  | [], _, h => nomatch h
  | p :: r, h, e => by
    obtain ⟨a, b⟩ := p
    simp only [List.lookup] at e
    by_cases q : z == a
    · rw [q] at e
      have : z = a := beq_iff_eq.mp q
      cases e
      rw [this]; exact h.1
    · simp only [Bool.not_eq_true] at q
      rw [q] at e
      exact AllAt.get h.2 e
theorem Off.get {m m₀ : Str → Option Value} {z : Str} : ∀ {l : List (Str × Option Value)}, Off m m₀ z l → l.lookup z = none → m z = m₀ z
  | [], h, _ => h
  | p :: r, h, e => by
    obtain ⟨a, b⟩ := p
    simp only [List.lookup] at e
    by_cases q : z == a
    · rw [q] at e; cases e
    · simp only [Bool.not_eq_true] at q
      rw [q] at e
      exact Off.get (h (by intro h'; rw [h'] at q; simp at q)) e
theorem MapIs.at {x : Str} {l : List (Str × Option Value)} {m₀ m : Str → Option Value} (h : MapIs x l m₀ m) (z : Str) (hz : z ≠ x) : m z = upd l m₀ z := by
  unfold upd
  cases e : l.lookup z with
  | some v => exact h.1.get e
  | none => exact (h.2 z hz).get e
theorem MapIs.eq {x : Str} {l : List (Str × Option Value)} {m₀ m : Str → Option Value} (h : MapIs x l m₀ m) (v : Option Value) : (fun y => if y = x then v else m y) = fun y => if y = x then v else upd l m₀ y := by
  funext y
  by_cases q : y = x
  · simp [q]
  · simp only [if_neg q]; exact h.at y q
theorem MapIs.full {x : Str} {l : List (Str × Option Value)} {m₀ m : Str → Option Value} (h : MapIs x l m₀ m) : m = fun y => if y = x then m x else upd l m₀ y := by
  funext y
  by_cases q : y = x
  · simp [q]
  · simp only [if_neg q]; exact h.at y q
def StepX {σ : Type} (h₀ : Heap) (L : Addr) (I : Addr) (oI : Obj) (x : Str) (m₀ : Str → Option Value) (ms : σ → List (Str × Option Value)) (led : σ → List (Addr × Obj)) (Inv : σ → Prop) (s₁ : Shared) (Q : Flow → Shared → Prop) (f : Flow) (s₂ : Shared) : Prop :=
  match f with
  | .ret v => Q (.ret v) s₂
  | .brk => Q .next s₂
  | _ => ∃ h' tk m' st, s₂ = { s₁ with heap := h', toks := tk } ∧ Fr h₀ L h' m' ∧ News h₀ L h' (led st ++ [(I, oI)]) ∧ (∀ p ∈ led st, p.1 ≠ I) ∧ MapIs x (ms st) m₀ m' ∧ Inv st
theorem StepX.next {σ : Type} {h₀ : Heap} {L : Addr} {I : Addr} {oI : Obj} {x : Str} {m₀ : Str → Option Value} {ms : σ → List (Str × Option Value)} {led : σ → List (Addr × Obj)} {Inv : σ → Prop} {s₁ : Shared} {Q : Flow → Shared → Prop} {h' : Heap} {tk : Nat} {m' : Str → Option Value} {all : List (Addr × Obj)} (st : σ)
    (F : Fr h₀ L h' m') (N : News h₀ L h' all) (sub : ∀ p ∈ led st ++ [(I, oI)], p ∈ all) (off : ∀ p ∈ led st, p.1 ≠ I) (hm : MapIs x (ms st) m₀ m') (hi : Inv st) :
    StepX h₀ L I oI x m₀ ms led Inv s₁ Q .next { s₁ with heap := h', toks := tk } := ⟨h', tk, m', st, rfl, F, fun p hp => N p (sub p hp), off, hm, hi⟩
section
variable {prog : Program} {w : World} {A : Around} {E : Value → Shared → Prop} {s : Shared} {env : Env} {h₀ : Heap} {x : Str} {body : List Stmt} {Q : Flow → Shared → Prop}
theorem iter_rangeX {σ : Type} (n : Nat) (ms : σ → List (Str × Option Value)) (led : σ → List (Addr × Obj)) (Inv : Nat → σ → Prop) (st₀ : σ) {r : Addr} {a b c : Int} {t₀ u₀ v₀ : Tok} {m₀ : Str → Option Value} {news : List (Addr × Obj)}
    (hh : A.handled = none) (hr : IsRange s.heap r a b c t₀ u₀ v₀) (hsmall : Builtin.Range.small a b c = true) (hn : Builtin.Range.rangeSize a b c = (n : Int)) (F : Fr h₀ env.locals s.heap m₀) (N : News h₀ env.locals s.heap news)
    (hsub : ∀ p ∈ led st₀, p ∈ news) (hm : AllAt m₀ (ms st₀)) (hi : Inv 0 st₀)
    (turn : ∀ i t st h tk I oI, i < n → Inv i st → (∀ p ∈ led st, p.1 ≠ I) → Fr h₀ env.locals h (fun y => if y = x then some (.int (a + (i : Int) * c) t) else upd (ms st) m₀ y) → News h₀ env.locals h (led st ++ [(I, oI)]) →
      wpAny (model prog w) A (execs body env) (StepX h₀ env.locals I oI x m₀ ms led (Inv (i + 1)) { s with heap := h, toks := tk } Q) E { s with heap := h, toks := tk })
    (done : ∀ v st h tk, Inv n st → Fr h₀ env.locals h (fun y => if y = x then v else upd (ms st) m₀ y) → News h₀ env.locals h (led st) → Q .next { s with heap := h, toks := tk }) :
    wpAny (model prog w) A (pyIter (.ref r)) (fun it s₂ => LoopAtV prog w A h₀ env x body Q E it s₂) E s := by
  refine iter_rangeJ n (fun i m nx => ∃ st, MapIs x (ms st) m₀ m ∧ nx = led st ∧ Inv i st) hh hr hsmall hn F (fun p hp => N p (hsub p hp)) ⟨st₀, ⟨hm, fun z _ => ?_⟩, rfl, hi⟩ ?_ ?_
  · generalize ms st₀ = l
    induction l with
    | nil => exact rfl
    | cons p r ih => exact fun _ => ih
  · rintro i t m₁ nx h tk I oI hin ⟨st, hM, rfl, hI⟩ hoff F₁ N₁
    rw [hM.eq] at F₁
    refine wpAny_mono (turn i t st h tk I oI hin hI hoff F₁ N₁) (fun f s₂ q => ?_) fun _ _ e => e
    cases f with
    | ret v => exact q
    | brk => exact q
    | next => obtain ⟨h', tk', m', st', e, F', N', o, hM', hI'⟩ := q; exact ⟨h', tk', m', _, e, F', N', o, st', hM', rfl, hI'⟩
    | cont => obtain ⟨h', tk', m', st', e, F', N', o, hM', hI'⟩ := q; exact ⟨h', tk', m', _, e, F', N', o, st', hM', rfl, hI'⟩
  · rintro m₁ nx h tk ⟨st, hM, rfl, hI⟩ F₁ N₁
    rw [hM.full] at F₁
    exact done _ st h tk hI F₁ N₁
end
section
variable {σ : Type} {h₀ : Heap} {L : Addr} {I : Addr} {oI : Obj} {x : Str} {m₀ : Str → Option Value} {ms : σ → List (Str × Option Value)} {led : σ → List (Addr × Obj)} {Inv : σ → Prop} {s₁ s₂ : Shared} {Q : Flow → Shared → Prop}
theorem StepX.ret_ {v : Value} (h : Q (.ret v) s₂) : StepX h₀ L I oI x m₀ ms led Inv s₁ Q (.ret v) s₂ := h
theorem StepX.brk_ (h : Q .next s₂) : StepX h₀ L I oI x m₀ ms led Inv s₁ Q .brk s₂ := h
theorem upd_cons {a : Str} {v : Option Value} {l : List (Str × Option Value)} {z : Str} : upd ((a, v) :: l) m₀ z = if z = a then v else upd l m₀ z := by
  unfold upd
  simp only [List.lookup]
  by_cases h : z = a
  · simp [h]
  · have : (z == a) = false := by simpa using h
    rw [this, if_neg h]
theorem upd_nil {z : Str} : upd [] m₀ z = m₀ z := rfl
end
def AllNe (d : Addr) : List (Addr × Obj) → Prop
  | [] => True
  | p :: r => @Ne Nat p.1 d ∧ AllNe d r
theorem allNe_of {d : Addr} : ∀ {l : List (Addr × Obj)}, (∀ p ∈ l, p.1 ≠ d) → AllNe d l
  | [], _ => trivial
  | p :: _, h => ⟨h p (.head _), allNe_of fun q hq => h q (.tail _ hq)⟩

end
section
open PyProof.Rows.LCg
section
variable {prog : Program} {w : World} {A : Around} {E : Value → Shared → Prop} {s : Shared} {h₀ : Heap} {L : Addr} {m : Str → Option Value} {env : Env}
theorem comp_loop {elt target iter : Expr} {ifs : List Expr} {scope : Scope} {pos : Pos} {it acc : Value} {env : Env} {R : Result → Shared → Prop} (I : Nat → Shared → Prop)
    (turn : ∀ n s, I n s → wpAny (model prog w) A (pyNext it) (fun r s₁ => match r with
      | none => R (.ok .next) s₁
      | some v => wpAny (model prog w) A (letOwnedTupleGo target it v) (fun _ s₀ => wpAny (model prog w) A (assign target env v) (fun _ s₂ =>
          wpAny (model prog w) A (forIn ifs true fun c r => if r = true then do let ok ← isTrue c env (eval c env); pure (ForInStep.yield ok) else pure (ForInStep.yield r)) (fun ok s₃ =>
            if ok = true then wpAny (model prog w) A (eval elt env) (fun x s₄ =>
              wpAny (model prog w) A (call (.builtin "list.append") [acc, x]) (fun _ s₅ => ∃ m, m < n ∧ I m s₅) (notedBy (model prog w) A env fun e s' => R (.error e) s') s₄) (notedBy (model prog w) A env fun e s' => R (.error e) s') s₃
            else ∃ m, m < n ∧ I m s₃) (notedBy (model prog w) A env fun e s' => R (.error e) s') s₂) (notedBy (model prog w) A env fun e s' => R (.error e) s') s₀) (notedBy (model prog w) A env fun e s' => R (.error e) s') s₁) (notedBy (model prog w) A env fun e s' => R (.error e) s') s)
    (n : Nat) (h : I n s) : codeAny (model prog w) A (.compLoop (.ListComp elt [⟨target, iter, ifs, 0⟩] scope pos) 0 it acc env) R s := by
  refine codeAny_loop rfl I (fun n s hI => ?_) n h
  show wpAny _ A ((compTurn (.ListComp elt [⟨target, iter, ifs, 0⟩] scope pos) 0 it acc env).onRaise (fun x => do noteFrame x env; theTreesLotGoes x)) _ _ s
  refine wpAny_noted ?_
  rw [compTurn_list]
  refine wpAny_bind (wpAny_standAt (wpAny_bind (wpAny_mono (turn n s hI) (fun r s₁ h₁ => ?_) fun _ _ h' => h')))
  cases r with
  | none => exact wpAny_pure h₁
  | some v =>
    refine wpAny_bind (wpAny_mono h₁ (fun _ s₀ h₀ => ?_) fun _ _ h' => h')
    refine wpAny_bind (wpAny_mono h₀ (fun _ s₂ h₂ => wpAny_bind (wpAny_mono h₂ (fun ok s₃ h₃ => ?_) fun _ _ h' => h')) fun _ _ h' => h')
    cases ok with
    | false => exact wpAny_pure ⟨rfl, h₃⟩
    | true => exact wpAny_bind (wpAny_bind (wpAny_mono h₃ (fun x s₄ h₄ => wpAny_bind (wpAny_mono h₄ (fun _ s₅ h₅ => wpAny_pure (wpAny_pure ⟨rfl, h₅⟩)) fun _ _ h' => h')) fun _ _ h' => h'))

def CompTurn (prog : Program) (w : World) (A : Around) (h₀ : Heap) (L : Addr) (m : Str → Option Value) (elt : Expr) (tests : List Expr) (cenv : Env) (s₁ : Shared) (I : Addr) (oI : Obj) (C : Addr) (oC : Obj) (D : Addr) (ys : List Value) (S : List (Addr × Obj) → Prop) (J : List Value → List (Addr × Obj) → Prop) : Prop :=
  match tests with
  | [] => ∀ E', wpAny (model prog w) A (eval elt cenv) (CompEnd h₀ L m s₁ I oI C oC D (lst ys) S (fun y n => J (ys ++ [y]) n)) E' s₁
  | [c] => ∀ E', wpAny (model prog w) A (isTrue c cenv (eval c cenv)) (fun ok s₃ => if ok = true then wpAny (model prog w) A (eval elt cenv) (CompEnd h₀ L m s₁ I oI C oC D (lst ys) S (fun y n => J (ys ++ [y]) n)) E' s₃
      else CompEnd h₀ L m s₁ I oI C oC D (lst ys) S (fun _ n => J ys n) .none s₃) E' s₁
  | _ => False

theorem comp_core {elt target iter : Expr} {tests : List Expr} {scope : Scope} {cl : List (Str × Addr)} {pos : Pos} {s₂ : Shared} {I : Addr} {fp : List Addr} {n : Nat} {P : Nat → Value → Prop} {St : Nat → Heap → Prop} {S : List (Addr × Obj) → Prop} {J : Nat → List Value → List (Addr × Obj) → Prop}
    {Tg : Nat → Value → Heap → (Str → Option Value) → Prop} {news : List (Addr × Obj)} {RR : Value → Addr → Result → Shared → Prop}
    (W : Walks prog w A I fp [I] n P St) (hsz : n ≤ sizeLine) (hIo : ∀ i h, St i h → ∃ o, h.get? I = some o)
    (hSt : ∀ i h h' o nw, St i h → h.get? I = some o → h'.get? I = some o → (∀ b o, h₀.get? b = some o → h'.get? b = some o) → News h₀ L h' nw → S nw → St i h')
    (hgo : ∀ i v (s : Shared) (Q : Unit → Shared → Prop) (E : Value → Shared → Prop), St i s.heap → Q () s → wpAny (model prog w) A (letOwnedTupleGo target (.ref I) v) Q E s)
    (hT : ∀ i v C m' nw (s' : Shared) (Q' : Unit → Shared → Prop) (E' : Value → Shared → Prop), P i v → S nw → Fr h₀ L s'.heap m → News h₀ L s'.heap nw → s'.heap.Ns C m' →
      (∀ h' tk m₂, h'.Ns C m₂ → Tg i v h' m₂ → (∀ c o, c ≠ C → s'.heap.get? c = some o → h'.get? c = some o) → Q' () { s' with heap := h', toks := tk }) → wpAny (model prog w) A (assign target (compEnvC scope cl C env) v) Q' E' s')
    (hcell : ∀ y ∈ scope.names, y.2 ≠ .cell) (hkind : scope.kind = .function) (hst : St 0 s₂.heap) (hfp : ∀ b ∈ fp, b < s₂.heap.objs.size)
    (F : Fr h₀ L s₂.heap m) (N : News h₀ L s₂.heap news) (hIL : L ≠ I) (hI₀ : h₀.get? I = none) (off : ∀ p ∈ news, p.1 ≠ I) (hS : S news) (hJ : J 0 [] news)
    (turn : ∀ i v ys nw I oI oC C D m₂ h tk, i < n → P i v → S nw → J i ys nw → ys.length ≤ i → NsObj oC m₂ → Tg i v h m₂ → Fr h₀ L h m → News h₀ L h ((I, oI) :: (C, oC) :: (D, lst ys) :: nw) → Off3 I C D nw → ((@Ne Nat I C) ∧ (@Ne Nat I D) ∧ (@Ne Nat C D)) →
      CompTurn prog w A h₀ L m elt tests (compEnvC scope cl C env) { s₂ with heap := h, toks := tk } I oI C oC D ys S (J (i + 1)))
    (hRR : ∀ D C h tk m' ys news', Fr h₀ L h m → News h₀ L h ((D, lst ys) :: news') → Off1 D news' → h.Ns C m' → h₀.get? C = none → h₀.get? D = none → C ≠ L → D ≠ L → C ≠ D → (∀ p ∈ news', p.1 ≠ C) → S news' → J n ys news' → ys.length ≤ n → RR (.ref D) C (.ok .next) { s₂ with heap := h, toks := tk }) :
    wpAny (model prog w) A (newList []) (fun acc s₃ => wpAny (model prog w) A (newFunctionEnv scope env.globals cl [] env.qual none .none (some env)) (fun cenv s₄ =>
      codeAny (model prog w) A (.compStart (.ListComp elt [⟨target, iter, tests, 0⟩] scope pos) 0 (.ref I) acc { cenv with scope := relabel scope env }) (RR acc cenv.locals) s₄) E s₃) E s₂ := by
  refine wpAny_newObj_type (wpAny_newFunctionEnv hcell (by intro y hy; simp at hy) (fun h₁ hns₁ hsb₁ => ?_) hkind)
  dsimp only at hns₁ hsb₁ ⊢
  generalize hH2 : s₂.heap.push { cls := .type "list", dict := none, data := .seq ([] : List Value).toArray } = H2 at hns₁ hsb₁ ⊢
  have hC : H2.objs.size = s₂.heap.objs.size + 1 := by rw [← hH2, Heap.size_push]
  have hDC : s₂.heap.objs.size ≠ H2.objs.size := by rw [hC]; exact Nat.ne_of_lt (Nat.lt_succ_self _)
  have below : ∀ b, b < s₂.heap.objs.size → b ≠ H2.objs.size ∧ b ≠ s₂.heap.objs.size := fun b hb => ⟨by rw [hC]; exact Nat.ne_of_lt (Nat.lt_succ_of_lt hb), Nat.ne_of_lt hb⟩
  have hDf : s₂.heap.objs.size ∉ fp := fun hm => Nat.lt_irrefl _ (hfp _ hm)
  have hCf : H2.objs.size ∉ fp := fun hm => by have := hfp _ hm; rw [hC] at this; exact Nat.lt_irrefl _ (Nat.lt_of_succ_lt this)
  have hIf : I ∈ fp := W.sub I (List.mem_singleton.mpr rfl)
  have hIlt : I < s₂.heap.objs.size := hfp I hIf
  have old : ∀ b o, s₂.heap.get? b = some o → h₁.get? b = some o := fun b o e => hsb₁.extBut b o (below b (Heap.lt_size e)).1 (Heap.get?_push_of_some _ (hH2 ▸ Heap.get?_push_of_some _ e))
  have hacc : h₁.get? s₂.heap.objs.size = some (lst []) := hsb₁.extBut _ _ hDC (Heap.get?_push_of_some _ (hH2 ▸ Heap.get?_push_size _ rfl))
  have hst₁ : St 0 h₁ := W.frame _ _ _ hst fun b _ o e => old b o e
  have fresh : ∀ a, s₂.heap.objs.size ≤ a → s₂.heap.get? a = none := fun a ha => by
    cases e : s₂.heap.get? a with
    | none => rfl
    | some o' => exact absurd (Heap.lt_size e) (Nat.not_lt.mpr ha)
  have fresh₀ : ∀ a, s₂.heap.objs.size ≤ a → h₀.get? a = none := fun a ha => by
    cases e : h₀.get? a with
    | none => rfl
    | some o' => have := F.keep a o' e; rw [fresh a ha] at this; cases this
  have hD₀ : h₀.get? s₂.heap.objs.size = none := fresh₀ _ (Nat.le_refl _)
  have hC₀ : h₀.get? H2.objs.size = none := fresh₀ _ (by rw [hC]; exact Nat.le_succ _)
  have hLlt : L < s₂.heap.objs.size := F.ns.lt
  have hDL : s₂.heap.objs.size ≠ L := Ne.symm (below L hLlt).2
  have hCL : H2.objs.size ≠ L := Ne.symm (below L hLlt).1
  have hCI : I ≠ H2.objs.size := (below I hIlt).1
  have hDI : I ≠ s₂.heap.objs.size := (below I hIlt).2
  have off₀ : Off3 I H2.objs.size s₂.heap.objs.size news := Off3.of fun p hp => ⟨off p hp, (below _ (Heap.lt_size (N p hp).1)).1, (below _ (Heap.lt_size (N p hp).1)).2⟩
  have loop : ∀ s₃ : Shared, s₃ = { s₂ with heap := h₁, toks := s₂.toks + ([] : List (Str × Value)).length } →
      codeAny (model prog w) A (.compLoop (.ListComp elt [⟨target, iter, tests, 0⟩] scope pos) 0 (.ref I) (.ref s₂.heap.objs.size) (compEnvC scope cl H2.objs.size env))
        (RR (.ref s₂.heap.objs.size) H2.objs.size) s₃ := by
    rintro s₃ rfl
    refine comp_loop
      (fun k s' => ∃ h' tk i ys m' news', s' = { s₂ with heap := h', toks := tk } ∧ i ≤ n ∧ k = n + 1 - i ∧ ys.length ≤ i ∧ St i h' ∧ Fr h₀ L h' m ∧ h'.Ns H2.objs.size m' ∧ News h₀ L h' ((s₂.heap.objs.size, lst ys) :: news') ∧
        Off3 I H2.objs.size s₂.heap.objs.size news' ∧ S news' ∧ J i ys news') ?_ (n + 1)
      ⟨h₁, _, 0, [], _, news, rfl, Nat.zero_le _, rfl, Nat.le_refl _, hst₁, F.keeps old, hns₁, fun p hp => ?_, off₀, hS, hJ⟩
    · rintro k s' ⟨h', tk, i, ys, m', news', rfl, hi, rfl, hyl, hst', F', hn', N', off', hS', hJ'⟩
      have off3 := off'.mem
      by_cases hlt : i < n
      · refine W.item i _ _ _ hlt hst' fun v h₂ tk₂ hPv hst₂ hk₂ => ?_
        have F₂ : Fr h₀ L h₂ m := fr_but F' hk₂ hIL hI₀
        have N₂ : News h₀ L h₂ ((s₂.heap.objs.size, lst ys) :: news') := news_but N' hk₂ fun p hp => by
          rcases List.mem_cons.mp hp with rfl | hp
          · exact Ne.symm hDI
          · exact (off3 p hp).1
        have hn₂ : h₂.Ns H2.objs.size m' := hn'.at' fun o e => hk₂ _ o (by simpa using Ne.symm hCI) e
        refine hgo (i + 1) v _ _ _ hst₂ ?_
        refine hT i v H2.objs.size m' news' _ _ _ hPv hS' F₂ (fun p hp => N₂ p (List.mem_cons_of_mem _ hp)) hn₂ fun h₃ tk₃ m₂ hn₃ hTg hs₃ => ?_
        have hst₃ : St (i + 1) h₃ := W.frame _ _ _ hst₂ fun b hb o e => hs₃ b o (fun q => hCf (q ▸ hb)) e
        obtain ⟨oI, heI⟩ := hIo _ _ hst₃
        obtain ⟨oC, heC, hoC⟩ := ns_obj hn₃
        have F₃ : Fr h₀ L h₃ m := ⟨F₂.ns.at' fun o e => hs₃ _ o (Ne.symm hCL) e, fun c o e => hs₃ c o (fun q => by rw [q, hC₀] at e; cases e) (F₂.keep c o e), F₂.above⟩
        have N₃ : News h₀ L h₃ ((I, oI) :: (H2.objs.size, oC) :: (s₂.heap.objs.size, lst ys) :: news') := fun p hp => by
          rcases List.mem_cons.mp hp with rfl | hp
          · exact ⟨heI, Ne.symm hIL, hI₀⟩
          · rcases List.mem_cons.mp hp with rfl | hp
            · exact ⟨heC, hCL, hC₀⟩
            · have z := N₂ p hp
              refine ⟨hs₃ _ _ ?_ z.1, z.2⟩
              rcases List.mem_cons.mp hp with rfl | hp
              · exact hDC
              · exact (off3 p hp).2.1
        have T := turn i v ys news' I oI oC H2.objs.size s₂.heap.objs.size m₂ h₃ tk₃ hlt hPv hS' hJ' hyl hoC hTg F₃ N₃ off' ⟨hCI, hDI, Ne.symm hDC⟩
        have fin : ∀ (ys' : List Value) (s₄ : Shared), CompEnd h₀ L m { s₂ with heap := h₃, toks := tk₃ } I oI H2.objs.size oC s₂.heap.objs.size (lst ys) S (fun _ n => J (i + 1) ys' n) .none s₄ → True := fun _ _ _ => trivial
        have app : ∀ (y : Value) (s₄ : Shared), CompEnd h₀ L m { s₂ with heap := h₃, toks := tk₃ } I oI H2.objs.size oC s₂.heap.objs.size (lst ys) S (fun y n => J (i + 1) (ys ++ [y]) n) y s₄ →
            wpAny (model prog w) A (call (.builtin "list.append") [.ref s₂.heap.objs.size, y]) (fun _ s₅ => ∃ m₁, m₁ < n + 1 - i ∧ ∃ h' tk i ys m' news', s₅ = { s₂ with heap := h', toks := tk } ∧ i ≤ n ∧ m₁ = n + 1 - i ∧ ys.length ≤ i ∧ St i h' ∧ Fr h₀ L h' m ∧ h'.Ns H2.objs.size m' ∧ News h₀ L h' ((s₂.heap.objs.size, lst ys) :: news') ∧
        Off3 I H2.objs.size s₂.heap.objs.size news' ∧ S news' ∧ J i ys news') (notedBy (model prog w) A (compEnvC scope cl H2.objs.size env) fun e s' => RR (.ref s₂.heap.objs.size) H2.objs.size (.error e) s') s₄ := by
          rintro y s₄ ⟨h₄, tk₄, news₄, rfl, F₄, N₄, off₄, hS₄, hJ₄⟩
          have zI := (N₄ (I, oI) List.mem_cons_self).1
          have zC := (N₄ (H2.objs.size, oC) (List.mem_cons_of_mem _ List.mem_cons_self)).1
          have zD := (N₄ (s₂.heap.objs.size, lst ys) (List.mem_cons_of_mem _ (List.mem_cons_of_mem _ List.mem_cons_self))).1
          have N₄' : News h₀ L h₄ news₄ := fun p hp => N₄ p (List.mem_cons_of_mem _ (List.mem_cons_of_mem _ (List.mem_cons_of_mem _ hp)))
          have hst₄ : St (i + 1) h₄ := hSt _ _ _ _ _ hst₃ heI zI F₄.keep N₄' hS₄
          refine append_at (hsz := by show ys.toArray.size ≤ sizeLine; rw [List.size_toArray]; exact Nat.le_trans hyl (Nat.le_trans hi hsz)) zD fun h₅ hs₅ hD₅ => ?_
          have off4 := off₄.mem
          refine ⟨n + 1 - (i + 1), by omega, h₅, tk₄, i + 1, ys ++ [y], _, news₄, rfl, hlt, rfl, by rw [List.length_append, List.length_singleton]; exact Nat.succ_le_succ hyl, W.frame _ _ _ hst₄ fun b hb o e => hs₅.extBut b o (fun q => hDf (q ▸ hb)) e, F₄.change hs₅ hDL hD₀,
            (hoC.ns zC).sameBut hs₅ (Ne.symm hDC), fun p hp => ?_, off₄, hS₄, hJ₄⟩
          rcases List.mem_cons.mp hp with rfl | hp
          · exact ⟨hD₅.trans (congrArg some (lst_snoc ys y)), hDL, hD₀⟩
          · exact ⟨hs₅.extBut _ _ (off4 p hp).2.2 (N₄' p hp).1, (N₄' p hp).2⟩
        cases tests with
        | nil =>
          refine wpAny_tests_nil ?_
          simp only [if_true]
          exact wpAny_mono (T _) (fun y s₄ h₄ => app y s₄ h₄) fun _ _ e => e
        | cons c r =>
          cases r with
          | cons _ _ => exact T.elim
          | nil =>
            refine wpAny_tests_one (wpAny_mono (T _) (fun ok s₃ q => ?_) fun _ _ e => e)
            cases ok with
            | true =>
              simp only [if_true] at q ⊢
              exact wpAny_mono q (fun y s₄ h₄ => app y s₄ h₄) fun _ _ e => e
            | false =>
              simp only [Bool.false_eq_true, if_false] at q ⊢
              obtain ⟨h₄, tk₄, news₄, rfl, F₄, N₄, off₄, hS₄, hJ₄⟩ := q
              have zI := (N₄ (I, oI) List.mem_cons_self).1
              have zC := (N₄ (H2.objs.size, oC) (List.mem_cons_of_mem _ List.mem_cons_self)).1
              have N₄' : News h₀ L h₄ ((s₂.heap.objs.size, lst ys) :: news₄) := fun p hp => N₄ p (List.mem_cons_of_mem _ (List.mem_cons_of_mem _ hp))
              have N₄'' : News h₀ L h₄ news₄ := fun p hp => N₄' p (List.mem_cons_of_mem _ hp)
              exact ⟨n + 1 - (i + 1), by omega, h₄, tk₄, i + 1, ys, _, news₄, rfl, hlt, rfl, Nat.le_succ_of_le hyl, hSt _ _ _ _ _ hst₃ heI zI F₄.keep N₄'' hS₄, F₄, hoC.ns zC, N₄', off₄, hS₄, hJ₄⟩
      · obtain rfl : i = n := Nat.le_antisymm hi (Nat.not_lt.mp hlt)
        refine W.done _ _ _ hst' fun h₂ tk₂ hk₂ => ?_
        exact hRR _ _ h₂ tk₂ _ ys news' (fr_but F' hk₂ hIL hI₀) (news_but N' hk₂ fun p hp => by
          rcases List.mem_cons.mp hp with rfl | hp
          · exact Ne.symm hDI
          · exact (off3 p hp).1) off'.one (hn'.at' fun o e => hk₂ _ o (by simpa using Ne.symm hCI) e) hC₀ hD₀ hCL hDL (Ne.symm hDC) (fun p hp => (off3 p hp).2.1) hS' hJ' hyl
    · rcases List.mem_cons.mp hp with rfl | hp
      · exact ⟨hacc, hDL, hD₀⟩
      · exact ⟨old _ _ (N p hp).1, (N p hp).2⟩
  exact codeAny_compStart_list (loop _ rfl) (W.self 0 _ _ _ hst₁ (loop _ rfl))
end

end
section
section
variable {w : World} {A : Around} {s : Shared} {R : Result → Shared → Prop} {K : Frag} {prog : Program}
  {name qual : Str} {params : Arguments} {body : List Stmt} {scope : Scope} {dV kV doc pm cdv ct oc : Value} {an od : Option Addr} {osl : Array (Option Value)} {f : Addr} {args : Args}
theorem enterC (binds : List (Str × Value)) (X : K.In s.heap) (hlim : s.heap.NoLimit)
    (ho : K.lookup f = some ⟨oc, od, .func (fnOf name qual params body scope dV kV doc pm an cdv ct), osl⟩) (hcd : codeIn K cdv qual = true) (hroom : A.depth < recursionLimit)
    (hbind : BindsTo s (fnOf name qual params body scope dV kV doc pm an cdv ct) args binds) (hkind : (binds.all fun y => scope.names.lookup y.1 == some .local || scope.names.lookup y.1 == some .cell) = true)
    (hnd : ((cellsFrom 0 scope.names []).map (·.1)).Nodup)
    (h : ∀ L' h₁ tk cells, Fr s.heap L' h₁ (bindL (envOfC qual scope L' f cdv).kindOf binds fun _ => none) → News s.heap L' h₁ cells →
      CellsAre (bindC (envOfC qual scope L' f cdv).kindOf binds fun _ => none) (cellsFrom (L' + 1) scope.names []) cells →
      wpAny (model prog w) (A.deeper (envOfC qual scope L' f cdv)) (execs body (envOfC qual scope L' f cdv))
        (fun fl s' => R (.ok (.ret (match fl with | .ret v => v | _ => .none))) s') (fun _ _ => False)
        { s with heap := h₁, toks := tk })
    (hco : scope.isCoroutine = false) (hgen : scope.isGenerator = false) (hk : scope.kind = .function) : codeAny (model prog w) A (.call (.ref f) args) R s := by
  refine codeAny_call_function hroom (X _ _ ho) (fd := fnOf name qual params body scope dV kV doc pm an cdv ct) rfl hco hgen rfl (codeRec_of X hcd) (hbind _ _ _ _ ?_)
  refine wpAny_newFunctionEnv_cells hk (kindsX hkind _) fun env' he s' x => ?_
  subst he
  refine ⟨hlim.keeps x.toInCall.keep, codeAny_func ?_⟩
  obtain ⟨h₁, tk, rfl, _⟩ := x.done
  obtain ⟨cells, NC, Y⟩ := Cl.news (h₀ := s.heap) (Nat.le_refl _) fun n c hm => ⟨x.cell n c (lookup_of_mem_nodup (cellsFrom_names scope.names 0 (s.heap.objs.size + 1) [] [] rfl ▸ hnd) hm), x.above n c hm⟩
  exact wpAny_mono (h s.heap.objs.size h₁ tk cells ⟨x.toInCall.ns, x.toInCall.keep, Nat.le_refl _⟩ NC Y) (fun _ _ y => y) fun _ _ y => y.elim
end
open PyProof.Rows.LCg
section
variable {prog : Program} {w : World} {A : Around} {E : Value → Shared → Prop} {s : Shared} {h₀ : Heap} {L : Addr} {m : Str → Option Value} {env : Env}
def FinX (h₀ : Heap) (L : Addr) (m : Str → Option Value) (s₁ : Shared) (Q : Value → Shared → Prop) (S : List (Addr × Obj) → Prop) (J : List Value → List (Addr × Obj) → Prop) : Prop :=
  ∀ D h tk ys nw, Fr h₀ L h m → News h₀ L h ((D, lst ys) :: nw) → Off1 D nw → S nw → J ys nw → Q (.ref D) { s₁ with heap := h, toks := tk }
/- a comprehension over a list, its target a name -/
def SrcLN (prog : Program) (w : World) (A : Around) (h₀ : Heap) (L : Addr) (m : Str → Option Value) (elt : PySem.Expr) (tests : List PySem.Expr) (x : Str) (cenv : Addr → Env) (Q : Value → Shared → Prop) (xv : Value) (s₁ : Shared) : Prop :=
  ∃ (ax : Addr) (its : Array Value) (news : List (Addr × Obj)) (S : List (Addr × Obj) → Prop) (J : Nat → List Value → List (Addr × Obj) → Prop), xv = .ref ax ∧ A.handled = none ∧ Fr h₀ L s₁.heap m ∧ News h₀ L s₁.heap news ∧ S news ∧ J 0 [] news ∧ its.size ≤ sizeLine ∧
    (∀ h nw, (∀ b o, h₀.get? b = some o → h.get? b = some o) → News h₀ L h nw → S nw → h.IsList ax its) ∧
    (∀ g i v ys nw I oI C oC D m₂ h tk, its[i]? = some v → S nw → J i ys nw → ys.length ≤ i → NsObj oC m₂ → m₂ x = some v → Fr h₀ L h m → News h₀ L h ((I, oI) :: (C, oC) :: (D, lst ys) :: nw) → Off3 I C D nw → ((@Ne Nat I C) ∧ (@Ne Nat I D) ∧ (@Ne Nat C D)) →
      CompTurn prog w A h₀ L m elt tests (cenv C) { ({ s₁ with heap := g } : Shared) with heap := h, toks := tk } I oI C oC D ys S (J (i + 1))) ∧
    ∀ g, FinX h₀ L m { s₁ with heap := g } Q S (J its.size)
def SrcLP (prog : Program) (w : World) (A : Around) (h₀ : Heap) (L : Addr) (m : Str → Option Value) (elt : PySem.Expr) (tests : List PySem.Expr) (a b : Str) (cenv : Addr → Env) (Q : Value → Shared → Prop) (xv : Value) (s₁ : Shared) : Prop :=
  ∃ (ax : Addr) (its : Array Value) (news : List (Addr × Obj)) (S : List (Addr × Obj) → Prop) (J : Nat → List Value → List (Addr × Obj) → Prop) (xs ys' : Nat → Value), xv = .ref ax ∧ A.handled = none ∧ Fr h₀ L s₁.heap m ∧ News h₀ L s₁.heap news ∧ S news ∧ J 0 [] news ∧ its.size ≤ sizeLine ∧
    (∀ h nw, (∀ b o, h₀.get? b = some o → h.get? b = some o) → News h₀ L h nw → S nw → h.IsList ax its) ∧
    (∀ h nw i v, (∀ b o, h₀.get? b = some o → h.get? b = some o) → News h₀ L h nw → S nw → its[i]? = some v → ∃ T, v = .ref T ∧ h.IsTuple T #[xs i, ys' i]) ∧
    (∀ g i ys nw I oI C oC D m₂ h tk, i < its.size → S nw → J i ys nw → ys.length ≤ i → NsObj oC m₂ → m₂ a = some (xs i) → m₂ b = some (ys' i) → Fr h₀ L h m → News h₀ L h ((I, oI) :: (C, oC) :: (D, lst ys) :: nw) → Off3 I C D nw → ((@Ne Nat I C) ∧ (@Ne Nat I D) ∧ (@Ne Nat C D)) →
      CompTurn prog w A h₀ L m elt tests (cenv C) { ({ s₁ with heap := g } : Shared) with heap := h, toks := tk } I oI C oC D ys S (J (i + 1))) ∧
    ∀ g, FinX h₀ L m { s₁ with heap := g } Q S (J its.size)
def SrcRN (prog : Program) (w : World) (A : Around) (h₀ : Heap) (L : Addr) (m : Str → Option Value) (elt : PySem.Expr) (tests : List PySem.Expr) (x : Str) (cenv : Addr → Env) (Q : Value → Shared → Prop) (xv : Value) (s₁ : Shared) : Prop :=
  ∃ (r : Addr) (a b : Int) (t u v : Tok) (n : Nat) (news : List (Addr × Obj)) (S : List (Addr × Obj) → Prop) (J : Nat → List Value → List (Addr × Obj) → Prop), xv = .ref r ∧ A.handled = none ∧ Fr h₀ L s₁.heap m ∧ News h₀ L s₁.heap news ∧ S news ∧ J 0 [] news ∧
    IsRange s₁.heap r a b 1 t u v ∧ Builtin.Range.small a b 1 = true ∧ Builtin.Range.rangeSize a b 1 = ((n : Nat) : Int) ∧ n ≤ sizeLine ∧
    (∀ g i t ys nw I oI C oC D m₂ h tk, i < n → S nw → J i ys nw → ys.length ≤ i → NsObj oC m₂ → m₂ x = some (.int (a + (i : Int)) t) → Fr h₀ L h m → News h₀ L h ((I, oI) :: (C, oC) :: (D, lst ys) :: nw) → Off3 I C D nw → ((@Ne Nat I C) ∧ (@Ne Nat I D) ∧ (@Ne Nat C D)) →
      CompTurn prog w A h₀ L m elt tests (cenv C) { ({ s₁ with heap := g } : Shared) with heap := h, toks := tk } I oI C oC D ys S (J (i + 1))) ∧
    ∀ g, FinX h₀ L m { s₁ with heap := g } Q S (J n)

theorem assign_name_C {x : Str} {px : Pos} {scope : Scope} {cl : List (Str × Addr)} {C : Addr} {v : Value} {m' : Str → Option Value} {Q' : Unit → Shared → Prop} {E' : Value → Shared → Prop} (hx : scope.names.lookup x = some .local) (hkind : scope.kind = .function) (hn : s.heap.Ns C m')
    (h : ∀ h' tk m₂, h'.Ns C m₂ → m₂ x = some v → (∀ c o, c ≠ C → s.heap.get? c = some o → h'.get? c = some o) → Q' () { s with heap := h', toks := tk }) :
    wpAny (model prog w) A (assign (.Name x px) (compEnvC scope cl C env) v) Q' E' s :=
  wpAny_assign_Name (wpAny_storeName_local (lookup_relabel_local hx) hn (fun h₃ hn₃ hs₃ => h h₃ _ _ hn₃ (by simp) (fun c o hc e => hs₃.extBut c o hc e)) (by simp [compEnvC, relabel, hkind]))

theorem comp_fin {S : List (Addr × Obj) → Prop} {J : List Value → List (Addr × Obj) → Prop} {s₂ : Shared} {Q : Value → Shared → Prop} (hf : FinX h₀ L m s₂ Q S J) {D C : Addr} {h : Heap} {tk : Nat} {m' : Str → Option Value} {ys : List Value} {news' : List (Addr × Obj)}
    (F' : Fr h₀ L h m) (N' : News h₀ L h ((D, lst ys) :: news')) (o1 : Off1 D news') (hn : h.Ns C m') (hC₀ : h₀.get? C = none) (hCL : C ≠ L) (hCD : C ≠ D) (offC : ∀ p ∈ news', p.1 ≠ C) (hS : S news') (hJ : J ys news') :
    ∃ m', h.Ns C m' ∧ ∀ h'', Heap.SameBut C h h'' → Q (.ref D) { ({ s₂ with heap := h, toks := tk } : Shared) with heap := h'' } := by
  refine ⟨m', hn, fun h'' hs'' => hf D h'' tk ys news' (F'.change hs'' hCL hC₀) (fun p hp => ?_) o1 hS hJ⟩
  refine ⟨hs''.extBut _ _ ?_ (N' p hp).1, (N' p hp).2⟩
  rcases List.mem_cons.mp hp with rfl | hp
  · exact Ne.symm hCD
  · exact offC p hp
theorem compLN {elt iter : PySem.Expr} {x : Str} {px : Pos} {tests : List PySem.Expr} {scope : Scope} {cl : List (Str × Addr)} {pos : Pos} {Q : Value → Shared → Prop}
    (_F₀ : Fr h₀ L s.heap m) (hclos : closureFor scope env = pure cl) (hcell : ∀ y ∈ scope.names, y.2 ≠ .cell) (hkind : scope.kind = .function)
    (hnames : ∀ y ∈ scope.names, y.2 = .local → scope.names.lookup y.1 = some .local) (hx : scope.names.lookup x = some .local)
    (h : wpAny (model prog w) A (eval iter env) (SrcLN prog w A h₀ L m elt tests x (fun C => compEnvC scope cl C env) Q) E s)
    (hs : ∀ x, foldedSetIterable iter env x = pure x := by intro _; rfl) :
    wpAny (model prog w) A (eval (.ListComp elt [⟨.Name x px, iter, tests, 0⟩] scope pos) env) Q E s := by
  rw [eval_ListComp]
  refine wpAny_comprehension_free (use := none) rfl hs hclos hkind hnames (wpAny_mono h (fun xv s₁ h₁ => ?_) fun _ _ e => e)
  obtain ⟨ax, its, news, S, J, rfl, hh, F, N, hS, hJ, hsz, hl, turn, fin⟩ := h₁
  have hls := hl _ _ F.keep N hS
  have hlt : ax < s₁.heap.objs.size := by obtain ⟨_, e, _⟩ := hls; exact Heap.lt_size e
  refine wpAny_pyIter_list hls ?_
  have up : ∀ b o, s₁.heap.get? b = some o → (s₁.heap.push { cls := .type "list_iterator", data := .fields #[.ref ax, .int 0 0] }).get? b = some o := fun b o e => Heap.get?_push_of_some _ e
  refine comp_core (J := J) (S := S) (Tg := fun _ v _ m₂ => m₂ x = some v) (Walks.list hh s₁.heap.objs.size ax (Nat.ne_of_lt hlt) its) hsz (fun i h st => by obtain ⟨o, e, _⟩ := st.1; exact ⟨o, e⟩)
    (fun i h h' o nw st e e' k N S => ⟨by obtain ⟨o', q, r⟩ := st.1; rw [e] at q; cases q; exact ⟨o, e', r⟩, hl _ _ k N S⟩) (fun i v s Q E st q => letGo_listiter st.1 q)
    (fun i v C m' nw s' Q' E' hv hS F N hn h => assign_name_C hx hkind hn h)
    hcell hkind ⟨⟨_, Heap.get?_push_size _ rfl, rfl, rfl⟩, hls.push _⟩ (fun b hb => ?_) (F.keeps up) (N.grown up) (Nat.ne_of_lt F.ns.lt) (next_is_new F) (fun p hp => Nat.ne_of_lt (Heap.lt_size (N p hp).1)) hS hJ
    (fun i v ys nw I oI oC C D m₂ h tk _ hv => turn _ i v ys nw I oI C oC D m₂ h tk hv) ?_
  · show b < (s₁.heap.push _).objs.size
    rw [Heap.size_push]
    rcases List.mem_cons.mp hb with rfl | hb
    · exact Nat.lt_succ_self _
    · rw [List.mem_singleton.mp hb]; exact Nat.lt_succ_of_lt hlt
  · intro D C h tk m' ys news' F' N' o1 hn hC₀ hD₀ hCL hDL hCD offC hS hJ _
    exact comp_fin (fin _) F' N' o1 hn hC₀ hCL hCD offC hS hJ
theorem compLP {elt iter : PySem.Expr} {a b : Str} {pa pb tp : Pos} {kk : Nat} {tests : List PySem.Expr} {scope : Scope} {cl : List (Str × Addr)} {pos : Pos} {Q : Value → Shared → Prop}
    (_F₀ : Fr h₀ L s.heap m) (hclos : closureFor scope env = pure cl) (hcell : ∀ y ∈ scope.names, y.2 ≠ .cell) (hkind : scope.kind = .function)
    (hnames : ∀ y ∈ scope.names, y.2 = .local → scope.names.lookup y.1 = some .local) (hxa : scope.names.lookup a = some .local) (hxb : scope.names.lookup b = some .local) (hab : ¬ a = b)
    (h : wpAny (model prog w) A (eval iter env) (SrcLP prog w A h₀ L m elt tests a b (fun C => compEnvC scope cl C env) Q) E s)
    (hs : ∀ x, foldedSetIterable iter env x = pure x := by intro _; rfl) :
    wpAny (model prog w) A (eval (.ListComp elt [⟨.Tuple [.Name a pa, .Name b pb] kk tp, iter, tests, 0⟩] scope pos) env) Q E s := by
  rw [eval_ListComp]
  refine wpAny_comprehension_free (use := none) rfl hs hclos hkind hnames (wpAny_mono h (fun xv s₁ h₁ => ?_) fun _ _ e => e)
  obtain ⟨ax, its, news, S, J, xs, ys', rfl, hh, F, N, hS, hJ, hsz, hl, htup, turn, fin⟩ := h₁
  have hls := hl _ _ F.keep N hS
  have hlt : ax < s₁.heap.objs.size := by obtain ⟨_, e, _⟩ := hls; exact Heap.lt_size e
  refine wpAny_pyIter_list hls ?_
  have up : ∀ b o, s₁.heap.get? b = some o → (s₁.heap.push { cls := .type "list_iterator", data := .fields #[.ref ax, .int 0 0] }).get? b = some o := fun b o e => Heap.get?_push_of_some _ e
  refine comp_core (J := J) (S := S) (Tg := fun i _ _ m₂ => m₂ a = some (xs i) ∧ m₂ b = some (ys' i)) (Walks.list hh s₁.heap.objs.size ax (Nat.ne_of_lt hlt) its) hsz (fun i h st => by obtain ⟨o, e, _⟩ := st.1; exact ⟨o, e⟩)
    (fun i h h' o nw st e e' k N S => ⟨by obtain ⟨o', q, r⟩ := st.1; rw [e] at q; cases q; exact ⟨o, e', r⟩, hl _ _ k N S⟩) (fun i v s Q E st q => letGo_listiter st.1 q)
    ?_ hcell hkind ⟨⟨_, Heap.get?_push_size _ rfl, rfl, rfl⟩, hls.push _⟩ (fun b hb => ?_) (F.keeps up) (N.grown up) (Nat.ne_of_lt F.ns.lt) (next_is_new F) (fun p hp => Nat.ne_of_lt (Heap.lt_size (N p hp).1)) hS hJ
    (fun i v ys nw I oI oC C D m₂ h tk hi hv hS hJ hl hC hT => turn _ i ys nw I oI C oC D m₂ h tk hi hS hJ hl hC hT.1 hT.2) ?_
  · intro i v C m' nw s' Q' E' hv hS F N hn h
    obtain ⟨T, rfl, hT⟩ := htup _ _ i v F.keep N hS hv
    refine kcp_assign (env := compEnvC scope cl C env) hh hT (lookup_relabel_local hxa) (lookup_relabel_local hxb) (by simp [compEnvC, relabel, hkind]) hn fun h' tk hn' hk => ?_
    exact h h' tk _ hn' ⟨by simp [hab], by simp⟩ hk
  · show b < (s₁.heap.push _).objs.size
    rw [Heap.size_push]
    rcases List.mem_cons.mp hb with rfl | hb
    · exact Nat.lt_succ_self _
    · rw [List.mem_singleton.mp hb]; exact Nat.lt_succ_of_lt hlt
  · intro D C h tk m' ys news' F' N' o1 hn hC₀ hD₀ hCL hDL hCD offC hS hJ _
    exact comp_fin (fin _) F' N' o1 hn hC₀ hCL hCD offC hS hJ
theorem compRN {elt iter : PySem.Expr} {x : Str} {px : Pos} {tests : List PySem.Expr} {scope : Scope} {cl : List (Str × Addr)} {pos : Pos} {Q : Value → Shared → Prop}
    (_F₀ : Fr h₀ L s.heap m) (hclos : closureFor scope env = pure cl) (hcell : ∀ y ∈ scope.names, y.2 ≠ .cell) (hkind : scope.kind = .function)
    (hnames : ∀ y ∈ scope.names, y.2 = .local → scope.names.lookup y.1 = some .local) (hx : scope.names.lookup x = some .local)
    (h : wpAny (model prog w) A (eval iter env) (SrcRN prog w A h₀ L m elt tests x (fun C => compEnvC scope cl C env) Q) E s)
    (hs : ∀ x, foldedSetIterable iter env x = pure x := by intro _; rfl) :
    wpAny (model prog w) A (eval (.ListComp elt [⟨.Name x px, iter, tests, 0⟩] scope pos) env) Q E s := by
  rw [eval_ListComp]
  refine wpAny_comprehension_free (use := none) rfl hs hclos hkind hnames (wpAny_mono h (fun xv s₁ h₁ => ?_) fun _ _ e => e)
  obtain ⟨r, a, b, t, u, v, n, news, S, J, rfl, hh, F, N, hS, hJ, hr, hsm, hn, hsz, turn, fin⟩ := h₁
  refine wpAny_pyIter_range hr hsm ?_
  have up : ∀ c o, s₁.heap.get? c = some o → (s₁.heap.push { cls := .type "range_iterator", data := .fields #[rawInt a, rawInt (Builtin.Range.rangeSize a b 1), rawInt 1] }).get? c = some o := fun c o e => Heap.get?_push_of_some _ e
  refine comp_core (J := J) (S := S) (Tg := fun _ v _ m₂ => m₂ x = some v) (range_walks hh (I := s₁.heap.objs.size) a n) hsz (fun i h st => ⟨_, st⟩)
    (fun i h h' o nw st e e' k N _ => range_st (h₀ := h₀) (L := L) i h h' o nw st e e' k N trivial) (fun i v s Q E st q => by unfold letOwnedTupleGo; exact wpAny_pure q)
    (fun i v C m' nw s' Q' E' hv hS F N hn h => assign_name_C hx hkind hn h)
    hcell hkind (by show IsRangeIter _ _ _ _ _; rw [hn]; simpa using Heap.get?_push_size _ rfl) (fun b hb => ?_) (F.keeps up) (N.grown up) (Nat.ne_of_lt F.ns.lt) (next_is_new F) (fun p hp => Nat.ne_of_lt (Heap.lt_size (N p hp).1)) hS hJ
    ?_ ?_
  · show b < (s₁.heap.push _).objs.size
    rw [Heap.size_push]
    rw [List.mem_singleton.mp hb]; exact Nat.lt_succ_self _
  · rintro i v ys nw I oI oC C D m₂ h tk hi ⟨t', rfl⟩ hS hJ hl hC hT
    exact turn _ i t' ys nw I oI C oC D m₂ h tk hi hS hJ hl hC hT
  · intro D C h tk m' ys news' F' N' o1 hn hC₀ hD₀ hCL hDL hCD offC hS hJ _
    exact comp_fin (fin _) F' N' o1 hn hC₀ hCL hCD offC hS hJ
end

section
variable {prog : Program} {w : World} {A : Around} {E : Value → Shared → Prop} {s : Shared} {h₀ : Heap} {L : Addr} {m : Str → Option Value} {news : List (Addr × Obj)}
theorem listIn {h : Heap} {l : Addr} {its : Array Value} {n : Nat} (N : News h₀ L h news) (hm : (l, ({ cls := .type "list", data := .seq its n } : Obj)) ∈ news) : h.IsList l its := ⟨_, (N _ hm).1, rfl, n, rfl⟩
theorem item_at {value slice : PySem.Expr} {l : Addr} {vs : List Value} {ns : List Int} {k : Int} {u : Tok} {Q : Value → Shared → Prop}
    (hl : s.heap.IsList l vs.toArray) (hi : IntsAre vs ns) (h0 : 0 ≤ k) (hhi : k < 2 ^ 63) (hk : k.toNat < ns.length) (h : ∀ t, Q (.int (ns.getD k.toNat 0) t) s)
    (hs : subscripted slice false (.ref l) (.int k u) = operate [.ref l, .int k u] (getItem (.ref l) (.int k u)) := by with_unfolding_all rfl) :
    wpAny (model prog w) A (subscriptTail value slice (.ref l) (.int k u)) Q E s := by
  obtain ⟨t, ht⟩ := hi.get k.toNat (ns[k.toNat]) (by simp [hk])
  have e : ns.getD k.toNat 0 = ns[k.toNat] := by simp [List.getD, hk]
  exact tail_any hl.typeIs slot_list_getitem.lookup (wpAny_getItem_list hl h0 hhi (by simpa using ht) (by have := h t; rwa [e] at this)) hs
end

section
variable {prog : Program} {w : World} {A : Around} {E : Value → Shared → Prop} {s : Shared} {h₀ : Heap} {L : Addr} {m : Str → Option Value} {news news' : List (Addr × Obj)}
theorem append_led {D : Addr} {vs : List Value} {n : Nat} {x : Value} {Q : Value → Shared → Prop} (F : Fr h₀ L s.heap m) (N : News h₀ L s.heap news)
    (U : Upd D ({ cls := .type "list", data := .seq vs.toArray n } : Obj) { cls := .type "list", data := .seq (vs ++ [x]).toArray (n + 1) } news news') (hsz : vs.length ≤ sizeLine)
    (h : ∀ h', Fr h₀ L h' m → News h₀ L h' news' → Q .none { s with heap := h' }) : wpAny (model prog w) A (call (.builtin "list.append") [.ref D, x]) Q E s := by
  obtain ⟨pre, post, e1, e2, h1, h2⟩ := U.split
  have hm : (D, ({ cls := .type "list", data := .seq vs.toArray n } : Obj)) ∈ news := by rw [e1]; simp
  have z := N _ hm
  refine append_at (hsz := by simpa using hsz) z.1 fun h' hs ho => h h' (F.change hs z.2.1 z.2.2) fun p hp => ?_
  rw [e2] at hp
  rcases List.mem_append.mp hp with hp | hp
  · have q := N p (by rw [e1]; exact List.mem_append_left _ hp)
    exact ⟨hs.extBut _ _ (h1 p hp) q.1, q.2⟩
  · rcases List.mem_cons.mp hp with rfl | hp
    · refine ⟨ho.trans ?_, z.2⟩
      rw [List.push_toArray]
    · have q := N p (by rw [e1]; exact List.mem_append_right _ (List.mem_cons_of_mem _ hp))
      exact ⟨hs.extBut _ _ (h2 p hp) q.1, q.2⟩
theorem ints_snoc {vs : List Value} {ns : List Int} (h : IntsAre vs ns) (k : Int) (t : Tok) : IntsAre (vs ++ [.int k t]) (ns ++ [k]) := by
  induction h with
  | nil => exact .cons _ _ .nil
  | cons n t' _ ih => exact .cons n t' ih
theorem ints_len {vs : List Value} {ns : List Int} (h : IntsAre vs ns) : vs.length = ns.length := h.length
end

section
variable {prog : Program} {w : World} {A : Around} {E : Value → Shared → Prop} {s : Shared} {h₀ : Heap} {L : Addr} {m : Str → Option Value} {news news' : List (Addr × Obj)}
theorem add_ints_led {l b : Addr} {its its2 : Array Value} {ns ms : List Int} {Q : Value → Shared → Prop} (F : Fr h₀ L s.heap m) (N : News h₀ L s.heap news) (hl : s.heap.IsList l its) (hb : s.heap.IsList b its2)
    (hi : IntsAre its.toList ns) (hj : IntsAre its2.toList ms) (hsz : ns.length + ms.length ≤ sizeLine)
    (h : ∀ d h', Fr h₀ L h' m → News h₀ L h' ((d, { cls := .type "list", data := .seq (its.toList ++ its2.toList).toArray }) :: news) → (∀ p ∈ news, p.1 < d) → IntsAre (its.toList ++ its2.toList) (ns ++ ms) → Q (.ref d) { s with heap := h' }) :
    wpAny (model prog w) A (binaryOp .Add (.ref l) (.ref b)) Q E s :=
  add_arrays_ints (hsz := hsz) F N hl hb hi hj fun h' F' N' hI => h _ h' F' N' (fun p hp => Heap.lt_size (N p hp).1) hI
theorem add_led {l b : Addr} {its its2 : Array Value} {Q : Value → Shared → Prop} (F : Fr h₀ L s.heap m) (N : News h₀ L s.heap news) (hl : s.heap.IsList l its) (hb : s.heap.IsList b its2) (hsz : its.size + its2.size ≤ sizeLine)
    (h : ∀ d h', Fr h₀ L h' m → News h₀ L h' ((d, { cls := .type "list", data := .seq (its.toList ++ its2.toList).toArray }) :: news) → (∀ p ∈ news, p.1 < d) → Q (.ref d) { s with heap := h' }) :
    wpAny (model prog w) A (binaryOp .Add (.ref l) (.ref b)) Q E s :=
  add_arrays (hsz := hsz) F N hl hb fun h' F' N' => h _ h' F' N' (fun p hp => Heap.lt_size (N p hp).1)
end

end
section
def MapY (l : List (Str × Option Value)) (m₀ m : Str → Option Value) : Prop := AllAt m l ∧ ∀ z, Off m m₀ z l
theorem MapY.eq {l : List (Str × Option Value)} {m₀ m : Str → Option Value} (h : MapY l m₀ m) : m = upd l m₀ := by
  funext z
  unfold upd
  cases e : l.lookup z with
  | some v => exact h.1.get e
  | none => exact (h.2 z).get e
def StepY {σ : Type} (h₀ : Heap) (L : Addr) (I : Addr) (oI : Obj) (m₀ : Str → Option Value) (ms : σ → List (Str × Option Value)) (led : σ → List (Addr × Obj)) (Inv : σ → Prop) (s₁ : Shared) (Q : Flow → Shared → Prop) (f : Flow) (s₂ : Shared) : Prop :=
  match f with
  | .ret v => Q (.ret v) s₂
  | .brk => Q .next s₂
  | _ => ∃ h' tk m' st, s₂ = { s₁ with heap := h', toks := tk } ∧ Fr h₀ L h' m' ∧ News h₀ L h' (led st ++ [(I, oI)]) ∧ (∀ p ∈ led st, p.1 ≠ I) ∧ MapY (ms st) m₀ m' ∧ Inv st
section
variable {σ : Type} {h₀ : Heap} {L : Addr} {I : Addr} {oI : Obj} {m₀ : Str → Option Value} {ms : σ → List (Str × Option Value)} {led : σ → List (Addr × Obj)} {Inv : σ → Prop} {s₁ s₂ : Shared} {Q : Flow → Shared → Prop}
theorem StepY.ret_ {v : Value} (h : Q (.ret v) s₂) : StepY h₀ L I oI m₀ ms led Inv s₁ Q (.ret v) s₂ := h
theorem StepY.brk_ (h : Q .next s₂) : StepY h₀ L I oI m₀ ms led Inv s₁ Q .brk s₂ := h
theorem StepY.next {h' : Heap} {tk : Nat} {m' : Str → Option Value} {all : List (Addr × Obj)} (st : σ)
    (F : Fr h₀ L h' m') (N : News h₀ L h' all) (sub : ∀ p ∈ led st ++ [(I, oI)], p ∈ all) (off : ∀ p ∈ led st, p.1 ≠ I) (hm : MapY (ms st) m₀ m') (hi : Inv st) :
    StepY h₀ L I oI m₀ ms led Inv s₁ Q .next { s₁ with heap := h', toks := tk } := ⟨h', tk, m', st, rfl, F, fun p hp => N p (sub p hp), off, hm, hi⟩
end
section
variable {prog : Program} {w : World} {A : Around} {E : Value → Shared → Prop} {s : Shared} {env : Env} {h₀ : Heap} {target : PySem.Expr} {body : List Stmt} {Q : Flow → Shared → Prop}
theorem turnsY {σ : Type} {I : Addr} {fp : List Addr} {n : Nat} {P Md : Nat → Value → Heap → Prop} {St : Nat → Heap → Prop} (keep : List (Addr × Obj)) (ms : σ → List (Str × Option Value)) (led : σ → List (Addr × Obj)) (Inv : Nat → σ → Prop) (st₀ : σ) {m₀ : Str → Option Value} {news : List (Addr × Obj)}
    (W : KTurns prog w A target I fp [I] n P Md St) (hIo : ∀ i h, St i h → ∃ o, h.get? I = some o) (hfp : ∀ b ∈ fp, b = I ∨ (∃ q, h₀.get? b = some q) ∨ ∃ o, (b, o) ∈ keep) (hLf : env.locals ∉ fp) (hI₀ : h₀.get? I = none) (hoff : ∀ p ∈ news, p.1 ≠ I)
    (F : Fr h₀ env.locals s.heap m₀) (N : News h₀ env.locals s.heap news) (hst : St 0 s.heap) (hsub : ∀ p ∈ led st₀, p ∈ news) (hm : AllAt m₀ (ms st₀)) (hi : Inv 0 st₀) (hkeep : ∀ st, ∀ p ∈ keep, p ∈ led st)
    (turn : ∀ i v st h tk oI, i < n → P i v h → Inv i st → (∀ p ∈ led st, p.1 ≠ I) → Fr h₀ env.locals h (upd (ms st) m₀) → News h₀ env.locals h (led st ++ [(I, oI)]) →
      wpAny (model prog w) A (assign target env v) (fun _ s₂ => wpAny (model prog w) A (execs body env) (StepY h₀ env.locals I oI m₀ ms led (Inv (i + 1)) { s with heap := h, toks := tk } Q) E s₂) E { s with heap := h, toks := tk })
    (done : ∀ st h tk, Inv n st → Fr h₀ env.locals h (upd (ms st) m₀) → News h₀ env.locals h (led st) → Q .next { s with heap := h, toks := tk }) :
    TurnsAt prog w A h₀ env target body Q E (.ref I) s := by
  let J : Nat → (Str → Option Value) → List (Addr × Obj) → Prop := fun i m nx => ∃ st, m = upd (ms st) m₀ ∧ nx = led st ∧ Inv i st
  have h0 : J 0 m₀ (led st₀) := by
    refine ⟨st₀, ?_, rfl, hi⟩
    refine MapY.eq (m := m₀) ⟨hm, fun z => ?_⟩
    generalize ms st₀ = l
    induction l with
    | nil => exact rfl
    | cons p r ih => exact fun _ => ih
  have hIf : I ∈ fp := W.sub I (List.mem_singleton.mpr rfl)
  refine ⟨I, fp, [I], n, P, Md, St, m₀, led st₀, J, rfl, W, hLf, fun b hb => by rw [List.mem_singleton.mp hb]; exact hI₀, fun p hp hq => hoff p (hsub p hp) (List.mem_singleton.mp hq), hst, F, fun p hp => N p (hsub p hp), h0, ?_, ?_⟩
  · rintro i v m₁ news₁ h₁ tk₁ own hin hP ⟨st, rfl, rfl, hI⟩ hof hown hval hall hst₁ F₁ N₁
    obtain ⟨oI, hoI⟩ := hIo _ _ hst₁
    have hio := hall I hIf hI₀ _ hoI
    have hone : ∀ p ∈ own, p = (I, oI) ∨ p ∈ keep := by
      intro p hp
      have hv := hval p hp
      rcases hfp p.1 (hown p hp) with e | ⟨q, hq⟩ | ⟨o, ho⟩
      · left; rw [e, hoI] at hv; exact Prod.ext e (Option.some.inj hv).symm
      · have := (N₁ p (List.mem_append_left _ hp)).2.2; rw [hq] at this; cases this
      · right
        have h2 := (N₁ _ (List.mem_append_right _ (hkeep st _ ho))).1
        rw [hv] at h2
        have : p = (p.1, o) := Prod.ext rfl (Option.some.inj h2)
        rw [this]; exact ho
    have N₂ : News h₀ env.locals h₁ (led st ++ [(I, oI)]) := fun p hp => by
      rcases List.mem_append.mp hp with hp | hp
      · exact N₁ _ (List.mem_append_right _ hp)
      · rw [List.mem_singleton.mp hp]; exact N₁ _ (List.mem_append_left _ hio)
    refine wpAny_mono (turn i v st h₁ tk₁ oI hin hP hI (fun p hp e => hof p hp (List.mem_singleton.mpr e)) F₁ N₂) (fun _ s₂ h₂ => wpAny_mono h₂ (fun f s₃ q => ?_) fun _ _ e => e) fun _ _ e => e
    have fin : (∃ h' tk m' st, s₃ = { ({ s with heap := h₁, toks := tk₁ } : Shared) with heap := h', toks := tk } ∧ Fr h₀ env.locals h' m' ∧ News h₀ env.locals h' (led st ++ [(I, oI)]) ∧ (∀ p ∈ led st, p.1 ≠ I) ∧ MapY (ms st) m₀ m' ∧ Inv (i + 1) st) →
        LoopStepU h₀ env.locals [I] own (J (i + 1)) { s with heap := h₁, toks := tk₁ } .next s₃ := by
      rintro ⟨h', tk, m', st', e, F', N', hne, hM, hI'⟩
      refine ⟨rfl, h', tk, m', led st', e, F', fun p hp => ?_, fun p hp hq => hne p hp (List.mem_singleton.mp hq), st', hM.eq, rfl, hI'⟩
      rcases List.mem_append.mp hp with hp | hp
      · rcases hone p hp with e | hk
        · rw [e]; exact N' _ (List.mem_append_right _ (List.mem_singleton.mpr rfl))
        · exact N' _ (List.mem_append_left _ (hkeep st' _ hk))
      · exact N' p (List.mem_append_left _ hp)
    cases f with
    | ret v => exact .ret q
    | brk => exact .brk q
    | next => exact .next (fin q)
    | cont => exact .cont (fin q)
  · rintro h' tk m' news' F' N' _ ⟨st, rfl, rfl, hI⟩
    exact done st h' tk hI F' N'
/- a range, any target -/
theorem turns_range {σ : Type} (n : Nat) (ms : σ → List (Str × Option Value)) (led : σ → List (Addr × Obj)) (Inv : Nat → σ → Prop) (st₀ : σ) {r : Addr} {a b c : Int} {t₀ u₀ v₀ : Tok} {m₀ : Str → Option Value} {news : List (Addr × Obj)}
    (hh : A.handled = none) (hr : IsRange s.heap r a b c t₀ u₀ v₀) (hsmall : Builtin.Range.small a b c = true) (hn : Builtin.Range.rangeSize a b c = (n : Int)) (F : Fr h₀ env.locals s.heap m₀) (N : News h₀ env.locals s.heap news)
    (hsub : ∀ p ∈ led st₀, p ∈ news) (hm : AllAt m₀ (ms st₀)) (hi : Inv 0 st₀) (hgo : ∀ I v (s : Shared) (Q : Unit → Shared → Prop) (E : Value → Shared → Prop), Q () s → wpAny (model prog w) A (letOwnedTupleGo target (.ref I) v) Q E s)
    (turn : ∀ i t st h tk I oI, i < n → Inv i st → (∀ p ∈ led st, p.1 ≠ I) → Fr h₀ env.locals h (upd (ms st) m₀) → News h₀ env.locals h (led st ++ [(I, oI)]) →
      wpAny (model prog w) A (assign target env (.int (a + (i : Int) * c) t)) (fun _ s₂ => wpAny (model prog w) A (execs body env) (StepY h₀ env.locals I oI m₀ ms led (Inv (i + 1)) { s with heap := h, toks := tk } Q) E s₂) E { s with heap := h, toks := tk })
    (done : ∀ st h tk, Inv n st → Fr h₀ env.locals h (upd (ms st) m₀) → News h₀ env.locals h (led st) → Q .next { s with heap := h, toks := tk }) :
    wpAny (model prog w) A (pyIter (.ref r)) (fun it s₂ => TurnsAt prog w A h₀ env target body Q E it s₂) E s := by
  refine wpAny_pyIter_range hr hsmall ?_
  have W := Walks.range (prog := prog) (w := w) hh s.heap.objs.size a c n
  refine turnsY (s := { s with heap := s.heap.push { cls := .type "range_iterator", data := .fields #[rawInt a, rawInt (Builtin.Range.rangeSize a b c), rawInt c] } }) [] ms led Inv st₀ (KTurns.ofWalks W fun i v s Q E _ q => hgo _ _ _ _ _ q) (fun i h st => ⟨_, st⟩) (fun b hb => .inl (List.mem_singleton.mp hb)) ?_ (next_is_new F) (fun p hp => Nat.ne_of_lt (Heap.lt_size (N p hp).1)) (F.push _)
    (fun p hp => ⟨Heap.get?_push_of_some _ (N p hp).1, (N p hp).2⟩) (by show IsRangeIter _ _ _ _ _; rw [hn]; simpa using Heap.get?_push_size _ rfl) hsub hm hi (fun _ _ h => nomatch h) ?_ ?_
  · intro hm
    exact absurd F.ns.lt ((List.mem_singleton.mp hm) ▸ Nat.lt_irrefl _)
  · rintro i v st h tk oI hin ⟨t, rfl⟩ hI ho F₁ N₁
    exact turn i t st h tk _ oI hin hI ho F₁ N₁
  · intro st h tk hI F₁ N₁
    exact done st h tk hI F₁ N₁
/- a list, any target -/
theorem turns_list {σ : Type} (keep : List (Addr × Obj)) (ms : σ → List (Str × Option Value)) (led : σ → List (Addr × Obj)) (Inv : Nat → σ → Prop) (st₀ : σ) {l : Addr} {its : Array Value} {m₀ : Str → Option Value} {news : List (Addr × Obj)}
    (hh : A.handled = none) (hl : s.heap.IsList l its) (F : Fr h₀ env.locals s.heap m₀) (N : News h₀ env.locals s.heap news) (hk : (∃ q, h₀.get? l = some q) ∨ ∃ o, (l, o) ∈ keep)
    (hsub : ∀ p ∈ led st₀, p ∈ news) (hm : AllAt m₀ (ms st₀)) (hi : Inv 0 st₀) (hkeep : ∀ st, ∀ p ∈ keep, p ∈ led st)
    (turn : ∀ i v st h tk I oI, its[i]? = some v → Inv i st → (∀ p ∈ led st, p.1 ≠ I) → Fr h₀ env.locals h (upd (ms st) m₀) → News h₀ env.locals h (led st ++ [(I, oI)]) →
      wpAny (model prog w) A (assign target env v) (fun _ s₂ => wpAny (model prog w) A (execs body env) (StepY h₀ env.locals I oI m₀ ms led (Inv (i + 1)) { s with heap := h, toks := tk } Q) E s₂) E { s with heap := h, toks := tk })
    (done : ∀ st h tk, Inv its.size st → Fr h₀ env.locals h (upd (ms st) m₀) → News h₀ env.locals h (led st) → Q .next { s with heap := h, toks := tk }) :
    wpAny (model prog w) A (pyIter (.ref l)) (fun it s₂ => TurnsAt prog w A h₀ env target body Q E it s₂) E s := by
  have hlt : l < s.heap.objs.size := by obtain ⟨_, e, _⟩ := hl; exact Heap.lt_size e
  refine wpAny_pyIter_list hl ?_
  have W := Walks.list (prog := prog) (w := w) hh s.heap.objs.size l (Nat.ne_of_lt hlt) its
  refine turnsY (s := { s with heap := s.heap.push { cls := .type "list_iterator", data := .fields #[.ref l, .int 0 0] } }) keep ms led Inv st₀ (KTurns.ofWalks W fun i v s Q E st q => letGo_listiter st.1 q) (fun i h st => by obtain ⟨o, e, _⟩ := st.1; exact ⟨o, e⟩) (fun b hb => ?_) ?_ (next_is_new F) (fun p hp => Nat.ne_of_lt (Heap.lt_size (N p hp).1)) (F.push _)
    (fun p hp => ⟨Heap.get?_push_of_some _ (N p hp).1, (N p hp).2⟩) ⟨⟨_, Heap.get?_push_size _ rfl, rfl, rfl⟩, hl.push _⟩ hsub hm hi hkeep ?_ ?_
  · rcases List.mem_cons.mp hb with e | hb
    · exact .inl e
    · rw [List.mem_singleton.mp hb]; exact .inr hk
  · intro hm
    rcases List.mem_cons.mp hm with e | hm
    · exact absurd F.ns.lt (e ▸ Nat.lt_irrefl _)
    · have e := List.mem_singleton.mp hm
      rcases hk with ⟨q, hq⟩ | ⟨o, ho⟩
      · exact absurd (Nat.lt_of_lt_of_le (Heap.lt_size hq) F.above) (e ▸ Nat.lt_irrefl _)
      · exact (N _ (hsub _ (hkeep st₀ _ ho))).2.1 e.symm
  · rintro i v st h tk oI hin hv hI ho F₁ N₁
    exact turn i v st h tk _ oI hv hI ho F₁ N₁
  · intro st h tk hI F₁ N₁
    exact done st h tk hI F₁ N₁
/- the signs of an ascii text -/
theorem turns_ascii {σ : Type} (ms : σ → List (Str × Option Value)) (led : σ → List (Addr × Obj)) (Inv : Nat → σ → Prop) (st₀ : σ) {x : Str} {tx : Tok} {m₀ : Str → Option Value} {news : List (Addr × Obj)}
    (hh : A.handled = none) (ha : x.cps.all (· < 128) = true) (F : Fr h₀ env.locals s.heap m₀) (N : News h₀ env.locals s.heap news)
    (hsub : ∀ p ∈ led st₀, p ∈ news) (hm : AllAt m₀ (ms st₀)) (hi : Inv 0 st₀) (hgo : ∀ I v (s : Shared) (Q : Unit → Shared → Prop) (E : Value → Shared → Prop), Q () s → wpAny (model prog w) A (letOwnedTupleGo target (.ref I) v) Q E s)
    (turn : ∀ i c u st h tk I oI, i < x.cps.size → x.cps[i]? = some c → Inv i st → (∀ p ∈ led st, p.1 ≠ I) → Fr h₀ env.locals h (upd (ms st) m₀) → News h₀ env.locals h (led st ++ [(I, oI)]) →
      wpAny (model prog w) A (assign target env (.str ⟨#[c]⟩ u)) (fun _ s₂ => wpAny (model prog w) A (execs body env) (StepY h₀ env.locals I oI m₀ ms led (Inv (i + 1)) { s with heap := h, toks := tk } Q) E s₂) E { s with heap := h, toks := tk })
    (done : ∀ st h tk, Inv x.cps.size st → Fr h₀ env.locals h (upd (ms st) m₀) → News h₀ env.locals h (led st) → Q .next { s with heap := h, toks := tk }) :
    wpAny (model prog w) A (pyIter (.str x tx)) (fun it s₂ => TurnsAt prog w A h₀ env target body Q E it s₂) E s := by
  refine wpAny_pyIter_ascii ha ?_
  have W := Walks.strAscii (prog := prog) (w := w) hh s.heap.objs.size x tx
  refine turnsY (s := { s with heap := s.heap.push _ }) [] ms led Inv st₀ (KTurns.ofWalks W fun i v s Q E _ q => hgo _ _ _ _ _ q) (fun i h st => by obtain ⟨o, e, _⟩ := st; exact ⟨o, e⟩) (fun b hb => .inl (List.mem_singleton.mp hb)) ?_ (next_is_new F) (fun p hp => Nat.ne_of_lt (Heap.lt_size (N p hp).1)) (F.push _)
    (fun p hp => ⟨Heap.get?_push_of_some _ (N p hp).1, (N p hp).2⟩) ⟨_, Heap.get?_push_size _ rfl, rfl, rfl⟩ hsub hm hi (fun _ _ h => nomatch h) ?_ ?_
  · intro hm
    exact absurd F.ns.lt ((List.mem_singleton.mp hm) ▸ Nat.lt_irrefl _)
  · rintro i v st h tk oI hin ⟨c, u, hc, rfl⟩ hI ho F₁ N₁
    exact turn i c u st h tk _ oI hin hc hI ho F₁ N₁
  · intro st h tk hI F₁ N₁
    exact done st h tk hI F₁ N₁
end

end
section
open PyProof.Rows.LCg
section
variable {prog : Program} {w : World} {A : Around} {E : Value → Shared → Prop} {s : Shared} {h₀ : Heap} {L : Addr} {m : Str → Option Value} {env : Env}
/- a comprehension stored into a local name (the model's `use`) -/
def FinY (h₀ : Heap) (L : Addr) (m : Str → Option Value) (s₁ : Shared) (y : Str) (Q : Flow → Shared → Prop) (S : List (Addr × Obj) → Prop) (J : List Value → List (Addr × Obj) → Prop) : Prop :=
  ∀ D h tk ys nw, Fr h₀ L h (fun z => if z = y then some (.ref D) else m z) → News h₀ L h ((D, lst ys) :: nw) → Off1 D nw → S nw → J ys nw → Q .next { s₁ with heap := h, toks := tk }
def SrcRA (prog : Program) (w : World) (A : Around) (h₀ : Heap) (L : Addr) (m : Str → Option Value) (elt : PySem.Expr) (tests : List PySem.Expr) (x : Str) (cenv : Addr → Env) (y : Str) (Q : Flow → Shared → Prop) (xv : Value) (s₁ : Shared) : Prop :=
  ∃ (r : Addr) (a b : Int) (t u v : Tok) (n : Nat) (news : List (Addr × Obj)) (S : List (Addr × Obj) → Prop) (J : Nat → List Value → List (Addr × Obj) → Prop), xv = .ref r ∧ A.handled = none ∧ Fr h₀ L s₁.heap m ∧ News h₀ L s₁.heap news ∧ S news ∧ J 0 [] news ∧
    IsRange s₁.heap r a b 1 t u v ∧ Builtin.Range.small a b 1 = true ∧ Builtin.Range.rangeSize a b 1 = ((n : Nat) : Int) ∧ n ≤ sizeLine ∧
    (∀ g i t ys nw I oI C oC D m₂ h tk, i < n → S nw → J i ys nw → ys.length ≤ i → NsObj oC m₂ → m₂ x = some (.int (a + (i : Int)) t) → Fr h₀ L h m → News h₀ L h ((I, oI) :: (C, oC) :: (D, lst ys) :: nw) → Off3 I C D nw → ((@Ne Nat I C) ∧ (@Ne Nat I D) ∧ (@Ne Nat C D)) →
      CompTurn prog w A h₀ L m elt tests (cenv C) { ({ s₁ with heap := g } : Shared) with heap := h, toks := tk } I oI C oC D ys S (J (i + 1))) ∧
    ∀ g, FinY h₀ L m { s₁ with heap := g } y Q S (J n)
theorem store_fin {S : List (Addr × Obj) → Prop} {J : List Value → List (Addr × Obj) → Prop} {y : Str} {py : Pos} {s₂ : Shared} {Q : Flow → Shared → Prop} (hf : FinY h₀ env.locals m s₂ y Q S J) {D C : Addr} {h : Heap} {tk : Nat} {m' : Str → Option Value} {ys : List Value} {news' : List (Addr × Obj)} {E' : Value → Shared → Prop}
    (hy : env.kindOf y = some .local) (hp : (env.scope.kind == .class || (env.scope.kind == .module && env.locals != env.globals)) = false)
    (F' : Fr h₀ env.locals h m) (N' : News h₀ env.locals h ((D, lst ys) :: news')) (o1 : Off1 D news') (hn : h.Ns C m') (hC₀ : h₀.get? C = none) (hCL : C ≠ env.locals) (hCD : C ≠ D) (offC : ∀ p ∈ news', p.1 ≠ C) (hS : S news') (hJ : J ys news') :
    wpAny (model prog w) A (assign (.Name y py) env (.ref D)) (fun _ s₄ => ∃ m', s₄.heap.Ns C m' ∧ ∀ h'', Heap.SameBut C s₄.heap h'' → Q .next { s₄ with heap := h'' }) E' { s₂ with heap := h, toks := tk } := by
  refine wpAny_assign_Name (wpAny_storeName_local hy F'.ns (fun h₂ hn₂ hs₂ => ?_) hp)
  have hL₀ : h₀.get? env.locals = none := Heap.get?_none_of_le F'.above
  have F₂ : Fr h₀ env.locals h₂ (fun z => if z = y then some (.ref D) else m z) := ⟨hn₂, fun b o e => hs₂.extBut b o (fun q => by rw [q, hL₀] at e; cases e) (F'.keep b o e), F'.above⟩
  refine ⟨m', hn.sameBut hs₂ hCL, fun h'' hs'' => hf D h'' _ ys news' (F₂.change hs'' hCL hC₀) (fun p hp => ?_) o1 hS hJ⟩
  have z : h₂.get? p.1 = some p.2 := hs₂.extBut _ _ (N' p hp).2.1 (N' p hp).1
  refine ⟨hs''.extBut _ _ ?_ z, (N' p hp).2⟩
  rcases List.mem_cons.mp hp with rfl | hp
  · exact Ne.symm hCD
  · exact offC p hp
theorem assignRN {elt iter : PySem.Expr} {x y : Str} {px py : Pos} {tests : List PySem.Expr} {scope : Scope} {cl : List (Str × Addr)} {pos spos : Pos} {Q : Flow → Shared → Prop}
    (_F₀ : Fr h₀ L s.heap m) (hLe : env.locals = L) (hsw : swapsWith (.ListComp elt [⟨.Name x px, iter, tests, 0⟩] scope pos) (some (.Name y py)) spos.line env = pure true)
    (hclos : closureFor scope env = pure cl) (hcell : ∀ y ∈ scope.names, y.2 ≠ .cell) (hkind : scope.kind = .function)
    (hnames : ∀ y ∈ scope.names, y.2 = .local → scope.names.lookup y.1 = some .local) (hx : scope.names.lookup x = some .local)
    (hy : env.kindOf y = some .local) (hp : (env.scope.kind == .class || (env.scope.kind == .module && env.locals != env.globals)) = false)
    (h : wpAny (model prog w) A (eval iter env) (SrcRA prog w A h₀ L m elt tests x (fun C => compEnvC scope cl C env) y Q) E s)
    (hs : ∀ x, foldedSetIterable iter env x = pure x := by intro _; rfl) :
    wpAny (model prog w) A (exec (.Assign [.Name y py] (.ListComp elt [⟨.Name x px, iter, tests, 0⟩] scope pos) spos) env) Q E s := by
  subst hLe
  rw [exec_Assign_Name_used _ _ _ _ hsw]
  refine wpAny_bind (wpAny_standAt (wpAny_bind ?_))
  show wpAny _ A (do let _ ← comprehension (.ListComp elt [⟨.Name x px, iter, tests, 0⟩] scope pos) scope env _ (newList []) false (eval iter env) (some (assign (.Name y py) env))) _ _ s
  refine wpAny_bind (wpAny_mono (wpAny_comprehension_free (use := some (assign (.Name y py) env)) (Q := fun _ s' => Q .next s') rfl hs hclos hkind hnames
    (wpAny_mono h (fun xv s₁ h₁ => ?_) fun _ _ e => e)) (fun _ s' hq => wpAny_pure (wpAny_pure hq)) fun _ _ e => e)
  obtain ⟨r, a, b, t, u, v, n, news, S, J, rfl, hh, F, N, hS, hJ, hr, hsm, hn, hsz, turn, fin⟩ := h₁
  refine wpAny_pyIter_range hr hsm ?_
  have up : ∀ c o, s₁.heap.get? c = some o → (s₁.heap.push { cls := .type "range_iterator", data := .fields #[rawInt a, rawInt (Builtin.Range.rangeSize a b 1), rawInt 1] }).get? c = some o := fun c o e => Heap.get?_push_of_some _ e
  refine comp_core (J := J) (S := S) (Tg := fun _ v _ m₂ => m₂ x = some v) (range_walks hh (I := s₁.heap.objs.size) a n) hsz (fun i h st => ⟨_, st⟩)
    (fun i h h' o nw st e e' k N _ => range_st (h₀ := h₀) (L := env.locals) i h h' o nw st e e' k N trivial) (fun i v s Q E st q => by unfold letOwnedTupleGo; exact wpAny_pure q)
    (fun i v C m' nw s' Q' E' hv hS F N hn h => assign_name_C hx hkind hn h)
    hcell hkind (by show IsRangeIter _ _ _ _ _; rw [hn]; simpa using Heap.get?_push_size _ rfl) (fun b hb => ?_) (F.keeps up) (N.grown up) (Nat.ne_of_lt F.ns.lt) (next_is_new F) (fun p hp => Nat.ne_of_lt (Heap.lt_size (N p hp).1)) hS hJ
    ?_ ?_
  · show b < (s₁.heap.push _).objs.size
    rw [Heap.size_push]
    rw [List.mem_singleton.mp hb]; exact Nat.lt_succ_self _
  · rintro i v ys nw I oI oC C D m₂ h tk hi ⟨t', rfl⟩ hS hJ hl hC hT
    exact turn _ i t' ys nw I oI C oC D m₂ h tk hi hS hJ hl hC hT
  · intro D C h tk m' ys news' F' N' o1 hn hC₀ hD₀ hCL hDL hCD offC hS hJ _
    exact store_fin (fin _) hy hp F' N' o1 hn hC₀ hCL hCD offC hS hJ
end

end
section
open PyProof.Rows.LCg
section
variable {prog : Program} {w : World} {A : Around} {E : Value → Shared → Prop} {s : Shared} {h₀ : Heap} {L : Addr} {m : Str → Option Value} {env : Env}
def SrcLA (prog : Program) (w : World) (A : Around) (h₀ : Heap) (L : Addr) (m : Str → Option Value) (elt : PySem.Expr) (tests : List PySem.Expr) (a b : Str) (cenv : Addr → Env) (y : Str) (Q : Flow → Shared → Prop) (xv : Value) (s₁ : Shared) : Prop :=
  ∃ (ax : Addr) (its : Array Value) (news : List (Addr × Obj)) (S : List (Addr × Obj) → Prop) (J : Nat → List Value → List (Addr × Obj) → Prop) (xs ys' : Nat → Value), xv = .ref ax ∧ A.handled = none ∧ Fr h₀ L s₁.heap m ∧ News h₀ L s₁.heap news ∧ S news ∧ J 0 [] news ∧ its.size ≤ sizeLine ∧
    (∀ h nw, (∀ b o, h₀.get? b = some o → h.get? b = some o) → News h₀ L h nw → S nw → h.IsList ax its) ∧
    (∀ h nw i v, (∀ b o, h₀.get? b = some o → h.get? b = some o) → News h₀ L h nw → S nw → its[i]? = some v → ∃ T, v = .ref T ∧ h.IsTuple T #[xs i, ys' i]) ∧
    (∀ g i ys nw I oI C oC D m₂ h tk, i < its.size → S nw → J i ys nw → ys.length ≤ i → NsObj oC m₂ → m₂ a = some (xs i) → m₂ b = some (ys' i) → Fr h₀ L h m → News h₀ L h ((I, oI) :: (C, oC) :: (D, lst ys) :: nw) → Off3 I C D nw → ((@Ne Nat I C) ∧ (@Ne Nat I D) ∧ (@Ne Nat C D)) →
      CompTurn prog w A h₀ L m elt tests (cenv C) { ({ s₁ with heap := g } : Shared) with heap := h, toks := tk } I oI C oC D ys S (J (i + 1))) ∧
    ∀ g, FinY h₀ L m { s₁ with heap := g } y Q S (J its.size)
theorem assignLP {elt iter : PySem.Expr} {a b y : Str} {pa pb tp py : Pos} {kk : Nat} {tests : List PySem.Expr} {scope : Scope} {cl : List (Str × Addr)} {pos spos : Pos} {Q : Flow → Shared → Prop}
    (_F₀ : Fr h₀ L s.heap m) (hLe : env.locals = L) (hsw : swapsWith (.ListComp elt [⟨.Tuple [.Name a pa, .Name b pb] kk tp, iter, tests, 0⟩] scope pos) (some (.Name y py)) spos.line env = pure true)
    (hclos : closureFor scope env = pure cl) (hcell : ∀ y ∈ scope.names, y.2 ≠ .cell) (hkind : scope.kind = .function)
    (hnames : ∀ y ∈ scope.names, y.2 = .local → scope.names.lookup y.1 = some .local) (hxa : scope.names.lookup a = some .local) (hxb : scope.names.lookup b = some .local) (hab : ¬ a = b)
    (hy : env.kindOf y = some .local) (hp : (env.scope.kind == .class || (env.scope.kind == .module && env.locals != env.globals)) = false)
    (h : wpAny (model prog w) A (eval iter env) (SrcLA prog w A h₀ L m elt tests a b (fun C => compEnvC scope cl C env) y Q) E s)
    (hs : ∀ x, foldedSetIterable iter env x = pure x := by intro _; rfl) :
    wpAny (model prog w) A (exec (.Assign [.Name y py] (.ListComp elt [⟨.Tuple [.Name a pa, .Name b pb] kk tp, iter, tests, 0⟩] scope pos) spos) env) Q E s := by
  subst hLe
  rw [exec_Assign_Name_used _ _ _ _ hsw]
  refine wpAny_bind (wpAny_standAt (wpAny_bind ?_))
  show wpAny _ A (do let _ ← comprehension (.ListComp elt [⟨.Tuple [.Name a pa, .Name b pb] kk tp, iter, tests, 0⟩] scope pos) scope env _ (newList []) false (eval iter env) (some (assign (.Name y py) env))) _ _ s
  refine wpAny_bind (wpAny_mono (wpAny_comprehension_free (use := some (assign (.Name y py) env)) (Q := fun _ s' => Q .next s') rfl hs hclos hkind hnames
    (wpAny_mono h (fun xv s₁ h₁ => ?_) fun _ _ e => e)) (fun _ s' hq => wpAny_pure (wpAny_pure hq)) fun _ _ e => e)
  obtain ⟨ax, its, news, S, J, xs, ys', rfl, hh, F, N, hS, hJ, hsz, hl, htup, turn, fin⟩ := h₁
  have hls := hl _ _ F.keep N hS
  have hlt : ax < s₁.heap.objs.size := by obtain ⟨_, e, _⟩ := hls; exact Heap.lt_size e
  refine wpAny_pyIter_list hls ?_
  have up : ∀ b o, s₁.heap.get? b = some o → (s₁.heap.push { cls := .type "list_iterator", data := .fields #[.ref ax, .int 0 0] }).get? b = some o := fun b o e => Heap.get?_push_of_some _ e
  refine comp_core (J := J) (S := S) (Tg := fun i _ _ m₂ => m₂ a = some (xs i) ∧ m₂ b = some (ys' i)) (Walks.list hh s₁.heap.objs.size ax (Nat.ne_of_lt hlt) its) hsz (fun i h st => by obtain ⟨o, e, _⟩ := st.1; exact ⟨o, e⟩)
    (fun i h h' o nw st e e' k N S => ⟨by obtain ⟨o', q, r⟩ := st.1; rw [e] at q; cases q; exact ⟨o, e', r⟩, hl _ _ k N S⟩) (fun i v s Q E st q => letGo_listiter st.1 q)
    ?_ hcell hkind ⟨⟨_, Heap.get?_push_size _ rfl, rfl, rfl⟩, hls.push _⟩ (fun b hb => ?_) (F.keeps up) (N.grown up) (Nat.ne_of_lt F.ns.lt) (next_is_new F) (fun p hp => Nat.ne_of_lt (Heap.lt_size (N p hp).1)) hS hJ
    (fun i v ys nw I oI oC C D m₂ h tk hi hv hS hJ hl hC hT => turn _ i ys nw I oI C oC D m₂ h tk hi hS hJ hl hC hT.1 hT.2) ?_
  · intro i v C m' nw s' Q' E' hv hS F N hn h
    obtain ⟨T, rfl, hT⟩ := htup _ _ i v F.keep N hS hv
    refine kcp_assign (env := compEnvC scope cl C env) hh hT (lookup_relabel_local hxa) (lookup_relabel_local hxb) (by simp [compEnvC, relabel, hkind]) hn fun h' tk hn' hk => ?_
    exact h h' tk _ hn' ⟨by simp [hab], by simp⟩ hk
  · show b < (s₁.heap.push _).objs.size
    rw [Heap.size_push]
    rcases List.mem_cons.mp hb with rfl | hb
    · exact Nat.lt_succ_self _
    · rw [List.mem_singleton.mp hb]; exact Nat.lt_succ_of_lt hlt
  · intro D C h tk m' ys news' F' N' o1 hn hC₀ hD₀ hCL hDL hCD offC hS hJ _
    exact store_fin (fin _) hy hp F' N' o1 hn hC₀ hCL hCD offC hS hJ
end

end
local macro_rules | `(tactic| walk_at "StepX") => `(tactic| first | (with_reducible refine StepX.ret_ ?_) | (with_reducible refine StepX.brk_ ?_))
local macro_rules | `(tactic| walk_at "binaryOp LShift int int") => `(tactic| (refine lshift_int_small (by omega) (by omega) (by decide) ?_))
local macro_rules | `(tactic| walk_at "OFF") => `(tactic| (intro z h1; first
  | ((with_reducible show _ = _); simp only [upd_cons, upd_nil, if_neg h1])
  | (simp only [Off]; first
    | (intro h2; (with_reducible show _ = _); simp only [upd_cons, upd_nil, if_neg h1, if_neg h2])
    | (intro h2 h3; (with_reducible show _ = _); simp only [upd_cons, upd_nil, if_neg h1, if_neg h2, if_neg h3])
    | (intro h2 h3 h4; (with_reducible show _ = _); simp only [upd_cons, upd_nil, if_neg h1, if_neg h2, if_neg h3, if_neg h4])
    | (intro h2 h3 h4 h5; (with_reducible show _ = _); simp only [upd_cons, upd_nil, if_neg h1, if_neg h2, if_neg h3, if_neg h4, if_neg h5])
    | (intro h2 h3 h4 h5 h6; (with_reducible show _ = _); simp only [upd_cons, upd_nil, if_neg h1, if_neg h2, if_neg h3, if_neg h4, if_neg h5, if_neg h6])
    | (intro h2 h3 h4 h5 h6 h7; (with_reducible show _ = _); simp only [upd_cons, upd_nil, if_neg h1, if_neg h2, if_neg h3, if_neg h4, if_neg h5, if_neg h6, if_neg h7]))))
local macro_rules | `(tactic| walk_at "SUB") => `(tactic| ((try dsimp only); (try simp only [List.nil_append, List.cons_append]); lcg_sub))
local macro_rules | `(tactic| walk_at "StepY") => `(tactic| first | (with_reducible refine StepY.ret_ ?_) | (with_reducible refine StepY.brk_ ?_))
local macro_rules | `(tactic| walk_at "OFFY") => `(tactic| (intro z; first
  | ((with_reducible show _ = _); simp only [upd_cons, upd_nil])
  | (simp only [Off]; first
    | (intro h2; (with_reducible show _ = _); simp only [upd_cons, upd_nil, if_neg h2])
    | (intro h2 h3; (with_reducible show _ = _); simp only [upd_cons, upd_nil, if_neg h2, if_neg h3])
    | (intro h2 h3 h4; (with_reducible show _ = _); simp only [upd_cons, upd_nil, if_neg h2, if_neg h3, if_neg h4])
    | (intro h2 h3 h4 h5; (with_reducible show _ = _); simp only [upd_cons, upd_nil, if_neg h2, if_neg h3, if_neg h4, if_neg h5])
    | (intro h2 h3 h4 h5 h6; (with_reducible show _ = _); simp only [upd_cons, upd_nil, if_neg h2, if_neg h3, if_neg h4, if_neg h5, if_neg h6])
    | (intro h2 h3 h4 h5 h6 h7; (with_reducible show _ = _); simp only [upd_cons, upd_nil, if_neg h2, if_neg h3, if_neg h4, if_neg h5, if_neg h6, if_neg h7]))))
local macro_rules | `(tactic| walk_at "CR") => `(tactic| first | assumption | exact And.right (by first | assumption | exact And.right (by first | assumption | exact And.right (by first | assumption | exact And.right (by first | assumption | exact And.right (by first | assumption | exact And.right (by first | assumption | exact And.right (by assumption))))))))
local macro_rules | `(tactic| walk_at "CJ") => `(tactic| (with_reducible first | (walk_at "CR") | exact And.left (by walk_at "CR")))
local macro_rules | `(tactic| k_ne) => `(tactic| (refine neN ?_; (try dsimp only); first | (walk_at "CJ") | (refine Ne.symm ?_; walk_at "CJ") | (refine Nat.ne_of_lt ?_; walk_at "CJ") | (refine Nat.ne_of_gt ?_; walk_at "CJ") | omega))
set_option hygiene false in
local macro_rules | `(tactic| walk_at "FN") => `(tactic| ((rename Fr _ _ _ _ => lF'); (rename News _ _ _ _ => lN')))

section
theorem fillF1 : (∃ f : Params → Frag, f = Mine.hd.heap_1) ∧ PySem.Challenge.rw_sh0030_01 = PySem.Challenge.rw_sh0030_01 := by w_top off; k_fill; exact ⟨⟨_, rfl⟩, rfl⟩
section
variable {w : World} {e1 e2 : Env} {s : Shared} {R : Result → Shared → Prop} {p : Program} {loose : List Str} {mean : ExcName → Option Value} {mg mb : Str → Option Value}
def c4 (c : Nat) : Bool := decide ((64976 ≤ c ∧ c < 65008) ∨ (65008 ≤ c ∧ (c % 65536 = 65534 ∨ c % 65536 = 65535)))
theorem call_c4 (X : (hd.heap_1 w.params).In s.heap) (T : Top p loose mean mg mb s.heap) {c : Nat} {t : Tok} (hc : c < 1114112) :
    PureCall w (callerA.deeper e1) 45 ⟨[.str ⟨#[c]⟩ t], []⟩ s (fun v => v = .bool (c4 c)) := by
  intro R ret
  refine enterS [(Str.ofString "code", .str ⟨#[c]⟩ t)] (K := hd.heap_1 w.params) X T.nolimit (by k_is) (by k_is) (by k_room) (BindsTo.of_eq rfl) (by rfl) (fun L' h₁ F N => ?_) rfl rfl rfl (by rfl)
  k_steps
  all_goals dsimp only
  all_goals refine ret _ _ _ ?_ (Fr.keep (by assumption))
  · have : c4 c = false := by simp only [c4, decide_eq_false_iff_not]; omega
    rw [this]
  · have : c4 c = true := by simp only [c4, decide_eq_true_eq]; omega
    rw [this]
  · rw [bitAnd_m16]
    congr 1
    simp only [c4, List.any_cons, List.any_nil, Bool.or_false]
    rw [Bool.eq_iff_iff]
    simp only [Bool.or_eq_true, beq_iff_eq, decide_eq_true_eq]
    omega
theorem all66 (P : Int → Prop) (h : ∀ n : Nat, n < 66 → P n) {j : Int} (hj : 0 ≤ j ∧ j < 66) : P j := by
  have := h j.toNat (by omega)
  rwa [Int.toNat_of_nonneg hj.1] at this
abbrev Sgn (y : Bool) (c : Int) : Prop := 0 ≤ c ∧ c ≤ 1114111 ∧ c.toNat < 1114112 ∧ c4 c.toNat = y
theorem sg1 {j : Int} (hj : 0 ≤ j ∧ j < 66) : j < 32 → Sgn true (64976 + j) := all66 (fun j => j < 32 → Sgn true (64976 + j)) (by decide +kernel) hj
theorem sg2 {j : Int} (hj : 0 ≤ j ∧ j < 66) : ¬ j < 32 → Sgn true (65536 * ((j - 32).fdiv 2) + 65534 + j.fmod 2) := all66 (fun j => ¬ j < 32 → Sgn true (65536 * ((j - 32).fdiv 2) + 65534 + j.fmod 2)) (by decide +kernel) hj
theorem sg3 {j : Int} (hj : 0 ≤ j ∧ j < 66) : j < 17 → Sgn false (65536 * j + 65533) := all66 (fun j => j < 17 → Sgn false (65536 * j + 65533)) (by decide +kernel) hj
theorem sg4 {j : Int} (hj : 0 ≤ j ∧ j < 66) : ¬ j < 17 → j < 33 → Sgn false (65536 * (j - 16) + 64976) := all66 (fun j => ¬ j < 17 → j < 33 → Sgn false (65536 * (j - 16) + 64976)) (by decide +kernel) hj
theorem sg5 {j : Int} (hj : 0 ≤ j ∧ j < 66) : ¬ j < 33 → j < 49 → Sgn false (65536 * (j - 32)) := all66 (fun j => ¬ j < 33 → j < 49 → Sgn false (65536 * (j - 32))) (by decide +kernel) hj
theorem sg6 {j : Int} (hj : 0 ≤ j ∧ j < 66) : ¬ j < 49 → j < 51 → Sgn false (([64975, 65008] : List Int).getD (j - 49).toNat 0) := all66 (fun j => ¬ j < 49 → j < 51 → Sgn false (([64975, 65008] : List Int).getD (j - 49).toNat 0)) (by decide +kernel) hj
theorem sg7 {j : Int} (hj : 0 ≤ j ∧ j < 66) : ¬ j < 51 → Sgn false (65536 * (j - 50) + 65535 - 1 * 2 ^ (j - 50).toNat) := all66 (fun j => ¬ j < 51 → Sgn false (65536 * (j - 50) + 65535 - 1 * 2 ^ (j - 50).toNat)) (by decide +kernel) hj
theorem Sgn.lt {y : Bool} {c : Int} (h : Sgn y c) : c.toNat < 1114112 := h.2.2.1
theorem Sgn.yes {c l : Int} (h : Sgn true c) (hn : l ≠ 0) (hl : l = 0 ∨ l = 1) : c4 c.toNat = decide (l = 1) := by
  rw [h.2.2.2, decide_eq_true (hl.resolve_left hn)]
theorem Sgn.no {c l : Int} (h : Sgn false c) (hn : l = 0) : c4 c.toNat = decide (l = 1) := by
  rw [h.2.2.2, hn]; rfl
theorem chr_sg {A : Around} {Q : Value → Shared → Prop} {E : Value → Shared → Prop} {y : Bool} {c : Int} {t : Tok} (h : Sgn y c) (hn : Sgn y c → Q (.str ⟨#[c.toNat]⟩ s.toks) { s with toks := s.toks + 1 }) : wpAny (model prg w) A (call (.builtin "chr") [.int c t]) Q E s :=
  chr_of_range h.1 h.2.1 (hn h)
set_option hygiene false in
local macro_rules | `(tactic| walk_at "call builtin:chr") => `(tactic| first | exact absurd (by assumption) (show l ≠ 0 by assumption) | refine chr_sg (by first | exact sg1 hj (by assumption) | exact sg2 hj (by assumption) | exact sg3 hj (by assumption) | exact sg4 hj (by assumption) (by assumption) | exact sg5 hj (by assumption) (by assumption) | exact sg6 hj (by assumption) (by assumption) | exact sg7 hj (by assumption)) (fun hS => ?_))
theorem call_sign (X : (hd.heap_1 w.params).In s.heap) (T : Top p loose mean mg mb s.heap) {l j : Int} {t u : Tok} (hl : l = 0 ∨ l = 1) (hj : 0 ≤ j ∧ j < 66) :
    PureCall w (callerA.deeper e1) 238 ⟨[.int l t, .int j u], []⟩ s (fun v => ∃ c tk, c < 1114112 ∧ c4 c = decide (l = 1) ∧ v = .str ⟨#[c]⟩ tk) := by
  intro R ret
  refine enterS [(Str.ofString "left", .int l t), (Str.ofString "j", .int j u)] (K := hd.heap_1 w.params) X T.nolimit (by k_is) (by k_is) (by k_room) (BindsTo.of_eq rfl) (by rfl) (fun L' h₁ F N => ?_) rfl rfl rfl (by rfl)
  k_steps
  all_goals (try dsimp only)
  all_goals refine ret _ _ _ ⟨_, _, Sgn.lt (by assumption), ?_, rfl⟩ (Fr.keep (by assumption))
  all_goals first | exact Sgn.no (by assumption) (by assumption) | exact Sgn.yes (by assumption) (by assumption) hl
end

end
section
theorem fillF2 : (∃ f : Params → Frag, f = Mine.hd.heap_1) ∧ PySem.Challenge.rw_sh0030_01 = PySem.Challenge.rw_sh0030_01 := by w_top off; k_fill; exact ⟨⟨_, rfl⟩, rfl⟩
local macro_rules | `(tactic| walk_at "zz") => `(tactic| skip)
def candK (c : Int) (n : Nat) : List Int := (List.range n).flatMap fun (i : Nat) => [(i : Int) * c, -((i : Int) * c)]
def cand : List Int := candK 4 6 ++ candK 2 12 ++ candK 1 24
def simplest (lo hi : Int) : Int := (cand.find? fun o => decide (lo < o) && decide (o < hi)).getD 0
def NoneIn (lo hi : Int) (l : List Int) : Prop := ∀ o ∈ l, ¬ (lo < o ∧ o < hi)
theorem candK_succ (c : Int) (n : Nat) : candK c (n + 1) = candK c n ++ [(n : Int) * c, -((n : Int) * c)] := by
  simp [candK, List.range_succ, List.flatMap_append]
theorem candK_split (c : Int) {i n : Nat} (h : i < n) : ∃ post, candK c n = candK c i ++ ((i : Int) * c) :: (-((i : Int) * c)) :: post := by
  induction n with
  | zero => omega
  | succ n ih =>
    rw [candK_succ]
    rcases Nat.lt_or_ge i n with h' | h'
    · obtain ⟨post, e⟩ := ih h'
      rw [e]
      exact ⟨_, by simp only [List.append_assoc, List.cons_append]; rfl⟩
    · have : i = n := by omega
      subst this
      exact ⟨[], rfl⟩
theorem NoneIn.app {lo hi : Int} {a b : List Int} (x : NoneIn lo hi a) (y : NoneIn lo hi b) : NoneIn lo hi (a ++ b) := fun o ho => by
  rcases List.mem_append.mp ho with h | h
  · exact x o h
  · exact y o h
theorem NoneIn.step {lo hi c : Int} {i : Nat} (x : NoneIn lo hi (candK c i)) (h1 : ¬ (lo < 0 + (i : Int) * c ∧ 0 + (i : Int) * c < hi)) (h2 : ¬ (lo < -(0 + (i : Int) * c) ∧ -(0 + (i : Int) * c) < hi)) : NoneIn lo hi (candK c (i + 1)) := by
  rw [candK_succ]
  refine x.app fun o ho => ?_
  simp only [List.mem_cons, List.not_mem_nil, or_false] at ho
  rw [Int.zero_add] at h1 h2
  rcases ho with rfl | rfl
  · exact h1
  · exact h2
theorem find_at {lo hi o : Int} : ∀ {pre post : List Int}, NoneIn lo hi pre → lo < o → o < hi → (pre ++ o :: post).find? (fun o => decide (lo < o) && decide (o < hi)) = some o
  | [], post, _, h1, h2 => by simp [h1, h2]
  | a :: pre, post, hp, h1, h2 => by
    have ha : (decide (lo < a) && decide (a < hi)) = false := by
      have := hp a List.mem_cons_self
      simp only [Bool.and_eq_false_iff, decide_eq_false_iff_not]
      omega
    show List.find? _ (a :: (pre ++ o :: post)) = _
    rw [List.find?_cons, ha]
    exact find_at (fun o ho => hp o (List.mem_cons_of_mem _ ho)) h1 h2
theorem simplest_at {lo hi c : Int} {i n : Nat} {pre post : List Int} (e : cand = pre ++ (candK c n ++ post)) (hin : i < n) (hp : NoneIn lo hi pre) (hc : NoneIn lo hi (candK c i)) {o : Int}
    (ho : o = 0 + (i : Int) * c ∨ (o = -(0 + (i : Int) * c) ∧ ¬ (lo < 0 + (i : Int) * c ∧ 0 + (i : Int) * c < hi))) (h1 : lo < o) (h2 : o < hi) : simplest lo hi = o := by
  obtain ⟨q, hq⟩ := candK_split c hin
  unfold simplest
  rw [e, hq]
  rw [Int.zero_add] at ho
  rcases ho with rfl | ⟨rfl, hn⟩
  · rw [show pre ++ ((candK c i ++ (i : Int) * c :: -((i : Int) * c) :: q) ++ post) = (pre ++ candK c i) ++ (i : Int) * c :: (-((i : Int) * c) :: q ++ post) by simp]
    rw [find_at (hp.app hc) h1 h2]; rfl
  · rw [show pre ++ ((candK c i ++ (i : Int) * c :: -((i : Int) * c) :: q) ++ post) = ((pre ++ candK c i) ++ [(i : Int) * c]) ++ -((i : Int) * c) :: (q ++ post) by simp]
    rw [find_at ((hp.app hc).app (fun o ho => by rw [List.mem_singleton.mp ho]; exact hn)) h1 h2]; rfl
theorem simplest4 {lo hi : Int} {i : Nat} (hin : i < 6) (hc : NoneIn lo hi (candK 4 i)) {o : Int} (ho : o = 0 + (i : Int) * 4 ∨ (o = -(0 + (i : Int) * 4) ∧ ¬ (lo < 0 + (i : Int) * 4 ∧ 0 + (i : Int) * 4 < hi))) (h1 : lo < o) (h2 : o < hi) : simplest lo hi = o :=
  simplest_at (pre := []) (post := candK 2 12 ++ candK 1 24) (by simp [cand]) hin (fun _ h => nomatch h) hc ho h1 h2
theorem simplest2 {lo hi : Int} {i : Nat} (hin : i < 12) (h4 : NoneIn lo hi (candK 4 6)) (hc : NoneIn lo hi (candK 2 i)) {o : Int} (ho : o = 0 + (i : Int) * 2 ∨ (o = -(0 + (i : Int) * 2) ∧ ¬ (lo < 0 + (i : Int) * 2 ∧ 0 + (i : Int) * 2 < hi))) (h1 : lo < o) (h2 : o < hi) : simplest lo hi = o :=
  simplest_at (pre := candK 4 6) (post := candK 1 24) (by simp [cand]) hin h4 hc ho h1 h2
theorem simplest1 {lo hi : Int} {i : Nat} (hin : i < 24) (h4 : NoneIn lo hi (candK 4 6)) (h2' : NoneIn lo hi (candK 2 12)) (hc : NoneIn lo hi (candK 1 i)) {o : Int} (ho : o = 0 + (i : Int) * 1 ∨ (o = -(0 + (i : Int) * 1) ∧ ¬ (lo < 0 + (i : Int) * 1 ∧ 0 + (i : Int) * 1 < hi))) (h1 : lo < o) (h2 : o < hi) : simplest lo hi = o :=
  simplest_at (pre := candK 4 6 ++ candK 2 12) (post := []) (by simp [cand]) hin (h4.app h2') hc ho h1 h2
theorem none_left {lo hi : Int} (hlo : -24 ≤ lo ∧ lo ≤ 24) (hhi : -24 ≤ hi ∧ hi ≤ 24) (hex : ∃ o : Int, lo < o ∧ o < hi) (h : NoneIn lo hi (candK 1 24)) : False := by
  obtain ⟨o, h1, h2⟩ := hex
  have hm : o ∈ candK 1 24 := by
    rcases Int.le_total 0 o with h0 | h0
    · obtain ⟨q, hq⟩ := candK_split 1 (show o.toNat < 24 by omega)
      rw [hq]
      refine List.mem_append_right _ (List.mem_cons.mpr (.inl ?_))
      omega
    · obtain ⟨q, hq⟩ := candK_split 1 (show (-o).toNat < 24 by omega)
      rw [hq]
      refine List.mem_append_right _ (List.mem_cons_of_mem _ (List.mem_cons.mpr (.inl ?_)))
      omega
  exact h o hm ⟨h1, h2⟩
section
variable {w : World} {e1 e2 : Env} {s : Shared} {R : Result → Shared → Prop} {p : Program} {loose : List Str} {mean : ExcName → Option Value} {mg mb : Str → Option Value}
set_option hygiene false in
local macro_rules | `(tactic| walk_at "pyIter ref") => `(tactic| (
    (with_reducible show wpAny _ _ (pyIter (Value.ref _)) (fun it s₂ => LoopAtV _ _ _ _ _ _ _ _ _ it s₂) _ _); (walk_at "FN"); (rename IsRange _ _ _ _ _ _ _ _ => rgX);
    (first
      | with_unfolding_all refine' iter_rangeX 6 (fun u => [(Str.ofString "one", u)]) (fun _ => _) (fun i _ => NoneIn lo hi (candK 4 i)) _ (by rfl) rgX (by decide) (by rfl) lF' lN' (fun _ h => h) ⟨rfl, trivial⟩ (fun o ho => nomatch ho) (fun i' t' st' h' tk' I' oI' hi' inv' off' F' N' => ?_) (fun v' st' h' tk' inv' F' N' => ?_)
      | with_unfolding_all refine' iter_rangeX 12 (fun u => [(Str.ofString "one", u)]) (fun _ => _) (fun i _ => NoneIn lo hi (candK 2 i)) _ (by rfl) rgX (by decide) (by rfl) lF' lN' (fun _ h => h) ⟨rfl, trivial⟩ (fun o ho => nomatch ho) (fun i' t' st' h' tk' I' oI' hi' inv' off' F' N' => ?_) (fun v' st' h' tk' inv' F' N' => ?_)
      | with_unfolding_all refine' iter_rangeX 24 (fun u => [(Str.ofString "one", u)]) (fun _ => _) (fun i _ => NoneIn lo hi (candK 1 i)) _ (by rfl) rgX (by decide) (by rfl) lF' lN' (fun _ h => h) ⟨rfl, trivial⟩ (fun o ho => nomatch ho) (fun i' t' st' h' tk' I' oI' hi' inv' off' F' N' => ?_) (fun v' st' h' tk' inv' F' N' => ?_));
    (all_goals clear lF' lN'); (all_goals (try simp only [List.nil_append, List.cons_append] at N'))))
theorem call_simplest (X : (hd.heap_1 w.params).In s.heap) (T : Top p loose mean mg mb s.heap) {lo hi : Int} {t u : Tok} (hlo : -24 ≤ lo ∧ lo ≤ 24) (hhi : -24 ≤ hi ∧ hi ≤ 24) (hex : ∃ o : Int, lo < o ∧ o < hi) :
    PureCall w ((callerA.deeper e1).deeper e2) 259 ⟨[.int lo t, .int hi u], []⟩ s (fun v => ∃ tk, v = .int (simplest lo hi) tk) := by
  intro R ret
  refine enterS [(Str.ofString "low", .int lo t), (Str.ofString "high", .int hi u)] (K := hd.heap_1 w.params) X T.nolimit (by k_is) (by k_is) (by k_room) (BindsTo.of_eq rfl) (by rfl) (fun L' h₁ F N => ?_) rfl rfl rfl (by rfl)
  k_steps
  all_goals (try dsimp only)
  all_goals first
    | (exact ret _ _ _ ⟨_, congrArg (fun v => Value.int v _) (simplest4 hi' (by assumption) (by first | exact .inl rfl | exact .inr ⟨rfl, fun h => absurd h.1 (by assumption)⟩ | exact .inr ⟨rfl, fun h => absurd h.2 (by assumption)⟩ | omega) (by assumption) (by assumption)).symm⟩ (Fr.keep (by assumption)))
    | (exact ret _ _ _ ⟨_, congrArg (fun v => Value.int v _) (simplest2 hi' (by assumption) (by assumption) (by first | exact .inl rfl | exact .inr ⟨rfl, fun h => absurd h.1 (by assumption)⟩ | exact .inr ⟨rfl, fun h => absurd h.2 (by assumption)⟩ | omega) (by assumption) (by assumption)).symm⟩ (Fr.keep (by assumption)))
    | (exact ret _ _ _ ⟨_, congrArg (fun v => Value.int v _) (simplest1 hi' (by assumption) (by assumption) (by assumption) (by first | exact .inl rfl | exact .inr ⟨rfl, fun h => absurd h.1 (by assumption)⟩ | exact .inr ⟨rfl, fun h => absurd h.2 (by assumption)⟩ | omega) (by assumption) (by assumption)).symm⟩ (Fr.keep (by assumption)))
    | (exact (none_left hlo hhi hex (by assumption)).elim)
    | exact StepX.next _ (by assumption) (by assumption) (by walk_at "SUB") (by assumption) ⟨⟨rfl, trivial⟩, by walk_at "OFF"⟩ (NoneIn.step (by assumption) (by first | exact fun h => absurd h.1 (by assumption) | exact fun h => absurd h.2 (by assumption) | omega) (by first | exact fun h => absurd h.1 (by assumption) | exact fun h => absurd h.2 (by assumption) | omega))
end

end
section
theorem fillF3 : (∃ f : Params → Frag, f = Mine.hd.heap_1) ∧ PySem.Challenge.rw_sh0030_01 = PySem.Challenge.rw_sh0030_01 := by w_top off; k_fill; exact ⟨⟨_, rfl⟩, rfl⟩
def lowItems (es nums : List Int) (k : Nat) : List Int := ((List.range k).filter fun j => decide (es.getD j 0 > 0)).map fun j => nums.getD j 0
def highItems (es nums : List Int) (k : Nat) : List Int := ((List.range k).filter fun j => decide (es.getD j 0 < 0)).map fun j => nums.getD j 0
def lowF (es nums : List Int) (k : Nat) : Int := (lowItems es nums k).foldl max (-24)
def highF (es nums : List Int) (k : Nat) : Int := (highItems es nums k).foldl min 24
def numList (es : List Int) : Nat → List Int
  | 0 => []
  | k + 1 => numList es k ++ [simplest (lowF es (numList es k) k) (highF es (numList es k) k)]
def numberF (es : List Int) : Int := (numList es (es.length + 1)).getD es.length 0
def GoodStalk (es : List Int) : Prop := ∀ k, k < es.length + 1 → -24 ≤ lowF es (numList es k) k ∧ highF es (numList es k) k ≤ 24 ∧ lowF es (numList es k) k + 1 < highF es (numList es k) k
theorem numList_length (es : List Int) : ∀ k, (numList es k).length = k
  | 0 => rfl
  | k + 1 => by simp [numList, numList_length es k]
theorem foldl_max_ge (l : List Int) : ∀ a : Int, a ≤ l.foldl max a ∧ (∀ x ∈ l, x ≤ l.foldl max a) ∧ (l.foldl max a = a ∨ l.foldl max a ∈ l) := by
  induction l with
  | nil => intro a; exact ⟨Int.le_refl _, (fun _ h => nomatch h), .inl rfl⟩
  | cons b r ih =>
    intro a
    obtain ⟨h1, h2, h3⟩ := ih (max a b)
    simp only [List.foldl_cons]
    refine ⟨Int.le_trans (Int.le_max_left a b) h1, fun x hx => ?_, ?_⟩
    · rcases List.mem_cons.mp hx with rfl | hx
      · exact Int.le_trans (Int.le_max_right a x) h1
      · exact h2 x hx
    · rcases h3 with h3 | h3
      · rw [h3]
        rcases Int.le_total a b with h | h
        · right; rw [Int.max_eq_right h]; exact List.mem_cons_self
        · left; exact Int.max_eq_left h
      · right; exact List.mem_cons_of_mem _ h3
theorem foldl_min_le (l : List Int) : ∀ a : Int, l.foldl min a ≤ a ∧ (∀ x ∈ l, l.foldl min a ≤ x) ∧ (l.foldl min a = a ∨ l.foldl min a ∈ l) := by
  induction l with
  | nil => intro a; exact ⟨Int.le_refl _, (fun _ h => nomatch h), .inl rfl⟩
  | cons b r ih =>
    intro a
    obtain ⟨h1, h2, h3⟩ := ih (min a b)
    simp only [List.foldl_cons]
    refine ⟨Int.le_trans h1 (Int.min_le_left a b), fun x hx => ?_, ?_⟩
    · rcases List.mem_cons.mp hx with rfl | hx
      · exact Int.le_trans h1 (Int.min_le_right a x)
      · exact h2 x hx
    · rcases h3 with h3 | h3
      · rw [h3]
        rcases Int.le_total a b with h | h
        · left; exact Int.min_eq_left h
        · right; rw [Int.min_eq_right h]; exact List.mem_cons_self
      · right; exact List.mem_cons_of_mem _ h3
theorem max_is {l : List Int} {a M : Int} (hm : M ∈ [a] ++ l) (hb : ∀ x, x ∈ [a] ++ l → x ≤ M) : M = l.foldl max a := by
  obtain ⟨h1, h2, h3⟩ := foldl_max_ge l a
  refine Int.le_antisymm ?_ ?_
  · rcases List.mem_append.mp hm with h | h
    · rw [List.mem_singleton.mp h]; exact h1
    · exact h2 _ h
  · rcases h3 with h3 | h3
    · rw [h3]; exact hb a (by simp)
    · exact hb _ (by simp [h3])
theorem min_is {l : List Int} {a M : Int} (hm : M ∈ [a] ++ l) (hb : ∀ x, x ∈ [a] ++ l → M ≤ x) : M = l.foldl min a := by
  obtain ⟨h1, h2, h3⟩ := foldl_min_le l a
  refine Int.le_antisymm ?_ ?_
  · rcases h3 with h3 | h3
    · rw [h3]; exact hb a (by simp)
    · exact hb _ (by simp [h3])
  · rcases List.mem_append.mp hm with h | h
    · rw [List.mem_singleton.mp h]; exact h1
    · exact h2 _ h
theorem lowItems_yes {es nums : List Int} {j : Nat} (h : 0 < es.getD j 0) : lowItems es nums (j + 1) = lowItems es nums j ++ [nums.getD j 0] := by
  simp only [lowItems, highItems, List.range_succ, List.filter_append, List.map_append]
  congr 1
  rw [List.filter_cons, if_pos (decide_eq_true h)]
  rfl
theorem lowItems_no {es nums : List Int} {j : Nat} (h : ¬ 0 < es.getD j 0) : lowItems es nums (j + 1) = lowItems es nums j := by
  simp only [lowItems, highItems, List.range_succ, List.filter_append, List.map_append]
  rw [List.filter_cons, if_neg (by simpa using h)]
  simp
theorem highItems_yes {es nums : List Int} {j : Nat} (h : es.getD j 0 < 0) : highItems es nums (j + 1) = highItems es nums j ++ [nums.getD j 0] := by
  simp only [lowItems, highItems, List.range_succ, List.filter_append, List.map_append]
  congr 1
  rw [List.filter_cons, if_pos (decide_eq_true h)]
  rfl
theorem highItems_no {es nums : List Int} {j : Nat} (h : ¬ es.getD j 0 < 0) : highItems es nums (j + 1) = highItems es nums j := by
  simp only [lowItems, highItems, List.range_succ, List.filter_append, List.map_append]
  rw [List.filter_cons, if_neg (by simpa using h)]
  simp
theorem sz_low {es nums : List Int} {k : Nat} {a : Int} (h : k < 1001) : [a].length + (lowItems es nums k).length ≤ sizeLine := by
  have h1 : (lowItems es nums k).length ≤ k := by
    rw [lowItems, List.length_map]
    exact Nat.le_trans (List.length_filter_le _ _) (by simp)
  have hz9 : (1001 : Nat) ≤ sizeLine := by decide
  simp only [List.length_singleton]; omega
theorem sz_high {es nums : List Int} {k : Nat} {a : Int} (h : k < 1001) : [a].length + (highItems es nums k).length ≤ sizeLine := by
  have h1 : (highItems es nums k).length ≤ k := by
    rw [highItems, List.length_map]
    exact Nat.le_trans (List.length_filter_le _ _) (by simp)
  have hz9 : (1001 : Nat) ≤ sizeLine := by decide
  simp only [List.length_singleton]; omega
theorem simp_pre {es : List Int} {k : Nat} {M N : Int} (hg : GoodStalk es) (hk : k < es.length + 1) (h1 : M ∈ [-24] ++ lowItems es (numList es k) k) (h2 : ∀ x, x ∈ [-24] ++ lowItems es (numList es k) k → x ≤ M)
    (h3 : N ∈ [24] ++ highItems es (numList es k) k) (h4 : ∀ x, x ∈ [24] ++ highItems es (numList es k) k → N ≤ x) : (-24 ≤ M ∧ M ≤ 24) ∧ (-24 ≤ N ∧ N ≤ 24) ∧ (∃ o : Int, M < o ∧ o < N) ∧ simplest M N = simplest (lowF es (numList es k) k) (highF es (numList es k) k) := by
  have e1 := max_is h1 h2
  have e2 := min_is h3 h4
  obtain ⟨a, b, c⟩ := hg k hk
  unfold lowF highF at *
  rw [← e1] at *
  rw [← e2] at *
  exact ⟨by omega, by omega, ⟨M + 1, by omega, by omega⟩, rfl⟩
structure NumSt where
  vs : List Value
  n : Nat
  lo : Option Value
  hi : Option Value
abbrev NumInv (es : List Int) (i : Nat) (st : NumSt) : Prop := IntsAre st.vs (numList es i)
section
variable {w : World} {e1 e2 : Env} {s : Shared} {R : Result → Shared → Prop} {p : Program} {loose : List Str} {mean : ExcName → Option Value} {mg mb : Str → Option Value}
set_option hygiene false in
local macro_rules | `(tactic| walk_at "pyIter ref") => `(tactic| (
    (with_reducible show wpAny _ _ (pyIter (Value.ref _)) (fun it s₂ => LoopAtV _ _ _ _ _ _ _ _ _ it s₂) _ _);
    (walk_at "FN"); (rename IsRange _ _ _ _ _ _ _ _ => rgX);
    (with_unfolding_all refine' iter_rangeX (es.length + 1) (fun st : NumSt => [(Str.ofString "low", st.lo), (Str.ofString "high", st.hi)]) (fun st => [(_, W.listOf st.vs.toArray st.n), _, _]) (NumInv es) ⟨[], 0, none, none⟩ (by rfl) rgX (small_one (by omega) (by omega) (by omega) (by omega)) (by rw [rangeSize_nat]; omega) lF' lN' (fun _ h => h) ⟨rfl, rfl, trivial⟩ (IntsAre.nil) (fun i' t' st' h' tk' I' oI' hi' inv' off' F' N' => ?_) (fun v' st' h' tk' inv' F' N' => ?_));
    (all_goals clear lF' lN'); (all_goals (try simp only [List.nil_append, List.cons_append] at N')); (all_goals (try (have ne8 := allNe_of off'; simp only [AllNe, and_true] at ne8)))))
local macro_rules | `(tactic| walk_at "eval ListComp") => `(tactic| (k_dflt (refine compRN (by k_asm) (by rfl) (by decide) (by rfl) (by decide) (by rfl) ?_)))
set_option hygiene false in
local macro_rules | `(tactic| walk_at "SrcRN") => `(tactic| (
    (walk_at "FN"); (rename IsRange _ _ _ _ _ _ _ _ => rgY);
    (first
      | ((with_reducible show SrcRN _ _ _ _ _ _ _ [PySem.Expr.Compare _ [CmpOp.Gt] _ _] _ _ _ _ _); with_unfolding_all refine' ⟨_, _, _, _, _, _, i', _, (fun nw => nw = _), (fun j ys _ => IntsAre ys (lowItems es (numList es i') j)), rfl, rfl, lF', lN', rfl, IntsAre.nil, rgY, small_one (by omega) (by omega) (by omega) (by omega), by rw [rangeSize_nat]; omega, by have hz9 : (1001 : Nat) ≤ sizeLine := (by decide); omega, fun g9 j9 t9 ys9 nw9 I9 oI9 C9 oC9 D9 m9 h9 tk9 hi9 hS9 hJ9 hl9 hC9 hx9 F' N' off9 ne9 => ?_, fun g9 D9 h9 tk9 ys9 nw9 F' N' o9 hS9 hJ9 => ?_⟩)
      | ((with_reducible show SrcRN _ _ _ _ _ _ _ [PySem.Expr.Compare _ [CmpOp.Lt] _ _] _ _ _ _ _); with_unfolding_all refine' ⟨_, _, _, _, _, _, i', _, (fun nw => nw = _), (fun j ys _ => IntsAre ys (highItems es (numList es i') j)), rfl, rfl, lF', lN', rfl, IntsAre.nil, rgY, small_one (by omega) (by omega) (by omega) (by omega), by rw [rangeSize_nat]; omega, by have hz9 : (1001 : Nat) ≤ sizeLine := (by decide); omega, fun g9 j9 t9 ys9 nw9 I9 oI9 C9 oC9 D9 m9 h9 tk9 hi9 hS9 hJ9 hl9 hC9 hx9 F' N' off9 ne9 => ?_, fun g9 D9 h9 tk9 ys9 nw9 F' N' o9 hS9 hJ9 => ?_⟩));
    (all_goals clear lF' lN'); (all_goals (try dsimp only at hS9)); (all_goals subst hS9); (all_goals (try dsimp only at hJ9)); (all_goals (try simp only [LCg.Off1, and_true] at o9))))
set_option hygiene false in
local macro_rules | `(tactic| walk_at "subscriptTail") => `(tactic| (
    (with_reducible show wpAny _ _ (subscriptTail _ _ (Value.ref _) (Value.int _ _)) _ _ _); (rename News _ _ _ _ => lN');
    k_dflt (refine item_at (listIn lN' (by k_mem)) inv' (by omega) (by omega) (by rw [numList_length]; omega) (fun t8 => ?_))))
set_option hygiene false in
local macro_rules | `(tactic| walk_at "binaryOp Add ref ref") => `(tactic| (
    (walk_at "FN");
    k_dflt (refine add_ints_led lF' lN' (listIn lN' (by k_mem)) (listIn lN' (by k_mem)) (by first | assumption | exact .cons _ _ .nil) (by first | assumption | exact .cons _ _ .nil) (by first | exact sz_low (by omega) | exact sz_high (by omega)) (fun d9 h' F' N' l9 hI9 => ?_)); k_lt l9))
set_option hygiene false in
local macro_rules | `(tactic| walk_at "call builtin:max") => `(tactic| (
    (walk_at "FN");
    k_dflt (refine max_list_N (by rfl) lF' lN' (listIn lN' (by k_mem)) (by assumption) (by simp) (fun h' M9 t9 tk9 F' N' hM9 hB9 => ?_))))
set_option hygiene false in
local macro_rules | `(tactic| walk_at "call builtin:min") => `(tactic| (
    (walk_at "FN");
    k_dflt (refine min_list_N (by rfl) lF' lN' (listIn lN' (by k_mem)) (by assumption) (by simp) (fun h' M9 t9 tk9 F' N' hM9 hB9 => ?_))))
local macro_rules | `(tactic| walk_at "CompTurn") => `(tactic| (unfold CompTurn; (try dsimp only); intro E9))
local macro_rules | `(tactic| walk_at "CompEnd") => `(tactic| (refine LCg.CompEnd.intro (by assumption) (by assumption) _ (by lcg_sub) (by assumption) rfl ?_))
set_option hygiene false in
local macro_rules | `(tactic| walk_at "call builtin:list.append") => `(tactic| (
    (walk_at "FN");
    k_dflt (refine append_led lF' lN' (by k_upd) (by have hz9 : (1001 : Nat) ≤ sizeLine := (by decide); rw [inv'.length, numList_length]; omega) (fun h' F' N' => ?_))))
set_option hygiene false in
local macro_rules | `(tactic| walk_at "call ref") => `(tactic| (
    (with_reducible show wpAny _ _ (call (Value.ref _) [Value.int _ _, Value.int _ _] _) _ _ _); (walk_at "FN");
    (have hpre9 := simp_pre hgood hi' (by assumption) (by assumption) (by assumption) (by assumption));
    k_dflt (refine PureCall.use (call_simplest (X.keeps (Fr.keep lF')) (T.keeps (Fr.keep lF')) hpre9.1 hpre9.2.1 hpre9.2.2.1) lF' lN' (fun v9 h9 tk9 hv9 F' N' hk9 => ?_));
    obtain ⟨tk8, rfl⟩ := hv9; rw [hpre9.2.2.2]))
theorem call_number (X : (hd.heap_1 w.params).In s.heap) (T : Top p loose mean mg mb s.heap) {l : Addr} {vs : List Value} {es : List Int} (hl : s.heap.IsList l vs.toArray) (hI : IntsAre vs es) (hlen : es.length < 1000) (hgood : GoodStalk es) :
    PureCall w (callerA.deeper e1) 264 ⟨[.ref l], []⟩ s (fun v => ∃ tk, v = .int (numberF es) tk) := by
  intro R ret
  refine enterC [(Str.ofString "stalk", .ref l)] (K := hd.heap_1 w.params) X T.nolimit (by k_is) (by k_is) (by k_room) (BindsTo.of_eq rfl) (by rfl) (by decide +kernel) (fun L' h₁ tk cells F N Y => ?_) rfl rfl rfl
  k_cells Y
  k_steps
  · rename_i q9
    have e : (0 + (j9 : Int)).toNat = j9 := by omega
    rw [e] at q9
    (try rw [e])
    rw [lowItems_yes q9]
    exact ints_snoc hJ9 _ _
  · rename_i q9
    have e : (0 + (j9 : Int)).toNat = j9 := by omega
    rw [e] at q9
    (try rw [e])
    rw [lowItems_no q9]
    exact hJ9
  · rename_i q9
    have e : (0 + (j9 : Int)).toNat = j9 := by omega
    rw [e] at q9
    (try rw [e])
    rw [highItems_yes q9]
    exact ints_snoc hJ9 _ _
  · rename_i q9
    have e : (0 + (j9 : Int)).toNat = j9 := by omega
    rw [e] at q9
    (try rw [e])
    rw [highItems_no q9]
    exact hJ9
  · exact StepX.next (NumSt.mk _ _ _ _) (by assumption) (by assumption) (by walk_at "SUB") (by k_all) ⟨⟨rfl, rfl, trivial⟩, by walk_at "OFF"⟩ (ints_snoc inv' _ _)
  · exact ret _ _ _ ⟨_, rfl⟩ (Fr.keep (by assumption))
end

end
section
theorem fillF4 : (∃ f : Params → Frag, f = Mine.hd.heap_1) ∧ PySem.Challenge.rw_sh0030_01 = PySem.Challenge.rw_sh0030_01 := by w_top off; k_fill; exact ⟨⟨_, rfl⟩, rfl⟩
def worthStep (r0 : Nat) (st : Int × Int) (c : Nat) : Int × Int :=
  let s' := if st.2 < 4 ∨ c ≠ r0 then st.2 / 2 else st.2
  (if c = 46 then st.1 + s' else st.1 - s', s')
def worthF (cs : List Nat) : Int := (cs.foldl (worthStep (cs.headD 0)) (0, 4)).1
structure WorSt where
  w : Int
  t1 : Tok
  s : Int
  t2 : Tok
  sg : Option Value
def WorInv (cs : List Nat) (i : Nat) (st : WorSt) : Prop := (st.w, st.s) = (cs.take i).foldl (worthStep (cs.headD 0)) (0, 4) ∧ (0 ≤ st.s ∧ st.s ≤ 4) ∧ (-(4 * (i : Int)) ≤ st.w ∧ st.w ≤ 4 * (i : Int))
theorem WorInv.start (cs : List Nat) (t1 t2 : Tok) : WorInv cs 0 ⟨0, t1, 4, t2, none⟩ := ⟨rfl, ⟨by show (0 : Int) ≤ 4; omega, by show (4 : Int) ≤ 4; omega⟩, by show -(4 * ((0 : Nat) : Int)) ≤ 0; omega, by show (0 : Int) ≤ 4 * ((0 : Nat) : Int); omega⟩
theorem item_zero {cs : List Nat} (h : 0 < cs.length) : Txt.item ⟨cs.toArray⟩ 0 = ⟨#[cs.headD 0]⟩ := by
  cases cs with
  | nil => simp at h
  | cons c r =>
    have := item_zero_left c r Str.empty
    have e : (⟨(c :: r).toArray⟩ ++ Str.empty : Str) = ⟨(c :: r).toArray⟩ := Str.ext' (by rw [Str.cps_append]; exact Array.append_empty)
    rw [e] at this
    rw [this]; rfl
theorem WorInv.next {cs : List Nat} {i : Nat} {st : WorSt} {c : Nat} (h : WorInv cs i st) (hc : (⟨cs.toArray⟩ : Str).cps[i]? = some c) {w' s' : Int} {t1 t2 : Tok} {sg : Option Value} (e : (w', s') = worthStep (cs.headD 0) (st.w, st.s) c) : WorInv cs (i + 1) ⟨w', t1, s', t2, sg⟩ := by
  obtain ⟨h1, h2, h3⟩ := h
  have hc' : cs[i]? = some c := by simpa using hc
  have h4 : (w', s') = (cs.take (i + 1)).foldl (worthStep (cs.headD 0)) (0, 4) := by
    rw [List.take_add_one, hc', List.foldl_append, ← h1, e]; rfl
  refine ⟨h4, ?_⟩
  simp only [worthStep, Prod.mk.injEq] at e
  obtain ⟨e1, e2⟩ := e
  show (0 ≤ s' ∧ s' ≤ 4) ∧ _ ≤ w' ∧ w' ≤ _
  have b : 0 ≤ s' ∧ s' ≤ 4 := by rw [e2]; split <;> omega
  rw [← e2] at e1
  refine ⟨b, ?_⟩
  rw [e1]
  push_cast
  split <;> omega
theorem dotEq (c : Nat) : ((⟨#[c]⟩ : Str) == Str.ofString ".") = decide (c = 46) := by
  have e : Str.ofString "." = (⟨#[46]⟩ : Str) := by decide
  rw [e]
  by_cases h : c = 46
  · subst h; decide
  · rw [decide_eq_false h, beq_eq_false_iff_ne]
    intro q
    have := congrArg Str.cps q
    simp at this
    exact h this
theorem neItem {cs : List Nat} (hp : 0 < cs.length) (c : Nat) : ((⟨#[c]⟩ : Str) != Txt.item ⟨cs.toArray⟩ 0) = decide (c ≠ cs.headD 0) := by
  rw [item_zero hp]
  by_cases h : c = cs.headD 0
  · rw [h]; simp
  · rw [decide_eq_true h, bne_iff_ne]
    intro q
    have := congrArg Str.cps q
    simp at this
    exact h (by simpa using this)
theorem fdiv2 (x : Int) : x.fdiv 2 = x / 2 := Int.fdiv_eq_ediv_of_nonneg _ (by decide)
theorem wor1 {r c : Nat} {a b : Int} (h : b < 4) (d : ((⟨#[c]⟩ : Str) == Str.ofString ".") = true) : (a + b.fdiv 2, b.fdiv 2) = worthStep r (a, b) c := by
  rw [dotEq, decide_eq_true_eq] at d
  simp only [worthStep, fdiv2, if_pos d]
  rw [if_pos (.inl h)]
theorem wor2 {r c : Nat} {a b : Int} (h : b < 4) (d : ((⟨#[c]⟩ : Str) == Str.ofString ".") = false) : (a - b.fdiv 2, b.fdiv 2) = worthStep r (a, b) c := by
  rw [dotEq, decide_eq_false_iff_not] at d
  simp only [worthStep, fdiv2, if_neg d]
  rw [if_pos (.inl h)]
theorem wor3 {cs : List Nat} {c : Nat} {a b : Int} (hp : 0 < cs.length) (h : ((⟨#[c]⟩ : Str) != Txt.item ⟨cs.toArray⟩ 0) = true) (d : ((⟨#[c]⟩ : Str) == Str.ofString ".") = true) : (a + b.fdiv 2, b.fdiv 2) = worthStep (cs.headD 0) (a, b) c := by
  rw [dotEq, decide_eq_true_eq] at d
  rw [neItem hp, decide_eq_true_eq] at h
  simp only [worthStep, fdiv2, if_pos d]
  rw [if_pos (.inr h)]
theorem wor4 {cs : List Nat} {c : Nat} {a b : Int} (hp : 0 < cs.length) (h : ((⟨#[c]⟩ : Str) != Txt.item ⟨cs.toArray⟩ 0) = true) (d : ((⟨#[c]⟩ : Str) == Str.ofString ".") = false) : (a - b.fdiv 2, b.fdiv 2) = worthStep (cs.headD 0) (a, b) c := by
  rw [dotEq, decide_eq_false_iff_not] at d
  rw [neItem hp, decide_eq_true_eq] at h
  simp only [worthStep, fdiv2, if_neg d]
  rw [if_pos (.inr h)]
theorem wor5 {cs : List Nat} {c : Nat} {a b : Int} (hp : 0 < cs.length) (h0 : ¬ b < 4) (h : ((⟨#[c]⟩ : Str) != Txt.item ⟨cs.toArray⟩ 0) = false) (d : ((⟨#[c]⟩ : Str) == Str.ofString ".") = true) : (a + b, b) = worthStep (cs.headD 0) (a, b) c := by
  rw [dotEq, decide_eq_true_eq] at d
  rw [neItem hp, decide_eq_false_iff_not] at h
  simp only [worthStep, if_pos d]
  rw [if_neg (by rintro (q | q); exact h0 q; exact h q)]
theorem wor6 {cs : List Nat} {c : Nat} {a b : Int} (hp : 0 < cs.length) (h0 : ¬ b < 4) (h : ((⟨#[c]⟩ : Str) != Txt.item ⟨cs.toArray⟩ 0) = false) (d : ((⟨#[c]⟩ : Str) == Str.ofString ".") = false) : (a - b, b) = worthStep (cs.headD 0) (a, b) c := by
  rw [dotEq, decide_eq_false_iff_not] at d
  rw [neItem hp, decide_eq_false_iff_not] at h
  simp only [worthStep, if_neg d]
  rw [if_neg (by rintro (q | q); exact h0 q; exact h q)]
section
variable {w : World} {e1 e2 : Env} {s : Shared} {R : Result → Shared → Prop} {p : Program} {loose : List Str} {mean : ExcName → Option Value} {mg mb : Str → Option Value}
local macro_rules | `(tactic| walk_at "exec For") => `(tactic| ((rename Fr _ _ _ _ => lF'); k_dflt (refine For_turns lF' ?_)))
set_option hygiene false in
local macro_rules | `(tactic| walk_at "pyIter str") => `(tactic| (
    (with_reducible show wpAny _ _ (pyIter (Value.str _ _)) (fun it s₂ => TurnsAt _ _ _ _ _ _ _ _ _ it s₂) _ _); (walk_at "FN");
    (with_unfolding_all refine' turns_ascii (fun st : WorSt => [(Str.ofString "worth", some (.int st.w st.t1)), (Str.ofString "step", some (.int st.s st.t2)), (Str.ofString "sign", st.sg)]) (fun _ => _) (WorInv cs) ⟨0, _, 4, _, none⟩ (by rfl) ha lF' lN' (fun _ h => h) ⟨rfl, rfl, rfl, trivial⟩ (WorInv.start _ _ _) (fun I v s Q E q => by unfold letOwnedTupleGo; exact wpAny_pure q) (fun i' c' u' st' h' tk' I' oI' hi' hc' inv' off' F' N' => ?_) (fun st' h' tk' inv' F' N' => ?_));
    (all_goals clear lF' lN'); (all_goals (try simp only [List.nil_append, List.cons_append] at N'))))
theorem call_worth (X : (hd.heap_1 w.params).In s.heap) (T : Top p loose mean mg mb s.heap) {cs : List Nat} {t : Tok} (ha : (⟨cs.toArray⟩ : Str).cps.all (· < 128) = true) (hlen : cs.length < 1000) :
    PureCall w (callerA.deeper e1) 252 ⟨[.str ⟨cs.toArray⟩ t], []⟩ s (fun v => ∃ tk, v = .int (worthF cs) tk) := by
  intro R ret
  refine enterS [(Str.ofString "row", .str ⟨cs.toArray⟩ t)] (K := hd.heap_1 w.params) X T.nolimit (by k_is) (by k_is) (by k_room) (BindsTo.of_eq rfl) (by rfl) (fun L' h₁ F N => ?_) rfl rfl rfl (by rfl)
  k_steps
  all_goals (try dsimp only)
  all_goals first
    | (have hp9 : 0 < cs.length := by have : i' < cs.length := by simpa using hi'
                                      omega
       exact StepY.next (WorSt.mk _ _ _ _ _) (by assumption) (by assumption) (by walk_at "SUB") (by assumption) ⟨⟨rfl, rfl, rfl, trivial⟩, by walk_at "OFFY"⟩ (inv'.next hc' (by first | exact wor1 (by assumption) (by assumption) | exact wor2 (by assumption) (by assumption) | exact wor3 hp9 (by assumption) (by assumption) | exact wor4 hp9 (by assumption) (by assumption) | exact wor5 hp9 (by assumption) (by assumption) (by assumption) | exact wor6 hp9 (by assumption) (by assumption) (by assumption))))
    | (have e9 : st'.w = worthF cs := by
         have e8 := congrArg Prod.fst inv'.1
         rw [show (⟨cs.toArray⟩ : Str).cps.size = cs.length by simp, List.take_length] at e8
         exact e8
       exact ret _ _ _ ⟨_, by rw [e9]⟩ (Fr.keep (by assumption)))
end

end
section
theorem fillF5 : (∃ f : Params → Frag, f = Mine.hd.heap_1) ∧ PySem.Challenge.rw_sh0030_01 = PySem.Challenge.rw_sh0030_01 := by w_top off; k_fill; exact ⟨⟨_, rfl⟩, rfl⟩
section
variable {w : World} {e1 e2 : Env} {s : Shared} {R : Result → Shared → Prop} {p : Program} {loose : List Str} {mean : ExcName → Option Value} {mg mb : Str → Option Value}
theorem call_ister (X : (hd.heap_1 w.params).In s.heap) (T : Top p loose mean mg mb s.heap) {x : Int} {t : Tok} :
    PureCall w (callerA.deeper e1) 69 ⟨[.int x t], []⟩ s (fun v => v = .bool (decide (x < 256))) := by
  intro R ret
  refine enterS [(Str.ofString "x", .int x t)] (K := hd.heap_1 w.params) X T.nolimit (by k_is) (by k_is) (by k_room) (BindsTo.of_eq rfl) (by rfl) (fun L' h₁ F N => ?_) rfl rfl rfl (by rfl)
  k_steps
  all_goals dsimp only
  all_goals exact ret _ _ _ rfl (Fr.keep (by assumption))
theorem call_isnon (X : (hd.heap_1 w.params).In s.heap) (T : Top p loose mean mg mb s.heap) {x : Int} {t : Tok} :
    PureCall w (callerA.deeper e1) 76 ⟨[.int x t], []⟩ s (fun v => v = .bool (decide (x ≥ 256))) := by
  intro R ret
  refine enterS [(Str.ofString "x", .int x t)] (K := hd.heap_1 w.params) X T.nolimit (by k_is) (by k_is) (by k_room) (BindsTo.of_eq rfl) (by rfl) (fun L' h₁ F N => ?_) rfl rfl rfl (by rfl)
  k_steps
  all_goals dsimp only
  all_goals exact ret _ _ _ rfl (Fr.keep (by assumption))
theorem call_iseof (X : (hd.heap_1 w.params).In s.heap) (T : Top p loose mean mg mb s.heap) {x : Int} {t : Tok} :
    PureCall w (callerA.deeper e1) 83 ⟨[.int x t], []⟩ s (fun v => v = .bool (x == 0)) := by
  intro R ret
  refine enterS [(Str.ofString "x", .int x t)] (K := hd.heap_1 w.params) X T.nolimit (by k_is) (by k_is) (by k_room) (BindsTo.of_eq rfl) (by rfl) (fun L' h₁ F N => ?_) rfl rfl rfl (by rfl)
  k_steps
  all_goals dsimp only
  all_goals exact ret _ _ _ rfl (Fr.keep (by assumption))
end

end
section
theorem fillF6 : (∃ f : Params → Frag, f = Mine.hd.heap_1) ∧ PySem.Challenge.rw_sh0030_01 = PySem.Challenge.rw_sh0030_01 := by w_top off; k_fill; exact ⟨⟨_, rfl⟩, rfl⟩
/- what a call makes: objects of its own behind the caller's -/
def NewCall (w : World) (A : Around) (f : Addr) (args : Args) (s : Shared) (V : Value → List (Addr × Obj) → Prop) : Prop :=
  ∀ R : Result → Shared → Prop, (∀ v objs h' tk, V v objs → (∀ a o, s.heap.get? a = some o → h'.get? a = some o) → (∀ p ∈ objs, h'.get? p.1 = some p.2 ∧ s.heap.get? p.1 = none) → R (.ok (.ret v)) { s with heap := h', toks := tk }) → codeAny (model prg w) A (.call (.ref f) args) R s
theorem NewCall.use {w : World} {A : Around} {f : Addr} {pos : List Value} {s : Shared} {V : Value → List (Addr × Obj) → Prop} {h₀ : Heap} {L : Addr} {m : Str → Option Value} {news : List (Addr × Obj)} {Q : Value → Shared → Prop} {E : Value → Shared → Prop}
    (P : NewCall w A f ⟨pos, []⟩ s V) (F : Fr h₀ L s.heap m) (N : News h₀ L s.heap news)
    (h : ∀ v objs h' tk, V v objs → Fr h₀ L h' m → News h₀ L h' (news ++ objs) → (∀ p ∈ news, ∀ q ∈ objs, p.1 ≠ q.1) → Q v { s with heap := h', toks := tk }) : wpAny (model prg w) A (call (.ref f) pos []) Q E s :=
  wpAny_call (P _ fun v objs h' tk hv hk ho => h v objs h' tk hv (F.keeps hk) (fun p hp => by
    rcases List.mem_append.mp hp with hp | hp
    · exact (N.grown hk) p hp
    · have q := ho p hp
      refine ⟨q.1, fun e => ?_, ?_⟩
      · obtain ⟨oL, _, _, hL, _⟩ := F.ns
        rw [← e, q.2] at hL; cases hL
      · cases e : h₀.get? p.1 with
        | none => rfl
        | some o => have := F.keep _ _ e; rw [q.2] at this; cases this) fun p hp q hq e => by
    have h1 := (N p hp).1
    rw [e, (ho q hq).2] at h1; cases h1)
abbrev tupO (vs : Array Value) : Obj := { cls := .type "tuple", data := .seq vs }
def TupsAre (vs : List Value) (st : List (Int × Int)) (T : List (Addr × Obj)) : Prop :=
  vs.length = st.length ∧ ∀ (i : Nat) (x y : Int), st[i]? = some (x, y) → ∃ a tx ty, vs[i]? = some (Value.ref a) ∧ (a, tupO #[.int x tx, .int y ty]) ∈ T
theorem TupsAre.nil : TupsAre [] [] [] := ⟨rfl, fun i x y h => by simp at h⟩
theorem TupsAre.more {vs : List Value} {st : List (Int × Int)} {T T' : List (Addr × Obj)} (h : TupsAre vs st T) (hs : ∀ p ∈ T, p ∈ T') : TupsAre vs st T' :=
  ⟨h.1, fun i x y e => let ⟨a, tx, ty, h1, h2⟩ := h.2 i x y e; ⟨a, tx, ty, h1, hs _ h2⟩⟩
theorem TupsAre.snoc {vs : List Value} {st : List (Int × Int)} {T : List (Addr × Obj)} (h : TupsAre vs st T) {a : Addr} {x y : Int} {tx ty : Tok} : TupsAre (vs ++ [.ref a]) (st ++ [(x, y)]) ((a, tupO #[.int x tx, .int y ty]) :: T) := by
  refine ⟨by simp [h.1], fun i x' y' e => ?_⟩
  by_cases hi : i < st.length
  · rw [List.getElem?_append_left hi] at e
    obtain ⟨b, t1, t2, h1, h2⟩ := h.2 i x' y' e
    exact ⟨b, t1, t2, by rw [List.getElem?_append_left (h.1 ▸ hi)]; exact h1, List.mem_cons_of_mem _ h2⟩
  · rw [List.getElem?_append_right (Nat.le_of_not_lt hi)] at e
    have h0 : i - st.length = 0 := by
      cases q : i - st.length with
      | zero => rfl
      | succ k => rw [q] at e; simp at e
    rw [h0] at e
    simp only [List.getElem?_cons_zero, Option.some.injEq, Prod.mk.injEq] at e
    obtain ⟨rfl, rfl⟩ := e
    refine ⟨a, tx, ty, ?_, List.mem_cons_self⟩
    rw [List.getElem?_append_right (by rw [h.1]; exact Nat.le_of_not_lt hi), h.1, h0]; rfl
def restF (r : Int) : Nat → Int
  | 0 => r
  | i + 1 => (restF r i).fdiv 132
def stalkL (r : Int) : Nat → List (Int × Int)
  | 0 => []
  | i + 1 => stalkL r i ++ [((restF r i).fmod 2, ((restF r i).fdiv 2).fmod 66)]
structure StkSt where
  vs : List Value
  n : Nat
  T : List (Addr × Obj)
  r : Int
  tr : Tok
def ledS (a : Addr) (rest : List (Addr × Obj)) (st : StkSt) : List (Addr × Obj) := (a, W.listOf st.vs.toArray st.n) :: (st.T ++ rest)
def InvS (r0 : Int) (a : Addr) (rest : List (Addr × Obj)) (i : Nat) (st : StkSt) : Prop :=
  TupsAre st.vs (stalkL r0 i) st.T ∧ st.r = restF r0 i ∧ (∀ p ∈ rest, p.1 ≠ a) ∧ (∀ p ∈ st.T, p.1 ≠ a ∧ ∀ q ∈ rest, p.1 ≠ q.1)
theorem perm2 {a : Addr} {m : Addr × Obj} {r : List (Addr × Obj)} {z : Int} {tz : Tok} : ∀ p ∈ ledS a (m :: r) ⟨[], 0, [], z, tz⟩, p ∈ m :: (a, W.listOf #[] 0) :: r := by
  intro p hp
  simp only [ledS, List.nil_append, List.mem_cons] at hp ⊢
  rcases hp with h | h | h
  · exact .inr (.inl h)
  · exact .inl h
  · exact .inr (.inr h)
theorem perm3 {a b m : Addr × Obj} {T r : List (Addr × Obj)} : ∀ p ∈ b :: a :: m :: (T ++ r), p ∈ a :: (T ++ (m :: b :: r)) := by
  intro p hp
  simp only [List.mem_cons, List.mem_append] at hp ⊢
  rcases hp with h | h | h | h | h
  · exact .inr (.inr (.inr (.inl h)))
  · exact .inl h
  · exact .inr (.inr (.inl h))
  · exact .inr (.inl h)
  · exact .inr (.inr (.inr (.inr h)))
theorem startS {r0 : Int} {tz : Tok} {m b : Addr × Obj} {r : List (Addr × Obj)} {a : Addr} (h1 : @LT.lt Nat _ a m.1) (h2 : @LT.lt Nat _ b.1 a ∧ AllLt a r) : InvS r0 a (m :: b :: r) 0 ⟨[], 0, [], r0, tz⟩ := by
  refine ⟨TupsAre.nil, rfl, fun p hp => ?_, fun _ h => nomatch h⟩
  rcases List.mem_cons.mp hp with rfl | hp
  · exact Nat.ne_of_gt h1
  rcases List.mem_cons.mp hp with rfl | hp
  · exact Nat.ne_of_lt h2.1
  · have : ∀ {l : List (Addr × Obj)}, AllLt a l → ∀ p ∈ l, p.1 ≠ a := by
      intro l
      induction l with
      | nil => intro _ _ h; cases h
      | cons q r ih =>
        intro h p hp
        rcases List.mem_cons.mp hp with rfl | hp
        · exact Nat.ne_of_lt h.1
        · exact ih h.2 p hp
    exact this h2.2 p hp
theorem allLt_mem {d : Addr} : ∀ {l : List (Addr × Obj)}, AllLt d l → ∀ p ∈ l, @LT.lt Nat _ p.1 d
  | [], _, _, h => nomatch h
  | q :: r, h, p, hp => by
    rcases List.mem_cons.mp hp with rfl | hp
    · exact h.1
    · exact allLt_mem h.2 p hp
theorem stalkL_length (r : Int) : ∀ n, (stalkL r n).length = n
  | 0 => rfl
  | n + 1 => by simp [stalkL, stalkL_length r n]
theorem innerOff {r0 : Int} {a I : Addr} {oI : Obj} {rr : List (Addr × Obj)} {i : Nat} {q : StkSt} (h : InvS r0 a rr i q) (ho : ∀ p ∈ ledS a rr q, p.1 ≠ I) : ∀ p ∈ (q.T ++ rr) ++ [(I, oI)], p.1 ≠ a := by
  intro p hp
  rcases List.mem_append.mp hp with hp | hp
  · rcases List.mem_append.mp hp with hp | hp
    · exact (h.2.2.2 p hp).1
    · exact h.2.2.1 p hp
  · rw [List.mem_singleton.mp hp]
    exact fun e => ho _ List.mem_cons_self e.symm
theorem InvS.next {r0 : Int} {a D : Addr} {x : Addr × Obj} {rr : List (Addr × Obj)} {i : Nat} {q : StkSt} {t1 t2 tr : Tok} {n : Nat} (h : InvS r0 a rr i q) (hl : @LT.lt Nat _ a D ∧ AllLt D ((q.T ++ rr) ++ [x])) :
    InvS r0 a rr (i + 1) ⟨q.vs ++ [.ref D], n, (D, tupO #[.int (q.r.fmod 2) t1, .int ((q.r.fdiv 2).fmod 66) t2]) :: q.T, q.r.fdiv 132, tr⟩ := by
  obtain ⟨h1, h2, h3, h4⟩ := h
  refine ⟨?_, ?_, h3, fun p hp => ?_⟩
  · rw [h2]; exact h1.snoc
  · show q.r.fdiv 132 = (restF r0 i).fdiv 132
    rw [h2]
  · rcases List.mem_cons.mp hp with rfl | hp
    · refine ⟨Nat.ne_of_gt hl.1, fun z hz => ?_⟩
      exact Nat.ne_of_gt (allLt_mem hl.2 z (List.mem_append_left _ (List.mem_append_right _ hz)))
    · exact h4 p hp
theorem subS {a : Addr} {x t : Addr × Obj} {rr T : List (Addr × Obj)} {vs : List Value} {n : Nat} {r : Int} {tr : Tok} : ∀ p ∈ ledS a rr ⟨vs, n, t :: T, r, tr⟩ ++ [x], p ∈ t :: (a, W.listOf vs.toArray n) :: ((T ++ rr) ++ [x]) := by
  intro p hp
  simp only [ledS, List.mem_append, List.mem_cons, List.not_mem_nil, or_false] at hp ⊢
  rcases hp with (h | (h | h) | h) | h
  · exact .inr (.inl h)
  · exact .inl h
  · exact .inr (.inr (.inl (.inl h)))
  · exact .inr (.inr (.inl (.inr h)))
  · exact .inr (.inr (.inr h))
theorem offS {a I D : Addr} {oI : Obj} {o : Obj} {rr : List (Addr × Obj)} {q : StkSt} {vs : List Value} {n : Nat} {r : Int} {tr : Tok} (ho : ∀ p ∈ ledS a rr q, p.1 ≠ I) (hl : @LT.lt Nat _ a D ∧ AllLt D ((q.T ++ rr) ++ [(I, oI)])) : ∀ p ∈ ledS a rr ⟨vs, n, (D, o) :: q.T, r, tr⟩, p.1 ≠ I := by
  intro p hp
  simp only [ledS, List.mem_append, List.mem_cons] at hp
  have hI := allLt_mem hl.2 (I, oI) (List.mem_append_right _ (List.mem_singleton.mpr rfl))
  rcases hp with h | (h | h) | h
  · rw [h]; exact ho (a, W.listOf q.vs.toArray q.n) List.mem_cons_self
  · rw [h]; exact Nat.ne_of_gt hI
  · exact ho p (List.mem_cons_of_mem _ (List.mem_append_left _ h))
  · exact ho p (List.mem_cons_of_mem _ (List.mem_append_right _ h))
structure OutSt where
  vs : List Value
  n : Nat
  O : List (Addr × Obj)
  r : Option Value
  s : Option Value
  st : Option Value
/- lens of the three stalks -/
def lenF (d : Int) (i : Nat) : Nat := ((d.fmod 12).fmod (([4, 3, 3] : List Int).getD i 0)).toNat
def stalkK (ds : List Int) (i : Nat) : List (Int × Int) := stalkL ((ds.getD (i + 1) 0).fdiv 48) (lenF (ds.getD (i + 1) 0) i)
def StalkIn (v : Value) (st : List (Int × Int)) (O : List (Addr × Obj)) : Prop := ∃ a vs n T, v = .ref a ∧ (a, W.listOf vs.toArray n) ∈ O ∧ (∀ p ∈ T, p ∈ O) ∧ TupsAre vs st T
def InvO (ds : List Int) (b : Addr) (i : Nat) (o : OutSt) : Prop :=
  o.vs.length = i ∧ (∀ (j : Nat) v, o.vs[j]? = some v → StalkIn v (stalkK ds j) o.O) ∧ (∀ p ∈ o.O, p.1 ≠ b)
theorem fmod_nat (d : Int) {k : Int} (hk : 0 < k) (h4 : k ≤ 4) : d.fmod k = ((d.fmod k).toNat : Int) ∧ (d.fmod k).toNat ≤ 3 := by
  have h1 := Int.fmod_nonneg_of_pos d hk
  have h2 := Int.fmod_lt_of_pos d hk
  generalize d.fmod k = r at h1 h2
  exact ⟨(Int.toNat_of_nonneg h1).symm, by omega⟩
theorem len_is {ds : List Int} {i : Nat} (h : i < 3) : ((ds.getD (0 + (i : Int) * 1 + 1).toNat 0).fmod 12).fmod (([4, 3, 3] : List Int).getD (0 + (i : Int) * 1).toNat 0) = ((lenF (ds.getD (i + 1) 0) i : Nat) : Int) ∧ lenF (ds.getD (i + 1) 0) i ≤ 3 := by
  rw [Int.zero_add, Int.mul_one, show ((i : Int) + 1).toNat = i + 1 from rfl, show ((i : Int)).toNat = i from rfl]
  unfold lenF
  generalize (ds.getD (i + 1) 0).fmod 12 = d
  match i, h with
  | 0, _ => exact fmod_nat d (by decide) (by decide)
  | 1, _ => exact fmod_nat d (by decide) (by decide)
  | 2, _ => exact fmod_nat d (by decide) (by decide)
def ledO (b : Addr) (o : OutSt) : List (Addr × Obj) := (b, W.listOf o.vs.toArray o.n) :: o.O
theorem m34 {i : Nat} (h : i < 3) : 3 ≤ ([4, 3, 3] : List Int).getD (0 + (i : Int) * 1).toNat 0 ∧ ([4, 3, 3] : List Int).getD (0 + (i : Int) * 1).toNat 0 ≤ 4 := by
  have : i = 0 ∨ i = 1 ∨ i = 2 := by omega
  rcases this with rfl | rfl | rfl <;> decide
theorem StalkIn.more {v : Value} {st : List (Int × Int)} {O O' : List (Addr × Obj)} (h : StalkIn v st O) (hs : ∀ p ∈ O, p ∈ O') : StalkIn v st O' :=
  let ⟨a, vs, n, T, e, h1, h2, h3⟩ := h; ⟨a, vs, n, T, e, hs _ h1, fun p hp => hs p (h2 p hp), h3⟩
theorem outerOff {r0 : Int} {a b I : Addr} {oI : Obj} {m : Addr × Obj} {o1 : Obj} {ds : List Int} {i k : Nat} {q : StkSt} {o : OutSt} {y : Addr × Obj} (h1 : @LT.lt Nat _ b a) (h2 : @LT.lt Nat _ b m.1) (hq : InvS r0 a (m :: y :: (o.O ++ [(I, oI)])) k q) (hy : y.1 = b) (ho : InvO ds b i o) (hI : ∀ p ∈ ledO b o, p.1 ≠ I) :
    ∀ p ∈ (a, o1) :: m :: (q.T ++ (o.O ++ [(I, oI)])), p.1 ≠ b := by
  intro p hp
  simp only [List.mem_cons, List.mem_append, List.not_mem_nil, or_false] at hp
  rcases hp with h | h | h | h | h
  · rw [h]; exact Nat.ne_of_gt h1
  · rw [h]; exact Nat.ne_of_gt h2
  · rw [← hy]; exact (hq.2.2.2 p h).2 y (by simp)
  · exact ho.2.2 p h
  · rw [h]; exact fun e => hI _ List.mem_cons_self e.symm
theorem InvO.next {a b I : Addr} {oI : Obj} {m y : Addr × Obj} {ds : List Int} {i : Nat} {q : StkSt} {o : OutSt} {n : Nat} {r s st : Option Value} (h1 : @LT.lt Nat _ b a) (hq : InvS ((ds.getD (0 + (i : Int) * 1 + 1).toNat 0).fdiv 48) a (m :: y :: (o.O ++ [(I, oI)])) (lenF (ds.getD (i + 1) 0) i) q) (hy : y.1 = b) (ho : InvO ds b i o) :
    InvO ds b (i + 1) ⟨o.vs ++ [.ref a], n, (a, W.listOf q.vs.toArray q.n) :: (q.T ++ o.O), r, s, st⟩ := by
  refine ⟨by simp [ho.1], fun j v e => ?_, fun p hp => ?_⟩
  · by_cases hj : j < o.vs.length
    · simp only at e
      rw [List.getElem?_append_left hj] at e
      exact (ho.2.1 j v e).more fun p hp => List.mem_cons_of_mem _ (List.mem_append_right _ hp)
    · simp only at e
      rw [List.getElem?_append_right (Nat.le_of_not_lt hj)] at e
      have h0 : j - o.vs.length = 0 := by
        cases k : j - o.vs.length with
        | zero => rfl
        | succ k' => rw [k] at e; simp at e
      rw [h0] at e
      have hji : j = i := by have := ho.1; omega
      subst hji
      simp only [List.getElem?_cons_zero, Option.some.injEq] at e
      refine ⟨a, q.vs, q.n, q.T, e.symm, List.mem_cons_self, fun p hp => List.mem_cons_of_mem _ (List.mem_append_left _ hp), ?_⟩
      have := hq.1
      rwa [show (0 + (j : Int) * 1 + 1).toNat = j + 1 by omega] at this
  · simp only [List.mem_cons, List.mem_append] at hp
    rcases hp with h | h | h
    · rw [h]; exact Nat.ne_of_gt h1
    · rw [← hy]; exact (hq.2.2.2 p h).2 y (by simp)
    · exact ho.2.2 p h
theorem subO {b a m x : Addr × Obj} {T O : List (Addr × Obj)} : ∀ p ∈ b :: (a :: (T ++ O)) ++ [x], p ∈ b :: a :: m :: (T ++ (O ++ [x])) := by
  intro p hp
  simp only [List.cons_append, List.mem_cons, List.mem_append, List.not_mem_nil, or_false] at hp ⊢
  rcases hp with h | h | (h | h) | h
  · exact .inl h
  · exact .inr (.inl h)
  · exact .inr (.inr (.inr (.inl h)))
  · exact .inr (.inr (.inr (.inr (.inl h))))
  · exact .inr (.inr (.inr (.inr (.inr h))))
theorem offO {r0 : Int} {a b I : Addr} {oI : Obj} {m y : Addr × Obj} {o1 : Obj} {k : Nat} {q : StkSt} {o : OutSt} {vs : List Value} {n : Nat} {r s st : Option Value} (hl : AllLt a (o.O ++ [(I, oI)])) (hq : InvS r0 a (m :: y :: (o.O ++ [(I, oI)])) k q) (hI : ∀ p ∈ ledO b o, p.1 ≠ I) :
    ∀ p ∈ ledO b ⟨vs, n, (a, o1) :: (q.T ++ o.O), r, s, st⟩, p.1 ≠ I := by
  intro p hp
  simp only [ledO, List.mem_cons, List.mem_append] at hp
  have hIa := allLt_mem hl (I, oI) (List.mem_append_right _ (List.mem_singleton.mpr rfl))
  rcases hp with h | h | h | h
  · rw [h]; exact hI (b, W.listOf o.vs.toArray o.n) List.mem_cons_self
  · rw [h]; exact Nat.ne_of_gt hIa
  · exact (hq.2.2.2 p h).2 (I, oI) (by simp)
  · exact hI p (List.mem_cons_of_mem _ h)
section
variable {w : World} {e1 e2 : Env} {s : Shared} {R : Result → Shared → Prop} {p : Program} {loose : List Str} {mean : ExcName → Option Value} {mg mb : Str → Option Value}
set_option hygiene false in
local macro_rules | `(tactic| walk_at "call type:range") => `(tactic| ((with_reducible show wpAny _ _ (call _ [_]) _ _ _); (walk_at "FN"); (refine range1_rows lF' lN' (fun h' tk' t1' u1' v1' rgX' F' N' hk' => ?_)); clear lF' lN'))
set_option hygiene false in
local macro_rules | `(tactic| walk_at "pyIter ref") => `(tactic| (
    (with_reducible show wpAny _ _ (pyIter (Value.ref _)) (fun it s₂ => LoopAtV _ _ _ _ _ _ _ _ _ it s₂) _ _);
    (walk_at "FN"); (rename IsRange _ _ _ _ _ _ _ _ => rgX);
    (first
      | with_unfolding_all refine' iter_rangeX 3 (fun o : OutSt => [(Str.ofString "rest", o.r), (Str.ofString "stalk", o.s), (Str.ofString "step", o.st)]) (ledO ?bb) (InvO ds ?bb) ⟨[], 0, [], none, none, none⟩ (by rfl) rgX (by decide) (by rfl) lF' lN' (fun _ h => h) ⟨rfl, rfl, rfl, trivial⟩ ⟨rfl, (fun j v h => by simp at h), (fun _ h => nomatch h)⟩ (fun i' t' st' h' tk' I' oI' hi' inv' off' F' N' => ?_) (fun v' st' h' tk' inv' F' N' => ?_)
      | (have hln9 := len_is (ds := ds) hi'; with_unfolding_all refine' iter_rangeX (lenF (ds.getD (i' + 1) 0) i') (fun q : StkSt => [(Str.ofString "rest", some (.int q.r q.tr))]) (ledS ?aa ?rr) (InvS _ ?aa ?rr) ⟨[], 0, [], _, _⟩ (by rfl) rgX (small_one (by omega) (by omega) (by omega) (by omega)) (by rw [rangeSize_nat]; omega) lF' lN' perm2 ⟨rfl, trivial⟩ (startS (by omega) (by assumption)) (fun iq tq q' hq tkq Iq oIq hiq invq offq F' N' => ?_) (fun vq q' hq tkq invq F' N' => ?_); (all_goals (try simp only [ledS] at N')); (all_goals (try replace N' := N'.perm perm3))));
    (all_goals clear lF' lN'); (all_goals (try simp only [ledO, List.nil_append, List.cons_append] at N')); (all_goals (try have hm9 := m34 hi'))))
theorem call_stalks (X : (hd.heap_1 w.params).In s.heap) (T : Top p loose mean mg mb s.heap) {l : Addr} {vs : List Value} {ds : List Int} (hl : s.heap.IsList l vs.toArray) (hI : IntsAre vs ds) (hlen : ds.length = 4) (hsmall : ∀ d ∈ ds, d.natAbs < 2 ^ 1048700) :
    NewCall w (callerA.deeper e1) 245 ⟨[.ref l], []⟩ s (fun v objs => ∃ b n v0 v1 v2 O, v = .ref b ∧ objs = (b, W.listOf #[v0, v1, v2] n) :: O ∧ StalkIn v0 (stalkK ds 0) O ∧ StalkIn v1 (stalkK ds 1) O ∧ StalkIn v2 (stalkK ds 2) O) := by
  intro R ret
  refine enterS [(Str.ofString "draws", .ref l)] (K := hd.heap_1 w.params) X T.nolimit (by k_is) (by k_is) (by k_room) (BindsTo.of_eq rfl) (by rfl) (fun L' h₁ F N => ?_) rfl rfl rfl (by rfl)
  k_steps
  · (rename Fr _ _ _ _ => lF'); (rename News _ _ _ _ => lN')
    have hz9 : (3 : Nat) ≤ sizeLine := by decide
    refine append_led lF' lN' (Upd.tail (by k_ne) (Upd.head (innerOff invq offq))) (by rw [invq.1.1, stalkL_length]; have := (len_is (ds := ds) hi').2; omega) (fun h9 F' N' => ?_)
    clear lF' lN'
    k_steps
    exact StepX.next (StkSt.mk _ _ _ _ _) (by assumption) (by assumption) subS (offS offq (by assumption)) ⟨⟨rfl, trivial⟩, by walk_at "OFF"⟩ (invq.next (by assumption))
  · (rename Fr _ _ _ _ => lF'); (rename News _ _ _ _ => lN')
    have hz9 : (3 : Nat) ≤ sizeLine := by decide
    refine append_led lF' lN' (Upd.head (outerOff (by omega) (by omega) invq rfl inv' off')) (by rw [inv'.1]; omega) (fun h9 F' N' => ?_)
    clear lF' lN'
    k_steps
    exact StepX.next (OutSt.mk _ _ _ _ _ _) (by assumption) (by assumption) subO (offO (by first | assumption | exact And.right (by assumption)) invq off') ⟨⟨rfl, rfl, rfl, trivial⟩, by walk_at "OFF"⟩ (InvO.next (by omega) invq rfl inv')
  · dsimp only
    obtain ⟨h1, h2, h3⟩ := inv'
    obtain ⟨v0, v1, v2, hv⟩ : ∃ v0 v1 v2, st'.vs = [v0, v1, v2] := by
      match hh : st'.vs, h1 with
      | [a, b, c], _ => exact ⟨a, b, c, rfl⟩
    refine ret _ _ _ _ ⟨_, st'.n, v0, v1, v2, _, rfl, rfl, h2 0 v0 (by rw [hv]; rfl), h2 1 v1 (by rw [hv]; rfl), h2 2 v2 (by rw [hv]; rfl)⟩ (Fr.keep (by assumption)) (fun p hp => ?_)
    rw [hv] at N'
    exact ⟨(N' p hp).1, (N' p hp).2.2⟩
end

end
section
def numAt (es : List Int) (k : Nat) : Int := (numList es (k + 1)).getD k 0
def pm : Nat → List (List Int)
  | 0 => [[]]
  | n + 1 => (pm n).flatMap fun l => [1 :: l, (-1) :: l]
def shapes : List (List Int) := pm 0 ++ pm 1 ++ pm 2 ++ pm 3 ++ (pm 2).map (fun l => 1 :: 1 :: l) ++ (pm 2).map (fun l => -1 :: -1 :: l)
def stalkOk (es : List Int) : Bool := (List.range (es.length + 1)).all fun k =>
  let v := numAt es k
  let opts := (List.range k).map fun j => (es.getD j 0, numAt es j)
  (opts.all fun o => (decide (o.1 = 1) && decide (o.2 < v)) || (decide (o.1 = -1) && decide (v < o.2))) &&
  (decide (v % 2 = 0) || ((opts.any fun o => decide (o.1 = 1) && decide (o.2 = v - 1)) && (opts.any fun o => decide (o.1 = -1) && decide (o.2 = v + 1)))) &&
  (decide (v % 4 ≠ 2) || ((opts.any fun o => decide (o.1 = 1) && decide (o.2 = v - 2)) && (opts.any fun o => decide (o.1 = -1) && decide (o.2 = v + 2)))) &&
  (decide (v % 4 ≠ 0) || decide (v ≤ 0) || (opts.any fun o => decide (o.1 = 1) && decide (o.2 = v - 4))) &&
  (decide (v % 4 ≠ 0) || decide (0 ≤ v) || (opts.any fun o => decide (o.1 = -1) && decide (o.2 = v + 4)))
def goodOk (es : List Int) : Bool := (List.range (es.length + 1)).all fun k => decide (-24 ≤ lowF es (numList es k) k) && decide (highF es (numList es k) k ≤ 24) && decide (lowF es (numList es k) k + 1 < highF es (numList es k) k)
theorem shapes_ok : (shapes.all fun es => stalkOk es && goodOk es) = true := by decide +kernel
theorem good_of {es : List Int} (h : es ∈ shapes) : GoodStalk es := by
  have h1 := List.all_eq_true.mp shapes_ok es h
  simp only [Bool.and_eq_true] at h1
  intro k hk
  have h2 := List.all_eq_true.mp h1.2 k (List.mem_range.mpr hk)
  simp only [Bool.and_eq_true, decide_eq_true_eq] at h2
  exact ⟨h2.1.1, h2.1.2, h2.2⟩
structure StalkQ (e v : Nat → Int) (k : Nat) : Prop where
  lt : ∀ j, j < k → e j = 1 ∧ v j < v k ∨ e j = -1 ∧ v k < v j
  odd : v k % 2 ≠ 0 → (∃ j, j < k ∧ e j = 1 ∧ v j = v k - 1) ∧ ∃ j, j < k ∧ e j = -1 ∧ v j = v k + 1
  two : v k % 4 = 2 → (∃ j, j < k ∧ e j = 1 ∧ v j = v k - 2) ∧ ∃ j, j < k ∧ e j = -1 ∧ v j = v k + 2
  pos : v k % 4 = 0 → 0 < v k → ∃ j, j < k ∧ e j = 1 ∧ v j = v k - 4
  neg : v k % 4 = 0 → v k < 0 → ∃ j, j < k ∧ e j = -1 ∧ v j = v k + 4
def StalkP (es : List Int) (k : Nat) : Prop := StalkQ (fun j => es.getD j 0) (fun j => numAt es j) k
theorem neg1 {e d : Int} (h : e = d) : -e = -d := by rw [h]
theorem negS {x v d : Int} (h : x = v + d) : -x = -v - d := by omega
theorem negT {x v d : Int} (h : x = v - d) : -x = -v + d := by omega
theorem StalkQ.flip {e v : Nat → Int} {k : Nat} (h : StalkQ e v k) : StalkQ (fun j => - e j) (fun j => - v j) k where
  lt j hj := by
    rcases h.lt j hj with ⟨p, q⟩ | ⟨p, q⟩
    · exact .inr ⟨neg1 p, Int.neg_lt_neg q⟩
    · exact .inl ⟨neg1 p, Int.neg_lt_neg q⟩
  odd hv := by
    obtain ⟨⟨i, i1, i2, i3⟩, ⟨j, j1, j2, j3⟩⟩ := h.odd (by clear h; omega)
    exact ⟨⟨j, j1, neg1 j2, negS j3⟩, ⟨i, i1, neg1 i2, negT i3⟩⟩
  two hv := by
    obtain ⟨⟨i, i1, i2, i3⟩, ⟨j, j1, j2, j3⟩⟩ := h.two (by clear h; omega)
    exact ⟨⟨j, j1, neg1 j2, negS j3⟩, ⟨i, i1, neg1 i2, negT i3⟩⟩
  pos hv hp := by
    obtain ⟨j, j1, j2, j3⟩ := h.neg (by clear h hp; omega) (by clear h hv; omega)
    exact ⟨j, j1, neg1 j2, negS j3⟩
  neg hv hp := by
    obtain ⟨i, i1, i2, i3⟩ := h.pos (by clear h hp; omega) (by clear h hv; omega)
    exact ⟨i, i1, neg1 i2, negT i3⟩
theorem any_opts {es : List Int} {k : Nat} {e v : Int} (h : (((List.range k).map fun j => (es.getD j 0, numAt es j)).any fun o => decide (o.1 = e) && decide (o.2 = v)) = true) : ∃ j, j < k ∧ es.getD j 0 = e ∧ numAt es j = v := by
  obtain ⟨o, ho, h⟩ := List.any_eq_true.mp h
  obtain ⟨j, hj, rfl⟩ := List.mem_map.mp ho
  simp only [Bool.and_eq_true, decide_eq_true_eq] at h
  exact ⟨j, List.mem_range.mp hj, h⟩
theorem stalkP_of {es : List Int} (h : es ∈ shapes) {k : Nat} (hk : k ≤ es.length) : StalkP es k := by
  have h1 := List.all_eq_true.mp shapes_ok es h
  simp only [Bool.and_eq_true] at h1
  have h2 := List.all_eq_true.mp h1.1 k (List.mem_range.mpr (Nat.lt_succ_of_le hk))
  simp only [Bool.and_eq_true, Bool.or_eq_true] at h2
  obtain ⟨⟨⟨⟨a, b⟩, c⟩, d⟩, e⟩ := h2
  refine ⟨fun j hj => ?_, fun hv => ?_, fun hv => ?_, fun hv hp => ?_, fun hv hp => ?_⟩
  · have := List.all_eq_true.mp a _ (List.mem_map.mpr ⟨j, List.mem_range.mpr hj, rfl⟩)
    simpa only [Bool.or_eq_true, Bool.and_eq_true, decide_eq_true_eq] using this
  · rcases b with b | b
    · exact absurd (of_decide_eq_true b) hv
    · exact ⟨any_opts b.1, any_opts b.2⟩
  · rcases c with c | c
    · exact absurd hv (of_decide_eq_true c)
    · exact ⟨any_opts c.1, any_opts c.2⟩
  · rcases d with (d | d) | d
    · exact absurd hv (of_decide_eq_true d)
    · have := of_decide_eq_true d; omega
    · exact any_opts d
  · rcases e with (e | e) | e
    · exact absurd hv (of_decide_eq_true e)
    · have := of_decide_eq_true e; omega
    · exact any_opts e
theorem lfP {e : Int} (h : e = 1) : 0 < e := by omega
theorem lfL {e v V : Int} (q : e = 1 ∧ v < V ∨ e = -1 ∧ V < v) (h2 : 0 < e) : v < V := by omega
theorem lf1 {v V Y Z d : Int} (h3 : v = V - d) (hd : d ≤ V + Y + Z) : 0 ≤ v + Y + Z := by omega
theorem lf2 {v V Y Z d : Int} (h3 : v = V - d) (hd : d ≤ Y + V + Z) : 0 ≤ Y + v + Z := by omega
theorem lf3 {v V Y Z d : Int} (h3 : v = V - d) (hd : d ≤ Y + Z + V) : 0 ≤ Y + Z + v := by omega
theorem ev2 {X Y Z : Int} (h : 0 < X + Y + Z) (a : X % 2 = 0) (b : Y % 2 = 0) (c : Z % 2 = 0) : 2 ≤ X + Y + Z := by omega
theorem ev4 {X Y Z : Int} (h : 0 < X + Y + Z) (a : X % 4 = 0) (b : Y % 4 = 0) (c : Z % 4 = 0) : 4 ≤ X + Y + Z := by omega
theorem m4 {X : Int} (a : X % 2 = 0) (b : ¬ X % 4 = 2) : X % 4 = 0 := by omega
theorem pz {X Y Z : Int} (h : 0 < X + Y + Z) (a : ¬ 0 < X) (b : ¬ 0 < Y) : 0 < Z := by omega
theorem left_iffQ {e1 e2 e3 v1 v2 v3 : Nat → Int} {a b c : Nat} (hx : StalkQ e1 v1 a) (hy : StalkQ e2 v2 b) (hz : StalkQ e3 v3 c) : ((∃ h, h < a ∧ 0 < e1 h ∧ 0 ≤ v1 h + v2 b + v3 c) ∨ (∃ h, h < b ∧ 0 < e2 h ∧ 0 ≤ v1 a + v2 h + v3 c) ∨ (∃ h, h < c ∧ 0 < e3 h ∧ 0 ≤ v1 a + v2 b + v3 h)) ↔ 0 < v1 a + v2 b + v3 c := by
  constructor
  · rintro (⟨h, h1, h2, h3⟩ | ⟨h, h1, h2, h3⟩ | ⟨h, h1, h2, h3⟩)
    · exact Int.lt_of_le_of_lt h3 (Int.add_lt_add_right (Int.add_lt_add_right (lfL (hx.lt h h1) h2) _) _)
    · exact Int.lt_of_le_of_lt h3 (Int.add_lt_add_right (Int.add_lt_add_left (lfL (hy.lt h h1) h2) _) _)
    · exact Int.lt_of_le_of_lt h3 (Int.add_lt_add_left (lfL (hz.lt h h1) h2) _)
  · intro hv
    by_cases ox : v1 a % 2 = 0
    · by_cases oy : v2 b % 2 = 0
      · by_cases oz : v3 c % 2 = 0
        · have d2 := ev2 hv ox oy oz
          by_cases tx : v1 a % 4 = 2
          · obtain ⟨⟨j, h1, h2, h3⟩, _⟩ := hx.two tx; exact .inl ⟨j, h1, lfP h2, lf1 h3 d2⟩
          · by_cases ty : v2 b % 4 = 2
            · obtain ⟨⟨j, h1, h2, h3⟩, _⟩ := hy.two ty; exact .inr (.inl ⟨j, h1, lfP h2, lf2 h3 d2⟩)
            · by_cases tz : v3 c % 4 = 2
              · obtain ⟨⟨j, h1, h2, h3⟩, _⟩ := hz.two tz; exact .inr (.inr ⟨j, h1, lfP h2, lf3 h3 d2⟩)
              · have d4 := ev4 hv (m4 ox tx) (m4 oy ty) (m4 oz tz)
                by_cases px : 0 < v1 a
                · obtain ⟨j, h1, h2, h3⟩ := hx.pos (m4 ox tx) px; exact .inl ⟨j, h1, lfP h2, lf1 h3 d4⟩
                · by_cases py : 0 < v2 b
                  · obtain ⟨j, h1, h2, h3⟩ := hy.pos (m4 oy ty) py; exact .inr (.inl ⟨j, h1, lfP h2, lf2 h3 d4⟩)
                  · obtain ⟨j, h1, h2, h3⟩ := hz.pos (m4 oz tz) (pz hv px py); exact .inr (.inr ⟨j, h1, lfP h2, lf3 h3 d4⟩)
        · obtain ⟨⟨j, h1, h2, h3⟩, _⟩ := hz.odd oz; exact .inr (.inr ⟨j, h1, lfP h2, lf3 h3 hv⟩)
      · obtain ⟨⟨j, h1, h2, h3⟩, _⟩ := hy.odd oy; exact .inr (.inl ⟨j, h1, lfP h2, lf2 h3 hv⟩)
    · obtain ⟨⟨j, h1, h2, h3⟩, _⟩ := hx.odd ox; exact .inl ⟨j, h1, lfP h2, lf1 h3 hv⟩
theorem ng1 {e : Int} : 0 < -e ↔ e < 0 := by omega
theorem ng2 {X Y Z : Int} : 0 ≤ -X + -Y + -Z ↔ X + Y + Z ≤ 0 := by omega
theorem ng3 {X Y Z : Int} : 0 < -X + -Y + -Z ↔ X + Y + Z < 0 := by omega
section
variable {x y z : List Int} {a b c : Nat}
/- a cut of Left's that leaves what is no loss for Left: just where the sum is above nought -/
theorem left_iff (hx : StalkP x a) (hy : StalkP y b) (hz : StalkP z c) : ((∃ h, h < a ∧ 0 < x.getD h 0 ∧ 0 ≤ numAt x h + numAt y b + numAt z c) ∨ (∃ h, h < b ∧ 0 < y.getD h 0 ∧ 0 ≤ numAt x a + numAt y h + numAt z c) ∨ (∃ h, h < c ∧ 0 < z.getD h 0 ∧ 0 ≤ numAt x a + numAt y b + numAt z h)) ↔ 0 < numAt x a + numAt y b + numAt z c := left_iffQ hx hy hz
theorem right_iff (hx : StalkP x a) (hy : StalkP y b) (hz : StalkP z c) : ((∃ h, h < a ∧ x.getD h 0 < 0 ∧ numAt x h + numAt y b + numAt z c ≤ 0) ∨ (∃ h, h < b ∧ y.getD h 0 < 0 ∧ numAt x a + numAt y h + numAt z c ≤ 0) ∨ (∃ h, h < c ∧ z.getD h 0 < 0 ∧ numAt x a + numAt y b + numAt z h ≤ 0)) ↔ numAt x a + numAt y b + numAt z c < 0 := by
  have h := left_iffQ hx.flip hy.flip hz.flip
  simp only [ng1, ng2, ng3] at h
  exact h
end
theorem numberF_eq (es : List Int) : numberF es = numAt es es.length := rfl
/- the rows: what quotedata makes of a row, and its worth -/
def quoted (row : List Nat) : List Nat := if row.headD 0 = 46 then 46 :: row else row
def rowOf (ls : List Int) : List Nat := ls.map fun l => if l = 1 then 46 else 45
def edgesOf (ls : List Int) : List Int := ls.map fun l => 2 * l - 1
def grownOf (ls : List Int) : List Int := if (edgesOf ls).headD 0 = 1 then 1 :: edgesOf ls else edgesOf ls
def lefts : Nat → List (List Int)
  | 0 => [[]]
  | n + 1 => (lefts n).flatMap fun l => [1 :: l, 0 :: l]
def allLefts : List (List Int) := lefts 0 ++ lefts 1 ++ lefts 2 ++ lefts 3
theorem rows_ok : (allLefts.all fun ls => decide (worthF (quoted (rowOf ls)) = numberF (grownOf ls)) && decide (-(worthF (quoted (rowOf ls))) = numberF ((grownOf ls).map fun e => -e)) && shapes.contains (grownOf ls) && shapes.contains ((grownOf ls).map fun e => -e)) = true := by decide +kernel

end
section
theorem fillG1 : (∃ f : Params → Frag, f = Mine.hd.heap_1) ∧ PySem.Challenge.rw_sh0030_01 = PySem.Challenge.rw_sh0030_01 := by w_top off; k_fill; exact ⟨⟨_, rfl⟩, rfl⟩
noncomputable def plD (w : World) : { x : List Stmt × Scope × Str × Value // ∃ (oc : Value) (od : Option Addr) (osl : Array (Option Value)) (name : Str) (params : Arguments) (dV kV doc pm : Value) (an : Option Addr) (ct : Value), (hd.heap_1 w.params).lookup 269 = some ⟨oc, od, .func (fnOf name x.2.2.1 params x.1 x.2.1 dV kV doc pm an x.2.2.2 ct), osl⟩ } := by
  exact ⟨(_, _, _, _), _, _, _, _, _, _, _, _, _, _, _, by k_is⟩
def forBody : List Stmt → Nat → List Stmt
  | [], _ => []
  | .For _ _ b _ _ :: _, 0 => b
  | _ :: _, 0 => []
  | _ :: r, n + 1 => forBody r n
noncomputable def plC (w : World) : List Stmt := forBody (forBody (forBody (plD w).1.1 2) 0) 0
noncomputable def plS (w : World) (i : Nat) : Stmt := ((plC w)[i]?).getD (.Pass default)
noncomputable def plE (w : World) (L : Addr) : Env := envOfC (plD w).1.2.2.1 (plD w).1.2.1 L 269 (plD w).1.2.2.2
def plCells (L : Addr) (ox oy oz ol or oa ob oc : Obj) (R : List (Addr × Obj)) : List (Addr × Obj) :=
  (L + 1 + 1 + 1 + 1 + 1 + 1 + 1 + 1, oc) :: (L + 1 + 1 + 1 + 1 + 1 + 1 + 1, ob) :: (L + 1 + 1 + 1 + 1 + 1 + 1, oa) :: (L + 1 + 1 + 1 + 1 + 1, or) :: (L + 1 + 1 + 1 + 1, ol) :: (L + 1 + 1 + 1, oz) :: (L + 1 + 1, oy) :: (L + 1, ox) :: R
def keyP (a b c : Nat) : Int := 100 * a + 10 * b + c
def cutsX (es : List Int) (f : Nat → Int) (n : Nat) : List (Int × Int) := (List.range n).map fun h => (es.getD h 0, f h)
theorem cutsX_succ (es : List Int) (f : Nat → Int) (n : Nat) : cutsX es f (n + 1) = cutsX es f n ++ [(es.getD n 0, f n)] := by simp [cutsX, List.range_succ]
def JX (L : Addr) (ox oy oz ol or oa ob oc : Obj) (RR : List (Addr × Obj)) (es : List Int) (f : Nat → Int) (i : Nat) (ys : List Value) (nw : List (Addr × Obj)) : Prop :=
  ∃ RR', nw = plCells L ox oy oz ol or oa ob oc RR' ∧ (∀ p ∈ RR, p ∈ RR') ∧ ∃ T, (∀ p ∈ T, p ∈ RR') ∧ TupsAre ys (cutsX es f i) T
theorem plCells_mem {L : Addr} {ox oy oz ol or oa ob oc : Obj} {RR : List (Addr × Obj)} {p : Addr × Obj} : p ∈ plCells L ox oy oz ol or oa ob oc RR ↔ p ∈ plCells L ox oy oz ol or oa ob oc [] ∨ p ∈ RR := by
  unfold plCells
  simp only [List.mem_cons, List.not_mem_nil, or_false, or_assoc]
section
variable {w : World} {e1 e2 : Env} {s : Shared} {R : Result → Shared → Prop} {p : Program} {loose : List Str} {mean : ExcName → Option Value} {mg mb : Str → Option Value}
  {h₀ : Heap} {L : Addr} {m : Str → Option Value} {ox oy oz ol or oa ob oc : Obj} {RR : List (Addr × Obj)} {Q : Flow → Shared → Prop} {E : Value → Shared → Prop}
theorem endX {s₁ : Shared} {I C D D' : Addr} {oI oC : Obj} {ys : List Value} {RR' : List (Addr × Obj)} {h' : Heap} {tk : Nat} {x y : Int} {t u : Tok} {es : List Int} {f : Nat → Int} {j : Nat} {T : List (Addr × Obj)}
    (F : Fr h₀ L h' m) (N : News h₀ L h' ((D', tupO #[.int x t, .int y u]) :: (I, oI) :: (C, oC) :: (D, LCg.lst ys) :: plCells L ox oy oz ol or oa ob oc RR')) (off : LCg.Off3 I C D (plCells L ox oy oz ol or oa ob oc RR'))
    (hI : @LT.lt Nat _ I D') (hC : @LT.lt Nat _ C D') (hD : @LT.lt Nat _ D D') (hg : ∀ p ∈ RR, p ∈ RR') (hT : ∀ p ∈ T, p ∈ RR') (hJ : TupsAre ys (cutsX es f j) T) (ex : x = es.getD j 0) (ey : y = f j) :
    LCg.CompEnd h₀ L m s₁ I oI C oC D (LCg.lst ys) (fun _ => True) (fun y n => JX L ox oy oz ol or oa ob oc RR es f (j + 1) (ys ++ [y]) n) (.ref D') { s₁ with heap := h', toks := tk } := by
  subst ex ey
  refine LCg.CompEnd.intro F N (plCells L ox oy oz ol or oa ob oc ((D', tupO #[.int (es.getD j 0) t, .int (f j) u]) :: RR')) (fun q hq => ?_) (LCg.Off3.of fun q hq => ?_) trivial ⟨_, rfl, fun q hq => List.mem_cons_of_mem _ (hg q hq), (D', tupO #[.int (es.getD j 0) t, .int (f j) u]) :: T, fun q hq => ?_, ?_⟩
  · simp only [List.mem_cons, plCells_mem (RR := _ :: _)] at hq
    simp only [List.mem_cons]
    rcases hq with h | h | h | h | h | h
    · exact .inr (.inl h)
    · exact .inr (.inr (.inl h))
    · exact .inr (.inr (.inr (.inl h)))
    · exact .inr (.inr (.inr (.inr (plCells_mem.mpr (.inl h)))))
    · exact .inl h
    · exact .inr (.inr (.inr (.inr (plCells_mem.mpr (.inr h)))))
  · rcases plCells_mem.mp hq with h | h
    · exact off.mem q (plCells_mem.mpr (.inl h))
    · rcases List.mem_cons.mp h with h | h
      · rw [h]; exact ⟨Nat.ne_of_gt hI, Nat.ne_of_gt hC, Nat.ne_of_gt hD⟩
      · exact off.mem q (plCells_mem.mpr (.inr h))
  · rcases List.mem_cons.mp hq with h | h
    · rw [h]; exact List.mem_cons_self
    · exact List.mem_cons_of_mem _ (hT q h)
  · rw [cutsX_succ]
    exact hJ.snoc
local macro_rules | `(tactic| walk_at "exec Assign cons ListComp") => `(tactic| (k_dflt (refine assignRN (by k_asm) (by rfl) (by rfl) (by rfl) (by decide) (by rfl) (by decide) (by rfl) (by rfl) (by rfl) ?_)))
local macro_rules | `(tactic| walk_at "eval ListComp") => `(tactic| (k_dflt first | (refine compRN (by k_asm) (by rfl) (by decide) (by rfl) (by decide) (by rfl) ?_) | (refine compLP (by k_asm) (by rfl) (by decide) (by rfl) (by decide) (by rfl) (by rfl) (by decide) ?_)))
local macro_rules | `(tactic| walk_at "CompTurn") => `(tactic| (unfold CompTurn; (try dsimp only); intro E9))
theorem pl_s1 
    (X : (hd.heap_1 w.params).In h₀) (T : Top p loose mean mg mb h₀) {lx : Addr} {vx : List Value} {ex : List Int} (hlx : h₀.IsList lx vx.toArray) (hIx : IntsAre vx ex) {a b c : Nat} {ta tb tc : Tok}
    (F : Fr h₀ L s.heap m) (N : News h₀ L s.heap (plCells L ox oy oz ol or oa ob oc RR)) (dx : ox.data = .cell (some (.ref lx))) (da : oa.data = .cell (some (.int a ta))) (db : ob.data = .cell (some (.int b tb))) (dc : oc.data = .cell (some (.int c tc)))
    (hlen : ex.length ≤ 4) (hxa : a ≤ ex.length)
    (fin : ∀ D nD h tk ys RR' TT, Fr h₀ L h (fun z => if z = Str.ofString "cuts" then some (.ref D) else m z) → News h₀ L h (plCells L ox oy oz ol or oa ob oc RR') → (∀ p ∈ RR, p ∈ RR') → (∀ p ∈ TT, p ∈ RR') → (D, W.listOf ys.toArray nD) ∈ RR' → TupsAre ys (cutsX ex (fun h => keyP h b c) a) TT → Q .next { s with heap := h, toks := tk }) :
    wpAny (model prg w) ((callerA.deeper e1).deeper (plE w L)) (exec (plS w 0) (plE w L)) Q E s := by
  simp only [plE, plS, plC, plD, forBody, List.getElem?_cons_zero, Option.getD_some]
  unfold plCells at N
  k_steps
  (rename Fr _ _ _ _ => lF'); (rename News _ _ _ _ => lN'); (rename IsRange _ _ _ _ _ _ _ _ => rgY)
  with_unfolding_all refine' ⟨_, _, _, _, _, _, a, plCells L ox oy oz ol or oa ob oc RR, (fun _ => True), JX L ox oy oz ol or oa ob oc RR ex (fun h => keyP h b c), rfl, rfl, lF', lN', trivial, ⟨RR, rfl, (fun _ h => h), [], (fun _ h => nomatch h), .nil⟩, rgY, small_one (by omega) (by omega) (by omega) (by omega), by rw [rangeSize_nat]; omega, by have hz9 : (1001 : Nat) ≤ sizeLine := (by decide); omega, fun g9 j9 t9 ys9 nw9 I9 oI9 C9 oC9 D9 m9 h9 tk9 hi9 hS9 hJ9 hl9 hC9 hx9 F' N' off9 ne9 => ?_, fun g9 D9 h9 tk9 ys9 nw9 F' N' o9 hS9 hJ9 => ?_⟩
  all_goals clear lF' lN' rgY
  · obtain ⟨RR', rfl, hg9, T9, hT9, hJ9⟩ := hJ9
    unfold plCells at N'
    k_steps
    (rename Fr _ _ _ _ => lF'); (rename News _ _ _ _ => lN')
    exact endX lF' lN' off9 (by omega) (by omega) (by omega) hg9 hT9 hJ9 (by congr 1; omega) (by unfold keyP; omega)
  · obtain ⟨RR', rfl, hg9, T9, hT9, hJ9⟩ := hJ9
    refine fin D9 ys9.length h9 tk9 ys9 ((D9, LCg.lst ys9) :: RR') T9 F' (fun q hq => ?_) (fun q hq => List.mem_cons_of_mem _ (hg9 q hq)) (fun q hq => List.mem_cons_of_mem _ (hT9 q hq)) List.mem_cons_self hJ9
    rcases plCells_mem.mp hq with h | h
    · exact N' q (List.mem_cons_of_mem _ (plCells_mem.mpr (.inl h)))
    · rcases List.mem_cons.mp h with h | h
      · exact N' q (by rw [h]; exact List.mem_cons_self)
      · exact N' q (List.mem_cons_of_mem _ (plCells_mem.mpr (.inr h)))

theorem news_mid {h : Heap} {D : Addr} {o : Obj} {RR' : List (Addr × Obj)} (N : News h₀ L h ((D, o) :: plCells L ox oy oz ol or oa ob oc RR')) : News h₀ L h (plCells L ox oy oz ol or oa ob oc ((D, o) :: RR')) := fun q hq => by
  rcases plCells_mem.mp hq with h | h
  · exact N q (List.mem_cons_of_mem _ (plCells_mem.mpr (.inl h)))
  · rcases List.mem_cons.mp h with h | h
    · exact N q (by rw [h]; exact List.mem_cons_self)
    · exact N q (List.mem_cons_of_mem _ (plCells_mem.mpr (.inr h)))
theorem cutsX_length (es : List Int) (f : Nat → Int) (n : Nat) : (cutsX es f n).length = n := by simp [cutsX]
theorem listOf_is {h : Heap} {D : Addr} {ys : List Value} {n : Nat} (e : h.get? D = some (W.listOf ys.toArray n)) : h.IsList D ys.toArray := ⟨_, e, rfl, _, rfl⟩
theorem lst_is {h : Heap} {D : Addr} {ys : List Value} (e : h.get? D = some (LCg.lst ys)) : h.IsList D ys.toArray := ⟨_, e, rfl, _, rfl⟩
theorem TupsAre.app {v1 v2 : List Value} {s1 s2 : List (Int × Int)} {T1 T2 : List (Addr × Obj)} (h1 : TupsAre v1 s1 T1) (h2 : TupsAre v2 s2 T2) : TupsAre (v1 ++ v2) (s1 ++ s2) (T1 ++ T2) := by
  refine ⟨by simp [h1.1, h2.1], fun i x y e => ?_⟩
  by_cases hi : i < s1.length
  · rw [List.getElem?_append_left hi] at e
    obtain ⟨a, t, u, q1, q2⟩ := h1.2 i x y e
    exact ⟨a, t, u, by rw [List.getElem?_append_left (h1.1 ▸ hi)]; exact q1, List.mem_append_left _ q2⟩
  · rw [List.getElem?_append_right (Nat.le_of_not_lt hi)] at e
    obtain ⟨a, t, u, q1, q2⟩ := h2.2 _ x y e
    exact ⟨a, t, u, by rw [List.getElem?_append_right (h1.1 ▸ Nat.le_of_not_lt hi), h1.1]; exact q1, List.mem_append_right _ q2⟩
theorem pl_s2
    (X : (hd.heap_1 w.params).In h₀) (T : Top p loose mean mg mb h₀) {lx : Addr} {vx : List Value} {ex : List Int} (hlx : h₀.IsList lx vx.toArray) (hIx : IntsAre vx ex) {a b c : Nat} {ta tb tc : Tok} {D1 : Addr} {n1 : Nat} {ys1 : List Value} {st1 : List (Int × Int)} {T1 : List (Addr × Obj)}
    (F : Fr h₀ L s.heap (fun z => if z = Str.ofString "cuts" then some (.ref D1) else m z)) (N : News h₀ L s.heap (plCells L ox oy oz ol or oa ob oc RR)) (dy : oy.data = .cell (some (.ref lx))) (da : oa.data = .cell (some (.int a ta))) (db : ob.data = .cell (some (.int b tb))) (dc : oc.data = .cell (some (.int c tc)))
    (hlen : ex.length ≤ 4) (hxb : b ≤ ex.length) (hD1 : (D1, W.listOf ys1.toArray n1) ∈ RR) (hT1 : ∀ p ∈ T1, p ∈ RR) (hJ1 : TupsAre ys1 st1 T1) (hl1 : st1.length ≤ 100)
    (fin : ∀ D nD h tk ys RR' TT, Fr h₀ L h (fun z => if z = Str.ofString "cuts" then some (.ref D) else m z) → News h₀ L h (plCells L ox oy oz ol or oa ob oc RR') → (∀ p ∈ RR, p ∈ RR') → (∀ p ∈ TT, p ∈ RR') → (D, W.listOf ys.toArray nD) ∈ RR' → TupsAre ys (st1 ++ cutsX ex (fun h => keyP a h c) b) TT → Q .next { s with heap := h, toks := tk }) :
    wpAny (model prg w) ((callerA.deeper e1).deeper (plE w L)) (exec (plS w 1) (plE w L)) Q E s := by
  simp only [plE, plS, plC, plD, forBody, List.getElem?_cons_zero, List.getElem?_cons_succ, Option.getD_some]
  unfold plCells at N
  k_steps
  (rename Fr _ _ _ _ => lF'); (rename News _ _ _ _ => lN'); (rename IsRange _ _ _ _ _ _ _ _ => rgY)
  with_unfolding_all refine' ⟨_, _, _, _, _, _, b, plCells L ox oy oz ol or oa ob oc RR, (fun _ => True), JX L ox oy oz ol or oa ob oc RR ex (fun h => keyP a h c), rfl, rfl, lF', lN', trivial, ⟨RR, rfl, (fun _ h => h), [], (fun _ h => nomatch h), .nil⟩, rgY, small_one (by omega) (by omega) (by omega) (by omega), by rw [rangeSize_nat]; omega, by have hz9 : (1001 : Nat) ≤ sizeLine := (by decide); omega, fun g9 j9 t9 ys9 nw9 I9 oI9 C9 oC9 D9 m9 h9 tk9 hi9 hS9 hJ9 hl9 hC9 hx9 F' N' off9 ne9 => ?_, fun g9 D9 h9 tk9 ys9 nw9 F' N' o9 hS9 hJ9 => ?_⟩
  all_goals clear lF' lN' rgY
  · obtain ⟨RR', rfl, hg9, T9, hT9, hJ9⟩ := hJ9
    unfold plCells at N'
    k_steps
    (rename Fr _ _ _ _ => lF'); (rename News _ _ _ _ => lN')
    exact endX lF' lN' off9 (by omega) (by omega) (by omega) hg9 hT9 hJ9 (by congr 1; omega) (by unfold keyP; omega)
  · obtain ⟨RR', rfl, hg9, T9, hT9, hJ9⟩ := hJ9
    have N9 := news_mid N'
    clear N'
    dsimp only
    have hz9 : (1001 : Nat) ≤ sizeLine := by decide
    have e1 := hJ1.1
    have e2 := hJ9.1
    rw [cutsX_length] at e2
    refine add_led F' N9 (listOf_is (N9.get (plCells_mem.mpr (.inr (List.mem_cons_of_mem _ (hg9 _ hD1)))))) (lst_is (N9.get (plCells_mem.mpr (.inr List.mem_cons_self)))) (by simp only [List.size_toArray]; omega) (fun d h F' N' l9 => ?_)
    (try simp only [List.toList_toArray] at N')
    have N8 := news_mid (o := W.listOf (ys1 ++ ys9).toArray _) N'
    clear N9 N'
    unfold plCells at N8
    k_steps
    (rename Fr _ _ _ _ => lF'); (rename News _ _ _ _ => lN')
    refine fin d _ _ _ (ys1 ++ ys9) ((d, W.listOf (ys1 ++ ys9).toArray _) :: (D9, LCg.lst ys9) :: RR') (T1 ++ T9) ?_ lN' (fun q hq => List.mem_cons_of_mem _ (List.mem_cons_of_mem _ (hg9 q hq))) (fun q hq => List.mem_cons_of_mem _ (List.mem_cons_of_mem _ ?_)) List.mem_cons_self (hJ1.app hJ9)
    · refine cast ?_ lF'
      congr 1
      funext z
      split <;> rfl
    · rcases List.mem_append.mp hq with h | h
      · exact hg9 _ (hT1 _ h)
      · exact hT9 _ h
theorem pl_s3
    (X : (hd.heap_1 w.params).In h₀) (T : Top p loose mean mg mb h₀) {lx : Addr} {vx : List Value} {ex : List Int} (hlx : h₀.IsList lx vx.toArray) (hIx : IntsAre vx ex) {a b c : Nat} {ta tb tc : Tok} {D1 : Addr} {n1 : Nat} {ys1 : List Value} {st1 : List (Int × Int)} {T1 : List (Addr × Obj)}
    (F : Fr h₀ L s.heap (fun z => if z = Str.ofString "cuts" then some (.ref D1) else m z)) (N : News h₀ L s.heap (plCells L ox oy oz ol or oa ob oc RR)) (dy : oz.data = .cell (some (.ref lx))) (da : oa.data = .cell (some (.int a ta))) (db : ob.data = .cell (some (.int b tb))) (dc : oc.data = .cell (some (.int c tc)))
    (hlen : ex.length ≤ 4) (hxb : c ≤ ex.length) (hD1 : (D1, W.listOf ys1.toArray n1) ∈ RR) (hT1 : ∀ p ∈ T1, p ∈ RR) (hJ1 : TupsAre ys1 st1 T1) (hl1 : st1.length ≤ 100)
    (fin : ∀ D nD h tk ys RR' TT, Fr h₀ L h (fun z => if z = Str.ofString "cuts" then some (.ref D) else m z) → News h₀ L h (plCells L ox oy oz ol or oa ob oc RR') → (∀ p ∈ RR, p ∈ RR') → (∀ p ∈ TT, p ∈ RR') → (D, W.listOf ys.toArray nD) ∈ RR' → TupsAre ys (st1 ++ cutsX ex (fun h => keyP a b h) c) TT → Q .next { s with heap := h, toks := tk }) :
    wpAny (model prg w) ((callerA.deeper e1).deeper (plE w L)) (exec (plS w 2) (plE w L)) Q E s := by
  simp only [plE, plS, plC, plD, forBody, List.getElem?_cons_zero, List.getElem?_cons_succ, Option.getD_some]
  unfold plCells at N
  k_steps
  (rename Fr _ _ _ _ => lF'); (rename News _ _ _ _ => lN'); (rename IsRange _ _ _ _ _ _ _ _ => rgY)
  with_unfolding_all refine' ⟨_, _, _, _, _, _, c, plCells L ox oy oz ol or oa ob oc RR, (fun _ => True), JX L ox oy oz ol or oa ob oc RR ex (fun h => keyP a b h), rfl, rfl, lF', lN', trivial, ⟨RR, rfl, (fun _ h => h), [], (fun _ h => nomatch h), .nil⟩, rgY, small_one (by omega) (by omega) (by omega) (by omega), by rw [rangeSize_nat]; omega, by have hz9 : (1001 : Nat) ≤ sizeLine := (by decide); omega, fun g9 j9 t9 ys9 nw9 I9 oI9 C9 oC9 D9 m9 h9 tk9 hi9 hS9 hJ9 hl9 hC9 hx9 F' N' off9 ne9 => ?_, fun g9 D9 h9 tk9 ys9 nw9 F' N' o9 hS9 hJ9 => ?_⟩
  all_goals clear lF' lN' rgY
  · obtain ⟨RR', rfl, hg9, T9, hT9, hJ9⟩ := hJ9
    unfold plCells at N'
    k_steps
    (rename Fr _ _ _ _ => lF'); (rename News _ _ _ _ => lN')
    exact endX lF' lN' off9 (by omega) (by omega) (by omega) hg9 hT9 hJ9 (by congr 1; omega) (by unfold keyP; omega)
  · obtain ⟨RR', rfl, hg9, T9, hT9, hJ9⟩ := hJ9
    have N9 := news_mid N'
    clear N'
    dsimp only
    have hz9 : (1001 : Nat) ≤ sizeLine := by decide
    have e1 := hJ1.1
    have e2 := hJ9.1
    rw [cutsX_length] at e2
    refine add_led F' N9 (listOf_is (N9.get (plCells_mem.mpr (.inr (List.mem_cons_of_mem _ (hg9 _ hD1)))))) (lst_is (N9.get (plCells_mem.mpr (.inr List.mem_cons_self)))) (by simp only [List.size_toArray]; omega) (fun d h F' N' l9 => ?_)
    (try simp only [List.toList_toArray] at N')
    have N8 := news_mid (o := W.listOf (ys1 ++ ys9).toArray _) N'
    clear N9 N'
    unfold plCells at N8
    k_steps
    (rename Fr _ _ _ _ => lF'); (rename News _ _ _ _ => lN')
    refine fin d _ _ _ (ys1 ++ ys9) ((d, W.listOf (ys1 ++ ys9).toArray _) :: (D9, LCg.lst ys9) :: RR') (T1 ++ T9) ?_ lN' (fun q hq => List.mem_cons_of_mem _ (List.mem_cons_of_mem _ (hg9 q hq))) (fun q hq => List.mem_cons_of_mem _ (List.mem_cons_of_mem _ ?_)) List.mem_cons_self (hJ1.app hJ9)
    · refine cast ?_ lF'
      congr 1
      funext z
      split <;> rfl
    · rcases List.mem_append.mp hq with h | h
      · exact hg9 _ (hT1 _ h)
      · exact hT9 _ h
end

end
section
theorem fillG2 : (∃ f : Params → Frag, f = Mine.hd.heap_1) ∧ PySem.Challenge.rw_sh0030_01 = PySem.Challenge.rw_sh0030_01 := by w_top off; k_fill; exact ⟨⟨_, rfl⟩, rfl⟩
local macro_rules | `(tactic| walk_at "zz") => `(tactic| skip)
theorem TupsAre.fns {vs : List Value} {st : List (Int × Int)} {T : List (Addr × Obj)} (h : TupsAre vs st T) :
    ∃ f : Nat → Addr × Tok × Tok, ∀ (i : Nat) (x y : Int), st[i]? = some (x, y) → vs[i]? = some (Value.ref (f i).1) ∧ ((f i).1, tupO #[.int x (f i).2.1, .int y (f i).2.2]) ∈ T := by
  refine Classical.axiomOfChoice (r := fun i (q : Addr × Tok × Tok) => ∀ (x y : Int), st[i]? = some (x, y) → vs[i]? = some (Value.ref q.1) ∧ (q.1, tupO #[.int x q.2.1, .int y q.2.2]) ∈ T) fun i => ?_
  cases e : st[i]? with
  | none => exact ⟨(0, default, default), fun x y e' => by cases e'⟩
  | some q =>
    obtain ⟨a, b⟩ := q
    obtain ⟨c, t, u, h1, h2⟩ := h.2 i a b e
    refine ⟨(c, t, u), fun x y e' => ?_⟩
    cases e'
    exact ⟨h1, h2⟩
def selF (P : Int → Bool) (g : Int → Bool) (st : List (Int × Int)) : List Int := (st.filter fun e => P e.1 && !g e.2).map (·.2)
theorem tup_at {h : Heap} {a : Addr} {vs : Array Value} (e : h.get? a = some (tupO vs)) : h.IsTuple a vs := ⟨_, e, rfl, _, rfl⟩
theorem selF_no {P g : Int → Bool} {st : List (Int × Int)} {j : Nat} {q : Int × Int} (e : st[j]? = some q) (h : P q.1 = false ∨ g q.2 = true) : selF P g (st.take (j + 1)) = selF P g (st.take j) := by
  have : (P q.1 && !g q.2) = false := by rcases h with h | h <;> simp [h]
  rw [List.take_add_one, e]
  simp [selF, List.filter_append, List.filter_cons, this]
theorem selF_yes {P g : Int → Bool} {st : List (Int × Int)} {j : Nat} {q : Int × Int} (e : st[j]? = some q) (h : P q.1 = true) (h' : g q.2 = false) : selF P g (st.take (j + 1)) = selF P g (st.take j) ++ [q.2] := by
  have : (P q.1 && !g q.2) = true := by simp [h, h']
  rw [List.take_add_one, e]
  simp [selF, List.filter_append, List.filter_cons, this]
section
variable {w : World} {e1 e2 : Env} {s : Shared} {R : Result → Shared → Prop} {p : Program} {loose : List Str} {mean : ExcName → Option Value} {mg mb : Str → Option Value}
  {h₀ : Heap} {L : Addr} {m : Str → Option Value} {ox oy oz ol or oa ob oc : Obj} {RR : List (Addr × Obj)} {Q : Flow → Shared → Prop} {E : Value → Shared → Prop}
local macro_rules | `(tactic| walk_at "eval ListComp") => `(tactic| (k_dflt (refine compLP (by k_asm) (by rfl) (by decide) (by rfl) (by decide) (by rfl) (by rfl) (by decide) ?_)))
local macro_rules | `(tactic| walk_at "CompTurn") => `(tactic| (unfold CompTurn; (try dsimp only); intro E9))
theorem mem11 {x a1 a2 a3 a4 a5 a6 a7 a8 a9 a10 a11 : Addr × Obj} {RR : List (Addr × Obj)} (h : x ∈ RR) : x ∈ a1 :: a2 :: a3 :: a4 :: a5 :: a6 :: a7 :: a8 :: a9 :: a10 :: a11 :: RR := by
  simp only [List.mem_cons, h, or_true]
local macro_rules | `(tactic| walk_at "subscriptTail") => `(tactic| ((rename News _ _ _ _ => lN'); k_dflt (refine kda_item (knd := PySem.intKind _ _) lN' (mem11 (by assumption)) (by assumption) (intKind_is _ _ _ _) (by assumption) ?_)))
theorem pl_s4 (X : (hd.heap_1 w.params).In h₀) (T : Top p loose mean mg mb h₀) {a b c : Nat} {ta tb tc : Tok}
    (F : Fr h₀ L s.heap m) (N : News h₀ L s.heap (plCells L ox oy oz ol or oa ob oc RR)) (da : oa.data = .cell (some (.int a ta))) (db : ob.data = .cell (some (.int b tb))) (dc : oc.data = .cell (some (.int c tc)))
    (fin : ∀ h tk t, Fr h₀ L h (fun z => if z = Str.ofString "at" then some (.int (keyP a b c) t) else m z) → News h₀ L h (plCells L ox oy oz ol or oa ob oc RR) → Q .next { s with heap := h, toks := tk }) :
    wpAny (model prg w) ((callerA.deeper e1).deeper (plE w L)) (exec (plS w 3) (plE w L)) Q E s := by
  simp only [plE, plS, plC, plD, forBody, List.getElem?_cons_zero, List.getElem?_cons_succ, Option.getD_some]
  unfold plCells at N
  k_steps
  dsimp only
  exact fin _ _ _ (by assumption) (by assumption)
theorem set_led {d : Addr} {o : Obj} {kvs : List (Int × Value)} {k : Int} {key v : Value} {news : List (Addr × Obj)} {A : Around} {Q : Unit → Shared → Prop} (F : Fr h₀ L s.heap m) (N : News h₀ L s.heap news) (hp : (d, o) ∈ news) (hd : o.IsDictOf (intKind prg w) kvs) (hkey : (intKind prg w).is k key = true) (hsz : kvs.length ≤ sizeLine)
    (h : ∀ h' o', Fr h₀ L h' m → News h₀ L h' ((d, o') :: news.filter fun q => decide (q.1 ≠ d)) → o'.IsDictOf (intKind prg w) (stored kvs k v) → Q () { s with heap := h', toks := s.toks + 1 }) : wpAny (model prg w) A (setItem (.ref d) key v) Q E s := by
  refine kda_set (g := fun o' => (d, o') :: news.filter fun q => decide (q.1 ≠ d)) F (news := (d, o) :: news.filter fun q => decide (q.1 ≠ d)) (fun q hq => ?_) (UpdF.head fun q hq => ?_) hd hkey hsz h
  · rcases List.mem_cons.mp hq with e | hq
    · rw [e]; exact N _ hp
    · exact N _ (List.mem_filter.mp hq).1
  · exact of_decide_eq_true (List.mem_filter.mp hq).2
theorem news_set {h : Heap} {d D9 : Addr} {o o9 e9 : Obj} {l9 : Addr} {C : List (Addr × Obj)} (hc : ∀ q ∈ C, q.1 ≠ d) (N : News h₀ L h ((d, o) :: ((l9, e9) :: (C ++ (D9, o9) :: RR)).filter fun q => decide (q.1 ≠ d))) : News h₀ L h (C ++ (d, o) :: RR.filter fun q => decide (q.1 ≠ d)) := fun q hq => by
  rcases List.mem_append.mp hq with hq | hq
  · exact N q (List.mem_cons_of_mem _ (List.mem_filter.mpr ⟨List.mem_cons_of_mem _ (List.mem_append_left _ hq), decide_eq_true (hc q hq)⟩))
  · rcases List.mem_cons.mp hq with e | hq
    · rw [e]; exact N _ List.mem_cons_self
    · have := List.mem_filter.mp hq
      exact N q (List.mem_cons_of_mem _ (List.mem_filter.mpr ⟨List.mem_cons_of_mem _ (List.mem_append_right _ (List.mem_cons_of_mem _ this.1)), this.2⟩))
theorem plCells_app : plCells L ox oy oz ol or oa ob oc RR = plCells L ox oy oz ol or oa ob oc [] ++ RR := rfl
theorem pl_s5 (X : (hd.heap_1 w.params).In h₀) (T : Top p loose mean mg mb h₀) {k : Int} {tk : Tok} {D1 dL dR : Addr} {oL oR : Obj} {kL kR : List (Int × Value)} {n1 : Nat} {ys1 : List Value} {st1 : List (Int × Int)} {T1 : List (Addr × Obj)} {g : Int → Bool}
    (F : Fr h₀ L s.heap (fun z => if z = Str.ofString "at" then some (.int k tk) else if z = Str.ofString "cuts" then some (.ref D1) else m z)) (N : News h₀ L s.heap (plCells L ox oy oz ol or oa ob oc RR))
    (dl : ol.data = .cell (some (.ref dL))) (dr : or.data = .cell (some (.ref dR))) (hdL : oL.IsDictOf (intKind prg w) kL) (hdR : oR.IsDictOf (intKind prg w) kR)
    (hD1 : (D1, W.listOf ys1.toArray n1) ∈ RR) (hT1 : ∀ p ∈ T1, p ∈ RR) (hJ1 : TupsAre ys1 st1 T1) (hl1 : st1.length ≤ 100) (hL : (dL, oL) ∈ RR) (hR : (dR, oR) ∈ RR) (hkL : kL.length ≤ 125) (hg : ∀ q ∈ st1, valueAt kR q.2 = some (.bool (g q.2)))
    (hcell : ∀ q ∈ plCells L ox oy oz ol or oa ob oc [], q.1 ≠ dL)
    (fin : ∀ h tk' (o' : Obj), Fr h₀ L h (fun z => if z = Str.ofString "at" then some (.int k tk) else if z = Str.ofString "cuts" then some (.ref D1) else m z) → News h₀ L h (plCells L ox oy oz ol or oa ob oc ((dL, o') :: RR.filter fun q => decide (q.1 ≠ dL))) → o'.IsDictOf (intKind prg w) (stored kL k (.bool (decide (selF (fun e => decide (0 < e)) g st1 ≠ [])))) → Q .next { s with heap := h, toks := tk' }) :
    wpAny (model prg w) ((callerA.deeper e1).deeper (plE w L)) (exec (plS w 4) (plE w L)) Q E s := by
  simp only [plE, plS, plC, plD, forBody, List.getElem?_cons_zero, List.getElem?_cons_succ, Option.getD_some]
  unfold plCells at N
  k_steps
  obtain ⟨f, hf⟩ := hJ1.fns
  have hlen1 := hJ1.1
  with_unfolding_all refine' ⟨D1, ys1.toArray, plCells L ox oy oz ol or oa ob oc RR, (fun nw => nw = plCells L ox oy oz ol or oa ob oc RR), (fun i ys _ => IntsAre ys (selF (fun e => decide (0 < e)) g (st1.take i))), (fun i => .int (st1.getD i (0, 0)).1 (f i).2.1), (fun i => .int (st1.getD i (0, 0)).2 (f i).2.2), rfl, rfl, F, N, rfl, IntsAre.nil, by rw [List.size_toArray]; have hz9 : (1001 : Nat) ≤ sizeLine := (by decide); omega, fun h nw hk N' hS => ?_, fun h nw i v hk N' hS hv => ?_, fun g9 j9 ys9 nw9 I9 oI9 C9 oC9 D9 m9 h9 tk9 hi9 hS9 hJ9 hl9 hC9 hx9 hy9 F' N' off9 ne9 => ?_, fun g9 D9 h9 tk9 ys9 nw9 F' N' o9 hS9 hJ9 => ?_⟩
  · subst hS
    exact listOf_is (N'.get (plCells_mem.mpr (.inr hD1)))
  · subst hS
    have hi : i < ys1.length := by
      have := (Array.getElem?_eq_some_iff.mp hv).1
      simpa using this
    rw [hlen1] at hi
    have e8 : st1[i]? = some ((st1.getD i (0, 0)).1, (st1.getD i (0, 0)).2) := by simp [List.getD, hi]
    obtain ⟨q1, q2⟩ := hf i _ _ e8
    have hv' : ys1[i]? = some v := by simpa using hv
    rw [q1] at hv'
    cases hv'
    exact ⟨_, rfl, tup_at (N'.get (plCells_mem.mpr (.inr (hT1 _ q2))))⟩
  · subst hS9
    clear F N
    unfold plCells at N'
    rw [List.size_toArray, hlen1] at hi9
    have e8 : st1[j9]? = some (st1.getD j9 (0, 0)) := by simp [List.getD, hi9]
    have hgi : valueAt kR (st1.getD j9 (0, 0)).2 = some (.bool (g (st1.getD j9 (0, 0)).2)) := hg _ (List.mem_of_getElem? e8)
    dsimp only at hx9 hy9 hJ9
    k_steps
    all_goals dsimp only
    all_goals (rename Fr _ _ _ _ => lF'); (rename News _ _ _ _ => lN')
    · exact LCg.CompEnd.intro lF' lN' _ (fun q hq => hq) off9 rfl (by rw [selF_no e8 (.inr (by assumption))]; exact hJ9)
    · exact LCg.CompEnd.intro lF' lN' _ (fun q hq => hq) off9 rfl (by rw [selF_yes e8 (decide_eq_true (by assumption)) (by assumption)]; exact ints_snoc hJ9 _ _)
    · exact LCg.CompEnd.intro lF' lN' _ (fun q hq => hq) off9 rfl (by rw [selF_no e8 (.inl (decide_eq_false (by assumption)))]; exact hJ9)
  · subst hS9
    clear F N
    rw [List.size_toArray, hlen1, List.take_length] at hJ9
    have N9 := news_mid N'
    clear N'
    unfold plCells at N9
    k_steps
    (rename Fr _ _ _ _ => lF'); (rename News _ _ _ _ => lN')
    have hz9 : (1001 : Nat) ≤ sizeLine := by decide
    refine set_led lF' lN' (by simp only [List.mem_cons, hL, or_true]) hdL (intKind_is _ _ _ _) (by omega) (fun h' o' F' N' hd' => ?_)
    clear lF' lN'
    dsimp only
    refine fin _ _ _ F' (news_set hcell N') ?_
    refine cast ?_ hd'
    congr 2
    simp
theorem pl_s6 (X : (hd.heap_1 w.params).In h₀) (T : Top p loose mean mg mb h₀) {k : Int} {tk : Tok} {D1 dL dR : Addr} {oL oR : Obj} {kL kR : List (Int × Value)} {n1 : Nat} {ys1 : List Value} {st1 : List (Int × Int)} {T1 : List (Addr × Obj)} {g : Int → Bool}
    (F : Fr h₀ L s.heap (fun z => if z = Str.ofString "at" then some (.int k tk) else if z = Str.ofString "cuts" then some (.ref D1) else m z)) (N : News h₀ L s.heap (plCells L ox oy oz ol or oa ob oc RR))
    (dl : ol.data = .cell (some (.ref dL))) (dr : or.data = .cell (some (.ref dR))) (hdL : oL.IsDictOf (intKind prg w) kL) (hdR : oR.IsDictOf (intKind prg w) kR)
    (hD1 : (D1, W.listOf ys1.toArray n1) ∈ RR) (hT1 : ∀ p ∈ T1, p ∈ RR) (hJ1 : TupsAre ys1 st1 T1) (hl1 : st1.length ≤ 100) (hL : (dL, oL) ∈ RR) (hR : (dR, oR) ∈ RR) (hkR : kR.length ≤ 125) (hg : ∀ q ∈ st1, valueAt kL q.2 = some (.bool (g q.2)))
    (hcell : ∀ q ∈ plCells L ox oy oz ol or oa ob oc [], q.1 ≠ dR)
    (fin : ∀ h tk' (o' : Obj), Fr h₀ L h (fun z => if z = Str.ofString "at" then some (.int k tk) else if z = Str.ofString "cuts" then some (.ref D1) else m z) → News h₀ L h (plCells L ox oy oz ol or oa ob oc ((dR, o') :: RR.filter fun q => decide (q.1 ≠ dR))) → o'.IsDictOf (intKind prg w) (stored kR k (.bool (decide (selF (fun e => decide (e < 0)) g st1 ≠ [])))) → Q .next { s with heap := h, toks := tk' }) :
    wpAny (model prg w) ((callerA.deeper e1).deeper (plE w L)) (exec (plS w 5) (plE w L)) Q E s := by
  simp only [plE, plS, plC, plD, forBody, List.getElem?_cons_zero, List.getElem?_cons_succ, Option.getD_some]
  unfold plCells at N
  k_steps
  obtain ⟨f, hf⟩ := hJ1.fns
  have hlen1 := hJ1.1
  with_unfolding_all refine' ⟨D1, ys1.toArray, plCells L ox oy oz ol or oa ob oc RR, (fun nw => nw = plCells L ox oy oz ol or oa ob oc RR), (fun i ys _ => IntsAre ys (selF (fun e => decide (e < 0)) g (st1.take i))), (fun i => .int (st1.getD i (0, 0)).1 (f i).2.1), (fun i => .int (st1.getD i (0, 0)).2 (f i).2.2), rfl, rfl, F, N, rfl, IntsAre.nil, by rw [List.size_toArray]; have hz9 : (1001 : Nat) ≤ sizeLine := (by decide); omega, fun h nw hk N' hS => ?_, fun h nw i v hk N' hS hv => ?_, fun g9 j9 ys9 nw9 I9 oI9 C9 oC9 D9 m9 h9 tk9 hi9 hS9 hJ9 hl9 hC9 hx9 hy9 F' N' off9 ne9 => ?_, fun g9 D9 h9 tk9 ys9 nw9 F' N' o9 hS9 hJ9 => ?_⟩
  · subst hS
    exact listOf_is (N'.get (plCells_mem.mpr (.inr hD1)))
  · subst hS
    have hi : i < ys1.length := by
      have := (Array.getElem?_eq_some_iff.mp hv).1
      simpa using this
    rw [hlen1] at hi
    have e8 : st1[i]? = some ((st1.getD i (0, 0)).1, (st1.getD i (0, 0)).2) := by simp [List.getD, hi]
    obtain ⟨q1, q2⟩ := hf i _ _ e8
    have hv' : ys1[i]? = some v := by simpa using hv
    rw [q1] at hv'
    cases hv'
    exact ⟨_, rfl, tup_at (N'.get (plCells_mem.mpr (.inr (hT1 _ q2))))⟩
  · subst hS9
    clear F N
    unfold plCells at N'
    rw [List.size_toArray, hlen1] at hi9
    have e8 : st1[j9]? = some (st1.getD j9 (0, 0)) := by simp [List.getD, hi9]
    have hgi : valueAt kL (st1.getD j9 (0, 0)).2 = some (.bool (g (st1.getD j9 (0, 0)).2)) := hg _ (List.mem_of_getElem? e8)
    dsimp only at hx9 hy9 hJ9
    k_steps
    all_goals dsimp only
    all_goals (rename Fr _ _ _ _ => lF'); (rename News _ _ _ _ => lN')
    · exact LCg.CompEnd.intro lF' lN' _ (fun q hq => hq) off9 rfl (by rw [selF_no e8 (.inr (by assumption))]; exact hJ9)
    · exact LCg.CompEnd.intro lF' lN' _ (fun q hq => hq) off9 rfl (by rw [selF_yes e8 (decide_eq_true (by assumption)) (by assumption)]; exact ints_snoc hJ9 _ _)
    · exact LCg.CompEnd.intro lF' lN' _ (fun q hq => hq) off9 rfl (by rw [selF_no e8 (.inl (decide_eq_false (by assumption)))]; exact hJ9)
  · subst hS9
    clear F N
    rw [List.size_toArray, hlen1, List.take_length] at hJ9
    have N9 := news_mid N'
    clear N'
    unfold plCells at N9
    k_steps
    (rename Fr _ _ _ _ => lF'); (rename News _ _ _ _ => lN')
    have hz9 : (1001 : Nat) ≤ sizeLine := by decide
    refine set_led lF' lN' (by simp only [List.mem_cons, hR, or_true]) hdR (intKind_is _ _ _ _) (by omega) (fun h' o' F' N' hd' => ?_)
    clear lF' lN'
    dsimp only
    refine fin _ _ _ F' (news_set hcell N') ?_
    refine cast ?_ hd'
    congr 2
    simp
end

end
section
theorem shapes_len : (shapes.all fun es => decide (es.length ≤ 4)) = true := by decide
theorem len_of {es : List Int} (h : es ∈ shapes) : es.length ≤ 4 := of_decide_eq_true (List.all_eq_true.mp shapes_len es h)
theorem valueAt_stored (kvs : List (Int × Value)) (k : Int) (v : Value) (j : Int) : valueAt (stored kvs k v) j = if j = k then some v else valueAt kvs j := by
  unfold valueAt stored
  split
  · rename_i h
    by_cases hj : j = k
    · subst hj
      rw [if_pos rfl]
      induction kvs with
      | nil => simp at h
      | cons q r ih =>
        by_cases hq : q.1 = j
        · simp [List.find?_cons, hq]
        · simp only [List.map_cons, if_neg hq, List.find?_cons, decide_eq_false hq]
          refine ih ?_
          simpa [hq] using h
    · rw [if_neg hj]
      clear h
      induction kvs with
      | nil => rfl
      | cons q r ih =>
        by_cases hq : q.1 = j
        · have hk : ¬ q.1 = k := fun e => hj (hq ▸ e)
          simp [List.find?_cons, hq, hj]
        · by_cases hk : q.1 = k
          · simp only [List.map_cons, if_pos hk, List.find?_cons, decide_eq_false hq]
            exact ih
          · simp only [List.map_cons, if_neg hk, List.find?_cons, decide_eq_false hq]
            exact ih
  · rename_i h
    simp only [Bool.not_eq_true] at h
    rw [List.find?_append]
    by_cases hj : j = k
    · subst hj
      rw [if_pos rfl]
      have : kvs.find? (fun kv => decide (kv.1 = j)) = none := by
        rw [List.find?_eq_none]
        intro q hq
        have := List.any_eq_false.mp h q hq
        simpa using this
      rw [this]
      simp
    · rw [if_neg hj]
      have hk : decide (k = j) = false := decide_eq_false fun e => hj e.symm
      cases kvs.find? (fun kv => decide (kv.1 = j)) <;> simp [List.find?_cons, hk]
def sumP (x y z : List Int) (a b c : Nat) : Int := numAt x a + numAt y b + numAt z c
def Told (x y z : List Int) (Pr : Nat → Nat → Nat → Prop) (kL kR : List (Int × Value)) : Prop :=
  ∀ a b c, a ≤ x.length → b ≤ y.length → c ≤ z.length → Pr a b c → valueAt kL (keyP a b c) = some (.bool (decide (0 < sumP x y z a b c))) ∧ valueAt kR (keyP a b c) = some (.bool (decide (sumP x y z a b c < 0)))
theorem Told.mono {x y z : List Int} {Pr Pr' : Nat → Nat → Nat → Prop} {kL kR : List (Int × Value)} (h : Told x y z Pr kL kR) (hp : ∀ a b c, a ≤ x.length → b ≤ y.length → c ≤ z.length → Pr' a b c → Pr a b c) : Told x y z Pr' kL kR :=
  fun a b c ha hb hc p => h a b c ha hb hc (hp a b c ha hb hc p)
def cutsAll (x y z : List Int) (a b c : Nat) : List (Int × Int) := cutsX x (fun h => keyP h b c) a ++ cutsX y (fun h => keyP a h c) b ++ cutsX z (fun h => keyP a b h) c
def gOf (k : List (Int × Value)) (i : Int) : Bool := match valueAt k i with
  | some (.bool b) => b
  | _ => false
theorem mem_cutsX {es : List Int} {f : Nat → Int} {n : Nat} {q : Int × Int} : q ∈ cutsX es f n ↔ ∃ h, h < n ∧ q = (es.getD h 0, f h) := by
  unfold cutsX
  simp only [List.mem_map, List.mem_range]
  exact ⟨fun ⟨h, a, b⟩ => ⟨h, a, b.symm⟩, fun ⟨h, a, b⟩ => ⟨h, a, b.symm⟩⟩
theorem mem_cuts {x y z : List Int} {a b c : Nat} {q : Int × Int} : q ∈ cutsAll x y z a b c ↔ (∃ h, h < a ∧ q = (x.getD h 0, keyP h b c)) ∨ (∃ h, h < b ∧ q = (y.getD h 0, keyP a h c)) ∨ (∃ h, h < c ∧ q = (z.getD h 0, keyP a b h)) := by
  unfold cutsAll
  simp only [List.mem_append, mem_cutsX, or_assoc]
theorem selF_ne {P g : Int → Bool} {st : List (Int × Int)} : selF P g st ≠ [] ↔ ∃ q, q ∈ st ∧ P q.1 = true ∧ g q.2 = false := by
  unfold selF
  rw [Ne, List.map_eq_nil_iff, List.filter_eq_nil_iff]
  constructor
  · intro h
    refine Classical.byContradiction fun hn => h fun q hq => ?_
    intro hb
    simp only [Bool.and_eq_true, Bool.not_eq_true'] at hb
    exact hn ⟨q, hq, hb.1, hb.2⟩
  · rintro ⟨q, hq, h1, h2⟩ h
    exact h q hq (by simp [h1, h2])
section
variable {x y z : List Int} {a b c : Nat} {Pr : Nat → Nat → Nat → Prop} {kL kR : List (Int × Value)}
theorem cuts_len (ha : a ≤ 4) (hb : b ≤ 4) (hc : c ≤ 4) : (cutsAll x y z a b c).length ≤ 100 := by
  unfold cutsAll
  simp only [List.length_append, cutsX_length]
  omega
theorem told_cut (t : Told x y z Pr kL kR) (ha : a ≤ x.length) (hb : b ≤ y.length) (hc : c ≤ z.length) (p1 : ∀ h, h < a → Pr h b c) (p2 : ∀ h, h < b → Pr a h c) (p3 : ∀ h, h < c → Pr a b h) {q : Int × Int} (hq : q ∈ cutsAll x y z a b c) :
    valueAt kL q.2 = some (.bool (gOf kL q.2)) ∧ valueAt kR q.2 = some (.bool (gOf kR q.2)) := by
  have key : ∀ a b c, a ≤ x.length → b ≤ y.length → c ≤ z.length → Pr a b c → valueAt kL (keyP a b c) = some (.bool (gOf kL (keyP a b c))) ∧ valueAt kR (keyP a b c) = some (.bool (gOf kR (keyP a b c))) := fun a b c ha hb hc p => by
    obtain ⟨e1, e2⟩ := t a b c ha hb hc p
    constructor
    · unfold gOf; rw [e1]
    · unfold gOf; rw [e2]
  rcases mem_cuts.mp hq with ⟨h, hh, rfl⟩ | ⟨h, hh, rfl⟩ | ⟨h, hh, rfl⟩
  · exact key h b c (by omega) hb hc (p1 h hh)
  · exact key a h c ha (by omega) hc (p2 h hh)
  · exact key a b h ha hb (by omega) (p3 h hh)
theorem gOf_told (t : Told x y z Pr kL kR) (ha : a ≤ x.length) (hb : b ≤ y.length) (hc : c ≤ z.length) (p : Pr a b c) : gOf kL (keyP a b c) = decide (0 < sumP x y z a b c) ∧ gOf kR (keyP a b c) = decide (sumP x y z a b c < 0) := by
  obtain ⟨e1, e2⟩ := t a b c ha hb hc p
  unfold gOf
  rw [e1, e2]
  exact ⟨rfl, rfl⟩
theorem sel_left (sx : x ∈ shapes) (sy : y ∈ shapes) (sz : z ∈ shapes) (t : Told x y z Pr kL kR) (ha : a ≤ x.length) (hb : b ≤ y.length) (hc : c ≤ z.length) (p1 : ∀ h, h < a → Pr h b c) (p2 : ∀ h, h < b → Pr a h c) (p3 : ∀ h, h < c → Pr a b h) :
    decide (selF (fun e => decide (0 < e)) (gOf kR) (cutsAll x y z a b c) ≠ []) = decide (0 < sumP x y z a b c) := by
  refine decide_eq_decide.mpr (selF_ne.trans (Iff.trans ?_ (left_iff (stalkP_of sx ha) (stalkP_of sy hb) (stalkP_of sz hc))))
  constructor
  · rintro ⟨q, hq, h1, h2⟩
    rcases mem_cuts.mp hq with ⟨h, hh, rfl⟩ | ⟨h, hh, rfl⟩ | ⟨h, hh, rfl⟩
    · have h2 : gOf kR (keyP h b c) = false := h2
      rw [(gOf_told t (by omega) hb hc (p1 h hh)).2, decide_eq_false_iff_not] at h2
      exact .inl ⟨h, hh, of_decide_eq_true h1, by unfold sumP at h2; omega⟩
    · have h2 : gOf kR (keyP a h c) = false := h2
      rw [(gOf_told t ha (by omega) hc (p2 h hh)).2, decide_eq_false_iff_not] at h2
      exact .inr (.inl ⟨h, hh, of_decide_eq_true h1, by unfold sumP at h2; omega⟩)
    · have h2 : gOf kR (keyP a b h) = false := h2
      rw [(gOf_told t ha hb (by omega) (p3 h hh)).2, decide_eq_false_iff_not] at h2
      exact .inr (.inr ⟨h, hh, of_decide_eq_true h1, by unfold sumP at h2; omega⟩)
  · rintro (⟨h, hh, h1, h2⟩ | ⟨h, hh, h1, h2⟩ | ⟨h, hh, h1, h2⟩)
    · exact ⟨_, mem_cuts.mpr (.inl ⟨h, hh, rfl⟩), decide_eq_true h1, by rw [(gOf_told t (by omega) hb hc (p1 h hh)).2, decide_eq_false_iff_not]; unfold sumP; omega⟩
    · exact ⟨_, mem_cuts.mpr (.inr (.inl ⟨h, hh, rfl⟩)), decide_eq_true h1, by rw [(gOf_told t ha (by omega) hc (p2 h hh)).2, decide_eq_false_iff_not]; unfold sumP; omega⟩
    · exact ⟨_, mem_cuts.mpr (.inr (.inr ⟨h, hh, rfl⟩)), decide_eq_true h1, by rw [(gOf_told t ha hb (by omega) (p3 h hh)).2, decide_eq_false_iff_not]; unfold sumP; omega⟩
theorem sel_right (sx : x ∈ shapes) (sy : y ∈ shapes) (sz : z ∈ shapes) (t : Told x y z Pr kL kR) (ha : a ≤ x.length) (hb : b ≤ y.length) (hc : c ≤ z.length) (p1 : ∀ h, h < a → Pr h b c) (p2 : ∀ h, h < b → Pr a h c) (p3 : ∀ h, h < c → Pr a b h) :
    decide (selF (fun e => decide (e < 0)) (gOf kL) (cutsAll x y z a b c) ≠ []) = decide (sumP x y z a b c < 0) := by
  refine decide_eq_decide.mpr (selF_ne.trans (Iff.trans ?_ (right_iff (stalkP_of sx ha) (stalkP_of sy hb) (stalkP_of sz hc))))
  constructor
  · rintro ⟨q, hq, h1, h2⟩
    rcases mem_cuts.mp hq with ⟨h, hh, rfl⟩ | ⟨h, hh, rfl⟩ | ⟨h, hh, rfl⟩
    · have h2 : gOf kL (keyP h b c) = false := h2
      rw [(gOf_told t (by omega) hb hc (p1 h hh)).1, decide_eq_false_iff_not] at h2
      exact .inl ⟨h, hh, of_decide_eq_true h1, by unfold sumP at h2; omega⟩
    · have h2 : gOf kL (keyP a h c) = false := h2
      rw [(gOf_told t ha (by omega) hc (p2 h hh)).1, decide_eq_false_iff_not] at h2
      exact .inr (.inl ⟨h, hh, of_decide_eq_true h1, by unfold sumP at h2; omega⟩)
    · have h2 : gOf kL (keyP a b h) = false := h2
      rw [(gOf_told t ha hb (by omega) (p3 h hh)).1, decide_eq_false_iff_not] at h2
      exact .inr (.inr ⟨h, hh, of_decide_eq_true h1, by unfold sumP at h2; omega⟩)
  · rintro (⟨h, hh, h1, h2⟩ | ⟨h, hh, h1, h2⟩ | ⟨h, hh, h1, h2⟩)
    · exact ⟨_, mem_cuts.mpr (.inl ⟨h, hh, rfl⟩), decide_eq_true h1, by rw [(gOf_told t (by omega) hb hc (p1 h hh)).1, decide_eq_false_iff_not]; unfold sumP; omega⟩
    · exact ⟨_, mem_cuts.mpr (.inr (.inl ⟨h, hh, rfl⟩)), decide_eq_true h1, by rw [(gOf_told t ha (by omega) hc (p2 h hh)).1, decide_eq_false_iff_not]; unfold sumP; omega⟩
    · exact ⟨_, mem_cuts.mpr (.inr (.inr ⟨h, hh, rfl⟩)), decide_eq_true h1, by rw [(gOf_told t ha hb (by omega) (p3 h hh)).1, decide_eq_false_iff_not]; unfold sumP; omega⟩
theorem keyP_inj {a b c a' b' c' : Nat} (hb : b ≤ 4) (hc : c ≤ 4) (hb' : b' ≤ 4) (hc' : c' ≤ 4) (e : keyP a b c = keyP a' b' c') : a = a' ∧ b = b' ∧ c = c' := by
  unfold keyP at e; omega
theorem cut_key {q : Int × Int} (hb : b ≤ 4) (hc : c ≤ 4) (hq : q ∈ cutsAll x y z a b c) : q.2 ≠ keyP a b c := by
  rcases mem_cuts.mp hq with ⟨h, hh, rfl⟩ | ⟨h, hh, rfl⟩ | ⟨h, hh, rfl⟩
  · intro e; have e : keyP h b c = keyP a b c := e; unfold keyP at e; omega
  · intro e; have e : keyP a h c = keyP a b c := e; unfold keyP at e; omega
  · intro e; have e : keyP a b h = keyP a b c := e; unfold keyP at e; omega
theorem selF_congr {P g g' : Int → Bool} {st : List (Int × Int)} (h : ∀ q ∈ st, g q.2 = g' q.2) : selF P g st = selF P g' st := by
  unfold selF
  congr 1
  exact List.filter_congr fun q hq => by rw [h q hq]
theorem gOf_stored {k : List (Int × Value)} {i j : Int} {v : Value} (h : j ≠ i) : gOf (stored k i v) j = gOf k j := by
  unfold gOf; rw [valueAt_stored, if_neg h]
theorem told_next (t : Told x y z Pr kL kR) (ly : y.length ≤ 4) (lz : z.length ≤ 4) (hb : b ≤ y.length) (hc : c ≤ z.length) :
    Told x y z (fun a' b' c' => Pr a' b' c' ∨ (a' = a ∧ b' = b ∧ c' = c)) (stored kL (keyP a b c) (.bool (decide (0 < sumP x y z a b c)))) (stored kR (keyP a b c) (.bool (decide (sumP x y z a b c < 0)))) := by
  intro a' b' c' ha' hb' hc' p
  rw [valueAt_stored, valueAt_stored]
  by_cases e : keyP a' b' c' = keyP a b c
  · obtain ⟨rfl, rfl, rfl⟩ := keyP_inj (by omega) (by omega) (by omega) (by omega) e
    rw [if_pos rfl, if_pos rfl]
    exact ⟨rfl, rfl⟩
  · rw [if_neg e, if_neg e]
    rcases p with p | ⟨rfl, rfl, rfl⟩
    · exact t a' b' c' ha' hb' hc' p
    · exact absurd rfl e
end

end
section
theorem plC_eq (w : World) : plC w = [plS w 0, plS w 1, plS w 2, plS w 3, plS w 4, plS w 5] := rfl
section
variable {w : World} {e1 e2 : Env} {s : Shared} {p : Program} {loose : List Str} {mean : ExcName → Option Value} {mg mb : Str → Option Value}
  {h₀ : Heap} {L : Addr} {m : Str → Option Value} {ox oy oz ol or oa ob oc : Obj} {RR : List (Addr × Obj)} {Q : Flow → Shared → Prop} {E : Value → Shared → Prop}
theorem dict_ne {h : Heap} {d D : Addr} {o O : Obj} {kvs : List (Int × Value)} {its : Array Value} {n : Nat} (N : News h₀ L h RR) (h1 : (d, o) ∈ RR) (h2 : (D, O) ∈ RR) (hd : o.IsDictOf (intKind prg w) kvs) (hO : O.data = .seq its n) : D ≠ d := by
  rintro rfl
  have e1 := (N _ h1).1
  have e2 := (N _ h2).1
  rw [e1] at e2
  cases e2
  obtain ⟨es, ep, _, hdd, _⟩ := hd
  rw [hO] at hdd
  cases hdd
theorem tups_filter {h : Heap} {d : Addr} {o : Obj} {kvs : List (Int × Value)} {ys : List Value} {st : List (Int × Int)} {T : List (Addr × Obj)} (N : News h₀ L h RR) (h1 : (d, o) ∈ RR) (hd : o.IsDictOf (intKind prg w) kvs) (hT : ∀ q ∈ T, q ∈ RR) (hJ : TupsAre ys st T) : TupsAre ys st (T.filter fun q => decide (q.1 ≠ d)) := by
  refine ⟨hJ.1, fun i x y e => ?_⟩
  obtain ⟨a, t, u, q1, q2⟩ := hJ.2 i x y e
  exact ⟨a, t, u, q1, List.mem_filter.mpr ⟨q2, decide_eq_true (dict_ne N h1 (hT _ q2) hd rfl)⟩⟩
theorem cells_ne {d : Addr} (h8 : @LT.lt Nat _ (L + 1 + 1 + 1 + 1 + 1 + 1 + 1 + 1) d) : ∀ q ∈ plCells L ox oy oz ol or oa ob oc [], q.1 ≠ d := by
  intro q hq
  have h8' : @LT.lt Nat _ (L + 1 + 1 + 1 + 1 + 1 + 1 + 1 + 1) d := h8
  simp only [plCells, List.mem_cons, List.not_mem_nil, or_false] at hq
  have : ∀ x : Nat, q.1 = x → @LT.lt Nat _ x d → q.1 ≠ d := fun x e1 e2 e3 => by rw [e1] at e3; exact absurd e3 (Nat.ne_of_lt e2)
  rcases hq with e | e | e | e | e | e | e | e <;> refine this _ (congrArg Prod.fst e) ?_ <;> (dsimp only; omega)
theorem pl_body (X : (hd.heap_1 w.params).In h₀) (T : Top p loose mean mg mb h₀) {lx ly lz : Addr} {vx vy vz : List Value} {ex ey ez : List Int} (hlx : h₀.IsList lx vx.toArray) (hIx : IntsAre vx ex) (hly : h₀.IsList ly vy.toArray) (hIy : IntsAre vy ey) (hlz : h₀.IsList lz vz.toArray) (hIz : IntsAre vz ez)
    (sx : ex ∈ shapes) (sy : ey ∈ shapes) (sz : ez ∈ shapes) {a b c : Nat} {ta tb tc : Tok} {dL dR : Addr} {oL oR : Obj} {kL kR : List (Int × Value)} {Pr : Nat → Nat → Nat → Prop}
    (F : Fr h₀ L s.heap m) (N : News h₀ L s.heap (plCells L ox oy oz ol or oa ob oc RR)) (dx : ox.data = .cell (some (.ref lx))) (dy : oy.data = .cell (some (.ref ly))) (dz : oz.data = .cell (some (.ref lz))) (dl : ol.data = .cell (some (.ref dL))) (dr : or.data = .cell (some (.ref dR))) (da : oa.data = .cell (some (.int a ta))) (db : ob.data = .cell (some (.int b tb))) (dc : oc.data = .cell (some (.int c tc)))
    (ha : a ≤ ex.length) (hb : b ≤ ey.length) (hc : c ≤ ez.length) (hL : (dL, oL) ∈ RR) (hR : (dR, oR) ∈ RR) (h8 : @LT.lt Nat _ (L + 1 + 1 + 1 + 1 + 1 + 1 + 1 + 1) dL) (hLR : @LT.lt Nat _ dL dR) (hdL : oL.IsDictOf (intKind prg w) kL) (hdR : oR.IsDictOf (intKind prg w) kR) (hkL : kL.length ≤ 125) (hkR : kR.length ≤ 125)
    (told : Told ex ey ez Pr kL kR) (p1 : ∀ h, h < a → Pr h b c) (p2 : ∀ h, h < b → Pr a h c) (p3 : ∀ h, h < c → Pr a b h)
    (fin : ∀ h tk (oL' oR' : Obj) kL' kR' t vc, Fr h₀ L h (fun z => if z = Str.ofString "at" then some (.int (keyP a b c) t) else if z = Str.ofString "cuts" then some vc else m z) →
      (∀ RR', (∀ q ∈ RR', q ∈ RR ∧ q.1 ≠ dL ∧ q.1 ≠ dR) → News h₀ L h (plCells L ox oy oz ol or oa ob oc ((dR, oR') :: (dL, oL') :: RR'))) → oL'.IsDictOf (intKind prg w) kL' → oR'.IsDictOf (intKind prg w) kR' → kL'.length ≤ kL.length + 1 → kR'.length ≤ kR.length + 1 →
      Told ex ey ez (fun a' b' c' => Pr a' b' c' ∨ (a' = a ∧ b' = b ∧ c' = c)) kL' kR' → Q .next { s with heap := h, toks := tk }) :
    wpAny (model prg w) ((callerA.deeper e1).deeper (plE w L)) (execs (plC w) (plE w L)) Q E s := by
  have lx4 := len_of sx
  have ly4 := len_of sy
  have lz4 := len_of sz
  rw [plC_eq]
  refine wpAny_execs_cons (pl_s1 X T hlx hIx F N dx da db dc lx4 ha fun D1 n1 h1 tk1 ys1 R1 T1 F1 N1 g1 t1 d1 J1 => ?_)
  refine wpAny_execs_cons (pl_s2 X T hly hIy F1 N1 dy da db dc ly4 hb d1 t1 J1 (by rw [cutsX_length]; omega) fun D2 n2 h2 tk2 ys2 R2 T2 F2 N2 g2 t2 d2 J2 => ?_)
  refine wpAny_execs_cons (pl_s3 X T hlz hIz F2 N2 dz da db dc lz4 hc d2 t2 J2 (by rw [List.length_append, cutsX_length, cutsX_length]; omega) fun D3 n3 h3 tk3 ys3 R3 T3 F3 N3 g3 t3 d3 J3 => ?_)
  refine wpAny_execs_cons (pl_s4 X T F3 N3 da db dc fun h4 tk4 t4 F4 N4 => ?_)
  have gR : ∀ q ∈ RR, q ∈ R3 := fun q hq => g3 _ (g2 _ (g1 _ hq))
  have hm := @told_cut ex ey ez a b c Pr kL kR told ha hb hc p1 p2 p3
  have hJ3 : TupsAre ys3 (cutsAll ex ey ez a b c) T3 := J3
  refine wpAny_execs_cons (pl_s5 X T F4 N4 dl dr hdL hdR d3 t3 hJ3 (cuts_len (by omega) (by omega) (by omega)) (gR _ hL) (gR _ hR) hkL (fun q hq => (hm hq).2) (cells_ne h8) fun h5 tk5 oL5 F5 N5 hd5 => ?_)
  rw [sel_left sx sy sz told ha hb hc p1 p2 p3] at hd5
  have N4' : News h₀ L h4 R3 := fun q hq => N4 q (plCells_mem.mpr (.inr hq))
  have k5 : ∀ q ∈ cutsAll ex ey ez a b c, gOf (stored kL (keyP a b c) (Value.bool (decide (0 < sumP ex ey ez a b c)))) q.2 = gOf kL q.2 := fun q hq => gOf_stored (cut_key (by omega) (by omega) hq)
  refine wpAny_execs_cons (pl_s6 X T F5 N5 dl dr hd5 hdR (List.mem_cons_of_mem _ (List.mem_filter.mpr ⟨d3, decide_eq_true (dict_ne N4' (gR _ hL) d3 hdL rfl)⟩)) (fun q hq => List.mem_cons_of_mem _ (List.mem_filter.mpr ⟨t3 _ (List.mem_filter.mp hq).1, (List.mem_filter.mp hq).2⟩))
    (tups_filter N4' (gR _ hL) hdL t3 hJ3) (cuts_len (by omega) (by omega) (by omega)) List.mem_cons_self (List.mem_cons_of_mem _ (List.mem_filter.mpr ⟨gR _ hR, decide_eq_true (Nat.ne_of_gt hLR)⟩)) hkR
    (g := gOf (stored kL (keyP a b c) (Value.bool (decide (0 < sumP ex ey ez a b c))))) (fun q hq => ?_) (cells_ne (Nat.lt_trans h8 hLR)) fun h6 tk6 oR6 F6 N6 hd6 => ?_)
  · rw [k5 q hq, valueAt_stored, if_neg (cut_key (by omega) (by omega) hq)]
    exact (hm hq).1
  · rw [selF_congr k5, sel_right sx sy sz told ha hb hc p1 p2 p3] at hd6
    refine wpAny_execs_nil (fin _ _ oL5 oR6 _ _ _ _ F6 (fun RR' hRR => ?_) hd5 hd6 (stored_length_le _ _ _) (stored_length_le _ _ _) (told_next told ly4 lz4 hb hc))
    refine fun q hq => N6 q ?_
    rcases plCells_mem.mp hq with hq | hq
    · exact plCells_mem.mpr (.inl hq)
    · refine plCells_mem.mpr (.inr ?_)
      rcases List.mem_cons.mp hq with e | hq
      · rw [e]; exact List.mem_cons_self
      · refine List.mem_cons_of_mem _ (List.mem_filter.mpr ?_)
        rcases List.mem_cons.mp hq with e | hq
        · rw [e]; exact ⟨List.mem_cons_self, decide_eq_true (Nat.ne_of_lt hLR)⟩
        · have z := hRR q hq
          exact ⟨List.mem_cons_of_mem _ (List.mem_filter.mpr ⟨gR _ z.1, decide_eq_true z.2.1⟩), decide_eq_true z.2.2⟩
end

end
section
theorem fillG4 : (∃ f : Params → Frag, f = Mine.hd.heap_1) ∧ PySem.Challenge.rw_sh0030_01 = PySem.Challenge.rw_sh0030_01 := by w_top off; k_fill; exact ⟨⟨_, rfl⟩, rfl⟩
def Stop (p : Prop) : Prop := p
theorem Stop.of {p : Prop} (h : Stop p) : p := h
noncomputable def plFc (w : World) : Stmt := ((forBody (forBody (plD w).1.1 2) 0)[0]?).getD (.Pass default)
noncomputable def plFb (w : World) : Stmt := ((forBody (plD w).1.1 2)[0]?).getD (.Pass default)
noncomputable def plFa (w : World) : Stmt := ((plD w).1.1[2]?).getD (.Pass default)
def Far (L : Addr) (R : List (Addr × Obj)) : Prop := ∀ q ∈ R, (@Ne Nat q.1 (L + 1 + 1 + 1 + 1 + 1 + 1 + 1 + 1)) ∧ (@Ne Nat q.1 (L + 1 + 1 + 1 + 1 + 1 + 1 + 1)) ∧ (@Ne Nat q.1 (L + 1 + 1 + 1 + 1 + 1 + 1))
theorem Far.cons {L : Nat} {R : List (Addr × Obj)} {q : Addr × Obj} (h : Far L R) (h8 : @LT.lt Nat _ (L + 1 + 1 + 1 + 1 + 1 + 1 + 1 + 1) q.1) : Far L (q :: R) := fun p hp => by
  rcases List.mem_cons.mp hp with rfl | hp
  · have h8' : @LT.lt Nat _ (L + 1 + 1 + 1 + 1 + 1 + 1 + 1 + 1) p.1 := h8
    refine ⟨?_, ?_, ?_⟩ <;> omega
  · exact h p hp
theorem Far.snoc {L : Addr} {R : List (Addr × Obj)} {I : Addr} {oI : Obj} {ox oy oz ol or oa ob oc : Obj} {R' : List (Addr × Obj)} (h : Far L R) (off : ∀ q ∈ plCells L ox oy oz ol or oa ob oc R', q.1 ≠ I) : Far L (R ++ [(I, oI)]) := fun p hp => by
  rcases List.mem_append.mp hp with hp | hp
  · exact h p hp
  · rw [List.mem_singleton.mp hp]
    exact ⟨Ne.symm (off _ (by unfold plCells; exact List.mem_cons_self)), Ne.symm (off (L + 1 + 1 + 1 + 1 + 1 + 1 + 1, ob) (by simp [plCells])), Ne.symm (off (L + 1 + 1 + 1 + 1 + 1 + 1, oa) (by simp [plCells]))⟩
section
variable {L : Nat} {ox oy oz ol or oa ob oc : Obj} {RR : List (Addr × Obj)}
theorem off_chg {I dL dR : Addr} {oL oR oL' oR' ox' oy' oz' ol' or' oa' ob' oc' : Obj} (off : ∀ p ∈ plCells L ox oy oz ol or oa ob oc ((dR, oR) :: (dL, oL) :: RR), p.1 ≠ I) : ∀ p ∈ plCells L ox' oy' oz' ol' or' oa' ob' oc' ((dR, oR') :: (dL, oL') :: RR), p.1 ≠ I := by
  simp only [plCells, List.mem_cons, forall_eq_or_imp] at off ⊢
  exact off
theorem low_ne {x : Nat} (R : List (Addr × Obj)) (hx : ∀ q ∈ R, (@Ne Nat q.1 x)) (h1 : L + 5 < x) (l : List (Addr × Obj)) (hl : ∀ q ∈ l, (@Ne Nat q.1 x)) : ∀ q ∈ l ++ (L + 1 + 1 + 1 + 1 + 1, or) :: (L + 1 + 1 + 1 + 1, ol) :: (L + 1 + 1 + 1, oz) :: (L + 1 + 1, oy) :: (L + 1, ox) :: R, (@Ne Nat q.1 x) := by
  intro q hq
  rcases List.mem_append.mp hq with hq | hq
  · exact hl q hq
  · simp only [List.mem_cons] at hq
    rcases hq with e | e | e | e | e | e
    · have := congrArg Prod.fst e; dsimp only at this; have h9 : @Eq Nat q.1 (L + 1 + 1 + 1 + 1 + 1) := this; intro h7; have h7 : @Eq Nat q.1 _ := h7; omega
    · have := congrArg Prod.fst e; dsimp only at this; have h9 : @Eq Nat q.1 (L + 1 + 1 + 1 + 1) := this; intro h7; have h7 : @Eq Nat q.1 _ := h7; omega
    · have := congrArg Prod.fst e; dsimp only at this; have h9 : @Eq Nat q.1 (L + 1 + 1 + 1) := this; intro h7; have h7 : @Eq Nat q.1 _ := h7; omega
    · have := congrArg Prod.fst e; dsimp only at this; have h9 : @Eq Nat q.1 (L + 1 + 1) := this; intro h7; have h7 : @Eq Nat q.1 _ := h7; omega
    · have := congrArg Prod.fst e; dsimp only at this; have h9 : @Eq Nat q.1 (L + 1) := this; intro h7; have h7 : @Eq Nat q.1 _ := h7; omega
    · exact hx q e
theorem updC (h : Far L RR) : UpdF (L + 1 + 1 + 1 + 1 + 1 + 1 + 1 + 1) oc (plCells L ox oy oz ol or oa ob oc RR) (fun o' => plCells L ox oy oz ol or oa ob o' RR) :=
  UpdF.head (low_ne (x := L + 1 + 1 + 1 + 1 + 1 + 1 + 1 + 1) RR (fun q hq => (h q hq).1) (by omega) [(L + 1 + 1 + 1 + 1 + 1 + 1 + 1, ob), (L + 1 + 1 + 1 + 1 + 1 + 1, oa)] (fun q hq => by
    simp only [List.mem_cons, List.not_mem_nil, or_false] at hq
    rcases hq with e | e
    · have := congrArg Prod.fst e; dsimp only at this; have h9 : @Eq Nat q.1 (L + 1 + 1 + 1 + 1 + 1 + 1 + 1) := this; intro h7; have h7 : @Eq Nat q.1 _ := h7; omega
    · have := congrArg Prod.fst e; dsimp only at this; have h9 : @Eq Nat q.1 (L + 1 + 1 + 1 + 1 + 1 + 1) := this; intro h7; have h7 : @Eq Nat q.1 _ := h7; omega))
theorem updB (h : Far L RR) : UpdF (L + 1 + 1 + 1 + 1 + 1 + 1 + 1) ob (plCells L ox oy oz ol or oa ob oc RR) (fun o' => plCells L ox oy oz ol or oa o' oc RR) :=
  UpdF.tail (Nat.ne_of_gt (Nat.lt_succ_self _)) (UpdF.head (low_ne (x := L + 1 + 1 + 1 + 1 + 1 + 1 + 1) RR (fun q hq => (h q hq).2.1) (by omega) [(L + 1 + 1 + 1 + 1 + 1 + 1, oa)] (fun q hq => by
    have := congrArg Prod.fst (List.mem_singleton.mp hq); dsimp only at this; have h9 : @Eq Nat q.1 (L + 1 + 1 + 1 + 1 + 1 + 1) := this; intro h7; have h7 : @Eq Nat q.1 _ := h7; omega)))
theorem updA (h : Far L RR) : UpdF (L + 1 + 1 + 1 + 1 + 1 + 1) oa (plCells L ox oy oz ol or oa ob oc RR) (fun o' => plCells L ox oy oz ol or o' ob oc RR) :=
  UpdF.tail (Nat.ne_of_gt (by show L + 1 + 1 + 1 + 1 + 1 + 1 < L + 1 + 1 + 1 + 1 + 1 + 1 + 1 + 1; omega)) (UpdF.tail (Nat.ne_of_gt (Nat.lt_succ_self _)) (UpdF.head (low_ne (x := L + 1 + 1 + 1 + 1 + 1 + 1) RR (fun q hq => (h q hq).2.2) (by omega) [] (fun q hq => nomatch hq))))
end
structure CSt where
  oL : Obj
  oR : Obj
  kL : List (Int × Value)
  kR : List (Int × Value)
  oc : Obj
  vc : Option Value
  cuts : Option Value
  at_ : Option Value
structure CInv (w : World) (x y z : List Int) (Pr : Nat → Nat → Nat → Prop) (n : Nat) (K : Option Int) (st : CSt) : Prop where
  dL : st.oL.IsDictOf (intKind prg w) st.kL
  dR : st.oR.IsDictOf (intKind prg w) st.kR
  cc : st.oc.data = .cell st.vc
  told : Told x y z Pr st.kL st.kR
  sL : st.kL.length ≤ n
  sR : st.kR.length ≤ n
  hat : ∀ k, K = some k → ∃ t, st.at_ = some (.int k t)
section
variable {w : World} {e1 e2 : Env} {s : Shared} {p : Program} {loose : List Str} {mean : ExcName → Option Value} {mg mb : Str → Option Value}
  {h₀ : Heap} {L : Addr} {m : Str → Option Value} {ox oy oz ol or oa ob oc : Obj} {RR : List (Addr × Obj)} {Q : Flow → Shared → Prop}
local macro_rules | `(tactic| walk_at "exec For") => `(tactic| ((rename Fr _ _ _ _ => lF'); k_dflt (refine' For_turns ?hF ?_; (case hF => exact lF'))))
local macro_rules | `(tactic| walk_at "pyIter ref") => `(tactic| ((with_reducible show wpAny _ _ (pyIter (Value.ref _)) (fun it s₂ => TurnsAt _ _ _ _ _ _ _ _ _ it s₂) _ _); refine Stop.of ?_))
set_option hygiene false in
local macro_rules | `(tactic| walk_at "call type:range") => `(tactic| ((with_reducible show wpAny _ _ (call _ [_]) _ _ _); (walk_at "FN"); (refine range1_rows lF' lN' (fun h' tk' t1' u1' v1' rgX F' N' hk' => ?_)); clear lF' lN'))
set_option hygiene false in
local macro_rules | `(tactic| walk_at "storeName") => `(tactic| ((rename Fr _ _ _ _ => lF'); k_dflt (refine' storeX_C ?kF ?kN ?kc ?kU ?kd ?_ ?ka ?kb; (case ka => rfl); (case kb => rfl); (case kF => exact lF'); (case kN => exact N9); (case kc => rfl); (case kU => first | exact updC hfar | exact updB hfar | exact updA hfar); (case kd => assumption)); (intro h8' o8' F8' N8' d8'); (try dsimp only at N8')))
local macro_rules | `(tactic| walk_at "execs cons") => `(tactic| ((with_reducible show wpAny _ _ (execs (Stmt.Assign _ (PySem.Expr.ListComp _ _ _ _) _ :: _) _) _ _ _); refine Stop.of ?_))
theorem pl_c (X : (hd.heap_1 w.params).In h₀) (T : Top p loose mean mg mb h₀) {lx ly lz : Addr} {vx vy vz : List Value} {ex ey ez : List Int} (hlx : h₀.IsList lx vx.toArray) (hIx : IntsAre vx ex) (hly : h₀.IsList ly vy.toArray) (hIy : IntsAre vy ey) (hlz : h₀.IsList lz vz.toArray) (hIz : IntsAre vz ez)
    (sx : ex ∈ shapes) (sy : ey ∈ shapes) (sz : ez ∈ shapes) {a b : Nat} {ta tb : Tok} {vc : Option Value} {dL dR : Addr} {oL oR : Obj} {kL kR : List (Int × Value)} {Pr : Nat → Nat → Nat → Prop} {n : Nat}
    (F : Fr h₀ L s.heap m) (N : News h₀ L s.heap (plCells L ox oy oz ol or oa ob oc ((dR, oR) :: (dL, oL) :: RR))) (dx : ox.data = .cell (some (.ref lx))) (dy : oy.data = .cell (some (.ref ly))) (dz : oz.data = .cell (some (.ref lz))) (dl : ol.data = .cell (some (.ref dL))) (dr : or.data = .cell (some (.ref dR))) (da : oa.data = .cell (some (.int a ta))) (db : ob.data = .cell (some (.int b tb))) (dc : oc.data = .cell vc)
    (ha : a ≤ ex.length) (hb : b ≤ ey.length) (h8 : @LT.lt Nat _ (L + 1 + 1 + 1 + 1 + 1 + 1 + 1 + 1) dL) (hLR : @LT.lt Nat _ dL dR) (hRR : ∀ q ∈ RR, q.1 ≠ dL ∧ q.1 ≠ dR) (hR8 : Far L RR) (hdL : oL.IsDictOf (intKind prg w) kL) (hdR : oR.IsDictOf (intKind prg w) kR) (hkL : kL.length ≤ n) (hkR : kR.length ≤ n) (hn : n ≤ 120)
    (told : Told ex ey ez Pr kL kR) (p1 : ∀ c h, h < a → Pr h b c) (p2 : ∀ c h, h < b → Pr a h c)
    (fin : ∀ h tk (st : CSt), Fr h₀ L h (upd [(Str.ofString "cuts", st.cuts), (Str.ofString "at", st.at_)] m) → News h₀ L h (plCells L ox oy oz ol or oa ob st.oc ((dR, st.oR) :: (dL, st.oL) :: RR)) → CInv w ex ey ez (fun a' b' c' => Pr a' b' c' ∨ (a' = a ∧ b' = b ∧ c' < ez.length + 1)) (n + 5) (some (keyP a b ez.length)) st → Q .next { s with heap := h, toks := tk }) :
    wpAny (model prg w) ((callerA.deeper e1).deeper (plE w L)) (exec (plFc w) (plE w L)) Q (fun _ _ => False) s := by
  have lz4 := len_of sz
  have lenz : ez.length < 1000 := by omega
  have hlen := hIz.length
  simp only [plE, plFc, plD, forBody, List.getElem?_cons_zero, List.getElem?_cons_succ, Option.getD_some]
  unfold plCells at N
  k_steps
  unfold Stop
  (rename Fr _ _ _ _ => lF'); (rename News _ _ _ _ => lN'); (rename IsRange _ _ _ _ _ _ _ _ => rgZ)
  with_unfolding_all refine' turns_range (ez.length + 1) (fun st : CSt => [(Str.ofString "cuts", st.cuts), (Str.ofString "at", st.at_)]) (fun st => plCells L ox oy oz ol or oa ob st.oc ((dR, st.oR) :: (dL, st.oL) :: RR)) (fun i st => CInv w ex ey ez (fun a' b' c' => Pr a' b' c' ∨ (a' = a ∧ b' = b ∧ c' < i)) (n + i) (if i = 0 then none else some (keyP a b (i - 1))) st) (CSt.mk oL oR kL kR oc vc (m (Str.ofString "cuts")) (m (Str.ofString "at"))) (by rfl) rgZ (small_one (by omega) (by omega) (by omega) (by omega)) (by rw [rangeSize_nat]; omega) lF' lN' (fun _ h => h) ⟨rfl, rfl, trivial⟩ (CInv.mk hdL hdR dc (told.mono (fun a' b' c' _ _ _ h => by rcases h with h | ⟨_, _, h⟩; exact h; omega)) hkL hkR (fun k h => by simp at h)) (fun I v s Q E q => by unfold letOwnedTupleGo; exact wpAny_pure q) (fun i t st h tk I oI hi inv off F' N' => ?_) (fun st h tk inv F' N' => ?_)
  all_goals clear lF' lN' rgZ
  · obtain ⟨oL1, oR1, kL1, kR1, oc1, vc1, cu1, at1⟩ := st
    obtain ⟨hdL1, hdR1, dc1, told1, hsL1, hsR1, hat1⟩ := inv
    dsimp only at hdL1 hdR1 dc1 told1 hsL1 hsR1 hat1 off F' N'
    have N9 : News h₀ L h (plCells L ox oy oz ol or oa ob oc1 ((dR, oR1) :: (dL, oL1) :: (RR ++ [(I, oI)]))) := N'
    have hfar : Far L ((dR, oR1) :: (dL, oL1) :: (RR ++ [(I, oI)])) := ((hR8.snoc off).cons h8).cons (Nat.lt_trans h8 hLR)
    clear N'
    k_steps
    unfold Stop
    have d9 : o8'.data = .cell (some (.int (i : Nat) t)) := by rw [d8']; congr 4; omega
    refine pl_body X T hlx hIx hly hIy hlz hIz sx sy sz F8' N8' dx dy dz dl dr da db d9 ha hb (by omega) (oL := oL1) (oR := oR1) (List.mem_cons_of_mem _ List.mem_cons_self) List.mem_cons_self h8 hLR hdL1 hdR1 (by omega) (by omega) told1 (fun h hh => .inl (p1 i h hh)) (fun h hh => .inl (p2 i h hh)) (fun h hh => .inr ⟨rfl, rfl, hh⟩) fun h9 tk9 oL9 oR9 kL9 kR9 t9 vc9 F9 N9 hd9 he9 hl9 hm9 told9 => ?_
    refine StepY.next (CSt.mk oL9 oR9 kL9 kR9 o8' (some (.int i t)) (some vc9) (some (.int (keyP a b i) t9))) F9 (N9 (RR ++ [(I, oI)]) (fun q hq => ?_)) (fun q hq => hq) (off_chg off) ⟨⟨rfl, rfl, trivial⟩, fun z h1 h2 => ?_⟩ (CInv.mk hd9 he9 d9 (told9.mono fun a' b' c' _ _ _ h => ?_) (by dsimp only; omega) (by dsimp only; omega) (fun k hk => ⟨t9, ?_⟩))
    · refine ⟨List.mem_cons_of_mem _ (List.mem_cons_of_mem _ hq), ?_⟩
      rcases List.mem_append.mp hq with hq | hq
      · exact hRR q hq
      · rw [List.mem_singleton.mp hq]
        exact ⟨Ne.symm (off (dL, oL1) (plCells_mem.mpr (.inr (List.mem_cons_of_mem _ List.mem_cons_self)))), Ne.symm (off (dR, oR1) (plCells_mem.mpr (.inr List.mem_cons_self)))⟩
    · show (if z = Str.ofString "at" then _ else if z = Str.ofString "cuts" then _ else upd _ m z) = m z
      rw [if_neg h2, if_neg h1, upd_cons, if_neg h1, upd_cons, if_neg h2, upd_nil]
    · rcases h with h | ⟨h1, h2, h3⟩
      · exact .inl (.inl h)
      · by_cases e : c' = i
        · exact .inr ⟨h1, h2, e⟩
        · exact .inl (.inr ⟨h1, h2, by omega⟩)
    · rw [if_neg (Nat.succ_ne_zero i)] at hk
      rw [← Option.some.inj hk]; rfl
  · refine fin _ _ st F' N' ⟨inv.dL, inv.dR, inv.cc, inv.told, ?_, ?_, ?_⟩
    · have := inv.sL; omega
    · have := inv.sR; omega
    · exact fun k hk => inv.hat k (by rw [if_neg (Nat.succ_ne_zero _)]; exact hk)
end

end
section
theorem fillG5 : (∃ f : Params → Frag, f = Mine.hd.heap_1) ∧ PySem.Challenge.rw_sh0030_01 = PySem.Challenge.rw_sh0030_01 := by w_top off; k_fill; exact ⟨⟨_, rfl⟩, rfl⟩
local macro_rules | `(tactic| walk_at "zz") => `(tactic| skip)
structure BSt where
  oL : Obj
  oR : Obj
  kL : List (Int × Value)
  kR : List (Int × Value)
  ob : Obj
  vb : Option Value
  oc : Obj
  vc : Option Value
  cuts : Option Value
  at_ : Option Value
structure BInv (w : World) (x y z : List Int) (Pr : Nat → Nat → Nat → Prop) (n : Nat) (K : Option Int) (st : BSt) : Prop where
  dL : st.oL.IsDictOf (intKind prg w) st.kL
  dR : st.oR.IsDictOf (intKind prg w) st.kR
  cb : st.ob.data = .cell st.vb
  cc : st.oc.data = .cell st.vc
  told : Told x y z Pr st.kL st.kR
  sL : st.kL.length ≤ n
  sR : st.kR.length ≤ n
  hat : ∀ k, K = some k → ∃ t, st.at_ = some (.int k t)
section
variable {w : World} {e1 e2 : Env} {s : Shared} {p : Program} {loose : List Str} {mean : ExcName → Option Value} {mg mb : Str → Option Value}
  {h₀ : Heap} {L : Addr} {m : Str → Option Value} {ox oy oz ol or oa ob oc : Obj} {RR : List (Addr × Obj)} {Q : Flow → Shared → Prop}
local macro_rules | `(tactic| walk_at "exec For") => `(tactic| ((rename Fr _ _ _ _ => lF'); k_dflt (refine' For_turns ?hF ?_; (case hF => exact lF'))))
local macro_rules | `(tactic| walk_at "pyIter ref") => `(tactic| ((with_reducible show wpAny _ _ (pyIter (Value.ref _)) (fun it s₂ => TurnsAt _ _ _ _ _ _ _ _ _ it s₂) _ _); refine Stop.of ?_))
set_option hygiene false in
local macro_rules | `(tactic| walk_at "call type:range") => `(tactic| ((with_reducible show wpAny _ _ (call _ [_]) _ _ _); (walk_at "FN"); (refine range1_rows lF' lN' (fun h' tk' t1' u1' v1' rgX F' N' hk' => ?_)); clear lF' lN'))
set_option hygiene false in
local macro_rules | `(tactic| walk_at "storeName") => `(tactic| ((rename Fr _ _ _ _ => lF'); k_dflt (refine' storeX_C ?kF ?kN ?kc ?kU ?kd ?_ ?ka ?kb; (case ka => rfl); (case kb => rfl); (case kF => exact lF'); (case kN => exact N9); (case kc => rfl); (case kU => first | exact updC hfar | exact updB hfar | exact updA hfar); (case kd => assumption)); (intro h8' o8' F8' N8' d8'); (try dsimp only at N8')))
local macro_rules | `(tactic| walk_at "execs cons") => `(tactic| ((with_reducible show wpAny _ _ (execs (Stmt.For _ _ _ _ _ :: _) _) _ _ _); refine Stop.of ?_))
theorem plFb_body (w : World) : forBody (forBody (plD w).1.1 2) 0 = [plFc w] := rfl
theorem plFa_body (w : World) : forBody (plD w).1.1 2 = [plFb w] := rfl
theorem pl_b (X : (hd.heap_1 w.params).In h₀) (T : Top p loose mean mg mb h₀) {lx ly lz : Addr} {vx vy vz : List Value} {ex ey ez : List Int} (hlx : h₀.IsList lx vx.toArray) (hIx : IntsAre vx ex) (hly : h₀.IsList ly vy.toArray) (hIy : IntsAre vy ey) (hlz : h₀.IsList lz vz.toArray) (hIz : IntsAre vz ez)
    (sx : ex ∈ shapes) (sy : ey ∈ shapes) (sz : ez ∈ shapes) {a : Nat} {ta : Tok} {vb vc : Option Value} {dL dR : Addr} {oL oR : Obj} {kL kR : List (Int × Value)} {Pr : Nat → Nat → Nat → Prop} {n : Nat}
    (F : Fr h₀ L s.heap m) (N : News h₀ L s.heap (plCells L ox oy oz ol or oa ob oc ((dR, oR) :: (dL, oL) :: RR))) (dx : ox.data = .cell (some (.ref lx))) (dy : oy.data = .cell (some (.ref ly))) (dz : oz.data = .cell (some (.ref lz))) (dl : ol.data = .cell (some (.ref dL))) (dr : or.data = .cell (some (.ref dR))) (da : oa.data = .cell (some (.int a ta))) (db : ob.data = .cell vb) (dc : oc.data = .cell vc)
    (ha : a ≤ ex.length) (h8 : @LT.lt Nat _ (L + 1 + 1 + 1 + 1 + 1 + 1 + 1 + 1) dL) (hLR : @LT.lt Nat _ dL dR) (hRR : ∀ q ∈ RR, q.1 ≠ dL ∧ q.1 ≠ dR) (hR8 : Far L RR) (hdL : oL.IsDictOf (intKind prg w) kL) (hdR : oR.IsDictOf (intKind prg w) kR) (hkL : kL.length ≤ n) (hkR : kR.length ≤ n) (hn : n ≤ 100)
    (told : Told ex ey ez Pr kL kR) (p1 : ∀ b c h, h < a → Pr h b c)
    (fin : ∀ h tk (st : BSt), Fr h₀ L h (upd [(Str.ofString "cuts", st.cuts), (Str.ofString "at", st.at_)] m) → News h₀ L h (plCells L ox oy oz ol or oa st.ob st.oc ((dR, st.oR) :: (dL, st.oL) :: RR)) → BInv w ex ey ez (fun a' b' c' => Pr a' b' c' ∨ (a' = a ∧ b' < ey.length + 1)) (n + 25) (some (keyP a ey.length ez.length)) st → Q .next { s with heap := h, toks := tk }) :
    wpAny (model prg w) ((callerA.deeper e1).deeper (plE w L)) (exec (plFb w) (plE w L)) Q (fun _ _ => False) s := by
  have ly4 := len_of sy
  have leny : ey.length < 1000 := by omega
  have hlen := hIy.length
  simp only [plE, plFb, plD, forBody, List.getElem?_cons_zero, List.getElem?_cons_succ, Option.getD_some]
  unfold plCells at N
  k_steps
  unfold Stop
  (rename Fr _ _ _ _ => lF'); (rename News _ _ _ _ => lN'); (rename IsRange _ _ _ _ _ _ _ _ => rgZ)
  with_unfolding_all refine' turns_range (ey.length + 1) (fun st : BSt => [(Str.ofString "cuts", st.cuts), (Str.ofString "at", st.at_)]) (fun st => plCells L ox oy oz ol or oa st.ob st.oc ((dR, st.oR) :: (dL, st.oL) :: RR)) (fun i st => BInv w ex ey ez (fun a' b' c' => Pr a' b' c' ∨ (a' = a ∧ b' < i)) (n + 5 * i) (if i = 0 then none else some (keyP a (i - 1) ez.length)) st) (BSt.mk oL oR kL kR ob vb oc vc (m (Str.ofString "cuts")) (m (Str.ofString "at"))) (by rfl) rgZ (small_one (by omega) (by omega) (by omega) (by omega)) (by rw [rangeSize_nat]; omega) lF' lN' (fun _ h => h) ⟨rfl, rfl, trivial⟩ (BInv.mk hdL hdR db dc (told.mono (fun a' b' c' _ _ _ h => by rcases h with h | ⟨_, h⟩; exact h; omega)) hkL hkR (fun k h => by simp at h)) (fun I v s Q E q => by unfold letOwnedTupleGo; exact wpAny_pure q) (fun i t st h tk I oI hi inv off F' N' => ?_) (fun st h tk inv F' N' => ?_)
  all_goals clear lF' lN' rgZ
  · obtain ⟨oL1, oR1, kL1, kR1, ob1, vb1, oc1, vc1, cu1, at1⟩ := st
    obtain ⟨hdL1, hdR1, db1, dc1, told1, hsL1, hsR1, hat1⟩ := inv
    dsimp only at hdL1 hdR1 db1 dc1 told1 hsL1 hsR1 hat1 off F' N'
    have N9 : News h₀ L h (plCells L ox oy oz ol or oa ob1 oc1 ((dR, oR1) :: (dL, oL1) :: (RR ++ [(I, oI)]))) := N'
    have hfar : Far L ((dR, oR1) :: (dL, oL1) :: (RR ++ [(I, oI)])) := ((hR8.snoc off).cons h8).cons (Nat.lt_trans h8 hLR)
    clear N'
    k_steps
    unfold Stop
    have d9 : o8'.data = .cell (some (.int (i : Nat) t)) := by rw [d8']; congr 4; omega
    refine wpAny_execs_cons (pl_c X T hlx hIx hly hIy hlz hIz sx sy sz F8' N8' dx dy dz dl dr da d9 dc1 ha (by omega) h8 hLR (fun q hq => ?_) (hR8.snoc off) hdL1 hdR1 hsL1 hsR1 (by omega) told1 (fun c h hh => .inl (p1 i c h hh)) (fun c h hh => .inr ⟨rfl, hh⟩) fun h9 tk9 st9 F9 N9 inv9 => ?_)
    · rcases List.mem_append.mp hq with hq | hq
      · exact hRR q hq
      · rw [List.mem_singleton.mp hq]
        exact ⟨Ne.symm (off (dL, oL1) (plCells_mem.mpr (.inr (List.mem_cons_of_mem _ List.mem_cons_self)))), Ne.symm (off (dR, oR1) (plCells_mem.mpr (.inr List.mem_cons_self)))⟩
    · obtain ⟨oL9, oR9, kL9, kR9, oc9, vc9, cu9, at9⟩ := st9
      obtain ⟨hd9, he9, hc9, told9, hl9, hm9, hat9⟩ := inv9
      refine wpAny_execs_nil (StepY.next (BSt.mk oL9 oR9 kL9 kR9 o8' (some (.int i t)) oc9 vc9 cu9 at9) F9 N9 (fun q hq => hq) (off_chg off) ⟨⟨rfl, rfl, trivial⟩, fun z h1 h2 => ?_⟩ (BInv.mk hd9 he9 d9 hc9 (told9.mono fun a' b' c' _ _ hc' h => ?_) (by dsimp only at hl9 ⊢; omega) (by dsimp only at hm9 ⊢; omega) (fun k hk => hat9 k ?_)))
      · show upd _ (upd _ m) z = m z
        rw [upd_cons, if_neg h1, upd_cons, if_neg h2, upd_nil, upd_cons, if_neg h1, upd_cons, if_neg h2, upd_nil]
      · rcases h with h | ⟨h1, h2⟩
        · exact .inl (.inl h)
        · by_cases e : b' = i
          · exact .inr ⟨h1, e, by omega⟩
          · exact .inl (.inr ⟨h1, by omega⟩)
      · rw [if_neg (Nat.succ_ne_zero i)] at hk
        rw [← Option.some.inj hk]; rfl
  · refine fin _ _ st F' N' ⟨inv.dL, inv.dR, inv.cb, inv.cc, inv.told, ?_, ?_, ?_⟩
    · have := inv.sL; omega
    · have := inv.sR; omega
    · exact fun k hk => inv.hat k (by rw [if_neg (Nat.succ_ne_zero _)]; exact hk)
end

end
section
theorem fillG6 : (∃ f : Params → Frag, f = Mine.hd.heap_1) ∧ PySem.Challenge.rw_sh0030_01 = PySem.Challenge.rw_sh0030_01 := by w_top off; k_fill; exact ⟨⟨_, rfl⟩, rfl⟩
structure ASt where
  oL : Obj
  oR : Obj
  kL : List (Int × Value)
  kR : List (Int × Value)
  oa : Obj
  va : Option Value
  ob : Obj
  vb : Option Value
  oc : Obj
  vc : Option Value
  cuts : Option Value
  at_ : Option Value
structure AInv (w : World) (x y z : List Int) (Pr : Nat → Nat → Nat → Prop) (n : Nat) (K : Option Int) (st : ASt) : Prop where
  dL : st.oL.IsDictOf (intKind prg w) st.kL
  dR : st.oR.IsDictOf (intKind prg w) st.kR
  ca : st.oa.data = .cell st.va
  cb : st.ob.data = .cell st.vb
  cc : st.oc.data = .cell st.vc
  told : Told x y z Pr st.kL st.kR
  sL : st.kL.length ≤ n
  sR : st.kR.length ≤ n
  hat : ∀ k, K = some k → ∃ t, st.at_ = some (.int k t)
section
variable {w : World} {e1 e2 : Env} {s : Shared} {p : Program} {loose : List Str} {mean : ExcName → Option Value} {mg mb : Str → Option Value}
  {h₀ : Heap} {L : Addr} {m : Str → Option Value} {ox oy oz ol or oa ob oc : Obj} {RR : List (Addr × Obj)} {Q : Flow → Shared → Prop}
local macro_rules | `(tactic| walk_at "exec For") => `(tactic| ((rename Fr _ _ _ _ => lF'); k_dflt (refine' For_turns ?hF ?_; (case hF => exact lF'))))
local macro_rules | `(tactic| walk_at "pyIter ref") => `(tactic| ((with_reducible show wpAny _ _ (pyIter (Value.ref _)) (fun it s₂ => TurnsAt _ _ _ _ _ _ _ _ _ it s₂) _ _); refine Stop.of ?_))
set_option hygiene false in
local macro_rules | `(tactic| walk_at "call type:range") => `(tactic| ((with_reducible show wpAny _ _ (call _ [_]) _ _ _); (walk_at "FN"); (refine range1_rows lF' lN' (fun h' tk' t1' u1' v1' rgX F' N' hk' => ?_)); clear lF' lN'))
set_option hygiene false in
local macro_rules | `(tactic| walk_at "storeName") => `(tactic| ((rename Fr _ _ _ _ => lF'); k_dflt (refine' storeX_C ?kF ?kN ?kc ?kU ?kd ?_ ?ka ?kb; (case ka => rfl); (case kb => rfl); (case kF => exact lF'); (case kN => exact N9); (case kc => rfl); (case kU => first | exact updC hfar | exact updB hfar | exact updA hfar); (case kd => assumption)); (intro h8' o8' F8' N8' d8'); (try dsimp only at N8')))
local macro_rules | `(tactic| walk_at "execs cons") => `(tactic| ((with_reducible show wpAny _ _ (execs (Stmt.For _ _ _ _ _ :: _) _) _ _ _); refine Stop.of ?_))
theorem pl_a (X : (hd.heap_1 w.params).In h₀) (T : Top p loose mean mg mb h₀) {lx ly lz : Addr} {vx vy vz : List Value} {ex ey ez : List Int} (hlx : h₀.IsList lx vx.toArray) (hIx : IntsAre vx ex) (hly : h₀.IsList ly vy.toArray) (hIy : IntsAre vy ey) (hlz : h₀.IsList lz vz.toArray) (hIz : IntsAre vz ez)
    (sx : ex ∈ shapes) (sy : ey ∈ shapes) (sz : ez ∈ shapes) {va vb vc : Option Value} {dL dR : Addr} {oL oR : Obj} {kL kR : List (Int × Value)}
    (F : Fr h₀ L s.heap m) (N : News h₀ L s.heap (plCells L ox oy oz ol or oa ob oc ((dR, oR) :: (dL, oL) :: RR))) (dx : ox.data = .cell (some (.ref lx))) (dy : oy.data = .cell (some (.ref ly))) (dz : oz.data = .cell (some (.ref lz))) (dl : ol.data = .cell (some (.ref dL))) (dr : or.data = .cell (some (.ref dR))) (da : oa.data = .cell va) (db : ob.data = .cell vb) (dc : oc.data = .cell vc)
    (h8 : @LT.lt Nat _ (L + 1 + 1 + 1 + 1 + 1 + 1 + 1 + 1) dL) (hLR : @LT.lt Nat _ dL dR) (hRR : ∀ q ∈ RR, q.1 ≠ dL ∧ q.1 ≠ dR) (hR8 : Far L RR) (hdL : oL.IsDictOf (intKind prg w) kL) (hdR : oR.IsDictOf (intKind prg w) kR) (hkL : kL.length ≤ 0) (hkR : kR.length ≤ 0)
    (fin : ∀ h tk (st : ASt), Fr h₀ L h (upd [(Str.ofString "cuts", st.cuts), (Str.ofString "at", st.at_)] m) → News h₀ L h (plCells L ox oy oz ol or st.oa st.ob st.oc ((dR, st.oR) :: (dL, st.oL) :: RR)) → AInv w ex ey ez (fun a' b' c' => a' < ex.length + 1) 125 (some (keyP ex.length ey.length ez.length)) st → Q .next { s with heap := h, toks := tk }) :
    wpAny (model prg w) ((callerA.deeper e1).deeper (plE w L)) (exec (plFa w) (plE w L)) Q (fun _ _ => False) s := by
  have lx4 := len_of sx
  have lenx : ex.length < 1000 := by omega
  have hlen := hIx.length
  simp only [plE, plFa, plD, forBody, List.getElem?_cons_zero, List.getElem?_cons_succ, Option.getD_some]
  unfold plCells at N
  k_steps
  unfold Stop
  (rename Fr _ _ _ _ => lF'); (rename News _ _ _ _ => lN'); (rename IsRange _ _ _ _ _ _ _ _ => rgZ)
  with_unfolding_all refine' turns_range (ex.length + 1) (fun st : ASt => [(Str.ofString "cuts", st.cuts), (Str.ofString "at", st.at_)]) (fun st => plCells L ox oy oz ol or st.oa st.ob st.oc ((dR, st.oR) :: (dL, st.oL) :: RR)) (fun i st => AInv w ex ey ez (fun a' b' c' => a' < i) (25 * i) (if i = 0 then none else some (keyP (i - 1) ey.length ez.length)) st) (ASt.mk oL oR kL kR oa va ob vb oc vc (m (Str.ofString "cuts")) (m (Str.ofString "at"))) (by rfl) rgZ (small_one (by omega) (by omega) (by omega) (by omega)) (by rw [rangeSize_nat]; omega) lF' lN' (fun _ h => h) ⟨rfl, rfl, trivial⟩ (AInv.mk hdL hdR da db dc (fun a' b' c' _ _ _ h => absurd h (Nat.not_lt_zero _)) hkL hkR (fun k h => by simp at h)) (fun I v s Q E q => by unfold letOwnedTupleGo; exact wpAny_pure q) (fun i t st h tk I oI hi inv off F' N' => ?_) (fun st h tk inv F' N' => ?_)
  all_goals clear lF' lN' rgZ
  · obtain ⟨oL1, oR1, kL1, kR1, oa1, va1, ob1, vb1, oc1, vc1, cu1, at1⟩ := st
    obtain ⟨hdL1, hdR1, da1, db1, dc1, told1, hsL1, hsR1, hat1⟩ := inv
    dsimp only at hdL1 hdR1 da1 db1 dc1 told1 hsL1 hsR1 hat1 off F' N'
    have N9 : News h₀ L h (plCells L ox oy oz ol or oa1 ob1 oc1 ((dR, oR1) :: (dL, oL1) :: (RR ++ [(I, oI)]))) := N'
    have hfar : Far L ((dR, oR1) :: (dL, oL1) :: (RR ++ [(I, oI)])) := ((hR8.snoc off).cons h8).cons (Nat.lt_trans h8 hLR)
    clear N'
    k_steps
    unfold Stop
    have d9 : o8'.data = .cell (some (.int (i : Nat) t)) := by rw [d8']; congr 4; omega
    refine wpAny_execs_cons (pl_b X T hlx hIx hly hIy hlz hIz sx sy sz F8' N8' dx dy dz dl dr d9 db1 dc1 (by omega) h8 hLR (fun q hq => ?_) (hR8.snoc off) hdL1 hdR1 hsL1 hsR1 (by omega) told1 (fun b c h hh => hh) fun h9 tk9 st9 F9 N9 inv9 => ?_)
    · rcases List.mem_append.mp hq with hq | hq
      · exact hRR q hq
      · rw [List.mem_singleton.mp hq]
        exact ⟨Ne.symm (off (dL, oL1) (plCells_mem.mpr (.inr (List.mem_cons_of_mem _ List.mem_cons_self)))), Ne.symm (off (dR, oR1) (plCells_mem.mpr (.inr List.mem_cons_self)))⟩
    · obtain ⟨oL9, oR9, kL9, kR9, ob9, vb9, oc9, vc9, cu9, at9⟩ := st9
      obtain ⟨hd9, he9, hb9, hc9, told9, hl9, hm9, hat9⟩ := inv9
      refine wpAny_execs_nil (StepY.next (ASt.mk oL9 oR9 kL9 kR9 o8' (some (.int i t)) ob9 vb9 oc9 vc9 cu9 at9) F9 N9 (fun q hq => hq) (off_chg off) ⟨⟨rfl, rfl, trivial⟩, fun z h1 h2 => ?_⟩ (AInv.mk hd9 he9 d9 hb9 hc9 (told9.mono fun a' b' c' _ hb' hc' h => ?_) (by dsimp only at hl9 ⊢; omega) (by dsimp only at hm9 ⊢; omega) (fun k hk => hat9 k ?_)))
      · show upd _ (upd _ m) z = m z
        rw [upd_cons, if_neg h1, upd_cons, if_neg h2, upd_nil, upd_cons, if_neg h1, upd_cons, if_neg h2, upd_nil]
      · by_cases e : a' = i
        · exact .inr ⟨e, by omega⟩
        · exact .inl (by omega)
      · rw [if_neg (Nat.succ_ne_zero i)] at hk
        rw [← Option.some.inj hk]; rfl
  · refine fin _ _ st F' N' ⟨inv.dL, inv.dR, inv.ca, inv.cb, inv.cc, inv.told, ?_, ?_, ?_⟩
    · have := inv.sL; omega
    · have := inv.sR; omega
    · exact fun k hk => inv.hat k (by rw [if_neg (Nat.succ_ne_zero _)]; exact hk)
end

end
section
theorem fillG7 : (∃ f : Params → Frag, f = Mine.hd.heap_1) ∧ PySem.Challenge.rw_sh0030_01 = PySem.Challenge.rw_sh0030_01 := by w_top off; k_fill; exact ⟨⟨_, rfl⟩, rfl⟩
theorem news_turn {h₀ h : Heap} {L : Addr} {r l a b c d e f g i : Addr × Obj} (N : News h₀ L h [r, l, a, b, c, d, e, f, g, i]) : News h₀ L h [a, b, c, d, e, f, g, i, r, l] := fun q hq => N q (by
  simp only [List.mem_cons, List.not_mem_nil, or_false] at hq ⊢
  rcases hq with h | h | h | h | h | h | h | h | h | h <;> simp [h])
section
variable {w : World} {e1 e2 : Env} {s : Shared} {R : Result → Shared → Prop} {p : Program} {loose : List Str} {mean : ExcName → Option Value} {mg mb : Str → Option Value}
local macro_rules | `(tactic| walk_at "exec For") => `(tactic| (refine Stop.of ?_))
set_option hygiene false in
local macro_rules | `(tactic| walk_at "subscriptTail") => `(tactic| ((rename News _ _ _ _ => lN'); k_dflt (first
  | refine kda_item (knd := PySem.intKind _ _) lN' (by k_mem) hdL9 (intKind_is _ _ _ _) vL9 ?_
  | refine kda_item (knd := PySem.intKind _ _) lN' (by k_mem) hdR9 (intKind_is _ _ _ _) vR9 ?_)))
theorem call_played (X : (hd.heap_1 w.params).In s.heap) (T : Top p loose mean mg mb s.heap) {lx ly lz : Addr} {vx vy vz : List Value} {ex ey ez : List Int} (hlx : s.heap.IsList lx vx.toArray) (hIx : IntsAre vx ex) (hly : s.heap.IsList ly vy.toArray) (hIy : IntsAre vy ey) (hlz : s.heap.IsList lz vz.toArray) (hIz : IntsAre vz ez)
    (sx : ex ∈ shapes) (sy : ey ∈ shapes) (sz : ez ∈ shapes) :
    NewCall w (callerA.deeper e1) 269 ⟨[.ref lx, .ref ly, .ref lz], []⟩ s (fun v objs => ∃ b n, v = .ref b ∧ objs = [(b, W.listOf #[.bool (decide (0 < numberF ex + numberF ey + numberF ez)), .bool (decide (numberF ex + numberF ey + numberF ez < 0))] n)]) := by
  intro R ret
  refine enterC [(Str.ofString "x", .ref lx), (Str.ofString "y", .ref ly), (Str.ofString "z", .ref lz)] (K := hd.heap_1 w.params) X T.nolimit (by k_is) (by k_is) (by k_room) (BindsTo.of_eq rfl) (by rfl) (by decide +kernel) (fun L' h₁ tk cells F N Y => ?_) rfl rfl rfl
  k_cells Y
  k_steps
  unfold Stop
  (rename Fr _ _ _ _ => lF'); (rename News _ _ _ _ => lN')
  have N8 := news_turn lN'
  refine pl_a X T hlx hIx hly hIy hlz hIz sx sy sz lF' (RR := []) N8 (by assumption) (by assumption) (by assumption) (by assumption) (by assumption) (by assumption) (by assumption) (by assumption) (by omega) (by omega) (fun q hq => nomatch hq) (fun q hq => nomatch hq) (by assumption) (by assumption) (Nat.le_refl _) (Nat.le_refl _) (fun h9 tk9 st9 F9 N9 inv9 => ?_)
  · clear lF' lN' N8
    obtain ⟨oL9, oR9, kL9, kR9, oa9, va9, ob9, vb9, oc9, vc9, cu9, at9⟩ := st9
    obtain ⟨hdL9, hdR9, ha9, hb9, hc9, told9, hl9, hm9, hat9⟩ := inv9
    obtain ⟨t9, rfl⟩ := hat9 _ rfl
    have v9 := told9 ex.length ey.length ez.length (Nat.le_refl _) (Nat.le_refl _) (Nat.le_refl _) (Nat.lt_succ_self _)
    obtain ⟨vL9, vR9⟩ := v9
    dsimp only at N9 F9 hdL9 hdR9 ha9 hb9 hc9 vL9 vR9
    unfold plCells at N9
    k_steps
    dsimp only
    (rename News _ _ _ _ => lN')
    refine ret _ _ _ _ ⟨_, 0, rfl, rfl⟩ (Fr.keep (by assumption)) (fun q hq => ?_)
    have := lN' q (by rw [List.mem_singleton.mp hq]; exact List.mem_cons_self)
    exact ⟨this.1, this.2.2⟩
end

end
section
open PySem.Sre
theorem runFor_done {m : M} (h : m.outcome.isSome = true) : ∀ n, m.runFor n = m
  | 0 => rfl
  | n + 1 => by rw [M.runFor, if_pos h]
theorem runFor_succ {m : M} (h : m.outcome.isSome = false) (n : Nat) : m.runFor (n + 1) = m.step.runFor n := by
  rw [M.runFor, if_neg (by rw [h]; exact Bool.false_ne_true)]
theorem runFor_add (a b : Nat) : ∀ m : M, m.runFor (a + b) = (m.runFor a).runFor b := by
  induction a with
  | zero => intro m; rw [Nat.zero_add]; rfl
  | succ a ih =>
    intro m
    cases h : m.outcome.isSome with
    | true => rw [runFor_done h, runFor_done h, runFor_done h]
    | false => rw [show a + 1 + b = (a + b) + 1 by omega, runFor_succ h, runFor_succ h, ih]
theorem inSet_seen (code : Array Nat) (c : Nat) : ∀ (fuel i : Nat) (yes : Bool) (seen seen' : Sre.Seen) (b : Bool) (z : Sre.Seen), inSet code c fuel i yes seen' = .ok (b, z) → ∃ z', inSet code c fuel i yes seen = .ok (b, z')
  | 0, _, _, _, _, _, _, h => by cases h
  | fuel + 1, i, yes, seen, seen', b, z, h => by
    have ih := inSet_seen code c fuel
    unfold inSet at h ⊢
    dsimp only at h ⊢
    cases hop : ops[code.getD (i + 0) 0]? with
    | none => rw [hop] at h; cases h
    | some op =>
      rw [hop] at h
      cases op <;> dsimp only at h ⊢ <;> first
        | (simp only [reduceCtorEq] at h; done)
        | (cases h; exact ⟨_, rfl⟩)
        | (exact ih _ _ _ _ _ _ h)
        | (split at h
           · rename_i hc; rw [if_pos hc]; cases h; exact ⟨_, rfl⟩
           · rename_i hc; rw [if_neg hc]; exact ih _ _ _ _ _ _ h)
        | (cases hk : category (code.getD (i + 1) 0) c with
           | error e => rw [hk] at h; cases h
           | ok q =>
             rw [hk] at h
             cases q with
             | true => cases h; exact ⟨_, rfl⟩
             | false => exact ih _ _ _ _ _ _ h)
/- what a set says of a sign -/
def setSays (code : Array Nat) (c : Nat) : Option Bool := match inSet code c code.size 5 true {} with
  | .ok (b, _) => some b
  | .error _ => none
theorem setSays_at {code : Array Nat} {c : Nat} {b : Bool} (h : setSays code c = some b) (seen : Sre.Seen) : ∃ z, inSet code c code.size 5 true seen = .ok (b, z) := by
  unfold setSays at h
  cases e : inSet code c code.size 5 true {} with
  | error _ => rw [e] at h; cases h
  | ok q =>
    obtain ⟨b', z⟩ := q
    rw [e] at h
    cases h
    exact inSet_seen code c _ _ _ seen {} _ z e
theorem admitted_none (m : M) : ∀ (fuel s : Nat) (seen : Sre.Seen), (∀ i, s ≤ i → i < m.lim → setSays m.code (m.text.getD i 0) = some false) → ∃ z, M.admitted m fuel s seen = .ok (none, z)
  | 0, _, _, _ => ⟨_, rfl⟩
  | fuel + 1, s, seen, h => by
    unfold M.admitted
    by_cases hs : s ≥ m.lim
    · rw [if_pos hs]; exact ⟨_, rfl⟩
    · rw [if_neg hs]
      obtain ⟨z, e⟩ := setSays_at (h s (Nat.le_refl _) (by omega)) seen
      rw [e]
      exact admitted_none m fuel (s + 1) z fun i hi => h i (by omega)
theorem admitted_some (m : M) (j : Nat) (hj : j < m.lim) (hy : setSays m.code (m.text.getD j 0) = some true) : ∀ (fuel s : Nat) (seen : Sre.Seen), s ≤ j → j < s + fuel → (∀ i, s ≤ i → i < j → setSays m.code (m.text.getD i 0) = some false) → ∃ z, M.admitted m fuel s seen = .ok (some j, z)
  | 0, s, _, h1, h2, _ => by omega
  | fuel + 1, s, seen, h1, h2, h => by
    unfold M.admitted
    rw [if_neg (by omega)]
    by_cases hs : s = j
    · subst hs
      obtain ⟨z, e⟩ := setSays_at hy seen
      rw [e]
      exact ⟨z, rfl⟩
    · obtain ⟨z, e⟩ := setSays_at (h s (Nat.le_refl _) (by omega)) seen
      rw [e]
      exact admitted_some m j hj hy fuel (s + 1) z (by omega) (by omega) fun i hi => h i (by omega)
/- what a search finds -/
def Finds (code text : Array Nat) (start : Nat) (r : Option (Nat × Nat)) : Prop :=
  ∃ (N : Nat) (m' : M), N ≤ 2 ^ 60 ∧ (forSearch code text 0 start text.size false).runFor N = m' ∧ match r with
    | none => m'.outcome = some .failed
    | some (b, e) => m'.outcome = some .matched ∧ m'.start = b ∧ m'.handed = e
theorem say_no {m : M} (ho : m.outcome = none) (hf : m.frames = []) : (m.say false).runFor 1 = { m with answer := some false, outcome := some .failed } := by
  rw [runFor_succ (show (m.say false).outcome.isSome = false by show m.outcome.isSome = false; rw [ho]; rfl)]
  show (m.say false).step = _
  unfold M.step M.say
  dsimp only
  rw [ho, hf]
  rfl
def startM (code text : Array Nat) (start ls : Nat) : M :=
  { code, text, lim := text.size, start, lastStart := ls, pc := (header code).2, pos := start, handed := start, marks := Array.replicate 0 none, mustAdvance := false, seen := if (header code).2 == 0 then {} else ({} : Sre.Seen).add 14 }
theorem forSearch_eq (code text : Array Nat) (start : Nat) : forSearch code text 0 start text.size false =
    if start > text.size || decide (text.size - start < (header code).1) then (startM code text start 0).say false
    else (startM code text start (if (header code).1 > 1 && !((header code).2 != 0 && code.getD 2 0 &&& 5 != 0) then max start (text.size - ((header code).1 - 1)) else text.size)).attemptFrom start true := by
  unfold forSearch
  rfl
theorem hasFirst {code : Array Nat} {m : M} (e : m.code = code) (hs : ops[code.getD 0 0]? = some .INFO) (h4 : code.getD 2 0 = 4) : m.hasFirstSet = true := by
  unfold M.hasFirstSet
  rw [e, h4, hs]
  rfl
theorem attempt_none {m : M} {s : Nat} {b : Bool} (hf : m.hasFirstSet = true) (h : ∀ i, s ≤ i → i < m.lim → setSays m.code (m.text.getD i 0) = some false) : ∃ z, m.attemptFrom s b = { m with seen := z }.say false := by
  unfold M.attemptFrom
  rw [hf]
  obtain ⟨z, e⟩ := admitted_none m (m.lim + 1 - s) s m.seen h
  exact ⟨z, by rw [e]; rfl⟩
theorem attempt_some {m : M} {s j : Nat} {b : Bool} (hf : m.hasFirstSet = true) (hj : j < m.lim) (hs : s ≤ j) (hy : setSays m.code (m.text.getD j 0) = some true) (h : ∀ i, s ≤ i → i < j → setSays m.code (m.text.getD i 0) = some false) : ∃ z, m.attemptFrom s b = { m with mustAdvance := false, seen := z }.attemptAt j b := by
  unfold M.attemptFrom
  rw [hf]
  obtain ⟨z, e⟩ := admitted_some m j hj hy (m.lim + 1 - s) s m.seen hs (by omega) h
  exact ⟨z, by rw [e]; rfl⟩
/- a search whose first set holds no sign of the text -/
theorem finds_none {code text : Array Nat} {start : Nat} (hc : (header code).1 = 1) (hs : ops[code.getD 0 0]? = some .INFO) (h4 : code.getD 2 0 = 4) (h : ∀ i, start ≤ i → i < text.size → setSays code (text.getD i 0) = some false) : Finds code text start none := by
  unfold Finds
  rw [forSearch_eq, hc]
  by_cases hl : (start > text.size || decide (text.size - start < 1)) = true
  · rw [if_pos hl]
    exact ⟨1, _, by decide, say_no rfl rfl, rfl⟩
  · rw [if_neg hl]
    obtain ⟨z, e⟩ := attempt_none (m := startM code text start _) (b := true) (hasFirst rfl hs h4) h
    rw [e]
    exact ⟨1, _, by decide, say_no rfl rfl, rfl⟩

end
section
open PySem.Sre
structure FrAt (f : Sre.Frame) (q : Wait × Nat × Nat) : Prop where
  wait : f.wait = q.1
  pc : f.pc = q.2.1
  pos : f.pos = q.2.2
  km : f.kept.marks = #[]
  wh : f.kept.whole = false
  lm : f.kept.lastmark = -1
  li : f.kept.lastindex = -1
def FrsAt : List Sre.Frame → List (Wait × Nat × Nat) → Prop
  | [], [] => True
  | f :: fs, q :: qs => FrAt f q ∧ FrsAt fs qs
  | _, _ => False
structure At (c t : Array Nat) (st ls pc pos hd : Nat) (fs : List (Wait × Nat × Nat)) (an : Option Bool) (m : M) : Prop where
  code : m.code = c
  text : m.text = t
  lim : m.lim = t.size
  start : m.start = st
  last : m.lastStart = ls
  pc : m.pc = pc
  pos : m.pos = pos
  hd : m.handed = hd
  frs : FrsAt m.frames fs
  wt : m.weight = fs.length
  an : m.answer = an
  out : m.outcome = none
  whole : m.wholeText = false
  must : m.mustAdvance = false
  marks : m.marks = #[]
  inner : m.inner = none
  lm : m.lastmark = -1
  li : m.lastindex = -1
section
variable {c t : Array Nat} {st ls pc pos hd : Nat} {fs : List (Wait × Nat × Nat)} {m : M}
theorem At.exec (h : At c t st ls pc pos hd fs none m) (hpc : pc < c.size) : m.step = m.exec := by
  unfold M.step
  rw [h.out, h.an]
  dsimp only
  rw [if_neg (by simp), if_pos (by rw [h.pc, h.code]; exact hpc)]
theorem At.opIs (h : At c t st ls pc pos hd fs none m) {k : Nat} (hop : c.getD pc 0 = k) : m.word 0 = k := by
  unfold M.word; rw [h.code, h.pc]; exact hop
theorem At.wordIs {an : Option Bool} (h : At c t st ls pc pos hd fs an m) (k : Nat) : m.word k = c.getD (pc + k) 0 := by
  unfold M.word; rw [h.code, h.pc]
theorem At.frame {an : Option Bool} (h : At c t st ls pc pos hd fs an m) (w : Wait) : FrAt { m.frame w with kept := m.keep false } (w, pc, pos) := by
  refine ⟨rfl, h.pc, h.pos, rfl, rfl, h.lm, h.li⟩
theorem At.keep {an : Option Bool} (h : At c t st ls pc pos hd fs an m) : m.keep m.inner.isSome = m.keep false := by rw [h.inner]; rfl
theorem At.attempt {_an : Option Bool} (h : At c t st ls pc pos hd fs none m) {f : Sre.Frame} {q : Wait × Nat × Nat} (hf : FrAt f q) {target p : Nat} {b : Bool} (hl : fs.length < 1000) : At c t st ls target p p (q :: fs) none (m.attempt f target p b) := by
  unfold M.attempt
  rw [if_neg (by rw [h.wt, hf.km]; show ¬ fs.length + 1 + 0 > 16777216; omega)]
  refine ⟨h.code, h.text, h.lim, h.start, h.last, rfl, rfl, rfl, ⟨hf, h.frs⟩, ?_, h.an, h.out, h.whole, h.must, h.marks, h.inner, h.lm, h.li⟩
  show m.weight + 1 + f.kept.marks.size = fs.length + 1
  rw [h.wt, hf.km]; rfl
theorem At.seen {an : Option Bool} (h : At c t st ls pc pos hd fs an m) (z : Sre.Seen) : At c t st ls pc pos hd fs an { m with seen := z } := ⟨h.code, h.text, h.lim, h.start, h.last, h.pc, h.pos, h.hd, h.frs, h.wt, h.an, h.out, h.whole, h.must, h.marks, h.inner, h.lm, h.li⟩
theorem At.say {an : Option Bool} (h : At c t st ls pc pos hd fs an m) (y : Bool) : At c t st ls pc pos hd fs (some y) (m.say y) := ⟨h.code, h.text, h.lim, h.start, h.last, h.pc, h.pos, h.hd, h.frs, h.wt, rfl, h.out, h.whole, h.must, h.marks, h.inner, h.lm, h.li⟩
theorem At.goto {an : Option Bool} (h : At c t st ls pc pos hd fs an m) (pc' pos' : Nat) : At c t st ls pc' pos' hd fs an { m with pc := pc', pos := pos' } := ⟨h.code, h.text, h.lim, h.start, h.last, rfl, rfl, h.hd, h.frs, h.wt, h.an, h.out, h.whole, h.must, h.marks, h.inner, h.lm, h.li⟩
theorem At.lit_yes (h : At c t st ls pc pos hd fs none m) (hpc : pc < c.size) (hop : c.getD pc 0 = 16) (hlt : pos < t.size) (hc : t.getD pos 0 = c.getD (pc + 1) 0) : At c t st ls (pc + 2) (pos + 1) hd fs none m.step := by
  rw [h.exec hpc]
  have e0 := h.opIs hop
  unfold M.exec
  rw [e0, show ops[16]? = some Op.LITERAL from rfl]
  dsimp only
  rw [if_neg (by rw [h.pos, h.lim]; omega)]
  have ea : ∀ z, accepts m.code m.pc (m.text.getD m.pos 0) z = .ok (true, z) := fun z => by
    unfold accepts
    rw [h.code, h.pc, hop, h.text, h.pos, hc]
    show Except.ok (c.getD (pc + 1) 0 == c.getD (pc + 1) 0, z) = _
    rw [beq_self_eq_true]
  rw [ea]
  dsimp only
  have ew : itemWidth m.code m.pc = 2 := by unfold itemWidth; rw [h.code, h.pc, hop]; rfl
  exact ⟨h.code, h.text, h.lim, h.start, h.last, by show m.pc + itemWidth m.code m.pc = _; rw [ew, h.pc], by show m.pos + 1 = _; rw [h.pos], h.hd, h.frs, h.wt, h.an, h.out, h.whole, h.must, h.marks, h.inner, h.lm, h.li⟩
theorem At.lit_no (h : At c t st ls pc pos hd fs none m) (hpc : pc < c.size) (hop : c.getD pc 0 = 16) (hc : pos ≥ t.size ∨ t.getD pos 0 ≠ c.getD (pc + 1) 0) : At c t st ls pc pos hd fs (some false) m.step := by
  rw [h.exec hpc]
  have e0 := h.opIs hop
  unfold M.exec
  rw [e0, show ops[16]? = some Op.LITERAL from rfl]
  dsimp only
  by_cases hge : m.pos ≥ m.lim
  · rw [if_pos hge]
    exact (h.seen _).say false
  · rw [if_neg hge]
    rw [h.pos, h.lim] at hge
    have hne : (t.getD pos 0 == c.getD (pc + 1) 0) = false := by
      rcases hc with hc | hc
      · exact absurd hc hge
      · simpa using hc
    have ea : ∀ z, accepts m.code m.pc (m.text.getD m.pos 0) z = .ok (false, z) := fun z => by
      unfold accepts
      rw [h.code, h.pc, hop, h.text, h.pos]
      show Except.ok (t.getD pos 0 == c.getD (pc + 1) 0, z) = _
      rw [hne]
    rw [ea]
    exact (h.seen _).say false
theorem At.jump (h : At c t st ls pc pos hd fs none m) (hpc : pc < c.size) (hop : c.getD pc 0 = 15) : At c t st ls (pc + 1 + c.getD (pc + 1) 0) pos hd fs none m.step := by
  rw [h.exec hpc]
  have e0 := h.opIs hop
  have e1 := h.wordIs 1
  unfold M.exec
  rw [e0, show ops[15]? = some Op.JUMP from rfl]
  dsimp only
  exact ⟨h.code, h.text, h.lim, h.start, h.last, by show m.pc + 1 + m.word 1 = _; rw [e1, h.pc], h.pos, h.hd, h.frs, h.wt, h.an, h.out, h.whole, h.must, h.marks, h.inner, h.lm, h.li⟩
theorem At.success (h : At c t st ls pc pos hd fs none m) (hpc : pc < c.size) (hop : c.getD pc 0 = 1) : At c t st ls pc pos pos fs (some true) m.step := by
  rw [h.exec hpc]
  have e0 := h.opIs hop
  unfold M.exec
  rw [e0, show ops[1]? = some Op.SUCCESS from rfl]
  dsimp only
  rw [if_neg (by rw [h.whole, h.must]; simp)]
  exact ⟨h.code, h.text, h.lim, h.start, h.last, h.pc, h.pos, h.pos, h.frs, h.wt, rfl, h.out, h.whole, h.must, h.marks, h.inner, h.lm, h.li⟩
theorem At.branch (h : At c t st ls pc pos hd fs none m) (hpc : pc < c.size) (hop : c.getD pc 0 = 7) (hn : c.getD (pc + 1) 0 ≠ 0) (hl : fs.length < 1000) : At c t st ls (pc + 1 + 1) pos pos ((.nextBranch, pc + 1, pos) :: fs) none m.step := by
  rw [h.exec hpc]
  have e0 := h.opIs hop
  have e1 := h.pc; subst e1
  have e2 := h.pos; subst e2
  unfold M.exec
  rw [e0, show ops[7]? = some Op.BRANCH from rfl]
  dsimp only
  have h' := h.seen (m.seen.add 7)
  unfold M.alternative
  rw [if_neg (show ¬ ((m.code.getD (m.pc + 1) 0 == 0) = true) by rw [h.code]; simpa using hn)]
  refine h'.attempt (_an := none) ?_ hl
  exact ⟨rfl, rfl, rfl, by show (if m.inner.isSome = true then _ else #[]) = #[]; rw [h.inner]; rfl, by show m.inner.isSome = false; rw [h.inner]; rfl, h.lm, h.li⟩
theorem At.assertNot (h : At c t st ls pc pos hd fs none m) (hpc : pc < c.size) (hop : c.getD pc 0 = 5) (hn : c.getD (pc + 2) 0 = 0) (hl : fs.length < 1000) : At c t st ls (pc + 3) pos pos ((.lookNot, pc, pos) :: fs) none m.step := by
  rw [h.exec hpc]
  have e0 := h.opIs hop
  have e3 := h.wordIs 2
  rw [hn] at e3
  have e1 := h.pc; subst e1
  have e2 := h.pos; subst e2
  unfold M.exec
  rw [e0, show ops[5]? = some Op.ASSERT_NOT from rfl]
  dsimp only
  have h' := h.seen (m.seen.add 5)
  have e4 : ({ m with seen := m.seen.add 5 } : M).word 2 = 0 := e3
  rw [e4, if_neg (by omega), Nat.sub_zero]
  refine h'.attempt (_an := none) ?_ hl
  exact ⟨rfl, rfl, rfl, by show (if (true && m.inner.isSome) = true then _ else #[]) = #[]; rw [h.inner]; rfl, by show (true && m.inner.isSome) = false; rw [h.inner]; rfl, h.lm, h.li⟩
theorem At.atLine (h : At c t st ls pc pos hd fs none m) (hpc : pc < c.size) (hop : c.getD pc 0 = 6) (h1 : c.getD (pc + 1) 0 = 1) (hy : pos = 0 ∨ t.getD (pos - 1) 0 = 10) : At c t st ls (pc + 2) pos hd fs none m.step := by
  rw [h.exec hpc]
  have e0 := h.opIs hop
  have e1 := h.wordIs 1
  rw [h1] at e1
  unfold M.exec
  rw [e0, show ops[6]? = some Op.AT from rfl]
  dsimp only
  have h' := h.seen (m.seen.add 6)
  have e1' : ({ m with seen := m.seen.add 6 } : M).word 1 = 1 := e1
  generalize hm : ({ m with seen := m.seen.add 6 } : M) = m' at h' e1' ⊢
  have ea : m'.isAt (m'.word 1) = .ok true := by
    rw [e1']
    unfold M.isAt
    rw [h'.pos, h'.text]
    show Except.ok (pos == 0 || t.getD (pos - 1) 0 == 10) = _
    rcases hy with hy | hy
    · rw [hy]; rfl
    · rw [hy]; simp
  rw [ea]
  dsimp only
  rw [if_pos rfl]
  exact ⟨h.code, h.text, h.lim, h.start, h.last, by show m.pc + 2 = _; rw [h.pc], h.pos, h.hd, h.frs, h.wt, h.an, h.out, h.whole, h.must, h.marks, h.inner, h.lm, h.li⟩
theorem At.atLine_no (h : At c t st ls pc pos hd fs none m) (hpc : pc < c.size) (hop : c.getD pc 0 = 6) (h1 : c.getD (pc + 1) 0 = 1) (hy : pos ≠ 0 ∧ t.getD (pos - 1) 0 ≠ 10) : At c t st ls pc pos hd fs (some false) m.step := by
  rw [h.exec hpc]
  have e0 := h.opIs hop
  have e1 := h.wordIs 1
  rw [h1] at e1
  unfold M.exec
  rw [e0, show ops[6]? = some Op.AT from rfl]
  dsimp only
  have h' := h.seen (m.seen.add 6)
  have e1' : ({ m with seen := m.seen.add 6 } : M).word 1 = 1 := e1
  generalize hm : ({ m with seen := m.seen.add 6 } : M) = m' at h' e1' ⊢
  have ea : m'.isAt (m'.word 1) = .ok false := by
    rw [e1']
    unfold M.isAt
    rw [h'.pos, h'.text]
    show Except.ok (pos == 0 || t.getD (pos - 1) 0 == 10) = _
    rw [show (pos == 0) = false by simpa using hy.1, show (t.getD (pos - 1) 0 == 10) = false by simpa using hy.2]; rfl
  rw [ea]
  dsimp only
  rw [if_neg Bool.false_ne_true]
  exact (h.seen _).say false
/- answers handed back -/
theorem At.resume {y : Bool} {q : Wait × Nat × Nat} (h : At c t st ls pc pos hd (q :: fs) (some y) m) : ∃ f m', FrAt f q ∧ m.step = M.resume m' f y ∧ At c t st ls q.2.1 q.2.2 hd fs none m' := by
  have hF := h.frs
  cases hfs : m.frames with
  | nil => rw [hfs] at hF; exact hF.elim
  | cons f rest =>
    rw [hfs] at hF
    refine ⟨f, { m with answer := none, frames := rest, weight := m.weight - (1 + f.kept.marks.size), pc := f.pc, pos := f.pos, outermost := f.outermost }, hF.1, ?_, ?_⟩
    · unfold M.step
      rw [h.out, h.an, hfs]
      rfl
    · refine ⟨h.code, h.text, h.lim, h.start, h.last, hF.1.pc, hF.1.pos, h.hd, hF.2, ?_, rfl, h.out, h.whole, h.must, h.marks, h.inner, h.lm, h.li⟩
      show m.weight - (1 + f.kept.marks.size) = fs.length
      rw [h.wt, hF.1.km]
      show fs.length + 1 - (1 + 0) = fs.length
      omega
theorem At.putBack {an : Option Bool} (h : At c t st ls pc pos hd fs an m) {f : Sre.Frame} {q : Wait × Nat × Nat} (hf : FrAt f q) : At c t st ls pc pos hd fs an (m.putBack f.kept) := by
  unfold M.putBack
  refine ⟨h.code, h.text, h.lim, h.start, h.last, h.pc, h.pos, h.hd, h.frs, h.wt, h.an, h.out, h.whole, h.must, ?_, h.inner, hf.lm, hf.li⟩
  show (if f.kept.whole = true then _ else m.marks) = #[]
  rw [hf.wh, if_neg Bool.false_ne_true]; exact h.marks
theorem At.branch_yes {p0 q0 : Nat} (h : At c t st ls pc pos hd ((.nextBranch, p0, q0) :: fs) (some true) m) : At c t st ls p0 q0 hd fs (some true) m.step := by
  obtain ⟨f, m', hf, e, h'⟩ := h.resume
  rw [e]
  unfold M.resume
  rw [hf.wait]
  exact h'.say true
theorem At.branch_no {p0 q0 : Nat} (h : At c t st ls pc pos hd ((.nextBranch, p0, q0) :: fs) (some false) m) (hn : c.getD (p0 + c.getD p0 0) 0 ≠ 0) (hl : fs.length < 1000) : At c t st ls (p0 + c.getD p0 0 + 1) q0 q0 ((.nextBranch, p0 + c.getD p0 0, q0) :: fs) none m.step := by
  obtain ⟨f, m', hf, e, h'⟩ := h.resume
  rw [e]
  unfold M.resume
  rw [hf.wait]
  dsimp only
  rw [if_neg Bool.false_ne_true]
  have h2 := h'.putBack hf
  rw [hf.pc, h'.code]
  generalize M.putBack m' f.kept = m2 at h2 ⊢
  unfold M.alternative
  rw [h2.code]
  dsimp only
  rw [if_neg (by simpa using hn), h2.pos]
  refine h2.attempt (_an := none) ?_ hl
  exact ⟨rfl, rfl, h2.pos, hf.km, hf.wh, hf.lm, hf.li⟩
theorem At.lookNot_no {p0 q0 : Nat} (h : At c t st ls pc pos hd ((.lookNot, p0, q0) :: fs) (some false) m) : At c t st ls (p0 + 1 + c.getD (p0 + 1) 0) q0 hd fs none m.step := by
  obtain ⟨f, m', hf, e, h'⟩ := h.resume
  rw [e]
  unfold M.resume
  rw [hf.wait]
  dsimp only
  rw [if_neg Bool.false_ne_true]
  have h2 := h'.putBack hf
  have e1 := h'.wordIs 1
  rw [e1, h'.pc]
  dsimp only
  exact ⟨h2.code, h2.text, h2.lim, h2.start, h2.last, rfl, h2.pos, h2.hd, h2.frs, h2.wt, h2.an, h2.out, h2.whole, h2.must, h2.marks, h2.inner, h2.lm, h2.li⟩
theorem At.start_yes {p0 q0 : Nat} (h : At c t st ls pc pos hd ((.nextStart, p0, q0) :: fs) (some true) m) : At c t st ls p0 q0 hd fs (some true) m.step := by
  obtain ⟨f, m', hf, e, h'⟩ := h.resume
  rw [e]
  unfold M.resume
  rw [hf.wait]
  exact h'.say true
theorem At.start_no_end {p0 q0 : Nat} (h : At c t st ls pc pos hd ((.nextStart, p0, q0) :: fs) (some false) m) (hl : ¬ q0 < ls) : At c t st ls p0 q0 hd fs (some false) m.step := by
  obtain ⟨f, m', hf, e, h'⟩ := h.resume
  rw [e]
  unfold M.resume
  rw [hf.wait]
  dsimp only
  rw [if_neg Bool.false_ne_true, if_neg (by rw [hf.pos, h'.last]; exact hl)]
  exact h'.say false
theorem At.attemptAt (h : At c t st ls pc pos hd fs none m) {s : Nat} {b : Bool} (hl : fs.length < 1000) : At c t s ls pc s s ((.nextStart, pc, s) :: fs) none (m.attemptAt s b) := by
  unfold M.attemptAt
  have e1 := h.pc; subst e1
  have h2 : At c t s ls m.pc s hd fs none { m with start := s, pos := s, lastmark := -1, lastindex := -1 } := ⟨h.code, h.text, h.lim, rfl, h.last, rfl, rfl, h.hd, h.frs, h.wt, h.an, h.out, h.whole, h.must, h.marks, h.inner, rfl, rfl⟩
  refine h2.attempt (_an := none) ?_ hl
  exact ⟨rfl, rfl, rfl, rfl, rfl, rfl, rfl⟩
theorem At.start_next {p0 q0 : Nat} (h : At c t st ls pc pos hd ((.nextStart, p0, q0) :: fs) (some false) m) (hq : q0 < ls) (hno : c.getD 2 0 ≠ 4) (hl : fs.length < 1000) : At c t (q0 + 1) ls p0 (q0 + 1) (q0 + 1) ((.nextStart, p0, q0 + 1) :: fs) none m.step := by
  obtain ⟨f, m', hf, e, h'⟩ := h.resume
  rw [e]
  unfold M.resume
  rw [hf.wait]
  dsimp only
  rw [if_neg Bool.false_ne_true, if_pos (by rw [hf.pos, h'.last]; exact hq), hf.pos]
  have h2 : At c t st ls p0 q0 hd fs none { m' with mustAdvance := false } := ⟨h'.code, h'.text, h'.lim, h'.start, h'.last, h'.pc, h'.pos, h'.hd, h'.frs, h'.wt, h'.an, h'.out, h'.whole, rfl, h'.marks, h'.inner, h'.lm, h'.li⟩
  unfold M.attemptFrom
  have hff : ({ m' with mustAdvance := false } : M).hasFirstSet = false := by
    unfold M.hasFirstSet
    rw [h2.code]
    rw [show (c.getD 2 0 == 4) = false by simpa using hno, Bool.and_false]
  rw [hff]
  exact h2.attemptAt hl
theorem At.finish {y : Bool} (h : At c t st ls pc pos hd [] (some y) m) : m.step.outcome = some (if y then .matched else .failed) ∧ m.step.start = st ∧ m.step.handed = hd := by
  have hF := h.frs
  cases hfs : m.frames with
  | cons f rest => rw [hfs] at hF; exact hF.elim
  | nil =>
    have e : m.step = { m with outcome := some (if y then .matched else .failed) } := by
      unfold M.step
      rw [h.out, h.an, hfs]
      rfl
    rw [e]
    exact ⟨rfl, h.start, h.hd⟩
end

end
section
open PySem.Sre
def code1 : Array Nat := #[14, 4, 0, 1, 1, 6, 1, 16, 46, 1]
def code2 : Array Nat := #[14, 9, 4, 1, 2, 16, 10, 16, 13, 0, 7, 7, 16, 13, 16, 10, 15, 18, 5, 16, 10, 15, 13, 11, 16, 13, 5, 5, 0, 16, 10, 1, 15, 2, 0, 1]
def Ends (k : Nat) (m : M) (P : M → Prop) : Prop := ∃ N, N ≤ k ∧ P (m.runFor N)
theorem Ends.done {k : Nat} {m : M} {P : M → Prop} (h : P m) : Ends k m P := ⟨0, Nat.zero_le _, h⟩
theorem Ends.more {k k' : Nat} {m : M} {P : M → Prop} (h : Ends k m P) (hk : k ≤ k') : Ends k' m P := let ⟨N, a, b⟩ := h; ⟨N, Nat.le_trans a hk, b⟩
theorem Ends.step {k : Nat} {m : M} {P : M → Prop} (ho : m.outcome = none) (h : Ends k m.step P) : Ends (k + 1) m P := by
  obtain ⟨N, a, b⟩ := h
  refine ⟨N + 1, by omega, ?_⟩
  rw [runFor_succ (by rw [ho]; rfl)]
  exact b
def Hit (r : Option (Nat × Nat)) (m : M) : Prop := match r with
  | none => m.outcome = some .failed
  | some (b, e) => m.outcome = some .matched ∧ m.start = b ∧ m.handed = e
theorem Ends.finds {code text : Array Nat} {start k : Nat} {r : Option (Nat × Nat)} (hk : k ≤ 2 ^ 60) (h : Ends k (forSearch code text 0 start text.size false) (Hit r)) : Finds code text start r := by
  obtain ⟨N, a, b⟩ := h
  exact ⟨N, _, Nat.le_trans a hk, rfl, b⟩
section
variable {c t : Array Nat} {st ls pc pos hd : Nat} {m : M}
theorem At.hit {y : Bool} (h : At c t st ls pc pos hd [] (some y) m) : Ends 1 m (Hit (if y then some (st, hd) else none)) := by
  obtain ⟨e1, e2, e3⟩ := h.finish
  refine Ends.step h.out (Ends.done ?_)
  cases y with
  | true => exact ⟨e1, e2, e3⟩
  | false => exact e1
theorem says2 (x : Nat) : setSays code2 x = some (x == 10 || x == 13) := by
  by_cases h1 : x = 10
  · subst h1; decide
  by_cases h2 : x = 13
  · subst h2; decide
  have e1 : (x == 10) = false := by simpa using h1
  have e2 : (x == 13) = false := by simpa using h2
  rw [e1, e2]
  unfold setSays
  show (match inSet code2 x 36 5 true {} with | .ok (b, _) => some b | .error _ => none) = _
  unfold inSet
  dsimp only
  rw [show ops[code2.getD (5 + 0) 0]? = some Op.LITERAL from rfl]
  dsimp only
  rw [if_neg (show ¬ ((x == code2.getD (5 + 1) 0) = true) by show ¬ ((x == 10) = true); rw [e1]; exact Bool.false_ne_true)]
  unfold inSet
  dsimp only
  rw [show ops[code2.getD (5 + 2 + 0) 0]? = some Op.LITERAL from rfl]
  dsimp only
  rw [if_neg (show ¬ ((x == code2.getD (5 + 2 + 1) 0) = true) by show ¬ ((x == 13) = true); rw [e2]; exact Bool.false_ne_true)]
  unfold inSet
  dsimp only
  rw [show ops[code2.getD (5 + 2 + 2 + 0) 0]? = some Op.FAILURE from rfl]
  rfl
theorem match2_lf {fs : List (Wait × Nat × Nat)} {j : Nat} (h : At code2 t j ls 10 j j [(.nextStart, 10, j)] none m) (hj : j < t.size) (hc : t.getD j 0 = 10) : Ends 20 m (Hit (some (j, j + 1))) := by
  have s1 : At code2 t j ls 12 j j [(.nextBranch, 11, j), (.nextStart, 10, j)] none m.step := h.branch (by decide) (by decide) (by decide) (by show 1 < 1000; decide)
  have s2 := s1.lit_no (by decide) (by decide) (.inr (by rw [hc]; decide))
  have s3 : At code2 t j ls 19 j j [(.nextBranch, 18, j), (.nextStart, 10, j)] none m.step.step.step := s2.branch_no (by decide) (by show 1 < 1000; decide)
  have s4 : At code2 t j ls 21 (j + 1) j _ none _ := s3.lit_yes (by decide) (by decide) hj (by rw [hc]; decide)
  have s5 : At code2 t j ls 35 (j + 1) j _ none _ := s4.jump (by decide) (by decide)
  have s6 := s5.success (by decide) (by decide)
  have s7 := s6.branch_yes
  have s8 := s7.start_yes
  have s9 := s8.hit
  refine (Ends.step h.out (Ends.step s1.out (Ends.step s2.out (Ends.step s3.out (Ends.step s4.out (Ends.step s5.out (Ends.step s6.out (Ends.step s7.out s9)))))))).more (by decide)
theorem match2_crlf {j : Nat} (h : At code2 t j ls 10 j j [(.nextStart, 10, j)] none m) (hj : j + 1 < t.size) (hc : t.getD j 0 = 13) (hc2 : t.getD (j + 1) 0 = 10) : Ends 20 m (Hit (some (j, j + 2))) := by
  have s1 : At code2 t j ls 12 j j [(.nextBranch, 11, j), (.nextStart, 10, j)] none m.step := h.branch (by decide) (by decide) (by decide) (by show 1 < 1000; decide)
  have s2 : At code2 t j ls 14 (j + 1) j _ none _ := s1.lit_yes (by decide) (by decide) (by omega) (by rw [hc]; decide)
  have s3 : At code2 t j ls 16 (j + 2) j _ none _ := s2.lit_yes (by decide) (by decide) hj (by rw [hc2]; decide)
  have s5 : At code2 t j ls 35 (j + 2) j _ none _ := s3.jump (by decide) (by decide)
  have s6 := s5.success (by decide) (by decide)
  have s7 := s6.branch_yes
  have s8 := s7.start_yes
  have s9 := s8.hit
  refine (Ends.step h.out (Ends.step s1.out (Ends.step s2.out (Ends.step s3.out (Ends.step s5.out (Ends.step s6.out (Ends.step s7.out s9))))))).more (by decide)
theorem match2_cr {j : Nat} (h : At code2 t j ls 10 j j [(.nextStart, 10, j)] none m) (hj : j < t.size) (hc : t.getD j 0 = 13) (hc2 : j + 1 ≥ t.size ∨ t.getD (j + 1) 0 ≠ 10) : Ends 20 m (Hit (some (j, j + 1))) := by
  have s1 : At code2 t j ls 12 j j [(.nextBranch, 11, j), (.nextStart, 10, j)] none m.step := h.branch (by decide) (by decide) (by decide) (by show 1 < 1000; decide)
  have s2 : At code2 t j ls 14 (j + 1) j _ none _ := s1.lit_yes (by decide) (by decide) (by omega) (by rw [hc]; decide)
  have s3 := s2.lit_no (by decide) (by decide) hc2
  have s4 : At code2 t j ls 19 j j [(.nextBranch, 18, j), (.nextStart, 10, j)] none _ := s3.branch_no (by decide) (by show 1 < 1000; decide)
  have s5 := s4.lit_no (by decide) (by decide) (.inr (by rw [hc]; decide))
  have s6 : At code2 t j ls 24 j j [(.nextBranch, 23, j), (.nextStart, 10, j)] none _ := s5.branch_no (by decide) (by show 1 < 1000; decide)
  have s7 : At code2 t j ls 26 (j + 1) j _ none _ := s6.lit_yes (by decide) (by decide) (by omega) (by rw [hc]; decide)
  have s8 : At code2 t j ls 29 (j + 1) (j + 1) _ none _ := s7.assertNot (by decide) (by decide) (by decide) (by show 2 < 1000; decide)
  have s9 := s8.lit_no (by decide) (by decide) hc2
  have s10 : At code2 t j ls 32 (j + 1) (j + 1) _ none _ := s9.lookNot_no
  have s11 : At code2 t j ls 35 (j + 1) (j + 1) _ none _ := s10.jump (by decide) (by decide)
  have s12 := s11.success (by decide) (by decide)
  have s13 := s12.branch_yes
  have s14 := s13.start_yes
  have s15 := s14.hit
  refine (Ends.step h.out (Ends.step s1.out (Ends.step s2.out (Ends.step s3.out (Ends.step s4.out (Ends.step s5.out (Ends.step s6.out (Ends.step s7.out (Ends.step s8.out (Ends.step s9.out (Ends.step s10.out (Ends.step s11.out (Ends.step s12.out (Ends.step s13.out s15)))))))))))))).more (by decide)
theorem start_at {code : Array Nat} {s ls j : Nat} (z : Sre.Seen) : At code t j ls (header code).2 j j [(.nextStart, (header code).2, j)] none ({ startM code t s ls with mustAdvance := false, seen := z }.attemptAt j true) := by
  have h0 : At code t s ls (header code).2 s s [] none { startM code t s ls with mustAdvance := false, seen := z } := ⟨rfl, rfl, rfl, rfl, rfl, rfl, rfl, rfl, trivial, rfl, rfl, rfl, rfl, rfl, rfl, rfl, rfl, rfl⟩
  exact h0.attemptAt (by show 0 < 1000; decide)
theorem search2 {s j : Nat} (hj : j < t.size) (hs : s ≤ j) (hy : t.getD j 0 = 10 ∨ t.getD j 0 = 13) (hn : ∀ i, s ≤ i → i < j → t.getD i 0 ≠ 10 ∧ t.getD i 0 ≠ 13) {r : Option (Nat × Nat)}
    (h : ∀ m, At code2 t j t.size 10 j j [(.nextStart, 10, j)] none m → Ends 20 m (Hit r)) : Finds code2 t s r := by
  refine Ends.finds (k := 20) (by decide) ?_
  rw [forSearch_eq]
  rw [if_neg (by show ¬ (decide (s > t.size) || decide (t.size - s < 1)) = true; simp; omega)]
  obtain ⟨z, e⟩ := attempt_some (m := startM code2 t s t.size) (s := s) (j := j) (b := true) (hasFirst rfl rfl rfl) hj hs (by show setSays code2 (t.getD j 0) = _; rw [says2]; rcases hy with e | e <;> rw [e] <;> rfl) (fun i h1 h2 => by
    show setSays code2 (t.getD i 0) = _
    rw [says2]
    obtain ⟨a, b⟩ := hn i h1 h2
    rw [beq_eq_false_iff_ne.mpr a, beq_eq_false_iff_ne.mpr b]; rfl)
  show Ends 20 ((startM code2 t s t.size).attemptFrom s true) _
  rw [e]
  exact h _ (start_at z)
theorem none2 {s : Nat} (hn : ∀ i, s ≤ i → i < t.size → t.getD i 0 ≠ 10 ∧ t.getD i 0 ≠ 13) : Finds code2 t s none :=
  finds_none rfl rfl rfl fun i h1 h2 => by
    rw [says2]
    obtain ⟨a, b⟩ := hn i h1 h2
    rw [beq_eq_false_iff_ne.mpr a, beq_eq_false_iff_ne.mpr b]; rfl
/- the second text: a full stop at a line's beginning -/
def Hit1 (t : Array Nat) (i : Nat) : Prop := (i = 0 ∨ t.getD (i - 1) 0 = 10) ∧ i < t.size ∧ t.getD i 0 = 46
theorem match1 {j : Nat} (h : At code1 t j ls 5 j j [(.nextStart, 5, j)] none m) (hh : Hit1 t j) : Ends 5 m (Hit (some (j, j + 1))) := by
  have s1 : At code1 t j ls 7 j j _ none _ := h.atLine (by decide) (by decide) (by decide) hh.1
  have s2 : At code1 t j ls 9 (j + 1) j _ none _ := s1.lit_yes (by decide) (by decide) hh.2.1 (by rw [hh.2.2]; decide)
  have s3 := s2.success (by decide) (by decide)
  have s4 := s3.start_yes
  exact (Ends.step h.out (Ends.step s1.out (Ends.step s2.out (Ends.step s3.out s4.hit)))).more (by decide)
theorem miss1 {j : Nat} (h : At code1 t j ls 5 j j [(.nextStart, 5, j)] none m) (hh : ¬ Hit1 t j) {k : Nat} {P : M → Prop} (hk : ∀ m' pc hd, At code1 t j ls pc j hd [(.nextStart, 5, j)] (some false) m' → Ends k m' P) : Ends (k + 2) m P := by
  by_cases hb : j = 0 ∨ t.getD (j - 1) 0 = 10
  · have s1 : At code1 t j ls 7 j j _ none _ := h.atLine (by decide) (by decide) (by decide) hb
    have s2 := s1.lit_no (by decide) (by decide) (by
      by_cases hl : j < t.size
      · exact .inr fun e => hh ⟨hb, hl, by rw [e]; decide⟩
      · exact .inl (by omega))
    exact Ends.step h.out (Ends.step s1.out (hk _ _ _ s2))
  · have s1 := h.atLine_no (by decide) (by decide) (by decide) ⟨fun e => hb (.inl e), fun e => hb (.inr e)⟩
    exact (Ends.step h.out (hk _ _ _ s1)).more (by omega)
theorem run1_none (hr : ∀ i, st ≤ i → ¬ Hit1 t i) : ∀ (k j : Nat) (m : M), j + k = t.size → st ≤ j → At code1 t j t.size 5 j j [(.nextStart, 5, j)] none m → Ends (3 * k + 5) m (Hit none)
  | 0, j, m, hk, hj, h => (miss1 (k := 3) h (hr j hj) fun m' pc hd h' => (Ends.step h'.out ((h'.start_no_end (by omega)).hit)).more (by decide)).more (by omega)
  | k + 1, j, m, hk, hj, h => (miss1 (k := 3 * k + 6) h (hr j hj) fun m' pc hd h' => Ends.step h'.out (run1_none hr k (j + 1) _ (by omega) (by omega) (h'.start_next (by omega) (by decide) (by show 0 < 1000; decide)))).more (by omega)
theorem run1_some {b : Nat} (hb : Hit1 t b) : ∀ (k j : Nat) (m : M), j + k = b → (∀ i, j ≤ i → i < b → ¬ Hit1 t i) → At code1 t j t.size 5 j j [(.nextStart, 5, j)] none m → Ends (3 * k + 5) m (Hit (some (b, b + 1)))
  | 0, j, m, hk, hj, h => by
    have e : j = b := by omega
    subst e
    exact match1 h hb
  | k + 1, j, m, hk, hj, h => (miss1 (k := 3 * k + 6) h (hj j (Nat.le_refl _) (by omega)) fun m' pc hd h' => Ends.step h'.out (run1_some hb k (j + 1) _ (by omega) (fun i h1 => hj i (by omega)) (h'.start_next (by have := hb.2.1; omega) (by decide) (by show 0 < 1000; decide)))).more (by omega)
theorem first1 {s : Nat} {b : Bool} : At code1 t s t.size 5 s s [(.nextStart, 5, s)] none ((startM code1 t s t.size).attemptFrom s b) := by
  have h0 : At code1 t s t.size 5 s s [] none (startM code1 t s t.size) := ⟨rfl, rfl, rfl, rfl, rfl, rfl, rfl, rfl, trivial, rfl, rfl, rfl, rfl, rfl, rfl, rfl, rfl, rfl⟩
  exact h0.attemptAt (by show 0 < 1000; decide)
theorem search1 {s j : Nat} (hj : Hit1 t j) (hs : s ≤ j) (ht : t.size ≤ 2 ^ 40) (hn : ∀ i, s ≤ i → i < j → ¬ Hit1 t i) : Finds code1 t s (some (j, j + 1)) := by
  have hj' := hj.2.1
  refine Ends.finds (k := 3 * (j - s) + 5) (by omega) ?_
  rw [forSearch_eq]
  rw [if_neg (by show ¬ (decide (s > t.size) || decide (t.size - s < 1)) = true; simp; omega)]
  exact run1_some hj (j - s) s _ (by omega) hn first1
theorem none1 {s : Nat} (ht : t.size ≤ 2 ^ 40) (hn : ∀ i, s ≤ i → ¬ Hit1 t i) : Finds code1 t s none := by
  refine Ends.finds (k := 3 * (t.size - s) + 5) (by omega) ?_
  rw [forSearch_eq]
  by_cases hl : (decide (s > t.size) || decide (t.size - s < (header code1).1)) = true
  · rw [if_pos hl]
    refine ⟨1, by omega, ?_⟩
    rw [say_no rfl rfl]
    exact rfl
  · rw [if_neg hl]
    have hl' : s < t.size := by
      have hl : ¬ ((decide (s > t.size) || decide (t.size - s < 1)) = true) := hl
      simp only [Bool.or_eq_true, decide_eq_true_eq, not_or] at hl
      omega
    exact run1_none hn (t.size - s) s _ (by omega) (Nat.le_refl _) first1
end

end
section
open PySem.Builtin.Re
section
variable {Mo : Model} {A : Around} {E : Value → Shared → Prop} {s : Shared}
theorem drive {Q : Sre.M → Shared → Prop} : ∀ (t n : Nat) (m : Sre.M), n ≤ 4 * t → (m.runFor n).outcome.isSome = true → 0 < t → Q (m.runFor n) s → wpAny Mo A (reDrive t m) Q E s
  | 0, _, _, _, _, h0, _ => absurd h0 (Nat.lt_irrefl _)
  | t + 1, n, m, hn, ho, _, hq => by
    unfold reDrive
    dsimp only
    by_cases h4 : (m.runFor reTurnSteps).outcome.isSome = true
    · rw [if_pos h4]
      refine wpAny_pure ?_
      have e : m.runFor reTurnSteps = m.runFor n := by
        show m.runFor 4 = _
        by_cases h : n ≤ 4
        · have := runFor_add n (4 - n) m
          rw [Nat.add_sub_cancel' h, runFor_done ho] at this
          exact this
        · have := runFor_add 4 (n - 4) m
          rw [Nat.add_sub_cancel' (by omega), runFor_done (m := m.runFor 4) h4] at this
          exact this.symm
      rw [e]; exact hq
    · rw [if_neg h4]
      have h5 : 4 < n := by
        refine Nat.lt_of_not_le fun h => h4 ?_
        have := runFor_add n (4 - n) m
        rw [Nat.add_sub_cancel' h, runFor_done ho] at this
        show (m.runFor 4).outcome.isSome = true
        rw [this]; exact ho
      have e := runFor_add 4 (n - 4) m
      rw [Nat.add_sub_cancel' (by omega)] at e
      rw [e] at ho hq
      exact wpAny_bind (wpAny_rule (drive t (n - 4) (m.runFor 4) (by omega) ho (by omega) hq))
theorem rules_loop {f : Nat → Bool} {g : Nat → String} {Q : PUnit → Shared → Prop} (h : Q PUnit.unit s) : ∀ l : List Nat, wpAny Mo A (forIn l PUnit.unit fun i _ => if f i = true then do
      rule (g i)
      pure (ForInStep.yield PUnit.unit)
    else pure (ForInStep.yield PUnit.unit)) Q E s
  | [] => wpAny_pure h
  | i :: l => by
    rw [List.forIn_cons]
    refine wpAny_bind ?_
    by_cases hf : f i = true
    · rw [if_pos hf]
      exact wpAny_bind (wpAny_rule (wpAny_pure (rules_loop h l)))
    · rw [if_neg hf]
      exact wpAny_pure (rules_loop h l)
theorem runToEnd {Q : Option Sre.M → Shared → Prop} {m : Sre.M} {n : Nat} (hn : n ≤ 2 ^ 60) (ho : (m.runFor n).outcome.isSome = true) (h : wpAny Mo A (match (m.runFor n).outcome with
    | some .matched => pure (some (m.runFor n))
    | some .failed => pure none
    | some (.stuck why) => unsupported s!"_sre:{why}"
    | none => unsupported "internal:sre:no-outcome") Q E s) : wpAny Mo A (reRunToEnd m) Q E s := by
  unfold reRunToEnd
  refine wpAny_bind (drive _ n m (by omega) ho (by omega) ?_)
  exact wpAny_bind (rules_loop (f := fun i => (m.runFor n).seen.has i) (g := fun i => Sre.names.getD i "") h _)
theorem runFinds {Q : Option Sre.M → Shared → Prop} {code text : Array Nat} {start : Nat} {r : Option (Nat × Nat)} (F : Finds code text start r) (h : match r with
    | none => Q none s
    | some (b, e) => ∀ m : Sre.M, m.start = b → m.handed = e → Q (some m) s) : wpAny Mo A (reRunToEnd (Sre.forSearch code text 0 start text.size false)) Q E s := by
  obtain ⟨N, m', hN, rfl, hr⟩ := F
  cases r with
  | none =>
    refine runToEnd hN (by rw [hr]; rfl) ?_
    rw [hr]
    exact wpAny_pure h
  | some q =>
    obtain ⟨b, e⟩ := q
    refine runToEnd hN (by rw [hr.1]; rfl) ?_
    rw [hr.1]
    exact wpAny_pure (h _ hr.2.1 hr.2.2)
/- a pattern of the text's own -/
structure IsPat (h : Heap) (a : Addr) (code : Array Nat) : Prop where
  at_ : ∃ (o q : Obj) (v0 v1 v3 v4 : Value) (t2 t6 : Tok) (c : Addr) (vals : Array Value) (n : Nat), h.get? a = some o ∧ o.cls = .type "re.Pattern" ∧ o.data = .fields #[v0, v1, .int 0 t2, v3, v4, .ref c, .int 0 t6] ∧ o.dict = none ∧
    h.get? c = some q ∧ q.data = .seq vals n ∧ (vals.map reRawOf).map (·.toNat) = code
theorem IsPat.keeps {h h' : Heap} {a : Addr} {code : Array Nat} (P : IsPat h a code) (k : ∀ b o, h.get? b = some o → h'.get? b = some o) : IsPat h' a code := by
  obtain ⟨o, q, v0, v1, v3, v4, t2, t6, c, vals, n, h1, h2, h3, h4, h5, h6, h7⟩ := P
  exact ⟨o, q, v0, v1, v3, v4, t2, t6, c, vals, n, k _ _ h1, h2, h3, h4, k _ _ h5, h6, h7⟩
theorem ifNo {α : Type} {c : Prop} [Decidable c] {a b : Sem α} {Q : α → Shared → Prop} (hc : ¬ c) (h : wpAny Mo A b Q E s) : wpAny Mo A (if c then a else b) Q E s := by rw [if_neg hc]; exact h
theorem noColl {x : Value} {Q : Unit → Shared → Prop} (h : Q () s) : wpAny Mo A (reNoCollectionInside x 0) Q E s := by
  unfold reNoCollectionInside
  rw [if_neg (show ¬ (((0 : Nat) == 1) = true) by decide)]
  exact wpAny_pure h
theorem rawItems {c : Addr} {q : Obj} {vals : Array Value} {n : Nat} {Q : Array Int → Shared → Prop} (h5 : s.heap.get? c = some q) (h6 : q.data = .seq vals n) (h : Q (vals.map reRawOf) s) : wpAny Mo A (reRawItems (.ref c)) Q E s := by
  unfold reRawItems
  refine wpAny_bind ?_
  show wpAny Mo A (do match (← load c).data with
    | .seq xs _ => pure (some xs)
    | _ => pure none) _ E s
  refine wpAny_bind (wpAny_load h5 ?_)
  rw [h6]
  exact wpAny_pure (wpAny_pure h)
theorem IsPat.fields {a : Addr} {code : Array Nat} {Q : ReTarget → Shared → Prop} {x : Str} {tx : Tok} (P : IsPat s.heap a code) (h : Q ⟨.ref a, .str x tx, code, x.cps, 0, 0, 0, x.cps.size⟩ s) : wpAny Mo A (reWholeTarget (.ref a) (.str x tx)) Q E s := by
  obtain ⟨o, q, v0, v1, v3, v4, t2, t6, c, vals, n, h1, h2, h3, h4, h5, h6, h7⟩ := P
  unfold reWholeTarget
  refine wpAny_bind (wpAny_fieldsOf h1 h3 ?_)
  refine wpAny_bind (show wpAny Mo A (reTextOf (.str x tx)) _ E s from ?_)
  unfold reTextOf
  refine wpAny_bind (wpAny_pure ?_)
  refine wpAny_pure ?_
  dsimp only
  refine ifNo (show ¬ (((0 : Nat) == 0 && (0 : Nat) == 1) = true) by decide) (ifNo (show ¬ (((0 : Nat) == 1 && (0 : Nat) == 0) = true) by decide) ?_)
  refine wpAny_bind (noColl ?_)
  refine wpAny_bind (rawItems h5 h6 ?_)
  refine wpAny_pure ?_
  rw [h7]
  exact h
/- re.Pattern.search -/
theorem named_search (v : Value) : reNamed "re.Pattern.search" "search" ["string", "pos", "endpos"] 1 [v] [] = pure [some v, none, none] := by rfl
theorem named_sub (v u : Value) : reNamed "re.Pattern.sub" "sub" ["repl", "string", "count"] 2 [v, u] [] = pure [some v, some u, none] := by rfl
theorem lim_eq {n : Nat} (h : n < 2 ^ 60) : min ((2 : Int) ^ 63 - 1).toNat n = n := by
  have : ((2 : Int) ^ 63 - 1).toNat = 9223372036854775807 := by decide +kernel
  rw [this]; omega
theorem search_none {a : Addr} {code : Array Nat} {x : Str} {tx : Tok} {Q : Fin → Shared → Prop} (P : IsPat s.heap a code) (hx : x.cps.size < 2 ^ 60) (F : Finds code x.cps 0 none) (h : Q (.done (.ret .none)) s) :
    wpAny Mo A (Builtin.«re.Pattern.search» ⟨[.ref a, .str x tx], []⟩) Q E s := by
  unfold Builtin.«re.Pattern.search»
  refine wpAny_bind ?_
  unfold reTarget
  (try dsimp only)
  rw [named_search]
  refine wpAny_bind (wpAny_pure ?_)
  dsimp only
  refine wpAny_bind (wpAny_pure (wpAny_bind (wpAny_pure ?_)))
  obtain ⟨o, q, v0, v1, v3, v4, t2, t6, c, vals, n, h1, h2, h3, h4, h5, h6, h7⟩ := P
  refine wpAny_bind (wpAny_fieldsOf h1 h3 ?_)
  unfold reTextOf
  refine wpAny_bind (wpAny_bind (wpAny_pure (wpAny_pure ?_)))
  dsimp only
  refine ifNo (show ¬ (((0 : Nat) == 0 && (0 : Nat) == 1) = true) by decide) (ifNo (show ¬ (((0 : Nat) == 1 && (0 : Nat) == 0) = true) by decide) ?_)
  refine wpAny_bind (noColl ?_)
  refine wpAny_bind (rawItems h5 h6 ?_)
  refine wpAny_pure ?_
  rw [h7]
  unfold reAnswer
  have e1 := lim_eq hx
  have key : ∀ (g p l : Nat) (Q' : Option Sre.M → Shared → Prop), g = 0 → p = 0 → l = x.cps.size → Q' none s → wpAny Mo A (reRunToEnd (Sre.forSearch code x.cps g p l false)) Q' E s := by
    rintro g p l Q' rfl rfl rfl hq
    exact runFinds F hq
  exact wpAny_bind (key _ _ _ _ rfl (Nat.zero_min _) e1 (wpAny_pure h))
theorem sub_start {a : Addr} {code : Array Nat} {r x : Str} {tr tx : Tok} {Q : Fin → Shared → Prop} (P : IsPat s.heap a code) (hr : r.cps.contains 92 = false) (hcall : specialOf (.str r tr) "__call__" = pure none)
    (h : Q (.again (.builtin "re.Pattern.sub.loop" ⟨[.ref a, .str x tx, .str r tr, rawInt 0, rawInt 0, rawInt 0, rawInt 0, rawInt 0, .bool false, .ref s.heap.objs.size, .bool false], []⟩)) { s with heap := s.heap.push { cls := .type "list", data := .seq #[] } }) :
    wpAny Mo A (Builtin.«re.Pattern.sub» ⟨[.ref a, .str r tr, .str x tx], []⟩) Q E s := by
  unfold Builtin.«re.Pattern.sub» reSubstitute
  (try dsimp only)
  rw [named_sub]
  refine wpAny_bind (wpAny_pure ?_)
  dsimp only
  refine wpAny_bind (wpAny_pure ?_)
  rw [hcall]
  refine wpAny_bind (wpAny_bind (wpAny_pure (wpAny_pure ?_)))
  refine ifNo (by simp) ?_
  refine wpAny_bind (wpAny_bind (wpAny_pure ?_))
  refine wpAny_pure ?_
  dsimp only
  refine wpAny_bind (wpAny_pure ?_)
  refine ifNo (by simp) ?_
  rw [hr]
  rw [if_pos (by rfl)]
  refine wpAny_bind (wpAny_pure ?_)
  dsimp only
  refine wpAny_bind (wpAny_holding (P.fields ?_))
  refine ifNo (by simp) ?_
  refine wpAny_bind ?_
  unfold newList
  refine wpAny_newObj_type ?_
  exact wpAny_pure h
end

end
section
open PySem.Builtin.Re
theorem entry_sub_loop : entryFor table "re.Pattern.sub.loop" = some Builtin.«re.Pattern.sub.loop» := entryFor_of_tree (by kernel_rfl)
theorem entry_sub : entryFor table "re.Pattern.sub" = some Builtin.«re.Pattern.sub» := entryFor_of_tree (by kernel_rfl)
theorem entry_search : entryFor table "re.Pattern.search" = some Builtin.«re.Pattern.search» := entryFor_of_tree (by kernel_rfl)
theorem quiet_sub_loop (args : Args) : (Code.builtin "re.Pattern.sub.loop" args).quiet = true := Code.quiet_builtin args (by decide +kernel)
theorem slot_search : Slot "re.Pattern" "search" "re.Pattern.search" :=
  .of (owner := "re.Pattern") (n := "search") (by rw [typeLookup_type, builtinLookup_eq_fast]; kernel_rfl) (by decide +kernel) (by decide +kernel) (by decide +kernel)
    (by first | exact .inl (by decide +kernel) | exact .inr (by decide +kernel)) (by rw [isSubtype_type]; kernel_rfl)
theorem slot_sub : Slot "re.Pattern" "sub" "re.Pattern.sub" :=
  .of (owner := "re.Pattern") (n := "sub") (by rw [typeLookup_type, builtinLookup_eq_fast]; kernel_rfl) (by decide +kernel) (by decide +kernel) (by decide +kernel)
    (by first | exact .inl (by decide +kernel) | exact .inr (by decide +kernel)) (by rw [isSubtype_type]; kernel_rfl)
theorem type_search : typeOf (.builtin "re.Pattern.search") = pure (.type "method_descriptor") := by show builtinType _ = _; rw [builtinType_eq_fast]; kernel_rfl
theorem type_sub : typeOf (.builtin "re.Pattern.sub") = pure (.type "method_descriptor") := by show builtinType _ = _; rw [builtinType_eq_fast]; kernel_rfl
theorem plainAttrs_pat : PlainAttrs "re.Pattern" :=
  ⟨⟨"object.__getattribute__", by rw [typeLookup_type, builtinLookup_eq_fast]; kernel_rfl, by decide +kernel⟩, by rw [typeLookup_type, builtinLookup_eq_fast]; kernel_rfl⟩
theorem call_str (r : Str) (tr : Tok) : specialOf (.str r tr) "__call__" = pure none := by
  show typeLookup (.type "str") "__call__" = _
  rw [typeLookup_type, builtinLookup_eq_fast]; kernel_rfl
theorem args_search (a b : Value) : argsOk "re.Pattern.search" ⟨[a, b], []⟩ := by
  unfold argsOk; kernel_rfl
theorem args_sub (a b c : Value) : argsOk "re.Pattern.sub" ⟨[a, b, c], []⟩ := by
  unfold argsOk; kernel_rfl

end
section
open PySem.Builtin.Re
def subPieces (r : Str) (x : Array Nat) (f : Nat → Option (Nat × Nat)) : Nat → Nat → List Str
  | 0, _ => []
  | k + 1, p => match f p with
    | none => if p < x.size then [⟨x.extract p x.size⟩] else []
    | some (b, e) => (if p < b then [⟨x.extract p b⟩] else []) ++ r :: subPieces r x f k e
section
variable {prog : Program} {w : World} {A : Around} {R : Result → Shared → Prop}
theorem strs_snoc {vs : List Value} {ys : List Str} (h : StrsAre vs ys) (y : Str) (t : Tok) : StrsAre (vs ++ [.str y t]) (ys ++ [y]) := by
  induction h with
  | nil => exact .cons _ _ .nil
  | cons z t' _ ih => exact .cons z t' ih
theorem push_piece {base : Heap} {D : Addr} {vs : List Value} {n : Nat} {v : Value} {s : Shared} {E : Value → Shared → Prop} {Q : Unit → Shared → Prop} (hb : ∀ b o, base.get? b = some o → s.heap.get? b = some o) (hD : base.get? D = none) (hl : s.heap.get? D = some (W.listOf vs.toArray n)) (hsz : vs.length ≤ 10000)
    (h : ∀ h', (∀ b o, base.get? b = some o → h'.get? b = some o) → h'.get? D = some (W.listOf (vs ++ [v]).toArray (n + 1)) → Q () { s with heap := h' }) : wpAny (model prog w) A (updateSeq D (·.push v)) Q E s := by
  have hz : (10001 : Nat) ≤ sizeLine := by decide
  refine wpAny_updateSeq hl rfl (h _ (fun b o e => ?_) ?_) (by show vs.toArray.size ≤ sizeLine; rw [List.size_toArray]; omega) (by show (vs.toArray.push v).size ≤ sizeLine + 1; rw [Array.size_push, List.size_toArray]; omega)
  · rw [Heap.get?_update_ne _ _ _ _ (fun q => by rw [q, hD] at e; cases e)]
    exact hb b o e
  · refine (Heap.get?_update_self _ hl ?_).trans ?_
    · rfl
    · show some (Obj.mapSeq _ _) = _
      unfold Obj.mapSeq
      show some ({ cls := .type "list", data := .seq (vs.toArray.push v) (if (vs.toArray.push v).size == vs.toArray.size then n else n + 1) } : Obj) = _
      rw [if_neg (by simp), List.push_toArray]
theorem ifYes {α : Type} {Mo : Model} {s : Shared} {E : Value → Shared → Prop} {c : Prop} [Decidable c] {a b : Sem α} {Q : α → Shared → Prop} (hc : c) (h : wpAny Mo A a Q E s) : wpAny Mo A (if c then a else b) Q E s := by rw [if_pos hc]; exact h
theorem litOk {Mo : Model} {s : Shared} {E : Value → Shared → Prop} {r : Str} {tr : Tok} {Q : Unit → Shared → Prop} (h : Q () s) : wpAny Mo A (reLiteralCannotBeTurned (.str r tr)) Q E s := by
  unfold reLiteralCannotBeTurned
  refine wpAny_bind (show wpAny Mo A (pure (some r)) _ E s from wpAny_pure ?_)
  refine ifNo (by simp) (wpAny_pure h)
theorem seqIt {Mo : Model} {s : Shared} {E : Value → Shared → Prop} {D : Addr} {its : Array Value} {n : Nat} {Q : Option (Array Value) → Shared → Prop} (hl : s.heap.get? D = some (W.listOf its n)) (h : Q (some its) s) : wpAny Mo A (seqItems? (.ref D)) Q E s := by
  show wpAny Mo A (do match (← load D).data with
    | .seq xs _ => pure (some xs)
    | _ => pure none) _ E s
  exact wpAny_bind (wpAny_load hl (wpAny_pure h))
theorem listOf_is6 {h : Heap} {D : Addr} {ys : List Value} {n : Nat} (e : h.get? D = some (W.listOf ys.toArray n)) : h.IsList D ys.toArray := ⟨_, e, rfl, _, rfl⟩
theorem slice_str {x : Array Nat} {b e : Nat} {Mo : Model} {s : Shared} {E : Value → Shared → Prop} {Q : Value → Shared → Prop} (hx : x.size ≤ 1000) (h : ∀ t k, Q (.str ⟨x.extract b e⟩ t) { s with toks := k }) : wpAny Mo A (reSlice x 0 b e) Q E s := by
  unfold reSlice
  rw [if_pos (show ((0 : Nat) == 0) = true by decide)]
  refine wpAny_mkStr (h _ _) ?_
  have hz : (1000 : Nat) ≤ sizeLine := by decide
  show (x.extract b e).size ≤ sizeLine
  rw [Array.size_extract]
  omega
theorem again_of {prog : Program} {w : World} {A : Around} {R : Result → Shared → Prop} {id : String} {b : Builtin} {args : Args} {s : Shared} (e : entryFor table id = some b)
    (h : wpAny (model prog w) (A.under (.builtin id args)) (b args) (fun fin s' => match fin with | .done f => R (.ok f) s' | .again c' => c'.quiet = true ∧ codeAny (model prog w) A c' R s') (fun e s' => R (.error e) s') s) :
    codeAny (model prog w) A (.builtin id args) R s := by
  refine codeAny_of_tree ?_
  show wpAny _ _ (match entryFor table id with | some b => b args | none => unsupported ((withoutEnding? id "#data").getD id)) _ _ s
  rw [e]; exact h
theorem again_loop {prog : Program} {w : World} {A : Around} {R : Result → Shared → Prop} {args : Args} {s : Shared}
    (h : wpAny (model prog w) (A.under (.builtin "re.Pattern.sub.loop" args)) (Builtin.«re.Pattern.sub.loop» args) (fun fin s' => match fin with | .done f => R (.ok f) s' | .again c' => c'.quiet = true ∧ codeAny (model prog w) A c' R s') (fun e s' => R (.error e) s') s) :
    codeAny (model prog w) A (.builtin "re.Pattern.sub.loop" args) R s := again_of entry_sub_loop h
theorem sub_loop {a : Addr} {code : Array Nat} {r x : Str} {tr tx : Tok} {base : Heap} {D : Addr} {f : Nat → Option (Nat × Nat)} (P : IsPat base a code) (hD : base.get? D = none) (hx : x.cps.size ≤ 1000)
    (hf : ∀ p, p ≤ x.cps.size → Finds code x.cps p (f p)) (hp : ∀ p b e, p ≤ x.cps.size → f p = some (b, e) → p ≤ b ∧ b < e ∧ e ≤ x.cps.size) {total : List Str} (ht : (total.map (·.length)).sum ≤ 16777216) (htl : total.length ≤ 10000) :
    ∀ (k p m n : Nat) (vs : List Value) (ys : List Str) (s : Shared), x.cps.size + 1 ≤ p + k → p ≤ x.cps.size → (∀ b o, base.get? b = some o → s.heap.get? b = some o) → s.heap.get? D = some (W.listOf vs.toArray m) → StrsAre vs ys → total = ys ++ subPieces r x.cps f k p →
      (∀ h' k' t', (∀ b o, base.get? b = some o → h'.get? b = some o) → R (.ok (.ret (.str (Txt.join ⟨#[]⟩ total) t'))) { s with heap := h', toks := k' }) →
      codeAny (model prog w) A (.builtin "re.Pattern.sub.loop" ⟨[.ref a, .str x tx, .str r tr, rawInt 0, rawInt 0, rawInt (n : Int), rawInt (p : Int), rawInt (p : Int), .bool false, .ref D, .bool false], []⟩) R s
  | 0, p, m, n, vs, ys, s, hk, hpx, hb, hl, hi, he, hR => by omega
  | k + 1, p, m, n, vs, ys, s, hk, hpx, hb, hl, hi, he, hR => by
    refine again_loop ?_
    unfold Builtin.«re.Pattern.sub.loop» rawInt
    (try dsimp only)
    refine wpAny_bind (IsPat.fields (P.keeps hb) ?_)
    (try dsimp only)
    refine ifYes (by decide) ?_
    refine wpAny_bind (litOk ?_)
    refine wpAny_bind (ifNo (by simp) ?_)
    have hF := hf p hpx
    show wpAny _ _ (reRunToEnd (Sre.forSearch code x.cps 0 p x.cps.size false)) _ _ s
    have hz : (10001 : Nat) ≤ sizeLine := by decide
    cases hfp : f p with
    | none =>
      rw [hfp] at hF
      refine runFinds hF ?_
      have hsp : subPieces r x.cps f (k + 1) p = if p < x.cps.size then [⟨x.cps.extract p x.cps.size⟩] else [] := by
        show (match f p with | none => _ | some (b, e) => _) = _
        rw [hfp]
      rw [hsp] at he
      dsimp only
      have fin : ∀ (m' : Nat) (vs' : List Value) (s' : Shared), (∀ h' k' t', (∀ b o, base.get? b = some o → h'.get? b = some o) → R (.ok (.ret (.str (Txt.join ⟨#[]⟩ total) t'))) { s' with heap := h', toks := k' }) →
          (∀ b o, base.get? b = some o → s'.heap.get? b = some o) → s'.heap.get? D = some (W.listOf vs'.toArray m') → StrsAre vs' total →
          wpAny (model prog w) (A.under (Code.builtin "re.Pattern.sub.loop" ⟨[Value.ref a, Value.str x tx, Value.str r tr, Value.int 0 0, Value.int 0 0, Value.int n 0, Value.int p 0, Value.int p 0, Value.bool false, Value.ref D, Value.bool false], []⟩)) (do
            let joiner ← reSlice x.cps 0 0 0
            let text ← if ((← seqItems? (.ref D)).getD #[]).isEmpty then pure joiner
              else call (.builtin "str.join") [joiner, .ref D]
            ret text) (fun fin s' => match fin with | .done f => R (.ok f) s' | .again c' => c'.quiet = true ∧ codeAny (model prog w) A c' R s') (fun e s' => R (.error e) s') s' := by
        intro m' vs' s' hR' hb' hl' hi'
        refine wpAny_bind (slice_str hx fun t k' => ?_)
        refine wpAny_bind (seqIt hl' ?_)
        have e0 : (⟨x.cps.extract 0 0⟩ : Str) = ⟨#[]⟩ := by simp
        by_cases hem : vs' = []
        · subst hem
          cases hi'
          refine ifYes (by rfl) (wpAny_bind (wpAny_pure ?_))
          rw [e0]
          exact wpAny_pure (hR' _ _ _ hb')
        · refine ifNo (by simpa using hem) ?_
          refine wpAny_bind (join_list (s := { s' with toks := k' }) (listOf_is6 hl') hi' ?_ fun t' k'' => ?_)
          · rw [e0]
            show _ + _ * 0 ≤ _
            omega
          · rw [e0]
            exact wpAny_pure (hR' _ _ _ hb')
      by_cases hlt : p < x.cps.size
      · refine ifYes (show p < x.cps.size from hlt) ?_
        rw [if_pos hlt] at he
        refine wpAny_bind (slice_str hx fun t k' => ?_)
        have hlen : vs.length ≤ 10000 := by
          have := hi.length
          rw [he, List.length_append] at htl
          omega
        refine wpAny_bind (push_piece hb hD hl hlen fun h' hb' hl' => ?_)
        exact fin _ _ _ (fun h'' k'' t'' hb'' => hR _ _ _ hb'') hb' hl' (he ▸ strs_snoc hi _ _)
      · refine ifNo (show ¬ p < x.cps.size from hlt) ?_
        rw [if_neg hlt, List.append_nil] at he
        exact fin _ _ _ hR hb hl (he ▸ hi)
    | some q =>
      obtain ⟨b, e⟩ := q
      rw [hfp] at hF
      refine runFinds hF ?_
      rintro mm rfl rfl
      dsimp only
      obtain ⟨hpb, hbe, hes⟩ := hp p _ _ hpx hfp
      have hsp : subPieces r x.cps f (k + 1) p = (if p < mm.start then [⟨x.cps.extract p mm.start⟩] else []) ++ r :: subPieces r x.cps f k mm.handed := by
        show (match f p with | none => _ | some (b, e) => _) = _
        rw [hfp]
      rw [hsp] at he
      have hne : (mm.handed == mm.start) = false := by simpa using (by omega : mm.handed ≠ mm.start)
      have mid : ∀ (m' : Nat) (vs' : List Value) (ys' : List Str) (s' : Shared), (∀ h' k' t', (∀ b o, base.get? b = some o → h'.get? b = some o) → R (.ok (.ret (.str (Txt.join ⟨#[]⟩ total) t'))) { s' with heap := h', toks := k' }) →
          (∀ b o, base.get? b = some o → s'.heap.get? b = some o) → s'.heap.get? D = some (W.listOf vs'.toArray m') → StrsAre vs' ys' → total = ys' ++ r :: subPieces r x.cps f k mm.handed →
          wpAny (model prog w) (A.under (Code.builtin "re.Pattern.sub.loop" ⟨[Value.ref a, Value.str x tx, Value.str r tr, Value.int 0 0, Value.int 0 0, Value.int n 0, Value.int p 0, Value.int p 0, Value.bool false, Value.ref D, Value.bool false], []⟩)) (do
            updateSeq D fun x => x.push (Value.str r tr)
            again (Code.builtin "re.Pattern.sub.loop" ⟨[Value.ref a, Value.str x tx, Value.str r tr, Value.int 0 0, Value.int 0 0, Value.int (↑n + 1) 0, Value.int (↑mm.handed) 0, Value.int (↑mm.handed) 0, Value.bool (mm.handed == mm.start), Value.ref D, Value.bool false], []⟩))
            (fun fin s' => match fin with | .done f => R (.ok f) s' | .again c' => c'.quiet = true ∧ codeAny (model prog w) A c' R s') (fun e s' => R (.error e) s') s' := by
        intro m' vs' ys' s' hR' hb' hl' hi' he'
        have hlen : vs'.length ≤ 10000 := by
          have := hi'.length
          rw [he', List.length_append] at htl
          omega
        refine wpAny_bind (push_piece hb' hD hl' hlen fun h' hb'' hl'' => ?_)
        refine wpAny_pure ⟨quiet_sub_loop _, ?_⟩
        rw [hne]
        exact sub_loop P hD hx hf hp ht htl k mm.handed (m' + 1) (n + 1) (vs' ++ [.str r tr]) (ys' ++ [r]) { s' with heap := h' } (by omega) hes hb'' hl'' (strs_snoc hi' _ _) (by rw [he', List.append_assoc]; rfl) hR'
      by_cases hlt : p < mm.start
      · refine ifYes (show p < mm.start from hlt) ?_
        rw [if_pos hlt] at he
        refine wpAny_bind (slice_str hx fun t k' => ?_)
        have hlen : vs.length ≤ 10000 := by
          have := hi.length
          rw [he, List.length_append] at htl
          omega
        refine wpAny_bind (push_piece hb hD hl hlen fun h' hb' hl' => ?_)
        refine ifYes (by decide) (wpAny_bind (wpAny_pure (ifYes (by rfl) ?_)))
        exact mid _ _ _ _ (fun h'' k'' t'' hb'' => hR _ _ _ hb'') hb' hl' (strs_snoc hi _ _) (by rw [he, List.append_assoc]; rfl)
      · refine ifNo (show ¬ p < mm.start from hlt) ?_
        rw [if_neg hlt, List.nil_append] at he
        refine ifYes (by decide) (wpAny_bind (wpAny_pure (ifYes (by rfl) ?_)))
        exact mid _ _ _ _ hR hb hl hi he
end

end
section
def ff (P : Nat → Bool) : Nat → Nat → Option Nat
  | 0, _ => none
  | k + 1, p => if P p = true then some p else ff P k (p + 1)
theorem ff_some {P : Nat → Bool} : ∀ {k p j : Nat}, ff P k p = some j → p ≤ j ∧ j < p + k ∧ P j = true ∧ ∀ i, p ≤ i → i < j → P i = false
  | 0, _, _, h => nomatch h
  | k + 1, p, j, h => by
    unfold ff at h
    by_cases hp : P p = true
    · rw [if_pos hp] at h
      cases h
      exact ⟨Nat.le_refl _, by omega, hp, fun i h1 h2 => by omega⟩
    · rw [if_neg hp] at h
      obtain ⟨h1, h2, h3, h4⟩ := ff_some h
      refine ⟨by omega, by omega, h3, fun i h5 h6 => ?_⟩
      by_cases e : i = p
      · rw [e]; simpa using hp
      · exact h4 i (by omega) h6
theorem ff_none {P : Nat → Bool} : ∀ {k p : Nat}, ff P k p = none → ∀ i, p ≤ i → i < p + k → P i = false
  | 0, _, _, i, h1, h2 => by omega
  | k + 1, p, h, i, h1, h2 => by
    unfold ff at h
    by_cases hp : P p = true
    · rw [if_pos hp] at h; cases h
    · rw [if_neg hp] at h
      by_cases e : i = p
      · rw [e]; simpa using hp
      · exact ff_none h i (by omega) (by omega)
def nl (x : Array Nat) (i : Nat) : Bool := x.getD i 0 == 10 || x.getD i 0 == 13
def f2 (x : Array Nat) (p : Nat) : Option (Nat × Nat) := (ff (nl x) (x.size - p) p).map fun j => if x.getD j 0 = 13 ∧ j + 1 < x.size ∧ x.getD (j + 1) 0 = 10 then (j, j + 2) else (j, j + 1)
def hit (x : Array Nat) (i : Nat) : Bool := (decide (i = 0) || x.getD (i - 1) 0 == 10) && decide (i < x.size) && x.getD i 0 == 46
def f1 (x : Array Nat) (p : Nat) : Option (Nat × Nat) := (ff (hit x) (x.size - p) p).map fun j => (j, j + 1)
theorem nl_no {x : Array Nat} {i : Nat} (h : nl x i = false) : x.getD i 0 ≠ 10 ∧ x.getD i 0 ≠ 13 := by
  unfold nl at h
  rw [Bool.or_eq_false_iff] at h
  exact ⟨beq_eq_false_iff_ne.mp h.1, beq_eq_false_iff_ne.mp h.2⟩
theorem nl_yes {x : Array Nat} {i : Nat} (h : nl x i = true) : x.getD i 0 = 10 ∨ x.getD i 0 = 13 := by
  unfold nl at h
  rw [Bool.or_eq_true] at h
  rcases h with h | h
  · exact .inl (eq_of_beq h)
  · exact .inr (eq_of_beq h)
theorem hit_iff {x : Array Nat} {i : Nat} : hit x i = true ↔ Hit1 x i := by
  unfold hit Hit1
  simp only [Bool.and_eq_true, Bool.or_eq_true, decide_eq_true_eq, beq_iff_eq, and_assoc]
theorem f2_finds (x : Array Nat) (p : Nat) (hp : p ≤ x.size) : Finds code2 x p (f2 x p) := by
  unfold f2
  cases e : ff (nl x) (x.size - p) p with
  | none => exact none2 fun i h1 h2 => nl_no (ff_none e i h1 (by omega))
  | some j =>
    obtain ⟨h1, h2, h3, h4⟩ := ff_some e
    have h3' := nl_yes h3
    show Finds code2 x p (some (if x.getD j 0 = 13 ∧ j + 1 < x.size ∧ x.getD (j + 1) 0 = 10 then (j, j + 2) else (j, j + 1)))
    refine search2 (by omega) h1 h3' (fun i h5 h6 => nl_no (h4 i h5 h6)) fun m hm => ?_
    by_cases hc : x.getD j 0 = 13 ∧ j + 1 < x.size ∧ x.getD (j + 1) 0 = 10
    · rw [if_pos hc]
      exact match2_crlf hm hc.2.1 hc.1 hc.2.2
    · rw [if_neg hc]
      rcases h3' with h | h
      · exact match2_lf (fs := []) hm (by omega) h
      · refine match2_cr hm (by omega) h ?_
        by_cases hl : j + 1 < x.size
        · exact .inr fun q => hc ⟨h, hl, q⟩
        · exact .inl (by omega)
theorem f2_range {x : Array Nat} {p b e : Nat} (_hp : p ≤ x.size) (h : f2 x p = some (b, e)) : p ≤ b ∧ b < e ∧ e ≤ x.size := by
  unfold f2 at h
  cases q : ff (nl x) (x.size - p) p with
  | none => rw [q] at h; cases h
  | some j =>
    obtain ⟨h1, h2, h3, h4⟩ := ff_some q
    rw [q] at h
    have h : some (if x.getD j 0 = 13 ∧ j + 1 < x.size ∧ x.getD (j + 1) 0 = 10 then (j, j + 2) else (j, j + 1)) = some (b, e) := h
    by_cases hc : x.getD j 0 = 13 ∧ j + 1 < x.size ∧ x.getD (j + 1) 0 = 10
    · rw [if_pos hc] at h
      have := Option.some.inj h
      cases this
      have := hc.2.1
      omega
    · rw [if_neg hc] at h
      have := Option.some.inj h
      cases this
      omega
theorem f1_finds (x : Array Nat) (hx : x.size ≤ 2 ^ 40) (p : Nat) (_hp : p ≤ x.size) : Finds code1 x p (f1 x p) := by
  unfold f1
  cases e : ff (hit x) (x.size - p) p with
  | none =>
    refine none1 hx fun i h1 h2 => ?_
    have h3 := ff_none e i h1 (by have := h2.2.1; omega)
    rw [hit_iff.mpr h2] at h3; cases h3
  | some j =>
    obtain ⟨h1, h2, h3, h4⟩ := ff_some e
    refine search1 (hit_iff.mp h3) h1 hx fun i h5 h6 h7 => ?_
    have := h4 i h5 h6
    rw [hit_iff.mpr h7] at this; cases this
theorem f1_range {x : Array Nat} {p b e : Nat} (_hp : p ≤ x.size) (h : f1 x p = some (b, e)) : p ≤ b ∧ b < e ∧ e ≤ x.size := by
  unfold f1 at h
  cases q : ff (hit x) (x.size - p) p with
  | none => rw [q] at h; cases h
  | some j =>
    obtain ⟨h1, h2, h3, h4⟩ := ff_some q
    rw [q] at h
    have h : some (j, j + 1) = some (b, e) := h
    cases Option.some.inj h
    omega
/- what the replacements make -/
def cat (ps : List Str) : List Nat := ps.flatMap (·.cps.toList)
theorem cat_join (ps : List Str) : Txt.join ⟨#[]⟩ ps = ⟨(cat ps).toArray⟩ := by
  have key : ∀ (rest : List Str) (acc : Array Nat), (rest.foldl (fun acc p => acc ++ (#[] : Array Nat) ++ p.cps) acc).toList = acc.toList ++ cat rest := by
    intro rest
    induction rest with
    | nil => intro acc; simp [cat]
    | cons p r ih => intro acc; rw [List.foldl_cons, ih]; simp [cat]
  apply Str.ext'
  apply Array.toList_inj.mp
  cases ps with
  | nil => rfl
  | cons p r => exact (key r p.cps).trans rfl
def crlf : List Nat → List Nat
  | [] => []
  | 13 :: 10 :: r => 13 :: 10 :: crlf r
  | c :: r => if c = 10 ∨ c = 13 then 13 :: 10 :: crlf r else c :: crlf r
theorem crlf_plain {c : Nat} {r : List Nat} (h1 : c ≠ 10) (h2 : c ≠ 13) : crlf (c :: r) = c :: crlf r := by
  rw [crlf]
  · rw [if_neg (by rintro (q | q); exact h1 q; exact h2 q)]
  · intro r' e; exact absurd e h2
theorem crlf_lf (r : List Nat) : crlf (10 :: r) = 13 :: 10 :: crlf r := by
  rw [crlf]
  · rw [if_pos (.inl rfl)]
  · intro r' e; cases e
theorem crlf_crlf (r : List Nat) : crlf (13 :: 10 :: r) = 13 :: 10 :: crlf r := by rw [crlf]
theorem crlf_cr {d : Nat} {r : List Nat} (h : d ≠ 10) : crlf (13 :: d :: r) = 13 :: 10 :: crlf (d :: r) := by
  rw [crlf]
  · rw [if_pos (.inr rfl)]
  · intro r' _ e; cases e; exact h rfl
theorem crlf_cr_end : crlf [13] = [13, 10] := by
  rw [crlf]
  · rw [if_pos (.inr rfl)]; rfl
  · intro r' _ e; cases e
theorem drop_at {x : Array Nat} {p : Nat} (h : p < x.size) : x.toList.drop p = x.getD p 0 :: x.toList.drop (p + 1) := by
  have h' : p < x.toList.length := by simpa using h
  rw [List.drop_eq_getElem_cons h']
  simp [Array.getD, h]
theorem extract_at {x : Array Nat} {p j : Nat} (h : p < j) (hj : j ≤ x.size) : (x.extract p j).toList = x.getD p 0 :: (x.extract (p + 1) j).toList := by
  have h1 : p < x.size := by omega
  simp only [Array.toList_extract]
  rw [List.extract_eq_take_drop, List.extract_eq_take_drop, drop_at h1, show j - p = (j - (p + 1)) + 1 by omega, List.take_succ_cons]
theorem crlf_run {x : Array Nat} {j : Nat} (hj : j ≤ x.size) : ∀ (k p : Nat), p + k = j → (∀ i, p ≤ i → i < j → nl x i = false) → crlf (x.toList.drop p) = (x.extract p j).toList ++ crlf (x.toList.drop j)
  | 0, p, h, _ => by
    have e : p = j := by omega
    subst e
    simp
  | k + 1, p, h, hn => by
    have hp : p < x.size := by omega
    rw [extract_at (by omega) hj, drop_at hp, List.cons_append, ← crlf_run hj k (p + 1) (by omega) fun i h1 h2 => hn i (by omega) h2]
    obtain ⟨n1, n2⟩ := nl_no (hn p (Nat.le_refl _) (by omega))
    exact crlf_plain n1 n2
theorem cat_app (a b : List Str) : cat (a ++ b) = cat a ++ cat b := by simp [cat]
theorem cat_if {c : Prop} [Decidable c] {x : Array Nat} {p j : Nat} (h : ¬ c → x.extract p j = #[]) : cat (if c then [⟨x.extract p j⟩] else []) = (x.extract p j).toList := by
  by_cases hc : c
  · rw [if_pos hc]; simp [cat]
  · rw [if_neg hc, h hc]; rfl
theorem cat2 (x : Array Nat) : ∀ (k p : Nat), x.size + 1 ≤ p + k → p ≤ x.size → cat (subPieces ⟨#[13, 10]⟩ x (f2 x) k p) = crlf (x.toList.drop p)
  | 0, p, h1, h2 => by omega
  | k + 1, p, h1, h2 => by
    unfold subPieces
    cases hf : f2 x p with
    | none =>
      dsimp only
      rw [cat_if (fun hc => by simp; omega)]
      have hn : ∀ i, p ≤ i → i < x.size → nl x i = false := by
        unfold f2 at hf
        cases e : ff (nl x) (x.size - p) p with
        | none => exact fun i h3 h4 => ff_none e i h3 (by omega)
        | some j => rw [e] at hf; cases hf
      rw [crlf_run (Nat.le_refl _) (x.size - p) p (by omega) hn]
      rw [show x.toList.drop x.size = [] by simp]
      simp [crlf]
    | some q =>
      obtain ⟨b, e⟩ := q
      dsimp only
      obtain ⟨r1, r2, r3⟩ := f2_range h2 hf
      rw [cat_app, cat_if (fun hc => by simp; omega)]
      show _ ++ ([13, 10] ++ cat (subPieces ⟨#[13, 10]⟩ x (f2 x) k e)) = _
      rw [cat2 x k e (by omega) r3]
      unfold f2 at hf
      cases hj : ff (nl x) (x.size - p) p with
      | none => rw [hj] at hf; cases hf
      | some j =>
        obtain ⟨g1, g2, g3, g4⟩ := ff_some hj
        have g3 := nl_yes g3
        rw [hj] at hf
        have hf : some (if x.getD j 0 = 13 ∧ j + 1 < x.size ∧ x.getD (j + 1) 0 = 10 then (j, j + 2) else (j, j + 1)) = some (b, e) := hf
        by_cases hc : x.getD j 0 = 13 ∧ j + 1 < x.size ∧ x.getD (j + 1) 0 = 10
        · rw [if_pos hc] at hf
          cases Option.some.inj hf
          rw [crlf_run (x := x) (by omega) (b - p) p (by omega) g4]
          congr 1
          rw [drop_at (p := b) (by omega), drop_at (p := b + 1) (by omega), hc.1, hc.2.2, crlf_crlf]
          rfl
        · rw [if_neg hc] at hf
          cases Option.some.inj hf
          rw [crlf_run (x := x) (by omega) (b - p) p (by omega) g4]
          congr 1
          rw [drop_at (p := b) (by omega)]
          rcases g3 with g3 | g3
          · rw [g3, crlf_lf]; rfl
          · by_cases hl : b + 1 < x.size
            · have hne : x.getD (b + 1) 0 ≠ 10 := fun q => hc ⟨g3, hl, q⟩
              rw [g3, drop_at hl, crlf_cr hne]; rfl
            · rw [g3, show x.toList.drop (b + 1) = [] by simp; omega, crlf_cr_end]; rfl

end
section
def dots : Nat → List Nat → List Nat
  | _, [] => []
  | prev, c :: r => if prev = 10 ∧ c = 46 then 46 :: 46 :: dots 46 r else c :: dots c r
theorem dots_no {prev c : Nat} {r : List Nat} (h : ¬ (prev = 10 ∧ c = 46)) : dots prev (c :: r) = c :: dots c r := by rw [dots, if_neg h]
theorem dots_yes {r : List Nat} : dots 10 (46 :: r) = 46 :: 46 :: dots 46 r := by rw [dots, if_pos ⟨rfl, rfl⟩]
def prevAt (x : Array Nat) (p : Nat) : Nat := if p = 0 then 10 else x.getD (p - 1) 0
theorem hit_prev {x : Array Nat} {p : Nat} (hp : p < x.size) : hit x p = true ↔ prevAt x p = 10 ∧ x.getD p 0 = 46 := by
  rw [hit_iff]
  unfold Hit1 prevAt
  by_cases h : p = 0
  · subst h; simp [hp]
  · rw [if_neg h]; simp only [h, false_or, hp, true_and]
theorem prev_succ (x : Array Nat) (p : Nat) : prevAt x (p + 1) = x.getD p 0 := by
  unfold prevAt
  rw [if_neg (Nat.succ_ne_zero p)]; rfl
theorem dots_run {x : Array Nat} {j : Nat} (hj : j ≤ x.size) : ∀ (k p : Nat), p + k = j → (∀ i, p ≤ i → i < j → hit x i = false) → dots (prevAt x p) (x.toList.drop p) = (x.extract p j).toList ++ dots (prevAt x j) (x.toList.drop j)
  | 0, p, h, _ => by
    have e : p = j := by omega
    subst e
    simp
  | k + 1, p, h, hn => by
    have hp : p < x.size := by omega
    rw [extract_at (by omega) hj, drop_at hp, List.cons_append, ← dots_run hj k (p + 1) (by omega) fun i h1 h2 => hn i (by omega) h2]
    have h0 : ¬ (prevAt x p = 10 ∧ x.getD p 0 = 46) := fun q => by
      have := hn p (Nat.le_refl _) (by omega)
      rw [(hit_prev hp).mpr q] at this; cases this
    rw [prev_succ]
    exact dots_no h0
theorem cat1 (x : Array Nat) : ∀ (k p : Nat), x.size + 1 ≤ p + k → p ≤ x.size → cat (subPieces ⟨#[46, 46]⟩ x (f1 x) k p) = dots (prevAt x p) (x.toList.drop p)
  | 0, p, h1, h2 => by omega
  | k + 1, p, h1, h2 => by
    unfold subPieces
    cases hf : f1 x p with
    | none =>
      dsimp only
      rw [cat_if (fun hc => by simp; omega)]
      have hn : ∀ i, p ≤ i → i < x.size → hit x i = false := by
        unfold f1 at hf
        cases e : ff (hit x) (x.size - p) p with
        | none => exact fun i h3 h4 => ff_none e i h3 (by omega)
        | some j => rw [e] at hf; cases hf
      rw [dots_run (Nat.le_refl _) (x.size - p) p (by omega) hn]
      rw [show x.toList.drop x.size = [] by simp]
      simp [dots]
    | some q =>
      obtain ⟨b, e⟩ := q
      dsimp only
      obtain ⟨r1, r2, r3⟩ := f1_range h2 hf
      rw [cat_app, cat_if (fun hc => by simp; omega)]
      show _ ++ ([46, 46] ++ cat (subPieces ⟨#[46, 46]⟩ x (f1 x) k e)) = _
      rw [cat1 x k e (by omega) r3]
      unfold f1 at hf
      cases hj : ff (hit x) (x.size - p) p with
      | none => rw [hj] at hf; cases hf
      | some j =>
        obtain ⟨g1, g2, g3, g4⟩ := ff_some hj
        rw [hj] at hf
        have hf : some (j, j + 1) = some (b, e) := hf
        cases Option.some.inj hf
        have hb : b < x.size := by omega
        have g3 := (hit_prev hb).mp g3
        rw [dots_run (x := x) (by omega) (b - p) p (by omega) g4]
        congr 1
        rw [prev_succ, drop_at hb, g3.1, g3.2, dots_yes]
        rfl
/- rows -/
def Plain (r : List Nat) : Prop := ∀ c ∈ r, c = 45 ∨ c = 46
theorem crlf_app {r : List Nat} (h : Plain r) (t : List Nat) : crlf (r ++ t) = r ++ crlf t := by
  induction r with
  | nil => rfl
  | cons c r ih =>
    have hc := h c List.mem_cons_self
    rw [List.cons_append, crlf_plain (by omega) (by omega), ih fun d hd => h d (List.mem_cons_of_mem _ hd)]
    rfl
theorem crlf_cr_any {t : List Nat} (h : t.head? ≠ some 10) : crlf (13 :: t) = 13 :: 10 :: crlf t := by
  cases t with
  | nil => exact crlf_cr_end
  | cons d r => exact crlf_cr (fun e => h (by rw [e]; rfl))
def joinG (sep : List Nat) : List (List Nat) → List Nat
  | [] => []
  | [r] => r
  | r :: rs => r ++ sep ++ joinG sep rs
theorem joinG_cons {sep r : List Nat} {rs : List (List Nat)} (h : rs ≠ []) : joinG sep (r :: rs) = r ++ sep ++ joinG sep rs := by
  cases rs with
  | nil => exact absurd rfl h
  | cons a b => rfl
def crlf2 : List Nat := [13, 10, 13, 10]
theorem head_join {sep : List Nat} {rs : List (List Nat)} (h : ∀ r ∈ rs, Plain r) (hs : sep.head? ≠ some 10) (hs2 : sep ≠ []) : (joinG sep rs).head? ≠ some 10 := by
  cases rs with
  | nil => simp [joinG]
  | cons r rs =>
    have hr := h r List.mem_cons_self
    cases rs with
    | nil =>
      cases r with
      | nil => simp [joinG]
      | cons c r =>
        have := hr c List.mem_cons_self
        show some c ≠ some 10
        intro e; cases e; omega
    | cons a b =>
      rw [joinG_cons (by simp)]
      cases r with
      | nil =>
        cases sep with
        | nil => exact absurd rfl hs2
        | cons d e => simpa using hs
      | cons c r =>
        have := hr c List.mem_cons_self
        show some c ≠ some 10
        intro e; cases e; omega
theorem crlf_join {e : List Nat} (he : e = [10] ∨ e = [13] ∨ e = [13, 10]) : ∀ {rs : List (List Nat)}, (∀ r ∈ rs, Plain r) → crlf (joinG (e ++ e) rs) = joinG crlf2 rs
  | [], _ => rfl
  | [r], h => by
    have := crlf_app (h r List.mem_cons_self) []
    rw [List.append_nil] at this
    exact this.trans (by rw [show crlf [] = [] from rfl, List.append_nil]; rfl)
  | r :: a :: b, h => by
    have hr := h r List.mem_cons_self
    have ht : ∀ r ∈ a :: b, Plain r := fun q hq => h q (List.mem_cons_of_mem _ hq)
    have hd := head_join (sep := e ++ e) ht
    rw [joinG_cons (rs := a :: b) (by simp), joinG_cons (rs := a :: b) (by simp), ← crlf_join he ht, List.append_assoc, crlf_app hr, List.append_assoc r crlf2]
    generalize joinG (e ++ e) (a :: b) = t at hd ⊢
    congr 1
    rcases he with rfl | rfl | rfl
    · show crlf (10 :: 10 :: t) = _
      rw [crlf_lf, crlf_lf]; rfl
    · show crlf (13 :: 13 :: t) = _
      rw [crlf_cr (by decide), crlf_cr_any (hd (by simp) (by simp))]; rfl
    · show crlf (13 :: 10 :: 13 :: 10 :: t) = _
      rw [crlf_crlf, crlf_crlf]; rfl
theorem dots_plain : ∀ {r : List Nat} {prev : Nat} (t : List Nat), Plain r → prev ≠ 10 → dots prev (r ++ 13 :: t) = r ++ 13 :: dots 13 t
  | [], prev, t, _, hp => dots_no (by rintro ⟨a, b⟩; cases b)
  | c :: r, prev, t, h, hp => by
    have hc := h c List.mem_cons_self
    rw [List.cons_append, dots_no (fun q => hp q.1), dots_plain t (fun d hd => h d (List.mem_cons_of_mem _ hd)) (by omega)]
    rfl
theorem dots_end : ∀ {r : List Nat} {prev : Nat}, Plain r → prev ≠ 10 → dots prev r = r
  | [], _, _, _ => rfl
  | c :: r, prev, h, hp => by
    have hc := h c List.mem_cons_self
    rw [dots_no (fun q => hp q.1), dots_end (fun d hd => h d (List.mem_cons_of_mem _ hd)) (by omega)]
theorem dots_row {r : List Nat} (h : Plain r) (t : List Nat) : dots 10 (r ++ 13 :: t) = quoted r ++ 13 :: dots 13 t := by
  cases r with
  | nil => exact dots_no (by rintro ⟨a, b⟩; cases b)
  | cons c r =>
    have hc := h c List.mem_cons_self
    have hr : Plain r := fun d hd => h d (List.mem_cons_of_mem _ hd)
    rw [List.cons_append]
    unfold quoted
    by_cases e : c = 46
    · subst e
      rw [dots_yes, dots_plain t hr (by decide)]
      rfl
    · rw [dots_no (fun q => e q.2), dots_plain t hr (by omega), if_neg (by simpa using e)]
      rfl
theorem dots_row_end {r : List Nat} (h : Plain r) : dots 10 r = quoted r := by
  cases r with
  | nil => rfl
  | cons c r =>
    have hc := h c List.mem_cons_self
    have hr : Plain r := fun d hd => h d (List.mem_cons_of_mem _ hd)
    unfold quoted
    by_cases e : c = 46
    · subst e
      rw [dots_yes, dots_end hr (by decide)]
      rfl
    · rw [dots_no (fun q => e q.2), dots_end hr (by omega), if_neg (by simpa using e)]
theorem dots_join : ∀ {rs : List (List Nat)}, (∀ r ∈ rs, Plain r) → dots 10 (joinG crlf2 rs) = joinG crlf2 (rs.map quoted)
  | [], _ => rfl
  | [r], h => dots_row_end (h r List.mem_cons_self)
  | r :: a :: b, h => by
    have hr := h r List.mem_cons_self
    have ht : ∀ r ∈ a :: b, Plain r := fun q hq => h q (List.mem_cons_of_mem _ hq)
    rw [joinG_cons (rs := a :: b) (by simp), List.map_cons, joinG_cons (rs := (a :: b).map quoted) (by simp), ← dots_join ht, List.append_assoc]
    show dots 10 (r ++ 13 :: (10 :: 13 :: 10 :: joinG crlf2 (a :: b))) = _
    rw [dots_row hr, dots_no (by rintro ⟨a, b⟩; cases a), dots_no (by rintro ⟨a, b⟩; cases b), dots_no (by rintro ⟨a, b⟩; cases a), List.append_assoc]
    rfl

end
section
theorem sum_cat (ps : List Str) : (ps.map (·.length)).sum = (cat ps).length := by
  induction ps with
  | nil => rfl
  | cons p r ih => simp [cat, Str.length] at ih ⊢; try exact ih
theorem pieces_len (r : Str) (x : Array Nat) (f : Nat → Option (Nat × Nat)) : ∀ k p, (subPieces r x f k p).length ≤ 2 * k
  | 0, _ => Nat.le_refl _
  | k + 1, p => by
    unfold subPieces
    cases f p with
    | none => dsimp only; split <;> (simp only [List.length_cons, List.length_nil]; try omega)
    | some q =>
      have := pieces_len r x f k q.2
      dsimp only
      rw [List.length_append, List.length_cons]
      split <;> (simp only [List.length_cons, List.length_nil]; try omega)
theorem crlf_len : ∀ l : List Nat, (crlf l).length ≤ 2 * l.length
  | [] => Nat.le_refl _
  | [c] => by
    by_cases h10 : c = 10
    · rw [h10, crlf_lf]; exact Nat.le_refl _
    · by_cases h13 : c = 13
      · rw [h13, crlf_cr_end]; exact Nat.le_refl _
      · rw [crlf_plain h10 h13]; exact Nat.le_succ _
  | c :: d :: r => by
    have h1 := crlf_len (d :: r)
    have h2 := crlf_len r
    by_cases hc : c = 13 ∧ d = 10
    · rw [hc.1, hc.2, crlf_crlf]
      simp only [List.length_cons] at h1 h2 ⊢
      omega
    · by_cases h10 : c = 10
      · rw [h10, crlf_lf]; simp only [List.length_cons] at h1 h2 ⊢; omega
      · by_cases h13 : c = 13
        · rw [h13, crlf_cr (fun e => hc ⟨h13, e⟩)]; simp only [List.length_cons] at h1 h2 ⊢; omega
        · rw [crlf_plain h10 h13]; simp only [List.length_cons] at h1 h2 ⊢; omega
theorem dots_len : ∀ (l : List Nat) (p : Nat), (dots p l).length ≤ 2 * l.length
  | [], _ => Nat.le_refl _
  | c :: r, p => by
    unfold dots
    split
    · have := dots_len r 46; simp only [List.length_cons]; omega
    · have := dots_len r c; simp only [List.length_cons]; omega
section
variable {prog : Program} {w : World} {A : Around} {s : Shared} {E : Value → Shared → Prop}
theorem IsPat.type {a : Addr} {code : Array Nat} (P : IsPat s.heap a code) : s.TypeIs (.ref a) "re.Pattern" := by
  obtain ⟨o, q, v0, v1, v3, v4, t2, t6, c, vals, n, h1, h2, h3, h4, h5, h6, h7⟩ := P
  exact ⟨o, h1, h2⟩
theorem IsPat.noDict {h : Heap} {a : Addr} {code : Array Nat} (P : IsPat h a code) : ∀ b, Value.ref a = .ref b → ∃ o, h.get? b = some o ∧ o.dict = none := by
  intro b e
  cases e
  obtain ⟨o, q, v0, v1, v3, v4, t2, t6, c, vals, n, h1, h2, h3, h4, h5, h6, h7⟩ := P
  exact ⟨o, h1, h4⟩
theorem get_sub {a : Addr} {code : Array Nat} {pl : Sem Bool} {Q : Value × List Value → Shared → Prop} (P : IsPat s.heap a code) (h : Q (.builtin "re.Pattern.sub", [.ref a]) s) : wpAny (model prog w) A (getMethod (.ref a) "sub" pl) Q E s :=
  getMethod_builtin P.type plainAttrs_pat slot_sub type_sub P.noDict h
theorem get_search {a : Addr} {code : Array Nat} {pl : Sem Bool} {Q : Value × List Value → Shared → Prop} (P : IsPat s.heap a code) (h : Q (.builtin "re.Pattern.search", [.ref a]) s) : wpAny (model prog w) A (getMethod (.ref a) "search" pl) Q E s :=
  getMethod_builtin P.type plainAttrs_pat slot_search type_search P.noDict h
theorem call_search_none {a : Addr} {code : Array Nat} {x : Str} {tx : Tok} {Q : Value → Shared → Prop} (P : IsPat s.heap a code) (hx : x.cps.size < 2 ^ 60) (F : Finds code x.cps 0 none) (h : Q .none s) : wpAny (model prog w) A (call (.builtin "re.Pattern.search") [.ref a, .str x tx]) Q E s :=
  call_meetsIn slot_search P.type entry_search (args_search _ _) (S := fun A R s => wpAny (model prog w) A.in1 (Builtin.«re.Pattern.search» ⟨[.ref a, .str x tx], []⟩) (fun fin s' => match fin with | .done f => R (.ok f) s' | .again c' => c'.quiet = true ∧ codeAny (model prog w) A c' R s') (fun e s' => R (.error e) s') s)
    (fun _ _ _ h => h) (search_none P hx F h)
theorem call_sub {a : Addr} {code : Array Nat} {r x : Str} {tr tx : Tok} {f : Nat → Option (Nat × Nat)} {Q : Value → Shared → Prop} (P : IsPat s.heap a code) (hr : r.cps.contains 92 = false) (hx : x.cps.size ≤ 1000)
    (hf : ∀ p, p ≤ x.cps.size → Finds code x.cps p (f p)) (hp : ∀ p b e, p ≤ x.cps.size → f p = some (b, e) → p ≤ b ∧ b < e ∧ e ≤ x.cps.size) (ht : (cat (subPieces r x.cps f (x.cps.size + 1) 0)).length ≤ 16777216)
    (h : ∀ h' k' t', (∀ b o, s.heap.get? b = some o → h'.get? b = some o) → Q (.str ⟨(cat (subPieces r x.cps f (x.cps.size + 1) 0)).toArray⟩ t') { s with heap := h', toks := k' }) :
    wpAny (model prog w) A (call (.builtin "re.Pattern.sub") [.ref a, .str r tr, .str x tx]) Q E s := by
  refine call_meetsIn slot_sub P.type entry_sub (args_sub _ _ _) (S := fun A R s => wpAny (model prog w) A.in1 (Builtin.«re.Pattern.sub» ⟨[.ref a, .str r tr, .str x tx], []⟩) (fun fin s' => match fin with | .done f => R (.ok f) s' | .again c' => c'.quiet = true ∧ codeAny (model prog w) A c' R s') (fun e s' => R (.error e) s') s)
    (fun _ _ _ h => h) (sub_start P hr (call_str r tr) ⟨quiet_sub_loop _, ?_⟩)
  have hfree : s.heap.get? s.heap.objs.size = none := by
    cases e : s.heap.get? s.heap.objs.size with
    | none => rfl
    | some o => exact absurd (Heap.lt_size e) (Nat.lt_irrefl _)
  refine sub_loop (base := s.heap) (total := subPieces r x.cps f (x.cps.size + 1) 0) P hfree hx hf hp (by rw [sum_cat]; exact ht) (by have := pieces_len r x.cps f (x.cps.size + 1) 0; omega) (x.cps.size + 1) 0 0 0 [] [] _ (by omega) (Nat.zero_le _) (fun b o e => Heap.get?_push_of_some _ e) (Heap.get?_push_size _ rfl) .nil rfl (fun h' k' t' hk => ?_)
  rw [cat_join]
  exact h _ _ _ hk
theorem sub_twin2 {a : Addr} {x : Str} {tr tx : Tok} {Q : Value → Shared → Prop} (P : IsPat s.heap a code2) (hx : x.cps.size ≤ 1000)
    (h : ∀ h' k' t', (∀ b o, s.heap.get? b = some o → h'.get? b = some o) → Q (.str ⟨(crlf x.cps.toList).toArray⟩ t') { s with heap := h', toks := k' }) :
    wpAny (model prog w) A (call (.builtin "re.Pattern.sub") [.ref a, .str ⟨#[13, 10]⟩ tr, .str x tx]) Q E s := by
  have e := cat2 x.cps (x.cps.size + 1) 0 (by omega) (Nat.zero_le _)
  rw [List.drop_zero] at e
  have hl := crlf_len x.cps.toList
  have hl0 : x.cps.toList.length = x.cps.size := by simp
  refine call_sub (f := f2 x.cps) P (by simp) hx (f2_finds x.cps) (fun p b e hp he => f2_range hp he) (by rw [e]; omega) fun h' k' t' hk => ?_
  rw [e]
  exact h _ _ _ hk
theorem sub_twin1 {a : Addr} {x : Str} {tr tx : Tok} {Q : Value → Shared → Prop} (P : IsPat s.heap a code1) (hx : x.cps.size ≤ 1000)
    (h : ∀ h' k' t', (∀ b o, s.heap.get? b = some o → h'.get? b = some o) → Q (.str ⟨(dots 10 x.cps.toList).toArray⟩ t') { s with heap := h', toks := k' }) :
    wpAny (model prog w) A (call (.builtin "re.Pattern.sub") [.ref a, .str ⟨#[46, 46]⟩ tr, .str x tx]) Q E s := by
  have e := cat1 x.cps (x.cps.size + 1) 0 (by omega) (Nat.zero_le _)
  rw [List.drop_zero] at e
  have e : cat (subPieces ⟨#[46, 46]⟩ x.cps (f1 x.cps) (x.cps.size + 1) 0) = dots 10 x.cps.toList := e
  have hl := dots_len x.cps.toList 10
  have hl0 : x.cps.toList.length = x.cps.size := by simp
  refine call_sub (f := f1 x.cps) P (by simp) hx (f1_finds x.cps (by omega)) (fun p b e hp he => f1_range hp he) (by rw [e]; omega) fun h' k' t' hk => ?_
  rw [e]
  exact h _ _ _ hk
end

end
section
theorem fillF8 : (∃ f : Params → Frag, f = Mine.hd.heap_1) ∧ PySem.Challenge.rw_sh0030_01 = PySem.Challenge.rw_sh0030_01 := by w_top off; k_fill; exact ⟨⟨_, rfl⟩, rfl⟩
local macro_rules | `(tactic| walk_at "zz") => `(tactic| skip)
open PySem.Builtin.Re
section
variable {w : World} {e1 e2 : Env} {s : Shared} {R : Result → Shared → Prop} {p : Program} {loose : List Str} {mean : ExcName → Option Value} {mg mb : Str → Option Value}
theorem twin2 {h₀ : Heap} {L a : Addr} {m : Str → Option Value} {news : List (Addr × Obj)} {A : Around} {E : Value → Shared → Prop} {r x : Str} {tr tx : Tok} {Q : Value → Shared → Prop} (P : IsPat h₀ a code2) (F : Fr h₀ L s.heap m) (N : News h₀ L s.heap news) (er : r = ⟨#[13, 10]⟩) (hx : x.cps.size ≤ 1000)
    (h : ∀ h' k' t', Fr h₀ L h' m → News h₀ L h' news → Q (.str ⟨(crlf x.cps.toList).toArray⟩ t') { s with heap := h', toks := k' }) : wpAny (model prg w) A (call (.builtin "re.Pattern.sub") [.ref a, .str r tr, .str x tx]) Q E s := by
  subst er
  exact sub_twin2 (P.keeps F.keep) hx fun h' k' t' hk => h _ _ _ (F.keeps hk) (N.grown hk)
theorem twin1 {h₀ : Heap} {L a : Addr} {m : Str → Option Value} {news : List (Addr × Obj)} {A : Around} {E : Value → Shared → Prop} {r x : Str} {tr tx : Tok} {Q : Value → Shared → Prop} (P : IsPat h₀ a code1) (F : Fr h₀ L s.heap m) (N : News h₀ L s.heap news) (er : r = ⟨#[46, 46]⟩) (hx : x.cps.size ≤ 1000)
    (h : ∀ h' k' t', Fr h₀ L h' m → News h₀ L h' news → Q (.str ⟨(dots 10 x.cps.toList).toArray⟩ t') { s with heap := h', toks := k' }) : wpAny (model prg w) A (call (.builtin "re.Pattern.sub") [.ref a, .str r tr, .str x tx]) Q E s := by
  subst er
  exact sub_twin1 (P.keeps F.keep) hx fun h' k' t' hk => h _ _ _ (F.keeps hk) (N.grown hk)
theorem pat50 {h : Heap} (X : (hd.heap_1 w.params).In h) : IsPat h 50 code1 := by
  exact ⟨_, _, _, _, _, _, _, _, _, _, _, X 50 _ (by k_is), rfl, rfl, rfl, X 49 _ (by k_is), rfl, by decide +kernel⟩
theorem pat55 {h : Heap} (X : (hd.heap_1 w.params).In h) : IsPat h 55 code2 := by
  exact ⟨_, _, _, _, _, _, _, _, _, _, _, X 55 _ (by k_is), rfl, rfl, rfl, X 54 _ (by k_is), rfl, by decide +kernel⟩
set_option hygiene false in
local macro_rules | `(tactic| walk_at "getMethod ref") => `(tactic| ((rename Fr _ _ _ _ => lF'); k_dflt (first | (refine get_sub (hP1.keeps lF'.keep) ?_) | (refine get_sub (hP2.keeps lF'.keep) ?_))))
set_option hygiene false in
local macro_rules | `(tactic| walk_at "call builtin:re.Pattern.sub") => `(tactic| ((walk_at "FN"); (first | (k_dflt (refine twin2 hP2 lF' lN' (by decide) hx2 (fun h' k' t' F' N' => ?_))) | (k_dflt (refine twin1 hP1 lF' lN' (by decide) hx1 (fun h' k' t' F' N' => ?_)))); clear lF' lN'))
theorem call_quote (X : (hd.heap_1 w.params).In s.heap) (T : Top p loose mean mg mb s.heap) {x : Str} {t : Tok} (hx : x.cps.size ≤ 400) :
    PureCall w (callerA.deeper e1) 62 ⟨[.str x t], []⟩ s (fun v => ∃ tk, v = .str ⟨(dots 10 (crlf x.cps.toList)).toArray⟩ tk) := by
  intro R ret
  have hP1 := pat50 X
  have hP2 := pat55 X
  have hx2 : x.cps.size ≤ 1000 := by omega
  have hx1 : ((crlf x.cps.toList).toArray).size ≤ 1000 := by
    have := crlf_len x.cps.toList
    have e : x.cps.toList.length = x.cps.size := by simp
    rw [List.size_toArray]; omega
  refine enterS [(Str.ofString "data", .str x t)] (K := hd.heap_1 w.params) X T.nolimit (by k_is) (by k_is) (by k_room) (BindsTo.of_eq rfl) (by rfl) (fun L' h₁ F N => ?_) rfl rfl rfl (by rfl)
  k_steps
  dsimp only
  exact ret _ _ _ ⟨_, rfl⟩ (Fr.keep (by assumption))
end

end
section
theorem fillL1 : (∃ f : Params → Frag, f = Mine.hd.heap_1) ∧ PySem.Challenge.rw_sh0030_01 = PySem.Challenge.rw_sh0030_01 := by w_top off; k_fill; exact ⟨⟨_, rfl⟩, rfl⟩
noncomputable def lwD (w : World) : { x : List Stmt × Scope × Str × Value // ∃ (oc : Value) (od : Option Addr) (osl : Array (Option Value)) (name : Str) (params : Arguments) (dV kV doc pm : Value) (an : Option Addr) (ct : Value), (hd.heap_1 w.params).lookup 274 = some ⟨oc, od, .func (fnOf name x.2.2.1 params x.1 x.2.1 dV kV doc pm an x.2.2.2 ct), osl⟩ } := by
  exact ⟨(_, _, _, _), _, _, _, _, _, _, _, _, _, _, _, by k_is⟩
noncomputable def lwS (w : World) (i : Nat) : Stmt := ((lwD w).1.1[i]?).getD (.Pass default)
noncomputable def lwE (w : World) (L fa : Addr) (cdv : Value) : Env := envOf (lwD w).1.2.2.1 (lwD w).1.2.1 L fa cdv
def drawsF (ns : List Int) : List Int := ns.take 4 ++ ([1, 53119419, 6289, 633662] : List Int).drop (ns.take 4).length
theorem drawsF_len (ns : List Int) : (drawsF ns).length = 4 := by
  unfold drawsF
  rw [List.length_append, List.length_drop, List.length_take]
  show min 4 ns.length + (4 - min 4 ns.length) = 4
  omega
section
variable {w : World} {s : Shared} {p : Program} {loose : List Str} {mean : ExcName → Option Value} {mg mb : Str → Option Value}
  {h₀ : Heap} {L fa : Addr} {cdv : Value} {m : Str → Option Value} {Q : Flow → Shared → Prop} {E : Value → Shared → Prop}
local macro_rules | `(tactic| walk_at "last subscriptTail") => `(tactic| (refine Stop.of ?_))
theorem lw_s0 (X : (hd.heap_1 w.params).In h₀) (T : Top p loose mean mg mb h₀) (B : Below callerA h₀ [] h₀) {l : Addr} {vs : List Value} {ns : List Int} (hl : h₀.IsList l vs.toArray) (hI : IntsAre vs ns) (hlen : ns.length ≤ 63)
    (F : Fr h₀ L s.heap (fun z => if z = Str.ofString "script" then some (.ref l) else m z)) (N : News h₀ L s.heap [])
    (fin : ∀ h tk D n vs, Fr h₀ L h (fun z => if z = Str.ofString "draws" then some (.ref D) else if z = Str.ofString "script" then some (.ref l) else m z) → News h₀ L h [(D, W.listOf (List.toArray vs) n)] → IntsAre vs (drawsF ns) → Q .next { s with heap := h, toks := tk }) :
    wpAny (model prg w) (callerA.deeper (lwE w L fa cdv)) (exec (lwS w 0) (lwE w L fa cdv)) Q E s := by
  simp only [lwE, lwS, lwD, List.getElem?_cons_zero, List.getElem?_cons_succ, Option.getD_some]
  k_steps
  unfold Stop
  (rename Fr _ _ _ _ => lF'); (rename News _ _ _ _ => lN')
  k_dflt (refine kba_turn (value' := PySem.Expr.Name (PySem.Str.ofString "_") ⟨0, 0, 0, 0⟩) (fun _ => rfl) ?_)
  k_dflt (refine' kmk_slice_ints lF' lN' ?kl ?kp ?kq (.cons _ _ (.cons _ _ (.cons _ _ (.cons _ _ .nil)))) (kmk_from (.cons _ _ (.cons _ _ (.cons _ _ (.cons _ _ .nil)))) ?kz0) rfl ?_ ?ks ?kt ?kz; (case kl => kmk_list); (case kp => kmk_part); (case kq => kmk_part); (case kz0 => omega); (case ks => with_unfolding_all rfl); (case kt => kmk_pure); (case kz => kmk_size))
  intro D8 ws8 h8' F' N' l8 hI8 hC8 hL8
  clear lF' lN'
  k_steps
  (rename Fr _ _ _ _ => lF'); (rename News _ _ _ _ => lN'); (rename IntsAre _ _ => lI')
  dsimp only
  refine fin _ _ _ 0 _ lF' (fun q hq => lN' q ?_) lI'
  rw [List.mem_singleton.mp hq]
  exact List.mem_cons_self
def Ends3 (e : Str) : Prop := e = Str.ofString "\n" ∨ e = Str.ofString "\x0d" ∨ e = Str.ofString "\x0d\n"
theorem lw_s1 (X : (hd.heap_1 w.params).In h₀) (T : Top p loose mean mg mb h₀) (B : Below callerA h₀ [] h₀) {D : Addr} {n : Nat} {vs : List Value} {ns : List Int} (hI : IntsAre vs ns) (hlen : ns.length = 4)
    (F : Fr h₀ L s.heap (fun z => if z = Str.ofString "draws" then some (.ref D) else m z)) (N : News h₀ L s.heap [(D, W.listOf vs.toArray n)])
    (fin : ∀ h tk e t, Ends3 e → Fr h₀ L h (fun z => if z = Str.ofString "end" then some (.str e t) else if z = Str.ofString "draws" then some (.ref D) else m z) → News h₀ L h [(D, W.listOf vs.toArray n)] → Q .next { s with heap := h, toks := tk }) :
    wpAny (model prg w) (callerA.deeper (lwE w L fa cdv)) (exec (lwS w 1) (lwE w L fa cdv)) Q E s := by
  simp only [lwE, lwS, lwD, List.getElem?_cons_zero, List.getElem?_cons_succ, Option.getD_some]
  k_steps
  all_goals (rename Fr _ _ _ _ => lF'); (rename News _ _ _ _ => lN')
  all_goals dsimp only
  · exact fin _ _ _ _ (.inl rfl) lF' (fun q hq => lN' q (List.mem_cons_of_mem _ hq))
  · exact fin _ _ _ _ (.inr (.inl rfl)) lF' (fun q hq => lN' q (List.mem_cons_of_mem _ hq))
  · exact fin _ _ _ _ (.inr (.inr rfl)) lF' (fun q hq => lN' q (List.mem_cons_of_mem _ hq))
abbrev hdDict (w : World) (u : Tok) (hd : Addr) : Obj := dictOf [{ hash := PyData.keyHash w.params (Str.ofString "_headers"), key := .str (Str.ofString "_headers") u, val := .ref hd }] 1
theorem lw_s2 (X : (hd.heap_1 w.params).In h₀) (T : Top p loose mean mg mb h₀) (B : Below callerA h₀ [] h₀) {D : Addr} {n : Nat} {vs : List Value} {ns : List Int} (hI : IntsAre vs ns)
    (F : Fr h₀ L s.heap m) (N : News h₀ L s.heap [(D, W.listOf vs.toArray n)])
    (fin : ∀ h tk x dx hd u, Fr h₀ L h (fun z => if z = Str.ofString "table" then some (.ref x) else m z) → News h₀ L h [(hd, W.listOf #[] 0), (x, instObj 227 dx), (dx, hdDict w u hd), (D, W.listOf vs.toArray n)] → (@LT.lt Nat _ x hd ∧ @LT.lt Nat _ dx hd ∧ @LT.lt Nat _ D hd) → Q .next { s with heap := h, toks := tk }) :
    wpAny (model prg w) (callerA.deeper (lwE w L fa cdv)) (exec (lwS w 2) (lwE w L fa cdv)) Q E s := by
  simp only [lwE, lwS, lwD, List.getElem?_cons_zero, List.getElem?_cons_succ, Option.getD_some]
  k_steps
  (rename Fr _ _ _ _ => lF'); (rename News _ _ _ _ => lN')
  dsimp only
  exact fin _ _ _ _ _ _ lF' lN' (by omega)
theorem lw_s3 {x dx hd D : Addr} {u : Tok} {n : Nat} {vs : List Value}
    (F : Fr h₀ L s.heap m) (N : News h₀ L s.heap [(hd, W.listOf #[] 0), (x, instObj 227 dx), (dx, hdDict w u hd), (D, W.listOf vs.toArray n)]) (_hlt : @LT.lt Nat _ x hd ∧ @LT.lt Nat _ dx hd ∧ @LT.lt Nat _ D hd)
    (fin : ∀ h tk pl, Fr h₀ L h (fun z => if z = Str.ofString "players" then some (.ref pl) else m z) → News h₀ L h [(pl, W.listOf #[] 0), (hd, W.listOf #[] 0), (x, instObj 227 dx), (dx, hdDict w u hd), (D, W.listOf vs.toArray n)] → @LT.lt Nat _ hd pl → Q .next { s with heap := h, toks := tk }) :
    wpAny (model prg w) (callerA.deeper (lwE w L fa cdv)) (exec (lwS w 3) (lwE w L fa cdv)) Q E s := by
  simp only [lwE, lwS, lwD, List.getElem?_cons_zero, List.getElem?_cons_succ, Option.getD_some]
  have hlt9 := Heap.lt_size (N (hd, W.listOf #[] 0) List.mem_cons_self).1
  k_steps
  (rename Fr _ _ _ _ => lF'); (rename News _ _ _ _ => lN')
  dsimp only
  exact fin _ _ _ lF' lN' (by first | omega | exact hlt9)
end

end
section
theorem fillL2 : (∃ f : Params → Frag, f = Mine.hd.heap_1) ∧ PySem.Challenge.rw_sh0030_01 = PySem.Challenge.rw_sh0030_01 := by w_top off; k_fill; exact ⟨⟨_, rfl⟩, rfl⟩
noncomputable def lwB (w : World) (i : Nat) : Stmt := ((forBody (lwD w).1.1 4)[i]?).getD (.Pass default)
def lwLed (w : World) (hq pl x dx D : Addr) (u : Tok) (hs : List Value) (nh : Nat) (ps : List Value) (np : Nat) (vs : List Value) (n : Nat) (RR : List (Addr × Obj)) : List (Addr × Obj) :=
  (hq, W.listOf hs.toArray nh) :: (pl, W.listOf ps.toArray np) :: (x, instObj 227 dx) :: (dx, hdDict w u hq) :: (D, W.listOf vs.toArray n) :: RR
def overF (ds : List Int) (k : Nat) : Int := ((ds.getD (k + 1) 0).fdiv 12).fmod 2
def NameOk (ov : Int) (nm : Str) : Prop := (ov = 0 ∧ (nm = Str.ofString "Here" ∨ nm = Str.ofString "hERE")) ∨ (ov = 1 ∧ (nm = Str.ofString "Over" ∨ nm = Str.ofString "oVER"))
section
variable {w : World} {s : Shared} {p : Program} {loose : List Str} {mean : ExcName → Option Value} {mg mb : Str → Option Value}
  {h₀ : Heap} {L fa : Addr} {cdv : Value} {m : Str → Option Value} {Q : Flow → Shared → Prop} {E : Value → Shared → Prop}
  {hq pl x dx D : Addr} {u : Tok} {hs ps vs : List Value} {nh np n : Nat} {ds : List Int} {RR : List (Addr × Obj)}
theorem lw_b0 (hI : IntsAre vs ds) (hlen : ds.length = 4) {k : Nat} {tk : Tok} (hk : k < 3)
    (F : Fr h₀ L s.heap (fun z => if z = Str.ofString "k" then some (.int k tk) else if z = Str.ofString "draws" then some (.ref D) else m z)) (N : News h₀ L s.heap (lwLed w hq pl x dx D u hs nh ps np vs n RR))
    (fin : ∀ h tk' t, Fr h₀ L h (fun z => if z = Str.ofString "over" then some (.int (overF ds k) t) else if z = Str.ofString "k" then some (.int k tk) else if z = Str.ofString "draws" then some (.ref D) else m z) → News h₀ L h (lwLed w hq pl x dx D u hs nh ps np vs n RR) → Q .next { s with heap := h, toks := tk' }) :
    wpAny (model prg w) (callerA.deeper (lwE w L fa cdv)) (exec (lwB w 0) (lwE w L fa cdv)) Q E s := by
  simp only [lwE, lwB, lwD, forBody, List.getElem?_cons_zero, List.getElem?_cons_succ, Option.getD_some]
  unfold lwLed at N
  k_steps
  (rename Fr _ _ _ _ => lF'); (rename News _ _ _ _ => lN')
  dsimp only
  exact fin _ _ _ lF' lN'
theorem fmod2 (x : Int) : x.fmod 2 = 0 ∨ x.fmod 2 = 1 := by
  rw [Int.fmod_eq_emod_of_nonneg _ (by decide)]; omega
theorem my_item {A : Around} {value slice : PySem.Expr} {l : Addr} {its : Array Value} {k : Int} {u : Tok} {v : Value} {Q : Value → Shared → Prop} (hl : s.heap.IsList l its) (h0 : 0 ≤ k) (hhi : k < 2 ^ 63) (hx : its[k.toNat]? = some v) (h : Q v s)
    (hs : subscripted slice false (.ref l) (.int k u) = operate [.ref l, .int k u] (getItem (.ref l) (.int k u)) := by with_unfolding_all rfl) :
    wpAny (model prg w) A (subscriptTail value slice (.ref l) (.int k u)) Q E s := by
  refine kba_turn (value' := PySem.Expr.Name (PySem.Str.ofString "_") ⟨0, 0, 0, 0⟩) (fun _ => rfl) ?_
  exact tail_any hl.typeIs slot_list_getitem.lookup (wpAny_getItem_list hl h0 hhi hx h) hs
theorem item_two {A : Around} {value slice : PySem.Expr} {l : Addr} {a b : Str} {ta tb : Tok} {k : Int} {u : Tok} {Q : Value → Shared → Prop} (hl : s.heap.IsList l #[.str a ta, .str b tb]) (hk : k = 0 ∨ k = 1) (h : ∀ nm t, nm = a ∨ nm = b → Q (.str nm t) s)
    (hs : subscripted slice false (.ref l) (.int k u) = operate [.ref l, .int k u] (getItem (.ref l) (.int k u)) := by with_unfolding_all rfl) :
    wpAny (model prg w) A (subscriptTail value slice (.ref l) (.int k u)) Q E s := by
  rcases hk with rfl | rfl
  · exact my_item hl (by decide) (by decide) rfl (h _ _ (.inl rfl)) hs
  · exact my_item hl (by decide) (by decide) rfl (h _ _ (.inr rfl)) hs
local macro_rules | `(tactic| walk_at "subscriptTail") => `(tactic| ((with_reducible show wpAny _ _ (subscriptTail _ _ (Value.ref _) (Value.int 0 _)) _ _ _); (rename News _ _ _ _ => lN'); k_dflt (refine my_item (listIn lN' (by k_mem)) (by decide) (by decide) (by rfl) ?_)))
local macro_rules | `(tactic| walk_at "subscriptTail") => `(tactic| ((with_reducible show wpAny _ _ (subscriptTail _ _ (Value.ref _) (Value.int 1 _)) _ _ _); (rename News _ _ _ _ => lN'); k_dflt (refine my_item (listIn lN' (by k_mem)) (by decide) (by decide) (by rfl) ?_)))
theorem lw_b1 (X : (hd.heap_1 w.params).In h₀) (T : Top p loose mean mg mb h₀) (B : Below callerA h₀ [] h₀) (hI : IntsAre vs ds) (hlen : ds.length = 4) {k : Nat} {tk : Tok} (hk : k < 3) {ov : Int} {to : Tok} (hov : ov = 0 ∨ ov = 1)
    (F : Fr h₀ L s.heap (fun z => if z = Str.ofString "over" then some (.int ov to) else if z = Str.ofString "k" then some (.int k tk) else if z = Str.ofString "draws" then some (.ref D) else m z)) (N : News h₀ L s.heap (lwLed w hq pl x dx D u hs nh ps np vs n RR))
    (fin : ∀ h tk' t nm, NameOk ov nm → Fr h₀ L h (fun z => if z = Str.ofString "name" then some (.str nm t) else if z = Str.ofString "over" then some (.int ov to) else if z = Str.ofString "k" then some (.int k tk) else if z = Str.ofString "draws" then some (.ref D) else m z) → News h₀ L h (lwLed w hq pl x dx D u hs nh ps np vs n RR) → Q .next { s with heap := h, toks := tk' }) :
    wpAny (model prg w) (callerA.deeper (lwE w L fa cdv)) (exec (lwB w 1) (lwE w L fa cdv)) Q E s := by
  simp only [lwE, lwB, lwD, forBody, List.getElem?_cons_zero, List.getElem?_cons_succ, Option.getD_some]
  unfold lwLed at N
  rcases hov with rfl | rfl
  all_goals k_steps
  · (rename News _ _ _ _ => lN')
    k_dflt (refine item_two (listIn lN' (by k_mem)) (fmod2 _) (fun nm t hnm => ?_))
    k_steps
    (rename Fr _ _ _ _ => lF'); (rename News _ _ _ _ => lN')
    dsimp only
    exact fin _ _ _ _ (.inl ⟨rfl, hnm⟩) lF' (fun q hq => lN' q (List.mem_cons_of_mem _ (List.mem_cons_of_mem _ (List.mem_cons_of_mem _ hq))))
  · (rename News _ _ _ _ => lN')
    k_dflt (refine item_two (listIn lN' (by k_mem)) (fmod2 _) (fun nm t hnm => ?_))
    k_steps
    (rename Fr _ _ _ _ => lF'); (rename News _ _ _ _ => lN')
    dsimp only
    exact fin _ _ _ _ (.inr ⟨rfl, hnm⟩) lF' (fun q hq => lN' q (List.mem_cons_of_mem _ (List.mem_cons_of_mem _ (List.mem_cons_of_mem _ hq))))
end

end
section
theorem fillL3 : (∃ f : Params → Frag, f = Mine.hd.heap_1) ∧ PySem.Challenge.rw_sh0030_01 = PySem.Challenge.rw_sh0030_01 := by w_top off; k_fill; exact ⟨⟨_, rfl⟩, rfl⟩
open PySem.Builtin.Re
def codeN : Array Nat := #[14, 10, 4, 1, 1, 22, 0, 31, 16, 127, 0, 13, 7, 22, 0, 31, 16, 127, 0, 1]
def codeV : Array Nat := #[14, 14, 4, 1, 1, 9, 4294966783, 0, 0, 2147483648, 0, 0, 0, 0, 0, 13, 11, 9, 4294966783, 0, 0, 2147483648, 0, 0, 0, 0, 0, 1]
theorem patN {w : World} {h : Heap} (X : (hd.heap_1 w.params).In h) : IsPat h 93 codeN := by
  exact ⟨_, _, _, _, _, _, _, _, _, _, _, X 93 _ (by k_is), rfl, rfl, rfl, X 92 _ (by k_is), rfl, by decide +kernel⟩
theorem patV {w : World} {h : Heap} (X : (hd.heap_1 w.params).In h) : IsPat h 98 codeV := by
  exact ⟨_, _, _, _, _, _, _, _, _, _, _, X 98 _ (by k_is), rfl, rfl, rfl, X 97 _ (by k_is), rfl, by decide +kernel⟩
def CleanN (x : Str) : Prop := x.cps.size < 2 ^ 60 ∧ Finds codeN x.cps 0 none
def CleanV (x : Str) : Prop := x.cps.size < 2 ^ 60 ∧ Finds codeV x.cps 0 none
theorem cleanN_of {x : Str} (hs : x.cps.size ≤ 1000) (h : x.cps.all (fun c => setSays codeN c == some false) = true) : CleanN x := by
  refine ⟨by omega, finds_none rfl rfl rfl fun i _ h2 => ?_⟩
  have := (Array.all_eq_true.mp h) i h2
  simpa [Array.getD, h2] using this
theorem cleanV_of {x : Str} (hs : x.cps.size ≤ 1000) (h : x.cps.all (fun c => setSays codeV c == some false) = true) : CleanV x := by
  refine ⟨by omega, finds_none rfl rfl rfl fun i _ h2 => ?_⟩
  have := (Array.all_eq_true.mp h) i h2
  simpa [Array.getD, h2] using this
theorem names_clean : CleanN (Str.ofString "Here") ∧ CleanN (Str.ofString "hERE") ∧ CleanN (Str.ofString "Over") ∧ CleanN (Str.ofString "oVER") ∧ CleanN (Str.ofString "here") ∧ CleanN (Str.ofString "over") :=
  ⟨cleanN_of (by decide) (by decide +kernel), cleanN_of (by decide) (by decide +kernel), cleanN_of (by decide) (by decide +kernel), cleanN_of (by decide) (by decide +kernel), cleanN_of (by decide) (by decide +kernel), cleanN_of (by decide) (by decide +kernel)⟩
theorem plainV {r : List Nat} (h : Plain r) (hl : r.length ≤ 1000) : CleanV ⟨r.toArray⟩ := by
  refine cleanV_of (by simpa using hl) ?_
  rw [Array.all_eq_true]
  intro i hi
  have hi' : i < r.length := by simpa using hi
  have := h r[i] (List.getElem_mem hi')
  have e : (⟨r.toArray⟩ : Str).cps[i] = r[i] := by simp
  rw [e]
  rcases this with q | q <;> rw [q] <;> decide +kernel
theorem Fr.congr' {h₀ : Heap} {L : Addr} {h : Heap} {m m' : Str → Option Value} (F : Fr h₀ L h m) (e : ∀ z, m z = m' z) : Fr h₀ L h m' := by rw [← funext e]; exact F
def ifs (l : List (Str × Option Value)) (m : Str → Option Value) : Str → Option Value := match l with
  | [] => m
  | p :: r => fun z => if z = p.1 then p.2 else ifs r m z
theorem ifs_eq {m : Str → Option Value} {z : Str} : ∀ {l : List (Str × Option Value)}, AllAt m l → ifs l m z = m z
  | [], _ => rfl
  | p :: r, h => by
    show (if z = p.1 then p.2 else ifs r m z) = m z
    by_cases q : z = p.1
    · rw [if_pos q, q, h.1]
    · rw [if_neg q, ifs_eq h.2]
theorem fr_ifs {h₀ : Heap} {L : Addr} {h : Heap} {m : Str → Option Value} (l : List (Str × Option Value)) (F : Fr h₀ L h m) (e : AllAt m l) : Fr h₀ L h (ifs l m) := Fr.congr' F fun _ => (ifs_eq e).symm
theorem fr_fis {h₀ : Heap} {L : Addr} {h : Heap} {m : Str → Option Value} (l : List (Str × Option Value)) (F : Fr h₀ L h (ifs l m)) (e : AllAt m l) : Fr h₀ L h m := Fr.congr' F fun _ => ifs_eq e
section
variable {w : World} {s : Shared} {p : Program} {loose : List Str} {mean : ExcName → Option Value} {mg mb : Str → Option Value}
  {h₀ : Heap} {L fa : Addr} {cdv : Value} {m : Str → Option Value} {Q : Flow → Shared → Prop}
  {hq pl x dx D : Addr} {u : Tok} {hs ps vs : List Value} {nh np n : Nat} {ds : List Int} {RR : List (Addr × Obj)}
local macro_rules | `(tactic| walk_at "eval ListComp") => `(tactic| (k_dflt (refine compLP (by k_asm) (by rfl) (by decide) (by rfl) (by decide) (by rfl) (by rfl) (by decide) ?_)))
local macro_rules | `(tactic| walk_at "CompTurn") => `(tactic| (unfold CompTurn; (try dsimp only); intro E9))
theorem led_lt {d : Addr} (h : @LT.lt Nat _ hq d ∧ @LT.lt Nat _ pl d ∧ @LT.lt Nat _ x d ∧ @LT.lt Nat _ dx d ∧ @LT.lt Nat _ D d ∧ AllLt d RR) : ∀ q ∈ lwLed w hq pl x dx D u hs nh ps np vs n RR, @LT.lt Nat _ q.1 d := by
  intro q hq
  unfold lwLed at hq
  simp only [List.mem_cons] at hq
  obtain ⟨h1, h2, h3, h4, h5, h6⟩ := h
  rcases hq with e | e | e | e | e | hq
  · rw [e]; exact h1
  · rw [e]; exact h2
  · rw [e]; exact h3
  · rw [e]; exact h4
  · rw [e]; exact h5
  · exact allLt_mem h6 q hq
def signS (l : Int) : Str := if l = 1 then Str.ofString "." else Str.ofString "-"
theorem sign_cps (l : Int) : (signS l).cps.toList = [if l = 1 then 46 else 45] := by
  unfold signS
  by_cases h : l = 1
  · rw [if_pos h, if_pos h]; decide
  · rw [if_neg h, if_neg h]; decide
theorem row_cat (st : List (Int × Int)) : cat (st.map fun q => signS q.1) = rowOf (st.map (·.1)) := by
  induction st with
  | nil => rfl
  | cons q r ih =>
    show (signS q.1).cps.toList ++ cat (r.map fun q => signS q.1) = _
    rw [sign_cps, ih]; rfl
theorem row_join (st : List (Int × Int)) : Txt.join (Str.ofString "") (st.map fun q => signS q.1) = ⟨(rowOf (st.map (·.1))).toArray⟩ := by
  have e : Str.ofString "" = ⟨#[]⟩ := by decide
  rw [e, cat_join, row_cat]
theorem row_sum (st : List (Int × Int)) : ((st.map fun q => signS q.1).map (·.length)).sum = st.length := by
  rw [sum_cat, row_cat]
  simp [rowOf]
theorem row_plain (ls : List Int) : Plain (rowOf ls) := by
  intro c hc
  obtain ⟨l, _, rfl⟩ := List.mem_map.mp hc
  by_cases h : l = 1
  · rw [if_pos h]; exact .inr rfl
  · rw [if_neg h]; exact .inl rfl
theorem strs_more {ys : List Value} {st : List (Int × Int)} {j : Nat} (h : StrsAre ys ((st.take j).map fun q => signS q.1)) (hj : j < st.length) {v : Str} {t : Tok} (e : v = signS (st.getD j (0, 0)).1) : StrsAre (ys ++ [.str v t]) ((st.take (j + 1)).map fun q => signS q.1) := by
  have e8 : st[j]? = some (st.getD j (0, 0)) := by simp [List.getD, hj]
  rw [List.take_add_one, e8, List.map_append]
  subst e
  exact strs_snoc h _ _
set_option hygiene false in
local macro_rules | `(tactic| walk_at "call ref") => `(tactic| ((with_reducible show wpAny _ _ (call (Value.ref 238) [Value.int _ _, Value.int _ _] _) _ _ _); (walk_at "FN"); k_dflt (refine PureCall.use (call_sign (X.keeps lF'.keep) (T.keeps lF'.keep) hst9.1 hst9.2) lF' lN' (fun v9 h9 tk9 hv9 F' N' hk9 => ?_)); obtain ⟨c9, tc9, hc9, hc8, rfl⟩ := hv9; clear lF' lN'))
set_option hygiene false in
local macro_rules | `(tactic| walk_at "call ref") => `(tactic| ((with_reducible show wpAny _ _ (call (Value.ref 45) [Value.str _ _] _) _ _ _); (walk_at "FN"); k_dflt (refine PureCall.use (call_c4 (X.keeps lF'.keep) (T.keeps lF'.keep) hc9) lF' lN' (fun v9 h9 tk9 hv9 F' N' hk9 => ?_)); subst hv9; rw [hc8]; clear lF' lN'))
set_option hygiene false in
local macro_rules | `(tactic| walk_at "getMethod ref") => `(tactic| ((with_reducible show wpAny _ _ (getMethod (Value.ref 93) _ _) _ _ _); (rename Fr _ _ _ _ => lF'); (rename Frag.In _ _ => lX'); k_dflt (refine get_search ((patN lX').keeps lF'.keep) ?_)))
set_option hygiene false in
local macro_rules | `(tactic| walk_at "getMethod ref") => `(tactic| ((with_reducible show wpAny _ _ (getMethod (Value.ref 98) _ _) _ _ _); (rename Fr _ _ _ _ => lF'); (rename Frag.In _ _ => lX'); k_dflt (refine get_search ((patV lX').keeps lF'.keep) ?_)))
set_option hygiene false in
local macro_rules | `(tactic| walk_at "call builtin:re.Pattern.search") => `(tactic| ((with_reducible show wpAny _ _ (call _ [Value.ref 93, _]) _ _ _); (rename Fr _ _ _ _ => lF'); (rename Frag.In _ _ => lX'); k_dflt (refine call_search_none ((patN lX').keeps lF'.keep) hnm.1 hnm.2 ?_)))
set_option hygiene false in
local macro_rules | `(tactic| walk_at "call builtin:re.Pattern.search") => `(tactic| ((with_reducible show wpAny _ _ (call _ [Value.ref 98, _]) _ _ _); (rename Fr _ _ _ _ => lF'); (rename Frag.In _ _ => lX'); k_dflt (refine call_search_none ((patV lX').keeps lF'.keep) hv9.1 hv9.2 ?_)))
theorem news_pick {h₀ h : Heap} {L : Addr} {t a b c : Addr × Obj} {R : List (Addr × Obj)} (N : News h₀ L h (t :: a :: b :: c :: R)) : News h₀ L h (t :: R) := fun q hq => N q (by
  rcases List.mem_cons.mp hq with e | hq
  · rw [e]; exact List.mem_cons_self
  · exact List.mem_cons_of_mem _ (List.mem_cons_of_mem _ (List.mem_cons_of_mem _ (List.mem_cons_of_mem _ hq))))
theorem lw_b2 (X : (hd.heap_1 w.params).In h₀) (T : Top p loose mean mg mb h₀) (B : Below callerA h₀ [] h₀) {a : Addr} {sn : Nat} {svs : List Value} {st : List (Int × Int)} {TT : List (Addr × Obj)} {nm : Str} {tn : Tok} (hnm : CleanN nm)
    (hm1 : m (Str.ofString "table") = some (.ref x)) (hm2 : m (Str.ofString "name") = some (.str nm tn)) (hm3 : m (Str.ofString "stalk") = some (.ref a)) (ha : (a, W.listOf svs.toArray sn) ∈ RR) (hT : ∀ q ∈ TT, q ∈ RR) (hJ : TupsAre svs st TT) (hst : ∀ q ∈ st, (q.1 = 0 ∨ q.1 = 1) ∧ 0 ≤ q.2 ∧ q.2 < 66) (hl : st.length ≤ 10) (hhs : hs.length ≤ 100)
    (hoff : ∀ q ∈ (pl, W.listOf ps.toArray np) :: (x, instObj 227 dx) :: (dx, hdDict w u hq) :: (D, W.listOf vs.toArray n) :: RR, q.1 ≠ hq)
    (F : Fr h₀ L s.heap m) (N : News h₀ L s.heap (lwLed w hq pl x dx D u hs nh ps np vs n RR))
    (fin : ∀ h tk (t : Addr) t1 t2, Fr h₀ L h m → News h₀ L h ((t, tupO #[.str nm t1, .str ⟨(rowOf (st.map (·.1))).toArray⟩ t2]) :: lwLed w hq pl x dx D u (hs ++ [.ref t]) (nh + 1) ps np vs n RR) → (∀ q ∈ lwLed w hq pl x dx D u hs nh ps np vs n RR, q.1 ≠ t) → Q .next { s with heap := h, toks := tk }) :
    wpAny (model prg w) (callerA.deeper (lwE w L fa cdv)) (exec (lwB w 2) (lwE w L fa cdv)) Q (fun _ _ => False) s := by
  simp only [lwE, lwB, lwD, forBody, List.getElem?_cons_zero, List.getElem?_cons_succ, Option.getD_some]
  have F1 := fr_ifs [(Str.ofString "table", some (.ref x)), (Str.ofString "name", some (.str nm tn)), (Str.ofString "stalk", some (.ref a))] F ⟨hm1, hm2, hm3, trivial⟩
  clear F
  dsimp only [ifs] at F1
  unfold lwLed at N
  k_steps
  (rename Fr _ _ _ _ => lF'); (rename News _ _ _ _ => lN')
  obtain ⟨f, hf⟩ := hJ.fns
  have hlen1 := hJ.1
  have hled : ∀ q ∈ RR, q ∈ lwLed w hq pl x dx D u hs nh ps np vs n RR := fun q hq => by unfold lwLed; simp only [List.mem_cons, hq, or_true]
  with_unfolding_all refine' ⟨a, svs.toArray, lwLed w hq pl x dx D u hs nh ps np vs n RR, (fun nw => nw = lwLed w hq pl x dx D u hs nh ps np vs n RR), (fun i ys _ => StrsAre ys ((st.take i).map fun q => signS q.1)), (fun i => .int (st.getD i (0, 0)).1 (f i).2.1), (fun i => .int (st.getD i (0, 0)).2 (f i).2.2), rfl, rfl, lF', lN', rfl, StrsAre.nil, by rw [List.size_toArray]; have hz9 : (1001 : Nat) ≤ sizeLine := (by decide); omega, fun h nw hk N' hS => ?_, fun h nw i v hk N' hS hv => ?_, fun g9 j9 ys9 nw9 I9 oI9 C9 oC9 D9 m9 h9 tk9 hi9 hS9 hJ9 hl9 hC9 hx9 hy9 F' N' off9 ne9 => ?_, fun g9 D9 h9 tk9 ys9 nw9 F' N' o9 hS9 hJ9 => ?_⟩
  · subst hS
    exact Mine.listOf_is (N'.get (hled _ ha))
  · subst hS
    have hi : i < svs.length := by
      have := (Array.getElem?_eq_some_iff.mp hv).1
      simpa using this
    rw [hlen1] at hi
    have e8 : st[i]? = some ((st.getD i (0, 0)).1, (st.getD i (0, 0)).2) := by simp [List.getD, hi]
    obtain ⟨q1, q2⟩ := hf i _ _ e8
    have hv' : svs[i]? = some v := by simpa using hv
    rw [q1] at hv'
    cases hv'
    exact ⟨_, rfl, tup_at (N'.get (hled _ (hT _ q2)))⟩
  · subst hS9
    clear lF' lN'
    unfold lwLed at N'
    rw [List.size_toArray, hlen1] at hi9
    have e8 : st[j9]? = some (st.getD j9 (0, 0)) := by simp [List.getD, hi9]
    have hst9 := hst _ (List.mem_of_getElem? e8)
    dsimp only at hx9 hy9 hJ9
    k_steps
    all_goals (try dsimp only)
    all_goals (rename Fr _ _ _ _ => lF'); (rename News _ _ _ _ => lN')
    · rename_i q9
      exact LCg.CompEnd.intro lF' lN' _ (fun q hq => hq) off9 rfl (strs_more hJ9 hi9 (by unfold signS; rw [if_pos q9]))
    · rename_i q9
      exact LCg.CompEnd.intro lF' lN' _ (fun q hq => hq) off9 rfl (strs_more hJ9 hi9 (by unfold signS; rw [if_neg q9]))
  · subst hS9
    clear lF' lN'
    rw [List.size_toArray, hlen1, List.take_length] at hJ9
    unfold lwLed at N'
    k_steps
    (try dsimp only)
    have hv9 : CleanV ⟨(rowOf (st.map (·.1))).toArray⟩ := plainV (row_plain _) (by simp [rowOf]; omega)
    refine join_list (lst_is (N'.get List.mem_cons_self)) hJ9 (by rw [row_sum, List.length_map]; have e0 : (Str.ofString "").length = 0 := (by decide); rw [e0]; omega) (fun t9 k9 => ?_)
    rw [row_join]
    have hr9 : (⟨(rowOf (st.map (·.1))).toArray⟩ : Str).length ≤ 1000 := by show ((rowOf (st.map (·.1))).toArray).size ≤ 1000; simp [rowOf]; omega
    have N8 := N'.tail'
    clear N'
    k_steps
    (rename Fr _ _ _ _ => lF'); (rename News _ _ _ _ => lN')
    k_dflt (refine append_led lF' (news_pick lN') (Upd.tail (by k_ne) (Upd.head hoff)) (by have hz9 : (1001 : Nat) ≤ sizeLine := (by decide); omega) (fun h8' F8' N8' => ?_))
    clear lF' lN'
    k_steps
    (try dsimp only)
    (rename Fr _ _ _ _ => lF'); (rename News _ _ _ _ => lN')
    rename And _ _ => l9
    exact fin _ _ _ _ _ (fr_fis [(Str.ofString "table", some (.ref x)), (Str.ofString "name", some (.str nm tn)), (Str.ofString "stalk", some (.ref a))] lF' ⟨hm1, hm2, hm3, trivial⟩) lN' (fun q hq => Nat.ne_of_lt (led_lt l9.2.2.2 q hq))
end

end
section
theorem fillL4 : (∃ f : Params → Frag, f = Mine.hd.heap_1) ∧ PySem.Challenge.rw_sh0030_01 = PySem.Challenge.rw_sh0030_01 := by w_top off; k_fill; exact ⟨⟨_, rfl⟩, rfl⟩
section
variable {w : World} {s : Shared} {p : Program} {loose : List Str} {mean : ExcName → Option Value} {mg mb : Str → Option Value}
  {h₀ : Heap} {L fa : Addr} {cdv : Value} {m : Str → Option Value} {Q : Flow → Shared → Prop}
  {hq pl x dx D : Addr} {u : Tok} {hs ps vs : List Value} {nh np n : Nat} {ds : List Int} {RR : List (Addr × Obj)}
local macro_rules | `(tactic| walk_at "exec Assign cons ListComp") => `(tactic| (k_dflt (refine assignLP (by k_asm) (by rfl) (by rfl) (by rfl) (by decide) (by rfl) (by decide) (by rfl) (by rfl) (by decide) (by rfl) (by rfl) ?_)))
local macro_rules | `(tactic| walk_at "CompTurn") => `(tactic| (unfold CompTurn; (try dsimp only); intro E9))
theorem edges_more {ys : List Value} {st : List (Int × Int)} {j : Nat} (h : IntsAre ys ((st.take j).map fun q => 2 * q.1 - 1)) (hj : j < st.length) {v : Int} {t : Tok} (e : v = 2 * (st.getD j (0, 0)).1 - 1) : IntsAre (ys ++ [.int v t]) ((st.take (j + 1)).map fun q => 2 * q.1 - 1) := by
  have e8 : st[j]? = some (st.getD j (0, 0)) := by simp [List.getD, hj]
  rw [List.take_add_one, e8, List.map_append]
  subst e
  exact ints_snoc h _ _
theorem off1_mem {D9 : Addr} : ∀ {l : List (Addr × Obj)}, LCg.Off1 D9 l → ∀ q ∈ l, q.1 ≠ D9
  | [], _, q, hq => nomatch hq
  | p :: r, h, q, hq => by
    rcases List.mem_cons.mp hq with e | hq
    · rw [e]; exact h.1
    · exact off1_mem h.2 q hq
theorem lw_b3 (X : (hd.heap_1 w.params).In h₀) (T : Top p loose mean mg mb h₀) (B : Below callerA h₀ [] h₀) {a : Addr} {sn : Nat} {svs : List Value} {st : List (Int × Int)} {TT : List (Addr × Obj)} 
    (hm3 : m (Str.ofString "stalk") = some (.ref a)) (ha : (a, W.listOf svs.toArray sn) ∈ RR) (hT : ∀ q ∈ TT, q ∈ RR) (hJ : TupsAre svs st TT) (hst : ∀ q ∈ st, (q.1 = 0 ∨ q.1 = 1) ∧ 0 ≤ q.2 ∧ q.2 < 66) (hl : st.length ≤ 10)
    (F : Fr h₀ L s.heap m) (N : News h₀ L s.heap (lwLed w hq pl x dx D u hs nh ps np vs n RR))
    (fin : ∀ h tk (e : Addr) ys, Fr h₀ L h (fun z => if z = Str.ofString "edges" then some (.ref e) else m z) → News h₀ L h ((e, LCg.lst ys) :: lwLed w hq pl x dx D u hs nh ps np vs n RR) → (∀ q ∈ lwLed w hq pl x dx D u hs nh ps np vs n RR, q.1 ≠ e) → IntsAre ys (edgesOf (st.map (·.1))) → Q .next { s with heap := h, toks := tk }) :
    wpAny (model prg w) (callerA.deeper (lwE w L fa cdv)) (exec (lwB w 3) (lwE w L fa cdv)) Q (fun _ _ => False) s := by
  simp only [lwE, lwB, lwD, forBody, List.getElem?_cons_zero, List.getElem?_cons_succ, Option.getD_some]
  have F1 := fr_ifs [(Str.ofString "stalk", some (.ref a))] F ⟨hm3, trivial⟩
  clear F
  dsimp only [ifs] at F1
  unfold lwLed at N
  k_steps
  (rename Fr _ _ _ _ => lF'); (rename News _ _ _ _ => lN')
  obtain ⟨f, hf⟩ := hJ.fns
  have hlen1 := hJ.1
  have hled : ∀ q ∈ RR, q ∈ lwLed w hq pl x dx D u hs nh ps np vs n RR := fun q hq => by unfold lwLed; simp only [List.mem_cons, hq, or_true]
  with_unfolding_all refine' ⟨a, svs.toArray, lwLed w hq pl x dx D u hs nh ps np vs n RR, (fun nw => nw = lwLed w hq pl x dx D u hs nh ps np vs n RR), (fun i ys _ => IntsAre ys ((st.take i).map fun q => 2 * q.1 - 1)), (fun i => .int (st.getD i (0, 0)).1 (f i).2.1), (fun i => .int (st.getD i (0, 0)).2 (f i).2.2), rfl, rfl, lF', lN', rfl, IntsAre.nil, by rw [List.size_toArray]; have hz9 : (1001 : Nat) ≤ sizeLine := (by decide); omega, fun h nw hk N' hS => ?_, fun h nw i v hk N' hS hv => ?_, fun g9 j9 ys9 nw9 I9 oI9 C9 oC9 D9 m9 h9 tk9 hi9 hS9 hJ9 hl9 hC9 hx9 hy9 F' N' off9 ne9 => ?_, fun g9 D9 h9 tk9 ys9 nw9 F' N' o9 hS9 hJ9 => ?_⟩
  · subst hS
    exact Mine.listOf_is (N'.get (hled _ ha))
  · subst hS
    have hi : i < svs.length := by
      have := (Array.getElem?_eq_some_iff.mp hv).1
      simpa using this
    rw [hlen1] at hi
    have e8 : st[i]? = some ((st.getD i (0, 0)).1, (st.getD i (0, 0)).2) := by simp [List.getD, hi]
    obtain ⟨q1, q2⟩ := hf i _ _ e8
    have hv' : svs[i]? = some v := by simpa using hv
    rw [q1] at hv'
    cases hv'
    exact ⟨_, rfl, tup_at (N'.get (hled _ (hT _ q2)))⟩
  · subst hS9
    clear lF' lN'
    unfold lwLed at N'
    rw [List.size_toArray, hlen1] at hi9
    have e8 : st[j9]? = some (st.getD j9 (0, 0)) := by simp [List.getD, hi9]
    have hst9 := hst _ (List.mem_of_getElem? e8)
    dsimp only at hx9 hy9 hJ9
    k_steps
    all_goals (try dsimp only)
    all_goals (rename Fr _ _ _ _ => lF'); (rename News _ _ _ _ => lN')
    exact LCg.CompEnd.intro lF' lN' _ (fun q hq => hq) off9 rfl (edges_more hJ9 hi9 rfl)
  · subst hS9
    clear lF' lN'
    rw [List.size_toArray, hlen1, List.take_length] at hJ9
    have hJ8 : IntsAre ys9 (edgesOf (st.map (·.1))) := by
      unfold edgesOf
      rw [List.map_map]
      exact hJ9
    refine fin h9 tk9 D9 ys9 (Fr.congr' F' fun z => ?_) N' (fun q hq => ?_) hJ8
    · by_cases e1 : z = Str.ofString "edges"
      · rw [if_pos e1, if_pos e1]
      · rw [if_neg e1, if_neg e1]
        show (if z = Str.ofString "stalk" then some (Value.ref a) else m z) = m z
        by_cases e2 : z = Str.ofString "stalk"
        · rw [if_pos e2, e2, hm3]
        · rw [if_neg e2]
    · have : ∀ {l : List (Addr × Obj)}, LCg.Off1 D9 l → ∀ q ∈ l, q.1 ≠ D9 := by
        intro l
        induction l with
        | nil => intro _ q hq; cases hq
        | cons p r ih =>
          intro h q hq
          rcases List.mem_cons.mp hq with e | hq
          · rw [e]; exact h.1
          · exact ih h.2 q hq
      exact this o9 q hq
theorem head_take {es : List Int} : List.take 1 es = [1] ↔ es.headD 0 = 1 := by
  cases es with
  | nil => simp
  | cons a r => simp
theorem ifs_one {x y : Str} {v v' : Option Value} {z : Str} (e : m x = v) : (if z = y then v' else if z = x then v else m z) = if z = y then v' else m z := by
  by_cases h1 : z = y
  · rw [if_pos h1, if_pos h1]
  · rw [if_neg h1, if_neg h1]
    by_cases h2 : z = x
    · rw [if_pos h2, h2, e]
    · rw [if_neg h2]
theorem news_pick4 {h : Heap} {t a b c d : Addr × Obj} {R : List (Addr × Obj)} (N : News h₀ L h (t :: a :: b :: c :: d :: R)) : News h₀ L h (t :: R) := fun q hq => N q (by
  rcases List.mem_cons.mp hq with e | hq
  · rw [e]; exact List.mem_cons_self
  · exact List.mem_cons_of_mem _ (List.mem_cons_of_mem _ (List.mem_cons_of_mem _ (List.mem_cons_of_mem _ (List.mem_cons_of_mem _ hq)))))
theorem lw_b4 (X : (hd.heap_1 w.params).In h₀) (T : Top p loose mean mg mb h₀) (B : Below callerA h₀ [] h₀) {e : Addr} {ys : List Value} {en : Nat} {es : List Int} 
    (hm3 : m (Str.ofString "edges") = some (.ref e)) (hI : IntsAre ys es) (hl : es.length ≤ 10) (hne : ∀ q ∈ lwLed w hq pl x dx D u hs nh ps np vs n RR, q.1 ≠ e)
    (F : Fr h₀ L s.heap m) (N : News h₀ L s.heap ((e, W.listOf ys.toArray en) :: lwLed w hq pl x dx D u hs nh ps np vs n RR))
    (fin : ∀ h tk (g : Addr) gs gn, Fr h₀ L h (fun z => if z = Str.ofString "grown" then some (.ref g) else m z) → News h₀ L h ((g, W.listOf (List.toArray gs) gn) :: lwLed w hq pl x dx D u hs nh ps np vs n RR) → (∀ q ∈ lwLed w hq pl x dx D u hs nh ps np vs n RR, q.1 ≠ g) → IntsAre gs (if es.headD 0 = 1 then 1 :: es else es) → Q .next { s with heap := h, toks := tk }) :
    wpAny (model prg w) (callerA.deeper (lwE w L fa cdv)) (exec (lwB w 4) (lwE w L fa cdv)) Q (fun _ _ => False) s := by
  simp only [lwE, lwB, lwD, forBody, List.getElem?_cons_zero, List.getElem?_cons_succ, Option.getD_some]
  have F1 := fr_ifs [(Str.ofString "edges", some (.ref e))] F ⟨hm3, trivial⟩
  clear F
  dsimp only [ifs] at F1
  unfold lwLed at N
  k_steps
  all_goals (rename Fr _ _ _ _ => lF'); (rename News _ _ _ _ => lN')
  all_goals (try dsimp only)
  · rename IntsAre _ _ => hI9
    rename And _ _ => l9
    have q9 : List.take 1 es = [1] := by assumption
    refine fin _ _ _ _ _ (Fr.congr' lF' fun z => ?_) (news_pick4 lN') (fun q hq => ?_) (by rw [if_pos (head_take.mp q9)]; exact hI9)
    · exact ifs_one hm3
    · exact Nat.ne_of_lt (led_lt l9.2.2.2.2 q hq)
  · have q9 : ¬ List.take 1 es = [1] := by assumption
    refine fin _ _ _ _ _ (Fr.congr' lF' fun z => ?_) (fun q hq => lN' q (List.mem_cons_of_mem _ (List.mem_cons_of_mem _ hq))) hne (by rw [if_neg (fun h => q9 (head_take.mpr h))]; exact hI)
    exact ifs_one hm3
local macro_rules | `(tactic| walk_at "eval ListComp") => `(tactic| (k_dflt (refine compLN (by k_asm) (by rfl) (by decide) (by rfl) (by decide) (by rfl) ?_)))
theorem lw_b5 (X : (hd.heap_1 w.params).In h₀) (T : Top p loose mean mg mb h₀) (B : Below callerA h₀ [] h₀) {g : Addr} {gs : List Value} {gn : Nat} {es : List Int} {ov : Int} {to : Tok} (hov : ov = 0 ∨ ov = 1)
    (hm2 : m (Str.ofString "over") = some (.int ov to)) (hm3 : m (Str.ofString "grown") = some (.ref g)) (hm4 : m (Str.ofString "players") = some (.ref pl)) (hI : IntsAre gs es) (hl : es.length ≤ 10) (hne : ∀ q ∈ lwLed w hq pl x dx D u hs nh ps np vs n RR, q.1 ≠ g) (hps : ps.length ≤ 100) (hqp : @Ne Nat hq pl) (hoff : ∀ q ∈ (x, instObj 227 dx) :: (dx, hdDict w u hq) :: (D, W.listOf vs.toArray n) :: RR, q.1 ≠ pl)
    (F : Fr h₀ L s.heap m) (N : News h₀ L s.heap ((g, W.listOf gs.toArray gn) :: lwLed w hq pl x dx D u hs nh ps np vs n RR))
    (fin : ∀ h tk (pg : Addr) gs' gn', Fr h₀ L h m → News h₀ L h ((pg, W.listOf (List.toArray gs') gn') :: lwLed w hq pl x dx D u hs nh (ps ++ [.ref pg]) (np + 1) vs n RR) → (∀ q ∈ lwLed w hq pl x dx D u hs nh ps np vs n RR, q.1 ≠ pg) → IntsAre gs' (if ov = 1 then es.map (fun e => -e) else es) → Q .next { s with heap := h, toks := tk }) :
    wpAny (model prg w) (callerA.deeper (lwE w L fa cdv)) (exec (lwB w 5) (lwE w L fa cdv)) Q (fun _ _ => False) s := by
  simp only [lwE, lwB, lwD, forBody, List.getElem?_cons_zero, List.getElem?_cons_succ, Option.getD_some]
  have F1 := fr_ifs [(Str.ofString "over", some (.int ov to)), (Str.ofString "grown", some (.ref g)), (Str.ofString "players", some (.ref pl))] F ⟨hm2, hm3, hm4, trivial⟩
  clear F
  dsimp only [ifs] at F1
  unfold lwLed at N
  have hz9 : (1001 : Nat) ≤ sizeLine := by decide
  have hgl : (g, W.listOf gs.toArray gn) ∈ (g, W.listOf gs.toArray gn) :: lwLed w hq pl x dx D u hs nh ps np vs n RR := List.mem_cons_self
  have hgp : @Ne Nat g pl := Ne.symm (hne (pl, W.listOf ps.toArray np) (by unfold lwLed; simp))
  rcases hov with rfl | rfl
  · k_steps
    (rename Fr _ _ _ _ => lF'); (rename News _ _ _ _ => lN')
    k_dflt (refine append_led lF' lN' (Upd.tail hgp (Upd.tail hqp (Upd.head hoff))) (by omega) (fun h8' F8' N8' => ?_))
    clear lF' lN'
    k_steps
    (try dsimp only)
    (rename Fr _ _ _ _ => lF'); (rename News _ _ _ _ => lN')
    exact fin _ _ _ _ _ (fr_fis [(Str.ofString "over", some (.int 0 to)), (Str.ofString "grown", some (.ref g)), (Str.ofString "players", some (.ref pl))] lF' ⟨hm2, hm3, hm4, trivial⟩) lN' hne (by rw [if_neg (by decide)]; exact hI)
  · k_steps
    (rename Fr _ _ _ _ => lF'); (rename News _ _ _ _ => lN')
    have hlen1 := hI.length
    with_unfolding_all refine' ⟨g, gs.toArray, (g, W.listOf gs.toArray gn) :: lwLed w hq pl x dx D u hs nh ps np vs n RR, (fun nw => nw = (g, W.listOf gs.toArray gn) :: lwLed w hq pl x dx D u hs nh ps np vs n RR), (fun i ys _ => IntsAre ys ((es.take i).map fun e => -e)), rfl, rfl, lF', lN', rfl, IntsAre.nil, by rw [List.size_toArray]; omega, fun h nw hk N' hS => ?_, fun g9 j9 v9 ys9 nw9 I9 oI9 C9 oC9 D9 m9 h9 tk9 hv9 hS9 hJ9 hl9 hC9 hx9 F' N' off9 ne9 => ?_, fun g9 D9 h9 tk9 ys9 nw9 F' N' o9 hS9 hJ9 => ?_⟩
    · subst hS
      exact Mine.listOf_is (N'.get hgl)
    · subst hS9
      clear lF' lN'
      unfold lwLed at N'
      have hi9 : j9 < es.length := by
        have := (Array.getElem?_eq_some_iff.mp hv9).1
        have : j9 < gs.length := by simpa using this
        omega
      obtain ⟨t9, ht9⟩ := hI.get j9 (es[j9]) (by simp [hi9])
      have hv8 : gs[j9]? = some v9 := by simpa using hv9
      rw [ht9] at hv8
      cases hv8
      (try dsimp only at hx9)
      (try dsimp only at hJ9)
      k_steps
      all_goals (try dsimp only)
      all_goals (rename Fr _ _ _ _ => lF'); (rename News _ _ _ _ => lN')
      refine LCg.CompEnd.intro lF' lN' _ (fun q hq => hq) off9 rfl ?_
      rw [List.take_add_one, List.map_append, List.getElem?_eq_getElem hi9]
      exact ints_snoc hJ9 _ _
    · subst hS9
      clear lF' lN'
      rw [List.size_toArray, hlen1, List.take_length] at hJ9
      have hDn : ∀ q ∈ (g, W.listOf gs.toArray gn) :: lwLed w hq pl x dx D u hs nh ps np vs n RR, q.1 ≠ D9 := off1_mem o9
      have hDp : @Ne Nat D9 pl := Ne.symm (hDn (pl, W.listOf ps.toArray np) (by unfold lwLed; simp))
      (try dsimp only)
      have N8 : News h₀ L h9 ((D9, LCg.lst ys9) :: lwLed w hq pl x dx D u hs nh ps np vs n RR) := fun q hq => N' q (by
        rcases List.mem_cons.mp hq with e | hq
        · rw [e]; exact List.mem_cons_self
        · exact List.mem_cons_of_mem _ (List.mem_cons_of_mem _ hq))
      clear N'
      unfold lwLed at N8
      k_steps
      (rename Fr _ _ _ _ => lF'); (rename News _ _ _ _ => lN')
      k_dflt (refine append_led lF' lN' (Upd.tail hDp (Upd.tail hqp (Upd.head hoff))) (by omega) (fun h8' F8' N8' => ?_))
      clear lF' lN'
      k_steps
      (try dsimp only)
      (rename Fr _ _ _ _ => lF'); (rename News _ _ _ _ => lN')
      exact fin _ _ _ _ _ (fr_fis [(Str.ofString "over", some (.int 1 to)), (Str.ofString "grown", some (.ref g)), (Str.ofString "players", some (.ref pl))] lF' ⟨hm2, hm3, hm4, trivial⟩) lN' (fun q hq => hDn q (List.mem_cons_of_mem _ hq)) (by rw [if_pos rfl]; exact hJ9)
end

end
section
theorem fillL5 : (∃ f : Params → Frag, f = Mine.hd.heap_1) ∧ PySem.Challenge.rw_sh0030_01 = PySem.Challenge.rw_sh0030_01 := by w_top off; k_fill; exact ⟨⟨_, rfl⟩, rfl⟩
def playerF (ov : Int) (ls : List Int) : List Int := if ov = 1 then (grownOf ls).map (fun e => -e) else grownOf ls
structure Offs (hq pl x dx D : Addr) (RR : List (Addr × Obj)) : Prop where
  hp : @Ne Nat hq pl
  rr : ∀ q ∈ RR, q.1 ≠ hq ∧ q.1 ≠ pl
  xx : x ≠ hq ∧ x ≠ pl
  dd : dx ≠ hq ∧ dx ≠ pl
  D : D ≠ hq ∧ D ≠ pl
theorem Offs.h {w : World} {u : Tok} {ps vs : List Value} {np n : Nat} {hq pl x dx D : Addr} {RR : List (Addr × Obj)} (o : Offs hq pl x dx D RR) : ∀ q ∈ (pl, W.listOf ps.toArray np) :: (x, instObj 227 dx) :: (dx, hdDict w u hq) :: (D, W.listOf vs.toArray n) :: RR, q.1 ≠ hq := by
  intro q hm
  simp only [List.mem_cons] at hm
  rcases hm with e | e | e | e | hm
  · rw [e]; exact Ne.symm o.hp
  · rw [e]; exact o.xx.1
  · rw [e]; exact o.dd.1
  · rw [e]; exact o.D.1
  · exact (o.rr q hm).1
theorem Offs.p {w : World} {u : Tok} {vs : List Value} {n : Nat} {hq pl x dx D : Addr} {RR : List (Addr × Obj)} (o : Offs hq pl x dx D RR) : ∀ q ∈ (x, instObj 227 dx) :: (dx, hdDict w u hq) :: (D, W.listOf vs.toArray n) :: RR, q.1 ≠ pl := by
  intro q hm
  simp only [List.mem_cons] at hm
  rcases hm with e | e | e | hm
  · rw [e]; exact o.xx.2
  · rw [e]; exact o.dd.2
  · rw [e]; exact o.D.2
  · exact (o.rr q hm).2
theorem Offs.cons {hq pl x dx D : Addr} {RR : List (Addr × Obj)} {q : Addr × Obj} (o : Offs hq pl x dx D RR) (h : q.1 ≠ hq ∧ q.1 ≠ pl) : Offs hq pl x dx D (q :: RR) :=
  ⟨o.hp, fun p hp => by
    rcases List.mem_cons.mp hp with rfl | hp
    · exact h
    · exact o.rr p hp, o.xx, o.dd, o.D⟩
theorem lwB_eq (w : World) : forBody (lwD w).1.1 4 = [lwB w 0, lwB w 1, lwB w 2, lwB w 3, lwB w 4, lwB w 5] := rfl
section
variable {w : World} {s : Shared} {p : Program} {loose : List Str} {mean : ExcName → Option Value} {mg mb : Str → Option Value}
  {h₀ : Heap} {L fa : Addr} {cdv : Value} {m : Str → Option Value} {Q : Flow → Shared → Prop}
  {hq pl x dx D : Addr} {u : Tok} {hs ps vs : List Value} {nh np n : Nat} {ds : List Int} {RR : List (Addr × Obj)}
theorem led_mid {h : Heap} {e : Addr × Obj} (N : News h₀ L h (e :: lwLed w hq pl x dx D u hs nh ps np vs n RR)) : News h₀ L h (lwLed w hq pl x dx D u hs nh ps np vs n (e :: RR)) := fun q hm => N q (by
  unfold lwLed at hm ⊢
  simp only [List.mem_cons] at hm ⊢
  rcases hm with e | e | e | e | e | e | e <;> simp [e])
theorem led_drop {h : Heap} {e : Addr × Obj} (N : News h₀ L h (e :: lwLed w hq pl x dx D u hs nh ps np vs n RR)) : News h₀ L h (lwLed w hq pl x dx D u hs nh ps np vs n RR) := fun q hm => N q (List.mem_cons_of_mem _ hm)
theorem name_clean {ov : Int} {nm : Str} (h : NameOk ov nm) : CleanN nm := by
  obtain ⟨c1, c2, c3, c4, _⟩ := names_clean
  rcases h with ⟨_, rfl | rfl⟩ | ⟨_, rfl | rfl⟩ <;> assumption
theorem led_ne {h t : Addr} {hs' ps' : List Value} {nh' np' : Nat} (hn : ∀ q ∈ lwLed w hq pl x dx D u hs nh ps np vs n RR, q.1 ≠ t) : ∀ q ∈ lwLed w hq pl x dx D u hs' nh' ps' np' vs n RR, q.1 ≠ t := by
  unfold lwLed at hn ⊢
  simp only [List.mem_cons, forall_eq_or_imp] at hn ⊢
  exact hn
theorem lw_turn (X : (hd.heap_1 w.params).In h₀) (T : Top p loose mean mg mb h₀) (B : Below callerA h₀ [] h₀) (hI : IntsAre vs ds) (hlen : ds.length = 4) {k : Nat} {tk : Tok} (hk : k < 3) {a : Addr} {sn : Nat} {svs : List Value} {st : List (Int × Int)} {TT : List (Addr × Obj)}
    (m1 : m (Str.ofString "k") = some (.int k tk)) (m2 : m (Str.ofString "stalk") = some (.ref a)) (m3 : m (Str.ofString "draws") = some (.ref D)) (m4 : m (Str.ofString "table") = some (.ref x)) (m5 : m (Str.ofString "players") = some (.ref pl))
    (ha : (a, W.listOf svs.toArray sn) ∈ RR) (hT : ∀ q ∈ TT, q ∈ RR) (hJ : TupsAre svs st TT) (hst : ∀ q ∈ st, (q.1 = 0 ∨ q.1 = 1) ∧ 0 ≤ q.2 ∧ q.2 < 66) (hl : st.length ≤ 9) (hhs : hs.length ≤ 100) (hps : ps.length ≤ 100) (o : Offs hq pl x dx D RR)
    (F : Fr h₀ L s.heap m) (N : News h₀ L s.heap (lwLed w hq pl x dx D u hs nh ps np vs n RR))
    (fin : ∀ h tk' m' (t pg : Addr) nm t1 t2 gs gn, NameOk (overF ds k) nm → Fr h₀ L h m' → (∀ z, z ≠ Str.ofString "over" → z ≠ Str.ofString "name" → z ≠ Str.ofString "edges" → z ≠ Str.ofString "grown" → m' z = m z) →
      News h₀ L h (lwLed w hq pl x dx D u (hs ++ [.ref t]) (nh + 1) (ps ++ [.ref pg]) (np + 1) vs n ((pg, W.listOf (List.toArray gs) gn) :: (t, tupO #[.str nm t1, .str ⟨(rowOf (st.map (·.1))).toArray⟩ t2]) :: RR)) →
      (∀ q ∈ lwLed w hq pl x dx D u hs nh ps np vs n RR, q.1 ≠ t ∧ q.1 ≠ pg) → IntsAre gs (playerF (overF ds k) (st.map (·.1))) → Q .next { s with heap := h, toks := tk' }) :
    wpAny (model prg w) (callerA.deeper (lwE w L fa cdv)) (execs (forBody (lwD w).1.1 4) (lwE w L fa cdv)) Q (fun _ _ => False) s := by
  rw [lwB_eq]
  have hov : overF ds k = 0 ∨ overF ds k = 1 := fmod2 _
  have F0 : Fr h₀ L s.heap (fun z => if z = Str.ofString "k" then some (.int k tk) else if z = Str.ofString "draws" then some (.ref D) else m z) := fr_ifs [(Str.ofString "k", some (.int k tk)), (Str.ofString "draws", some (.ref D))] F ⟨m1, m3, trivial⟩
  refine wpAny_execs_cons (lw_b0 hI hlen hk F0 N fun h1 k1 t0 F1 N1 => ?_)
  refine wpAny_execs_cons (lw_b1 X T B hI hlen hk hov F1 N1 fun h2 k2 tn nm hnm F2 N2 => ?_)
  refine wpAny_execs_cons (lw_b2 X T B (st := st) (tn := tn) (a := a) (name_clean hnm) ?_ ?_ ?_ ha hT hJ hst (by omega) hhs o.h F2 N2 fun h3 k3 t t1 t2 F3 N3 n3 => ?_)
  · show (if Str.ofString "table" = Str.ofString "name" then _ else if Str.ofString "table" = Str.ofString "over" then _ else if Str.ofString "table" = Str.ofString "k" then _ else if Str.ofString "table" = Str.ofString "draws" then _ else m (Str.ofString "table")) = _
    rw [if_neg (by decide), if_neg (by decide), if_neg (by decide), if_neg (by decide)]; exact m4
  · exact if_pos rfl
  · show (if Str.ofString "stalk" = Str.ofString "name" then _ else if Str.ofString "stalk" = Str.ofString "over" then _ else if Str.ofString "stalk" = Str.ofString "k" then _ else if Str.ofString "stalk" = Str.ofString "draws" then _ else m (Str.ofString "stalk")) = _
    rw [if_neg (by decide), if_neg (by decide), if_neg (by decide), if_neg (by decide)]; exact m2
  have o3 : Offs hq pl x dx D ((t, tupO #[.str nm t1, .str ⟨(rowOf (st.map (·.1))).toArray⟩ t2]) :: RR) := o.cons ⟨Ne.symm (n3 (hq, _) (by unfold lwLed; exact List.mem_cons_self)), Ne.symm (n3 (pl, _) (by unfold lwLed; exact List.mem_cons_of_mem _ List.mem_cons_self))⟩
  refine wpAny_execs_cons (lw_b3 X T B (st := st) (a := a) ?_ (List.mem_cons_of_mem _ ha) (fun q hq' => List.mem_cons_of_mem _ (hT q hq')) hJ hst (by omega) F3 (led_mid N3) fun h4 k4 e ys F4 N4 n4 hI4 => ?_)
  · show (if Str.ofString "stalk" = Str.ofString "name" then _ else if Str.ofString "stalk" = Str.ofString "over" then _ else if Str.ofString "stalk" = Str.ofString "k" then _ else if Str.ofString "stalk" = Str.ofString "draws" then _ else m (Str.ofString "stalk")) = _
    rw [if_neg (by decide), if_neg (by decide), if_neg (by decide), if_neg (by decide)]; exact m2
  have hel : (edgesOf (st.map (·.1))).length ≤ 9 := by unfold edgesOf; rw [List.length_map, List.length_map]; exact hl
  refine wpAny_execs_cons (lw_b4 X T B (e := e) (if_pos rfl) hI4 (by omega) n4 F4 N4 fun h5 k5 g gs gn F5 N5 n5 hI5 => ?_)
  have hI5' : IntsAre gs (grownOf (st.map (·.1))) := hI5
  have hgl : (grownOf (st.map (·.1))).length ≤ 10 := by
    unfold grownOf
    split
    · rw [List.length_cons]; omega
    · omega
  refine wpAny_execs_cons (lw_b5 X T B hov (to := t0) (g := g) ?_ (if_pos rfl) ?_ hI5' hgl n5 hps o3.hp o3.p F5 N5 fun h6 k6 pg gs' gn' F6 N6 n6 hI6 => ?_)
  · show (if Str.ofString "over" = Str.ofString "grown" then _ else if Str.ofString "over" = Str.ofString "edges" then _ else if Str.ofString "over" = Str.ofString "name" then _ else if Str.ofString "over" = Str.ofString "over" then _ else _) = _
    rw [if_neg (by decide), if_neg (by decide), if_neg (by decide), if_pos rfl]
  · show (if Str.ofString "players" = Str.ofString "grown" then _ else if Str.ofString "players" = Str.ofString "edges" then _ else if Str.ofString "players" = Str.ofString "name" then _ else if Str.ofString "players" = Str.ofString "over" then _ else if Str.ofString "players" = Str.ofString "k" then _ else if Str.ofString "players" = Str.ofString "draws" then _ else m (Str.ofString "players")) = _
    rw [if_neg (by decide), if_neg (by decide), if_neg (by decide), if_neg (by decide), if_neg (by decide), if_neg (by decide)]; exact m5
  refine wpAny_execs_nil (fin _ _ _ t pg nm t1 t2 gs' gn' hnm F6 (fun z z1 z2 z3 z4 => ?_) (led_mid N6) (fun q hm => ⟨n3 q hm, ?_⟩) hI6)
  · show (if z = Str.ofString "grown" then _ else if z = Str.ofString "edges" then _ else if z = Str.ofString "name" then _ else if z = Str.ofString "over" then _ else if z = Str.ofString "k" then _ else if z = Str.ofString "draws" then _ else m z) = m z
    rw [if_neg z4, if_neg z3, if_neg z2, if_neg z1]
    exact ifs_eq (l := [(Str.ofString "k", some (.int k tk)), (Str.ofString "draws", some (.ref D))]) ⟨m1, m3, trivial⟩
  · unfold lwLed at hm n6
    simp only [List.mem_cons, forall_eq_or_imp] at hm n6
    rcases hm with e | e | e | e | e | hm
    · rw [e]; exact n6.1
    · rw [e]; exact n6.2.1
    · rw [e]; exact n6.2.2.1
    · rw [e]; exact n6.2.2.2.1
    · rw [e]; exact n6.2.2.2.2.1
    · exact n6.2.2.2.2.2.2 q hm
end

end
section
theorem fillL6 : (∃ f : Params → Frag, f = Mine.hd.heap_1) ∧ PySem.Challenge.rw_sh0030_01 = PySem.Challenge.rw_sh0030_01 := by w_top off; k_fill; exact ⟨⟨_, rfl⟩, rfl⟩
theorem stalk_ok (r : Int) : ∀ (n : Nat) (q : Int × Int), q ∈ stalkL r n → (q.1 = 0 ∨ q.1 = 1) ∧ 0 ≤ q.2 ∧ q.2 < 66
  | 0, q, h => nomatch h
  | n + 1, q, h => by
    unfold stalkL at h
    rcases List.mem_append.mp h with h | h
    · exact stalk_ok r n q h
    · rw [List.mem_singleton.mp h]
      refine ⟨fmod2 _, ?_⟩
      show 0 ≤ ((restF r n).fdiv 2).fmod 66 ∧ ((restF r n).fdiv 2).fmod 66 < 66
      rw [Int.fmod_eq_emod_of_nonneg _ (by decide)]
      omega
theorem stalkK_len {ds : List Int} {i : Nat} (h : i < 3) : (stalkK ds i).length ≤ 3 := by
  unfold stalkK
  rw [stalkL_length]
  exact (len_is h).2
def HdAt (v : Value) (nm : Str) (row : List Nat) (RR : List (Addr × Obj)) : Prop := ∃ (t : Addr) (t1 t2 : Tok), v = .ref t ∧ (t, tupO #[.str nm t1, .str ⟨row.toArray⟩ t2]) ∈ RR
def PlAt (v : Value) (es : List Int) (RR : List (Addr × Obj)) : Prop := ∃ (a : Addr) (gs : List Value) (gn : Nat), v = .ref a ∧ (a, W.listOf (List.toArray gs) gn) ∈ RR ∧ IntsAre gs es
def lefK (ds : List Int) (i : Nat) : List Int := (stalkK ds i).map (·.1)
def Kept (m m' : Str → Option Value) : Prop := ∀ z, z ≠ Str.ofString "over" → z ≠ Str.ofString "name" → z ≠ Str.ofString "edges" → z ≠ Str.ofString "grown" → z ≠ Str.ofString "k" → z ≠ Str.ofString "stalk" → m' z = m z
theorem Kept.trans {m m' m'' : Str → Option Value} (h : Kept m m') (h' : Kept m' m'') : Kept m m'' := fun z a b c d e f => (h' z a b c d e f).trans (h z a b c d e f)
def forTarget : Stmt → PySem.Expr
  | .For t _ _ _ _ => t
  | _ => .Name (Str.ofString "_") default
noncomputable def lwT (w : World) : PySem.Expr := forTarget (lwS w 4)
section
variable {w : World} {s : Shared} {p : Program} {loose : List Str} {mean : ExcName → Option Value} {mg mb : Str → Option Value}
  {h₀ : Heap} {L fa : Addr} {cdv : Value} {m : Str → Option Value} {Q : Flow → Shared → Prop}
  {hq pl x dx D : Addr} {u : Tok} {vs : List Value} {n : Nat} {ds : List Int}
local macro_rules | `(tactic| walk_at "exec For") => `(tactic| ((rename Fr _ _ _ _ => lF'); k_dflt (refine' For_turns ?hF ?_; (case hF => exact lF'))))
local macro_rules | `(tactic| walk_at "exec For Tuple Call") => `(tactic| ((rename Fr _ _ _ _ => lF'); k_dflt (refine' For_turns ?hF ?_; (case hF => exact lF'))))
local macro_rules | `(tactic| walk_at "exec For Tuple Call cons nil") => `(tactic| ((rename Fr _ _ _ _ => lF'); k_dflt (refine' For_turns ?hF ?_; (case hF => exact lF'))))
local macro_rules | `(tactic| walk_at "call type:enumerate") => `(tactic| (refine Stop.of ?_))
set_option hygiene false in
local macro_rules | `(tactic| walk_at "call ref") => `(tactic| ((with_reducible show wpAny _ _ (call (Value.ref 245) [Value.ref _] _) _ _ _); (walk_at "FN"); k_dflt (refine NewCall.use (call_stalks (X.keeps lF'.keep) (T.keeps lF'.keep) (listIn lN' (by k_mem)) hI hlen hsmall) lF' lN' (fun v9 objs9 h9 tk9 hv9 F' N' ne9 => ?_)); obtain ⟨b9, n9, v0, v1, v2, O9, rfl, rfl, st0, st1, st2⟩ := hv9; clear lF' lN'))
local macro_rules | `(tactic| walk_at "execs cons") => `(tactic| (refine Stop.of ?_))
theorem lw_items (X : (hd.heap_1 w.params).In h₀) (T : Top p loose mean mg mb h₀) (B : Below callerA h₀ [] h₀) (hI : IntsAre vs ds) (hlen : ds.length = 4) {k : Nat} (hk : k < 3) {I b9 : Addr} {lo : Obj} {v : Value} {st : List (Int × Int)} {r : List Itm} {hs ps : List Value} {nh np : Nat} {RR : List (Addr × Obj)}
    (m3 : m (Str.ofString "draws") = some (.ref D)) (m4 : m (Str.ofString "table") = some (.ref x)) (m5 : m (Str.ofString "players") = some (.ref pl)) (o : Offs hq pl x dx D RR) (hb9 : (b9, lo) ∈ RR) (hv : StalkIn v st RR) (hst : ∀ q ∈ st, (q.1 = 0 ∨ q.1 = 1) ∧ 0 ≤ q.2 ∧ q.2 < 66) (hl : st.length ≤ 9) (hhs : hs.length ≤ 100) (hps : ps.length ≤ 100)
    (hoI : ∀ q ∈ lwLed w hq pl x dx D u hs nh ps np vs n RR, q.1 ≠ I + 1 ∧ q.1 ≠ I)
    (rest : ∀ m' (t pg : Addr) nm t1 t2 gs gn, NameOk (overF ds k) nm → m' (Str.ofString "draws") = some (.ref D) → m' (Str.ofString "table") = some (.ref x) → m' (Str.ofString "players") = some (.ref pl) → (∀ z, z ≠ Str.ofString "over" → z ≠ Str.ofString "name" → z ≠ Str.ofString "edges" → z ≠ Str.ofString "grown" → z ≠ Str.ofString "k" → z ≠ Str.ofString "stalk" → m' z = m z) → IntsAre gs (playerF (overF ds k) (st.map (·.1))) →
      Offs hq pl x dx D ((pg, W.listOf (List.toArray gs) gn) :: (t, tupO #[.str nm t1, .str ⟨(rowOf (st.map (·.1))).toArray⟩ t2]) :: RR) →
      (∀ q ∈ lwLed w hq pl x dx D u (hs ++ [.ref t]) (nh + 1) (ps ++ [.ref pg]) (np + 1) vs n ((pg, W.listOf (List.toArray gs) gn) :: (t, tupO #[.str nm t1, .str ⟨(rowOf (st.map (·.1))).toArray⟩ t2]) :: RR), q.1 ≠ I + 1 ∧ q.1 ≠ I) →
      ItemsRest prg w (callerA.deeper (lwE w L fa cdv)) (fun _ _ => False) h₀ (lwE w L fa cdv) (lwT w) (forBody (lwD w).1.1 4) Q s [(I + 1, "enumerate"), (I, "list_iterator")] [(b9, lo)] r m' (lwLed w hq pl x dx D u (hs ++ [.ref t]) (nh + 1) (ps ++ [.ref pg]) (np + 1) vs n ((pg, W.listOf (List.toArray gs) gn) :: (t, tupO #[.str nm t1, .str ⟨(rowOf (st.map (·.1))).toArray⟩ t2]) :: RR))) :
    ItemsRest prg w (callerA.deeper (lwE w L fa cdv)) (fun _ _ => False) h₀ (lwE w L fa cdv) (lwT w) (forBody (lwD w).1.1 4) Q s [(I + 1, "enumerate"), (I, "list_iterator")] [(b9, lo)] (Itm.pair (fun t => .int (k : Int) t) v :: r) m (lwLed w hq pl x dx D u hs nh ps np vs n RR) := by
  obtain ⟨a, svs, sn, TT, rfl, ha, hT, hJ⟩ := hv
  refine ItemsRest.pair (fun Tp tt h1 tk1 hTp F => ?_)
  refine (fun oe hoe oi hoi N => ?_ : ∀ oe : Obj, oe.cls = .type "enumerate" → ∀ oi : Obj, oi.cls = .type "list_iterator" → News h₀ (lwE w L fa cdv).locals h1 ([(I + 1, oe), (I, oi)] ++ lwLed w hq pl x dx D u hs nh ps np vs n RR) → _)
  have N9 : News h₀ L h1 (lwLed w hq pl x dx D u hs nh ps np vs n ((I + 1, oe) :: (I, oi) :: RR)) := fun q hm => N q (by
    unfold lwLed at hm ⊢
    simp only [List.mem_cons, List.cons_append, List.nil_append] at hm ⊢
    rcases hm with e | e | e | e | e | e | e | e <;> simp [e])
  clear N
  have F9 : Fr h₀ L h1 m := F
  clear F
  simp only [lwE, lwT, forTarget, lwS, lwD, forBody, List.getElem?_cons_zero, List.getElem?_cons_succ, Option.getD_some]
  k_steps
  unfold Stop
  (rename Fr _ _ _ _ => lF'); (rename News _ _ _ _ => lN')
  have hoI' : ∀ q ∈ RR, q.1 ≠ I + 1 ∧ q.1 ≠ I := fun q hm => hoI q (by unfold lwLed; simp only [List.mem_cons, hm, or_true])
  have o' : Offs hq pl x dx D ((I + 1, oe) :: (I, oi) :: RR) := (o.cons ⟨Ne.symm (hoI (hq, _) (by unfold lwLed; exact List.mem_cons_self)).2, Ne.symm (hoI (pl, _) (by unfold lwLed; exact List.mem_cons_of_mem _ List.mem_cons_self)).2⟩).cons ⟨Ne.symm (hoI (hq, _) (by unfold lwLed; exact List.mem_cons_self)).1, Ne.symm (hoI (pl, _) (by unfold lwLed; exact List.mem_cons_of_mem _ List.mem_cons_self)).1⟩
  refine lw_turn X T B hI hlen hk (tk := tt) (a := a) (st := st) ?_ ?_ ?_ ?_ ?_ (List.mem_cons_of_mem _ (List.mem_cons_of_mem _ ha)) (fun q hm => List.mem_cons_of_mem _ (List.mem_cons_of_mem _ (hT q hm))) hJ hst hl hhs hps o' lF' lN' (fun h2 tk2 m' t pg nm t1 t2 gs gn hnm F2 hm' N2 hn hI2 => ?_)
  · show (if Str.ofString "k" = Str.ofString "stalk" then _ else if Str.ofString "k" = Str.ofString "k" then _ else _) = _
    rw [if_neg (by decide), if_pos rfl]
  · exact if_pos rfl
  · show (if Str.ofString "draws" = Str.ofString "stalk" then _ else if Str.ofString "draws" = Str.ofString "k" then _ else m (Str.ofString "draws")) = _
    rw [if_neg (by decide), if_neg (by decide)]; exact m3
  · show (if Str.ofString "table" = Str.ofString "stalk" then _ else if Str.ofString "table" = Str.ofString "k" then _ else m (Str.ofString "table")) = _
    rw [if_neg (by decide), if_neg (by decide)]; exact m4
  · show (if Str.ofString "players" = Str.ofString "stalk" then _ else if Str.ofString "players" = Str.ofString "k" then _ else m (Str.ofString "players")) = _
    rw [if_neg (by decide), if_neg (by decide)]; exact m5
  have hm2 : ∀ z, z ≠ Str.ofString "over" → z ≠ Str.ofString "name" → z ≠ Str.ofString "edges" → z ≠ Str.ofString "grown" → z ≠ Str.ofString "k" → z ≠ Str.ofString "stalk" → m' z = m z := fun z z1 z2 z3 z4 z5 z6 => by
    rw [hm' z z1 z2 z3 z4]
    show (if z = Str.ofString "stalk" then _ else if z = Str.ofString "k" then _ else m z) = _
    rw [if_neg z6, if_neg z5]
  have hnI1 : t ≠ I + 1 ∧ t ≠ I := ⟨Ne.symm (hn (I + 1, oe) (by unfold lwLed; simp)).1, Ne.symm (hn (I, oi) (by unfold lwLed; simp)).1⟩
  have hnI2 : pg ≠ I + 1 ∧ pg ≠ I := ⟨Ne.symm (hn (I + 1, oe) (by unfold lwLed; simp)).2, Ne.symm (hn (I, oi) (by unfold lwLed; simp)).2⟩
  have ht : t ≠ hq ∧ t ≠ pl := ⟨Ne.symm (hn (hq, _) (by unfold lwLed; exact List.mem_cons_self)).1, Ne.symm (hn (pl, _) (by unfold lwLed; exact List.mem_cons_of_mem _ List.mem_cons_self)).1⟩
  have hpg : pg ≠ hq ∧ pg ≠ pl := ⟨Ne.symm (hn (hq, _) (by unfold lwLed; exact List.mem_cons_self)).2, Ne.symm (hn (pl, _) (by unfold lwLed; exact List.mem_cons_of_mem _ List.mem_cons_self)).2⟩
  have o2 : Offs hq pl x dx D ((pg, W.listOf (List.toArray gs) gn) :: (t, tupO #[.str nm t1, .str ⟨(rowOf (st.map (·.1))).toArray⟩ t2]) :: RR) := (o.cons ht).cons hpg
  have hoff : ∀ q ∈ lwLed w hq pl x dx D u (hs ++ [.ref t]) (nh + 1) (ps ++ [.ref pg]) (np + 1) vs n ((pg, W.listOf (List.toArray gs) gn) :: (t, tupO #[.str nm t1, .str ⟨(rowOf (st.map (·.1))).toArray⟩ t2]) :: RR), q.1 ≠ I + 1 ∧ q.1 ≠ I := by
    unfold lwLed at hoI ⊢
    simp only [List.mem_cons, forall_eq_or_imp] at hoI ⊢
    exact ⟨hoI.1, hoI.2.1, hoI.2.2.1, hoI.2.2.2.1, hoI.2.2.2.2.1, hnI2, hnI1, hoI.2.2.2.2.2⟩
  refine ⟨_, _, m', _, rfl, F2, fun q hm => N2 q ?_, fun q hm q' hm2 => ?_, ⟨?_, trivial⟩, rest m' t pg nm t1 t2 gs gn hnm ?_ ?_ ?_ hm2 hI2 o2 hoff⟩
  · unfold lwLed at hm ⊢
    simp only [List.mem_cons, List.cons_append, List.nil_append] at hm ⊢
    rcases hm with e | e | e | e | e | e | e | e | e | e <;> simp [e]
  · have := hoff q hm
    simp only [List.mem_cons, List.not_mem_nil, or_false] at hm2
    rcases hm2 with e | e
    · rw [e]; exact this.1
    · rw [e]; exact this.2
  · unfold lwLed; simp only [List.mem_cons, hb9, or_true]
  · rw [hm2 _ (by decide) (by decide) (by decide) (by decide) (by decide) (by decide)]; exact m3
  · rw [hm2 _ (by decide) (by decide) (by decide) (by decide) (by decide) (by decide)]; exact m4
  · rw [hm2 _ (by decide) (by decide) (by decide) (by decide) (by decide) (by decide)]; exact m5
theorem lw_s4 (X : (hd.heap_1 w.params).In h₀) (T : Top p loose mean mg mb h₀) (B : Below callerA h₀ [] h₀) (hI : IntsAre vs ds) (hlen : ds.length = 4) (hsmall : ∀ d ∈ ds, d.natAbs < 2 ^ 1048700)
    (m3 : m (Str.ofString "draws") = some (.ref D)) (m4 : m (Str.ofString "table") = some (.ref x)) (m5 : m (Str.ofString "players") = some (.ref pl)) (o : Offs hq pl x dx D [])
    (F : Fr h₀ L s.heap m) (N : News h₀ L s.heap (lwLed w hq pl x dx D u [] 0 [] 0 vs n []))
    (fin : ∀ h tk m' h0 h1 h2 p0 p1 p2 nm0 nm1 nm2 RR, Fr h₀ L h m' → Kept m m' → News h₀ L h (lwLed w hq pl x dx D u [h0, h1, h2] 3 [p0, p1, p2] 3 vs n RR) → NameOk (overF ds 0) nm0 → NameOk (overF ds 1) nm1 → NameOk (overF ds 2) nm2 →
      HdAt h0 nm0 (rowOf (lefK ds 0)) RR → HdAt h1 nm1 (rowOf (lefK ds 1)) RR → HdAt h2 nm2 (rowOf (lefK ds 2)) RR → PlAt p0 (playerF (overF ds 0) (lefK ds 0)) RR → PlAt p1 (playerF (overF ds 1) (lefK ds 1)) RR → PlAt p2 (playerF (overF ds 2) (lefK ds 2)) RR → Q .next { s with heap := h, toks := tk }) :
    wpAny (model prg w) (callerA.deeper (lwE w L fa cdv)) (exec (lwS w 4) (lwE w L fa cdv)) Q (fun _ _ => False) s := by
  simp only [lwE, lwS, lwD, List.getElem?_cons_zero, List.getElem?_cons_succ, Option.getD_some]
  have F1 := fr_ifs [(Str.ofString "draws", some (.ref D)), (Str.ofString "table", some (.ref x)), (Str.ofString "players", some (.ref pl))] F ⟨m3, m4, m5, trivial⟩
  clear F
  dsimp only [ifs] at F1
  unfold lwLed at N
  k_steps
  unfold Stop
  have N8 : News h₀ L h9 (lwLed w hq pl x dx D u [] 0 [] 0 vs n ((b9, W.listOf #[v0, v1, v2] n9) :: O9)) := N'
  have F8 : Fr h₀ L h9 m := fr_fis [(Str.ofString "draws", some (.ref D)), (Str.ofString "table", some (.ref x)), (Str.ofString "players", some (.ref pl))] F' ⟨m3, m4, m5, trivial⟩
  have o8 : Offs hq pl x dx D ((b9, W.listOf #[v0, v1, v2] n9) :: O9) := ⟨o.hp, fun q hm => ⟨Ne.symm (ne9 _ List.mem_cons_self q hm), Ne.symm (ne9 _ (List.mem_cons_of_mem _ List.mem_cons_self) q hm)⟩, o.xx, o.dd, o.D⟩
  clear N' F'
  (with_reducible show wpAny _ _ (call (Value.type _) [Value.ref _]) (fun xv s₁ => wpAny _ _ (pyIter xv) (fun it s₂ => TurnsAt _ _ _ _ _ _ _ _ _ it s₂) _ s₁) _ _)
  with_unfolding_all refine' ktu_enum (lo := W.listOf #[v0, v1, v2] n9) (vs := [v0, v1, v2]) (xs := [Itm.pair (fun t => Value.int ((0 : Nat) : Int) t) v0, Itm.pair (fun t => Value.int ((1 : Nat) : Int) t) v1, Itm.pair (fun t => Value.int ((2 : Nat) : Int) t) v2]) ?hh F8 N8 ?hmem rfl rfl rfl (fun I lI => ?_)
  (case hh => rfl)
  (case hmem => unfold lwLed; simp)
  have hoI : ∀ q ∈ lwLed w hq pl x dx D u [] 0 [] 0 vs n ((b9, W.listOf #[v0, v1, v2] n9) :: O9), q.1 ≠ I + 1 ∧ q.1 ≠ I := fun q hm => by
    have := lI q hm
    exact ⟨Nat.ne_of_lt (Nat.lt_succ_of_lt this), Nat.ne_of_lt this⟩
  refine lw_items X T B hI hlen (k := 0) (by decide) (st := stalkK ds 0) (nh := 0) (np := 0) m3 m4 m5 o8 List.mem_cons_self (st0.more fun q hm => List.mem_cons_of_mem _ hm) (stalk_ok _ _) (Nat.le_trans (stalkK_len (by decide)) (by decide)) (by decide) (by decide) hoI (fun ma ta pa nma ta1 ta2 ga gna hna a3 a4 a5 ka hIa oa hoa => ?_)
  refine lw_items X T B hI hlen (k := 1) (by decide) (st := stalkK ds 1) a3 a4 a5 oa (by simp) (st1.more fun q hm => by simp [hm]) (stalk_ok _ _) (Nat.le_trans (stalkK_len (by decide)) (by decide)) (by simp) (by simp) hoa (fun mb' tb pb nmb tb1 tb2 gb gnb hnb b3 b4 b5 kb hIb ob hob => ?_)
  refine lw_items X T B hI hlen (k := 2) (by decide) (st := stalkK ds 2) b3 b4 b5 ob (by simp) (st2.more fun q hm => by simp [hm]) (stalk_ok _ _) (Nat.le_trans (stalkK_len (by decide)) (by decide)) (by simp) (by simp) hob (fun mc tc pc nmc tc1 tc2 gc gnc hnc c3 c4 c5 kc hIc oc hoc => ?_)
  refine ItemsRest.zero (fun h7 k7 F7 N7 => ?_)
  exact fin h7 k7 mc (.ref ta) (.ref tb) (.ref tc) (.ref pa) (.ref pb) (.ref pc) nma nmb nmc _ F7 (Kept.trans (Kept.trans ka kb) kc) N7 hna hnb hnc ⟨ta, ta1, ta2, rfl, by simp [lefK]⟩ ⟨tb, tb1, tb2, rfl, by simp [lefK]⟩ ⟨tc, tc1, tc2, rfl, by simp [lefK]⟩ ⟨pa, ga, gna, rfl, by simp, hIa⟩ ⟨pb, gb, gnb, rfl, by simp, hIb⟩ ⟨pc, gc, gnc, rfl, by simp, hIc⟩
end

end
section
theorem join_rows (sep : Str) : ∀ rows : List (List Nat), Txt.join sep (rows.map fun r => (⟨r.toArray⟩ : Str)) = ⟨(joinG sep.cps.toList rows).toArray⟩ := by
  intro rows
  show Builtin.Str.glued sep _ = _
  rw [StrLaws.glued_eq_join]
  induction rows with
  | nil => rfl
  | cons r rs ih =>
    cases rs with
    | nil => rfl
    | cons a b =>
      rw [joinG_cons (rs := a :: b) (by simp)]
      show (⟨r.toArray⟩ : Str) ++ sep ++ Str.join sep ((a :: b).map fun r => (⟨r.toArray⟩ : Str)) = _
      rw [ih]
      apply Str.ext'
      apply Array.toList_inj.mp
      simp [Str.cps_append]
def inter : List (List Nat) → List (List Nat)
  | [] => [[]]
  | [a] => [a]
  | a :: r => a :: [] :: inter r
def rowsN : Nat → List (List Nat)
  | 0 => [[]]
  | n + 1 => (rowsN n).flatMap fun l => [46 :: l, 45 :: l]
def rows2 : List (List Nat) := rowsN 0 ++ rowsN 1 ++ rowsN 2
def rows3 : List (List Nat) := rows2 ++ rowsN 3
/- a cut list of greedy search: what lies between the cuts holds no occurrence -/
def GapTo (s sub : Str) (hi k : Nat) : Nat → List Nat → Nat → Prop
  | a, [], f => f = a ∧ ∀ i, a ≤ i → i < k → ¬ StrLaws.At s sub hi i
  | a, c :: r, f => a ≤ c ∧ StrLaws.At s sub hi c ∧ (∀ i, a ≤ i → i < c → ¬ StrLaws.At s sub hi i) ∧ GapTo s sub hi k (c + sub.length) r f
theorem gap_snoc {s sub : Str} {hi k : Nat} (hs : 0 < sub.length) : ∀ {a : Nat} {cuts : List Nat} {f : Nat}, GapTo s sub hi k a cuts f → f ≤ k → StrLaws.At s sub hi k → GapTo s sub hi (k + 1) a (cuts ++ [k]) (k + sub.length)
  | a, [], f, h, hf, hk => ⟨by rw [← h.1]; exact hf, hk, h.2, rfl, fun i h1 h2 => absurd (Nat.lt_of_lt_of_le (Nat.lt_of_lt_of_le h2 (Nat.add_le_add_left hs k)) h1) (Nat.lt_irrefl _)⟩
  | a, c :: r, f, h, hf, hk => ⟨h.1, h.2.1, h.2.2.1, gap_snoc hs h.2.2.2 hf hk⟩
theorem gap_skip {s sub : Str} {hi k : Nat} : ∀ {a : Nat} {cuts : List Nat} {f : Nat}, GapTo s sub hi k a cuts f → (f ≤ k → ¬ StrLaws.At s sub hi k) → GapTo s sub hi (k + 1) a cuts f
  | a, [], f, h, hk => ⟨h.1, fun i h1 h2 => by
      rcases Nat.lt_or_ge i k with q | q
      · exact h.2 i h1 q
      · have : i = k := Nat.le_antisymm (Nat.le_of_lt_succ h2) q
        rw [this] at h1 ⊢
        exact hk (by rw [h.1]; exact h1)⟩
  | a, c :: r, f, h, hk => ⟨h.1, h.2.1, h.2.2.1, gap_skip h.2.2.2 hk⟩
theorem occ_gap (s sub : Str) (hi limit : Nat) (hs : 0 < sub.length) : ∀ (n k : Nat) (st : Array Nat × Nat), k + n ≤ limit → st.fst.size ≤ k → GapTo s sub hi k 0 st.fst.toList st.snd →
    GapTo s sub hi (k + n) 0 (forIn (List.range' k n) st (StrLaws.occBody s sub hi limit)).run.fst.toList (forIn (List.range' k n) st (StrLaws.occBody s sub hi limit)).run.snd
  | 0, _, _, _, _, h => h
  | n + 1, k, st, hl, hz, h => by
    rw [List.range'_succ, List.forIn_cons]
    unfold StrLaws.occBody
    have e : k + (n + 1) = k + 1 + n := by omega
    rw [e]
    split
    · rename_i hc
      refine occ_gap s sub hi limit hs n (k + 1) _ (by omega) (by show (st.fst.push k).size ≤ _; rw [Array.size_push]; omega) ?_
      show GapTo s sub hi (k + 1) 0 (st.fst.push k).toList (k + sub.length)
      rw [Array.toList_push]
      exact gap_snoc hs h hc.1.1.2 ⟨hc.1.2, hc.2⟩
    · rename_i hc
      exact occ_gap s sub hi limit hs n (k + 1) _ (by omega) (by show st.fst.size ≤ _; omega) (gap_skip h fun h1 h2 => hc ⟨⟨⟨by omega, h1⟩, h2.1⟩, h2.2⟩)
theorem occ_all (x y : Str) (hy : 0 < y.length) : ∃ f, GapTo x y x.length (x.length + 1) 0 (Builtin.Str.occurrences x y 0 x.length (x.length + 1)) f := by
  rw [StrLaws.occ_eq]
  have h := occ_gap x y x.length (x.length + 1) hy (x.length + 1) 0 ((#[] : Array Nat), 0) (by omega) (Nat.le_refl _) ⟨rfl, fun i _ h => nomatch h⟩
  rw [Nat.zero_add] at h
  exact ⟨_, h⟩
def NoSub (y p : List Nat) : Prop := ∀ u v, p ≠ u ++ y ++ v
theorem part_no {x y : Str} {a c : Nat} (hc : c ≤ x.length) (h : ∀ i, a ≤ i → i < c → ¬ StrLaws.At x y x.length i) (hy : 0 < y.length) : NoSub y.cps.toList (Builtin.Str.strSub x a c).cps.toList := by
  intro u v e
  rw [StrLaws.strSub_toList] at e
  have hn : y.cps.toList.length = y.length := rfl
  have hl : u.length + y.length ≤ c - a := by
    have := List.length_take_le (c - a) (x.cps.toList.drop a)
    rw [e, List.length_append, List.length_append, hn] at this
    exact Nat.le_trans (Nat.le_add_right _ _) this
  have h2 : a + u.length + y.length ≤ c := by clear h e hn hc; omega
  refine h (a + u.length) (Nat.le_add_right _ _) (Nat.lt_of_lt_of_le (Nat.lt_add_of_pos_right hy) h2) ⟨Nat.le_trans h2 hc, ?_⟩
  rw [StrLaws.subAt_eq, ← hn]
  have e1 : x.cps.toList.drop a = u ++ y.cps.toList ++ v ++ (x.cps.toList.drop a).drop (c - a) := by
    rw [← e]; exact (List.take_append_drop _ _).symm
  rw [← List.drop_drop, e1, List.append_assoc, List.append_assoc, List.drop_left, List.take_left]
  exact beq_self_eq_true _
theorem parts_no {x y : Str} (hy : 0 < y.length) : ∀ {cuts : List Nat} {a f : Nat}, GapTo x y x.length (x.length + 1) a cuts f → ∀ p ∈ StrLaws.partsFrom x y.length a cuts, NoSub y.cps.toList p.cps.toList
  | [], a, f, h, p, hp => by
    rw [List.mem_singleton.mp hp]
    exact part_no (Nat.le_refl _) (fun i h1 h2 => h.2 i h1 (Nat.lt_succ_of_lt h2)) hy
  | c :: r, a, f, h, p, hp => by
    rcases List.mem_cons.mp hp with e | hp
    · rw [e]
      exact part_no (by have := h.2.1.1; omega) h.2.2.1 hy
    · exact parts_no hy h.2.2.2 p hp
theorem split_no {x y : Str} (hy : 0 < y.length) (hk : Builtin.Str.strKind y = 1) : ∀ p ∈ Txt.split x y, NoSub y.cps.toList p.cps.toList := by
  obtain ⟨f, h⟩ := occ_all x y hy
  have hw : ∀ p ∈ StrLaws.partsFrom x y.length 0 (Builtin.Str.occurrences x y 0 x.length (x.length + 1)), NoSub y.cps.toList p.cps.toList := parts_no hy h
  have h1 : (∀ i, ¬ StrLaws.At x y x.length i) → NoSub y.cps.toList x.cps.toList := fun q => by
    have := part_no (x := x) (y := y) (a := 0) (c := x.length) (Nat.le_refl _) (fun i _ _ => q i) hy
    rwa [StrLaws.sub_whole] at this
  unfold Txt.split
  split
  · rename_i q
    intro p hp
    rw [List.mem_singleton.mp hp]
    simp only [Bool.or_eq_true, decide_eq_true_eq] at q
    rcases q with q | q
    · exact h1 fun i hi => by have := hi.1; omega
    · exfalso
      rw [hk] at q
      unfold Builtin.Str.strKind at q
      split at q
      · omega
      · split at q <;> omega
  · split
    · rename_i q
      intro p hp
      rw [List.isEmpty_iff.mp q] at hw
      rw [List.mem_singleton.mp hp]
      have := hw (Builtin.Str.strSub x 0 x.length) (List.mem_singleton.mpr rfl)
      rwa [StrLaws.sub_whole] at this
    · rw [StrLaws.partsBetween_eq]
      exact hw
theorem split_ne (x y : Str) : Txt.split x y ≠ [] := by
  unfold Txt.split
  split
  · simp
  · split
    · simp
    · rw [StrLaws.partsBetween_eq]
      obtain ⟨p, r, e⟩ := StrLaws.partsFrom_ne x y.length 0 (Builtin.Str.occurrences x y 0 x.length (x.length + 1))
      rw [e]; simp
/- one joined text has but one reading -/
def crlf1 : List Nat := [13, 10]
theorem nosub_long {p q t z : List Nat} (hp : NoSub crlf1 p) (hq : ∀ c ∈ q, c ≠ 13) (e : p ++ t = q ++ (crlf1 ++ z)) (ht : t = [] ∨ ∃ t', t = crlf1 ++ t') : p = q ∧ t = crlf1 ++ z := by
  induction q generalizing p with
  | nil =>
    cases p with
    | nil => exact ⟨rfl, e⟩
    | cons a p =>
      cases p with
      | nil =>
        rcases ht with rfl | ⟨t', rfl⟩
        · simp [crlf1] at e
        · simp [crlf1] at e
      | cons b p =>
        simp only [crlf1, List.cons_append, List.nil_append, List.cons.injEq] at e
        obtain ⟨rfl, rfl, _⟩ := e
        exact absurd rfl (hp [] p)
  | cons a q ih =>
    cases p with
    | nil =>
      rcases ht with rfl | ⟨t', rfl⟩
      · simp at e
      · simp only [crlf1, List.nil_append, List.cons_append, List.cons.injEq] at e
        exact absurd e.1.symm (hq a List.mem_cons_self)
    | cons b p =>
      simp only [List.cons_append, List.cons.injEq] at e
      obtain ⟨rfl, e⟩ := e
      obtain ⟨h1, h2⟩ := ih (fun u v q' => hp (b :: u) v (by rw [q']; rfl)) (fun c hc => hq c (List.mem_cons_of_mem _ hc)) e
      exact ⟨by rw [h1], h2⟩
theorem join_one : ∀ {P Q : List (List Nat)}, P ≠ [] → Q ≠ [] → (∀ p ∈ P, NoSub crlf1 p) → (∀ q ∈ Q, ∀ c ∈ q, c ≠ 13) → joinG crlf1 P = joinG crlf1 Q → P = Q
  | [], _, h, _, _, _, _ => absurd rfl h
  | _, [], _, h, _, _, _ => absurd rfl h
  | [p], [q], _, _, _, _, e => by rw [show p = q from e]
  | p :: a :: P, [q], _, _, hp, hq, e => by
    rw [joinG_cons (by simp), List.append_assoc] at e
    have e' : p ++ (crlf1 ++ joinG crlf1 (a :: P)) = q := e
    exact absurd rfl (hq q List.mem_cons_self 13 (by rw [← e']; simp [crlf1]))
  | [p], q :: b :: Q, _, _, hp, hq, e => by
    rw [joinG_cons (r := q) (rs := b :: Q) (by simp), List.append_assoc] at e
    have e' : p ++ [] = q ++ (crlf1 ++ joinG crlf1 (b :: Q)) := by rw [List.append_nil]; exact e
    have := (nosub_long (hp p List.mem_cons_self) (hq q List.mem_cons_self) e' (.inl rfl)).2
    simp [crlf1] at this
  | p :: a :: P, q :: b :: Q, _, _, hp, hq, e => by
    rw [joinG_cons (r := p) (rs := a :: P) (by simp), joinG_cons (r := q) (rs := b :: Q) (by simp), List.append_assoc, List.append_assoc] at e
    obtain ⟨h1, h2⟩ := nosub_long (hp p List.mem_cons_self) (hq q List.mem_cons_self) e (.inr ⟨_, rfl⟩)
    rw [h1, join_one (by simp) (by simp) (fun x hx => hp x (List.mem_cons_of_mem _ hx)) (fun x hx => hq x (List.mem_cons_of_mem _ hx)) (List.append_cancel_left h2)]
theorem inter_ne : ∀ rows : List (List Nat), inter rows ≠ []
  | [] => by simp [inter]
  | [_] => by simp [inter]
  | _ :: _ :: _ => by simp [inter]
theorem inter_join : ∀ rows : List (List Nat), joinG crlf1 (inter rows) = joinG crlf2 rows
  | [] => rfl
  | [_] => rfl
  | a :: b :: r => by
    show joinG crlf1 (a :: [] :: inter (b :: r)) = _
    rw [joinG_cons (by simp), joinG_cons (inter_ne _), joinG_cons (by simp), inter_join (b :: r)]
    simp [crlf1, crlf2]
theorem inter_mem {q : List Nat} : ∀ {rows : List (List Nat)}, q ∈ inter rows → q = [] ∨ q ∈ rows
  | [], h => .inl (List.mem_singleton.mp h)
  | [a], h => .inr h
  | a :: b :: r, h => by
    have h' : q ∈ a :: [] :: inter (b :: r) := h
    rcases List.mem_cons.mp h' with h | h
    · exact .inr (by rw [h]; exact List.mem_cons_self)
    · rcases List.mem_cons.mp h with h | h
      · exact .inl h
      · exact (inter_mem h).imp id (List.mem_cons_of_mem _)
theorem split_inter {rows : List (List Nat)} (h : ∀ r ∈ rows, Plain r) : (Txt.split ⟨(joinG crlf2 rows).toArray⟩ (Str.ofString "\x0d\n")).map (fun s => s.cps.toList) = inter rows := by
  have hc : (Str.ofString "\x0d\n").cps.toList = crlf1 := by decide
  have hn := split_no (x := ⟨(joinG crlf2 rows).toArray⟩) (y := Str.ofString "\x0d\n") (by decide) (by decide +kernel)
  have hj := StrLaws.join_split ⟨(joinG crlf2 rows).toArray⟩ (Str.ofString "\x0d\n")
  have hne := split_ne ⟨(joinG crlf2 rows).toArray⟩ (Str.ofString "\x0d\n")
  generalize Txt.split ⟨(joinG crlf2 rows).toArray⟩ (Str.ofString "\x0d\n") = P at hn hj hne
  have e : ∀ P : List Str, P.map (fun r => (⟨(r.cps.toList).toArray⟩ : Str)) = P := fun P => by simp
  have hj2 : joinG crlf1 (P.map fun s => s.cps.toList) = joinG crlf2 rows := by
    have := join_rows (Str.ofString "\x0d\n") (P.map fun s => s.cps.toList)
    rw [List.map_map, hc] at this
    have h3 : Txt.join (Str.ofString "\x0d\n") P = ⟨(joinG crlf2 rows).toArray⟩ := by
      rw [← hj]; exact StrLaws.glued_eq_join _ _
    rw [show (List.map ((fun r => (⟨r.toArray⟩ : Str)) ∘ fun s => s.cps.toList) P) = P from e P, h3] at this
    have := congrArg (fun s : Str => s.cps.toList) this
    simpa using this.symm
  refine join_one ?_ (inter_ne _) (fun p hp => ?_) (fun q hq c hc => ?_) (hj2.trans (inter_join rows).symm)
  · intro hP
    rw [List.map_eq_nil_iff] at hP
    exact hne hP
  · obtain ⟨s, hs, rfl⟩ := List.mem_map.mp hp
    have := hn s hs
    rwa [hc] at this
  · rcases inter_mem hq with e | hm
    · rw [e] at hc; exact nomatch hc
    · rcases h q hm c hc with e | e <;> rw [e] <;> decide
theorem quoted_plain {r : List Nat} (h : Plain r) : Plain (quoted r) := by
  unfold quoted
  split
  · intro c hc
    rcases List.mem_cons.mp hc with e | hc
    · exact .inr e
    · exact h c hc
  · exact h
theorem rows_plain : (rows3.all fun r => r.all fun c => decide (c = 45 ∨ c = 46)) = true := by decide
theorem rows3_plain {r : List Nat} (h : r ∈ rows3) : Plain r := fun c hc => of_decide_eq_true (List.all_eq_true.mp (List.all_eq_true.mp rows_plain r h) c hc)
theorem rows3_len : (rows3.all fun r => decide (r.length ≤ 3)) = true := by decide
theorem rows3_le {r : List Nat} (h : r ∈ rows3) : r.length ≤ 3 := of_decide_eq_true (List.all_eq_true.mp rows3_len r h)
/- which rows may be asked -/
def RowsOk (rows : List (List Nat)) : Prop := rows = [] ∨ (∃ a, a ∈ rows3 ∧ rows = [a]) ∨ (∃ a b, a ∈ rows3 ∧ b ∈ rows2 ∧ rows = [a, b]) ∨ ∃ a b c, a ∈ rows3 ∧ b ∈ rows2 ∧ c ∈ rows2 ∧ rows = [a, b, c]
theorem rows23 {r : List Nat} (h : r ∈ rows2) : r ∈ rows3 := List.mem_append_left _ h
theorem RowsOk.all {rows : List (List Nat)} (h : RowsOk rows) : rows.length ≤ 3 ∧ ∀ r ∈ rows, r ∈ rows3 := by
  rcases h with rfl | ⟨a, ha, rfl⟩ | ⟨a, b, ha, hb, rfl⟩ | ⟨a, b, c, ha, hb, hc, rfl⟩
  · exact ⟨by decide, fun _ h => nomatch h⟩
  · exact ⟨by simp, by simp [ha]⟩
  · exact ⟨by simp, by simp [ha, rows23 hb]⟩
  · exact ⟨by simp, by simp [ha, rows23 hb, rows23 hc]⟩
theorem RowsOk.split {rows : List (List Nat)} (h : RowsOk rows) : (Txt.split ⟨(joinG crlf2 (rows.map quoted)).toArray⟩ (Str.ofString "\x0d\n")).map (fun s => s.cps.toList) = inter (rows.map quoted) := by
  refine split_inter fun r hr => ?_
  obtain ⟨q, hq, rfl⟩ := List.mem_map.mp hr
  exact quoted_plain (rows3_plain (h.all.2 q hq))
theorem RowsOk.quote {rows : List (List Nat)} (h : RowsOk rows) {e : Str} (he : e = Str.ofString "\n" ∨ e = Str.ofString "\x0d" ∨ e = Str.ofString "\x0d\n") : dots 10 (crlf (joinG (e ++ e).cps.toList rows)) = joinG crlf2 (rows.map quoted) := by
  have hp : ∀ r ∈ rows, Plain r := fun r hr => rows3_plain (h.all.2 r hr)
  have e1 : (e ++ e).cps.toList = e.cps.toList ++ e.cps.toList := by simp [Str.cps_append]
  have e2 : e.cps.toList = [10] ∨ e.cps.toList = [13] ∨ e.cps.toList = [13, 10] := by
    rcases he with rfl | rfl | rfl
    · exact .inl (by decide)
    · exact .inr (.inl (by decide))
    · exact .inr (.inr (by decide))
  rw [e1, crlf_join e2 hp, dots_join hp]
theorem joinG_len {sep : List Nat} (hs : sep.length ≤ 4) : ∀ rows : List (List Nat), (∀ r ∈ rows, r.length ≤ 4) → (joinG sep rows).length ≤ 8 * rows.length
  | [], _ => Nat.zero_le _
  | [r], h => by have := h r List.mem_cons_self; show r.length ≤ 8; omega
  | r :: a :: b, h => by
    have h1 := h r List.mem_cons_self
    have h2 := joinG_len hs (a :: b) fun q hq => h q (List.mem_cons_of_mem _ hq)
    rw [joinG_cons (rs := a :: b) (by simp), List.length_append, List.length_append]
    simp only [List.length_cons] at h2 ⊢
    omega
theorem quoted_len {r : List Nat} (h : r.length ≤ 3) : (quoted r).length ≤ 4 := by
  unfold quoted
  split
  · simp only [List.length_cons]; omega
  · omega

end
section
def cut (rows : List (List Nat)) : List (List Nat) := if rows = [] then [[]] else rows.map quoted
theorem strv {l : List (Str × Tok)} : (strValues l).length = l.length := by simp [strValues]
theorem pick1 (a : Value) : (slicePick #[a] none none (some 2)).toList = [a] := by
  have e : sliceRange (sliceBounds none none (some 2) 1).1 (sliceBounds none none (some 2) 1).2.1 (sliceBounds none none (some 2) 1).2.2 = [0] := by decide +kernel
  unfold slicePick
  rw [show (#[a] : Array Value).size = 1 from rfl, e]; rfl
theorem pick3 (a b c : Value) : (slicePick #[a, b, c] none none (some 2)).toList = [a, c] := by
  have e : sliceRange (sliceBounds none none (some 2) 3).1 (sliceBounds none none (some 2) 3).2.1 (sliceBounds none none (some 2) 3).2.2 = [0, 2] := by decide +kernel
  unfold slicePick
  rw [show (#[a, b, c] : Array Value).size = 3 from rfl, e]; rfl
theorem pick5 (a b c d f : Value) : (slicePick #[a, b, c, d, f] none none (some 2)).toList = [a, c, f] := by
  have e : sliceRange (sliceBounds none none (some 2) 5).1 (sliceBounds none none (some 2) 5).2.1 (sliceBounds none none (some 2) 5).2.2 = [0, 2, 4] := by decide +kernel
  unfold slicePick
  rw [show (#[a, b, c, d, f] : Array Value).size = 5 from rfl, e]; rfl
theorem pick_rows {qs : List (List Nat)} (h : qs.length ≤ 3) {l : List (Str × Tok)} (e : l.map (fun q => q.1.cps.toList) = inter qs) : ∃ zs : List (Str × Tok), (slicePick (strValues l).toArray none none (some 2)).toList = strValues zs ∧ zs.map (fun q => q.1.cps.toList) = (if qs = [] then [[]] else qs) ∧ l.length ≤ 5 := by
  have hl : l.length = (inter qs).length := by rw [← e, List.length_map]
  match qs, h with
  | [], _ =>
    match l, hl with
    | [a], _ => exact ⟨[a], pick1 _, e, by simp⟩
  | [q], _ =>
    match l, hl with
    | [a], _ => exact ⟨[a], pick1 _, e, by simp⟩
  | [q1, q2], _ =>
    match l, hl with
    | [a, b, c], _ =>
      simp only [inter, List.map_cons, List.map_nil, List.cons.injEq, and_true] at e
      exact ⟨[a, c], pick3 _ _ _, by simp [e.1, e.2.2], by simp⟩
  | [q1, q2, q3], _ =>
    match l, hl with
    | [a, b, c, d, f], _ =>
      simp only [inter, List.map_cons, List.map_nil, List.cons.injEq, and_true] at e
      exact ⟨[a, c, f], pick5 _ _ _ _ _, by simp [e.1, e.2.2.1, e.2.2.2.2], by simp⟩
theorem cut_plain {rows : List (List Nat)} (h : RowsOk rows) : ∀ r ∈ cut rows, Plain r ∧ r.length ≤ 4 := by
  unfold cut
  split
  · intro r hr
    rw [List.mem_singleton.mp hr]
    exact ⟨(fun _ h => nomatch h), by decide⟩
  · intro r hr
    obtain ⟨q, hq, rfl⟩ := List.mem_map.mp hr
    have h3 := h.all.2 q hq
    exact ⟨quoted_plain (rows3_plain h3), quoted_len (rows3_le h3)⟩
theorem plain_ascii {r : List Nat} (h : Plain r) : (⟨r.toArray⟩ : Str).cps.all (· < 128) = true := by
  rw [Array.all_eq_true]
  intro i hi
  have hi' : i < r.length := by simpa using hi
  have e : (⟨r.toArray⟩ : Str).cps[i] = r[i] := by simp
  rw [e]
  rcases h _ (List.getElem_mem hi') with e | e <;> rw [e] <;> decide
theorem str_of {x : Str} {l : List Nat} (h : x.cps.toList = l) : x = ⟨l.toArray⟩ := by
  apply Str.ext'
  rw [← h]
section
variable {w : World} {e1 e2 : Env} {s : Shared} {A : Around} {E : Value → Shared → Prop} {Q : Value → Shared → Prop} {p : Program} {loose : List Str} {mean : ExcName → Option Value} {mg mb : Str → Option Value}
  {h₀ : Heap} {L D : Addr} {m : Str → Option Value} {news : List (Addr × Obj)} {rows : List (List Nat)} {e : Str} {t u : Tok}
theorem join_sel {its : Array Value} (he : Ends3 e) (hr : RowsOk rows) (hl : s.heap.IsList D its) (hJ : StrsAre its.toList (rows.map fun r => (⟨r.toArray⟩ : Str)))
    (h : ∀ t' k, Q (.str ⟨(joinG (e ++ e).cps.toList rows).toArray⟩ t') { s with toks := k }) : wpAny (model prg w) A (call (.builtin "str.join") [.str (e ++ e) t, .ref D]) Q E s := by
  refine join_list hl hJ ?_ fun t' k => ?_
  · have h1 : (e ++ e).length ≤ 4 := by rcases he with rfl | rfl | rfl <;> decide
    have h2 := hr.all.1
    have h3 : ((rows.map fun r => (⟨r.toArray⟩ : Str)).map (·.length)).sum ≤ 3 * rows.length := by
      have h4 := hr.all.2
      generalize rows = rs at h4
      induction rs with
      | nil => exact Nat.zero_le _
      | cons a r ih =>
        have h5 := rows3_le (h4 a List.mem_cons_self)
        have h6 := ih fun q hq => h4 q (List.mem_cons_of_mem _ hq)
        have e7 : (⟨a.toArray⟩ : Str).length = a.length := by simp [Str.length]
        simp only [List.map_cons, List.sum_cons, List.length_cons, e7]
        omega
    have h4 : rows.length * (e ++ e).length ≤ 3 * 4 := Nat.mul_le_mul h2 h1
    rw [List.length_map]
    omega
  · rw [join_rows]
    exact h t' k
theorem quote_use (X : (hd.heap_1 w.params).In h₀) (T : Top p loose mean mg mb h₀) (he : Ends3 e) (hr : RowsOk rows) (F : Fr h₀ L s.heap m) (N : News h₀ L s.heap news)
    (h : ∀ h' tk t', Fr h₀ L h' m → News h₀ L h' news → Q (.str ⟨(joinG crlf2 (rows.map quoted)).toArray⟩ t') { s with heap := h', toks := tk }) : wpAny (model prg w) (callerA.deeper e1) (call (.ref 62) [.str ⟨(joinG (e ++ e).cps.toList rows).toArray⟩ t]) Q E s := by
  have h1 : (e ++ e).cps.toList.length ≤ 4 := by rcases he with rfl | rfl | rfl <;> decide
  have h2 := joinG_len h1 rows fun r hr' => Nat.le_trans (rows3_le (hr.all.2 r hr')) (by decide)
  have h3 := hr.all.1
  refine PureCall.use (call_quote (X.keeps F.keep) (T.keeps F.keep) (by rw [List.size_toArray]; omega)) F N fun v h' tk hv F' N' _ => ?_
  obtain ⟨t', rfl⟩ := hv
  have := h h' tk t' F' N'
  rw [← hr.quote he] at this
  exact this
theorem split_rows (hr : RowsOk rows) (F : Fr h₀ L s.heap m) (N : News h₀ L s.heap news)
    (h : ∀ D l h' k, l.map (fun q : Str × Tok => q.1.cps.toList) = inter (rows.map quoted) → Fr h₀ L h' m → News h₀ L h' ((D, W.listOf (strValues l).toArray 0) :: news) → (∀ p ∈ news, p.1 < D) → Q (.ref D) { s with heap := h', toks := k }) :
    wpAny (model prg w) A (call (.builtin "str.split") [.str ⟨(joinG crlf2 (rows.map quoted)).toArray⟩ t, .str (Str.ofString "\x0d\n") u]) Q E s := by
  have h2 := joinG_len (sep := crlf2) (by decide) (rows.map quoted) fun r hr' => by
    obtain ⟨q, hq, rfl⟩ := List.mem_map.mp hr'
    exact quoted_len (rows3_le (hr.all.2 q hq))
  have h3 := hr.all.1
  rw [List.length_map] at h2
  refine KSpl.split1 F N (by decide) (fun D l h' k e _ F' N' o => h D l h' k ?_ F' N' o) ?_
  · rw [← hr.split, ← e, List.map_map]; rfl
  · have hz : (1000 : Nat) ≤ sizeLine := by decide
    have : (⟨(joinG crlf2 (rows.map quoted)).toArray⟩ : Str).length = (joinG crlf2 (rows.map quoted)).length := by simp [Str.length]
    rw [this]; omega
theorem slice_rows {value slice : PySem.Expr} {ops : List Value} {vl vu vk : Value} {l : List (Str × Tok)} (hr : RowsOk rows) (e : l.map (fun q : Str × Tok => q.1.cps.toList) = inter (rows.map quoted)) (F : Fr h₀ L s.heap m) (N : News h₀ L s.heap news) (hl : s.heap.IsList D (strValues l).toArray) (pl : IsPart vl none) (pu : IsPart vu none) (pk : IsPart vk (some 2))
    (h : ∀ D' zs h', zs.map (fun q : Str × Tok => q.1.cps.toList) = cut rows → Fr h₀ L h' m → News h₀ L h' ((D', W.listOf (strValues zs).toArray 0) :: news) → (∀ p ∈ news, p.1 < D') → Q (.ref D') { s with heap := h' })
    (hs : subscripted slice false (.ref D) (.ref s.heap.objs.size) = operate ops (getItem (.ref D) (.ref s.heap.objs.size))) (ht : ∀ r, letTemporaryGo value (.ref D) r = pure ()) :
    wpAny (model prg w) A (subscriptTail value slice (.ref D) (.ref s.heap.objs.size)) Q E { s with heap := s.heap.push { cls := .type "slice", data := .fields #[vl, vu, vk] } } := by
  obtain ⟨zs, h1, h2, h3⟩ := pick_rows (by rw [List.length_map]; exact hr.all.1) e
  refine kmk_slice3_lit F N hl pl pu pk (by decide) h1 (fun D' h' F' N' o => h D' zs h' ?_ F' N' o) hs ht ?_
  · rw [h2]
    unfold cut
    cases rows <;> rfl
  · have hz : (1000 : Nat) ≤ sizeLine := by decide
    rw [List.size_toArray, strv]; omega
theorem worth_use (X : (hd.heap_1 w.params).In h₀) (T : Top p loose mean mg mb h₀) {x : Str} {r : List Nat} (hx : x.cps.toList = r) (hp : Plain r ∧ r.length ≤ 4) (F : Fr h₀ L s.heap m) (N : News h₀ L s.heap news)
    (h : ∀ h' tk t', Fr h₀ L h' m → News h₀ L h' news → Q (.int (worthF r) t') { s with heap := h', toks := tk }) : wpAny (model prg w) (callerA.deeper e1) (call (.ref 252) [.str x t]) Q E s := by
  rw [str_of hx]
  refine PureCall.use (call_worth (X.keeps F.keep) (T.keeps F.keep) (plain_ascii hp.1) (by omega)) F N fun v h' tk hv F' N' _ => ?_
  obtain ⟨t', rfl⟩ := hv
  exact h h' tk t' F' N'
end
theorem zs_at {zs : List (Str × Tok)} {qs : List (List Nat)} {i : Nat} {v : Value} (e : zs.map (fun q => q.1.cps.toList) = qs) (h : (strValues zs).toArray[i]? = some v) : ∃ x t r, v = .str x t ∧ x.cps.toList = r ∧ qs[i]? = some r := by
  subst e
  have h' : (strValues zs)[i]? = some v := by simpa using h
  rw [strValues, List.getElem?_map] at h'
  cases e : zs[i]? with
  | none => rw [e] at h'; cases h'
  | some q =>
    rw [e] at h'
    exact ⟨q.1, q.2, _, (Option.some.inj h').symm, rfl, by rw [List.getElem?_map, e]; rfl⟩
def worths (qs : List (List Nat)) : Int := (qs.map worthF).sum
theorem worths_take {qs : List (List Nat)} {i : Nat} {r : List Nat} (h : qs[i]? = some r) : worths (qs.take (i + 1)) = worths (qs.take i) + worthF r := by
  rw [List.take_add_one, h]
  simp [worths]
theorem worths_cut (rows : List (List Nat)) : worths (cut rows) = worths (rows.map quoted) := by
  unfold cut
  split
  · next h => subst h; decide
  · rfl

end
section
theorem fillL78 : (∃ f : Params → Frag, f = Mine.hd.heap_1) ∧ PySem.Challenge.rw_sh0030_01 = PySem.Challenge.rw_sh0030_01 := by w_top off; k_fill; exact ⟨⟨_, rfl⟩, rfl⟩
noncomputable def lwI (w : World) : Stmt := ((forBody (lwD w).1.1 6)[0]?).getD (.Pass default)
def HdsAre (hs : List Value) (rws : List (Int × List Nat)) (RR : List (Addr × Obj)) : Prop := hs.length = rws.length ∧ ∀ (i : Nat) (q : Int × List Nat), rws[i]? = some q → ∃ v nm, hs[i]? = some v ∧ NameOk q.1 nm ∧ HdAt v nm q.2 RR
def selR (a : Int) (rws : List (Int × List Nat)) : List (List Nat) := (rws.filter fun q => decide (q.1 = a)).map (·.2)
section
variable {w : World} {s : Shared} {p : Program} {loose : List Str} {mean : ExcName → Option Value} {mg mb : Str → Option Value}
  {h₀ : Heap} {L fa : Addr} {cdv : Value} {m : Str → Option Value} {Q : Flow → Shared → Prop}
  {hq pl x dx D : Addr} {u : Tok} {hs ps vs : List Value} {nh np n : Nat} {ds : List Int} {RR : List (Addr × Obj)}
local macro_rules | `(tactic| walk_at "exec For") => `(tactic| ((rename Fr _ _ _ _ => lF'); k_dflt (refine' For_turns ?hF ?_; (case hF => exact lF'))))
local macro_rules | `(tactic| walk_at "eval ListComp") => `(tactic| (k_dflt (refine compLN (by k_asm) (by rfl) (by decide) (by rfl) (by decide) (by rfl) ?_)))
local macro_rules | `(tactic| walk_at "CompTurn") => `(tactic| (unfold CompTurn; (try dsimp only); intro E9))
set_option hygiene false in
local macro_rules | `(tactic| walk_at "getMethod ref") => `(tactic| ((with_reducible show wpAny _ _ (getMethod (Value.ref 93) _ _) _ _ _); (rename Fr _ _ _ _ => lF'); (rename Frag.In _ _ => lX'); k_dflt (refine get_search ((patN lX').keeps lF'.keep) ?_)))
set_option hygiene false in
local macro_rules | `(tactic| walk_at "call builtin:re.Pattern.search") => `(tactic| ((with_reducible show wpAny _ _ (call _ [Value.ref 93, _]) _ _ _); (rename Fr _ _ _ _ => lF'); (rename Frag.In _ _ => lX'); k_dflt (refine call_search_none ((patN lX').keeps lF'.keep) hnm.1 hnm.2 ?_)))
local macro_rules | `(tactic| walk_at "binaryOp Add str str") => `(tactic| (k_dflt (refine add_str (fun t7 k7 => ?_) he9)))
local macro_rules | `(tactic| walk_at "storeName") => `(tactic| ((with_reducible show wpAny _ _ (storeName (envOfC _ _ _ _ _) _ _) _ _ _); (rename Fr _ _ _ _ => lF'); refine Stop.of ?_))
theorem news_front {h : Heap} {x : Addr × Obj} {l : List (Addr × Obj)} (N : News h₀ L h l) (hx : x ∈ l) : News h₀ L h (x :: l) := fun q hm => by
  rcases List.mem_cons.mp hm with e | hm
  · rw [e]; exact N _ hx
  · exact N _ hm
theorem cell_far {d : Addr} (h : @LT.lt Nat _ hq d ∧ @LT.lt Nat _ pl d ∧ @LT.lt Nat _ x d ∧ @LT.lt Nat _ dx d ∧ @LT.lt Nat _ D d ∧ AllLt d RR) : ∀ q ∈ (hq, W.listOf hs.toArray nh) :: (pl, W.listOf ps.toArray np) :: (x, instObj 227 dx) :: (dx, hdDict w u hq) :: (D, W.listOf vs.toArray n) :: RR, q.1 ≠ d + 1 := fun q hm => Nat.ne_of_lt (Nat.lt_succ_of_lt (led_lt h q hm))
theorem selR_yes {a : Int} {rws : List (Int × List Nat)} {j : Nat} {q : Int × List Nat} (e : rws[j]? = some q) (h : q.1 = a) : selR a (rws.take (j + 1)) = selR a (rws.take j) ++ [q.2] := by
  rw [List.take_add_one, e]
  simp [selR, List.filter_append, List.filter_cons, h]
theorem selR_no {a : Int} {rws : List (Int × List Nat)} {j : Nat} {q : Int × List Nat} (e : rws[j]? = some q) (h : q.1 ≠ a) : selR a (rws.take (j + 1)) = selR a (rws.take j) := by
  rw [List.take_add_one, e]
  simp [selR, List.filter_append, List.filter_cons, h]
theorem sel_more {a : Int} {rws : List (Int × List Nat)} {j : Nat} {q : Int × List Nat} {ys : List Value} {t : Tok} (e : rws[j]? = some q) (h : q.1 = a) (hJ : StrsAre ys ((selR a (rws.take j)).map fun r => (⟨r.toArray⟩ : Str))) : StrsAre (ys ++ [.str ⟨q.2.toArray⟩ t]) ((selR a (rws.take (j + 1))).map fun r => (⟨r.toArray⟩ : Str)) := by
  rw [selR_yes e h, List.map_append]
  exact strs_snoc hJ _ _
theorem sel_same {a : Int} {rws : List (Int × List Nat)} {j : Nat} {q : Int × List Nat} {ys : List Value} (e : rws[j]? = some q) (h : q.1 ≠ a) (hJ : StrsAre ys ((selR a (rws.take j)).map fun r => (⟨r.toArray⟩ : Str))) : StrsAre ys ((selR a (rws.take (j + 1))).map fun r => (⟨r.toArray⟩ : Str)) := by
  rw [selR_no e h]; exact hJ
theorem fr_upis {h₀ : Heap} {L : Addr} {h : Heap} {m : Str → Option Value} (l' l : List (Str × Option Value)) (F : Fr h₀ L h (upd l' (ifs l m))) (e : AllAt m l) : Fr h₀ L h (upd l' m) := by
  rw [show ifs l m = m from funext fun z => ifs_eq e] at F; exact F
local macro_rules | `(tactic| walk_at "binaryOp Mult int int") => `(tactic| (refine mul_int ?_ (PySem.IntMulOk.of_left (PySem.intBits_le_64 (by omega) (by omega)))))
theorem one_ne0 : (1 : Int) ≠ 0 := by decide
theorem nil_ne1 : (0 : Int) ≠ 1 := by decide
set_option hygiene false in
local macro_rules | `(tactic| walk_at "call builtin:str.join") => `(tactic| ((rename News _ _ _ _ => lN'); k_dflt (refine join_sel he hr0 (lst_is (lN'.get List.mem_cons_self)) hJ9 (fun t9 k9 => ?_))))
set_option hygiene false in
local macro_rules | `(tactic| walk_at "call ref") => `(tactic| ((walk_at "FN"); (first | ((with_reducible show wpAny _ _ (call (Value.ref 62) _) _ _ _); (k_dflt (refine quote_use X T he hr0 lF' lN' (fun h' k' t' F' N' => ?_)))) | ((with_reducible show wpAny _ _ (call (Value.ref 252) _) _ _ _); (k_dflt (refine worth_use X T ex9 (cut_plain hr0 _ (List.mem_of_getElem? er9)) lF' lN' (fun h' k' t' F' N' => ?_))))); clear lF' lN'))
set_option hygiene false in
local macro_rules | `(tactic| walk_at "call builtin:str.split") => `(tactic| ((walk_at "FN"); (k_dflt (refine split_rows hr0 lF' lN' (fun D' l' h' k' el' F' N' l1 => ?_))); (clear lF' lN'); (try k_lt l1)))
set_option hygiene false in
local macro_rules | `(tactic| walk_at "subscriptTail Name Slice ref ref") => `(tactic| ((with_reducible show wpAny _ _ (subscriptTail _ _ (Value.ref _) (Value.ref _)) _ _ _); (walk_at "FN"); (k_dflt (refine' slice_rows hr0 el' ?zF ?zN ?zl ?zp ?zq ?zk ?_ ?zs ?zt; (case zF => exact lF'); (case zN => exact lN'); (case zl => exact Mine.listOf_is (lN'.get List.mem_cons_self)); (case zp => kmk_part); (case zq => kmk_part); (case zk => kmk_part); (case zs => with_unfolding_all rfl); (case zt => kmk_pure))); (clear lF' lN'); intro D' zs' h' ez' F' N' l1; (try k_lt l1)))
local macro_rules | `(tactic| walk_at "pyIter ref") => `(tactic| ((with_reducible show wpAny _ _ (pyIter (Value.ref _)) (fun it s₂ => TurnsAt _ _ _ _ _ _ _ _ _ it s₂) _ _); refine Stop.of ?_))
theorem lw_inner (X : (hd.heap_1 w.params).In h₀) (T : Top p loose mean mg mb h₀) (B : Below callerA h₀ [] h₀) {rws : List (Int × List Nat)} {e : Str} {te ta tt tw : Tok} {tn W : Int} (he : Ends3 e) (htn : tn = 1 ∨ tn = -1) (hH : HdsAre hs rws RR) (hlr : rws.length ≤ 3)
    {a : Int} {ak : Str} (hak : (a = 0 ∧ ak = Str.ofString "HERE") ∨ (a = 1 ∧ ak = Str.ofString "OVER")) (hr0 : RowsOk (selR a rws))
    (fin : ∀ h tk t' ro RR', Fr h₀ L h (upd [(Str.ofString "worth", some (.int (W + tn * worths ((selR a rws).map quoted)) t')), (Str.ofString "row", ro)] m) → News h₀ L h (lwLed w hq pl x dx D u hs nh ps np vs n RR') → (∀ q ∈ RR, q ∈ RR') → Q .next { s with heap := h, toks := tk })
    (m1 : m (Str.ofString "asked") = some (.str ak ta)) (m2 : m (Str.ofString "turn") = some (.int tn tt)) (m3 : m (Str.ofString "worth") = some (.int W tw)) (m4 : m (Str.ofString "table") = some (.ref x)) (m5 : m (Str.ofString "end") = some (.str e te))
    (F : Fr h₀ L s.heap m) (N : News h₀ L s.heap (lwLed w hq pl x dx D u hs nh ps np vs n RR)) :
    wpAny (model prg w) (callerA.deeper (lwE w L fa cdv)) (exec (lwI w) (lwE w L fa cdv)) Q (fun _ _ => False) s := by
  rcases hak with ⟨rfl, rfl⟩ | ⟨rfl, rfl⟩
  · have hnm := names_clean.2.2.2.2.1
    simp only [lwE, lwI, lwD, forBody, List.getElem?_cons_zero, List.getElem?_cons_succ, Option.getD_some]
    unfold lwLed at N
    have he9 : e.length + e.length ≤ sizeLine := by
      have hz : (4 : Nat) ≤ sizeLine := by decide
      have : e.length ≤ 2 := by rcases he with rfl | rfl | rfl <;> decide
      omega
    have F1 := fr_ifs [(Str.ofString "asked", some (.str (Str.ofString "HERE") ta)), (Str.ofString "turn", some (.int tn tt)), (Str.ofString "worth", some (.int W tw)), (Str.ofString "table", some (.ref x)), (Str.ofString "end", some (.str e te))] F ⟨m1, m2, m3, m4, m5, trivial⟩
    clear F
    dsimp only [ifs] at F1
    k_steps
    unfold Stop
    (rename Fr _ _ _ _ => lF'); (rename News _ _ _ _ => lN'); (rename And _ _ => l9)
    k_dflt (refine' storeX_C ?kF ?kN ?kc ?kU ?kd ?_ ?ka ?kb; (case ka => rfl); (case kb => rfl); (case kF => exact lF'); (case kN => exact lN'); (case kc => rfl); (case kU => exact UpdF.head (cell_far l9)); (case kd => assumption))
    intro h8' o8' F8' N8' d8'
    clear lF' lN'
    k_steps
    obtain ⟨hlh, hH⟩ := hH
    with_unfolding_all refine' ⟨_, hs.toArray, _, (fun nw => nw = _), (fun i ys _ => StrsAre ys ((selR 0 (rws.take i)).map fun r => (⟨r.toArray⟩ : Str))), rfl, rfl, F8', N8', rfl, StrsAre.nil, by rw [List.size_toArray]; have hz9 : (1001 : Nat) ≤ sizeLine := (by decide); omega, fun h nw hk N' hS => ?_, fun g9 j9 v9 ys9 nw9 I9 oI9 C9 oC9 D9 m9 h9 tk9 hv9 hS9 hJ9 hl9 hC9 hx9 F' N' off9 ne9 => ?_, fun g9 D9 h9 tk9 ys9 nw9 F' N' o9 hS9 hJ9 => ?_⟩
    · subst hS
      exact Mine.listOf_is (N'.get (List.mem_cons_of_mem _ List.mem_cons_self))
    · subst hS9
      have hi9 : j9 < rws.length := by
        have := (Array.getElem?_eq_some_iff.mp hv9).1
        have : j9 < hs.length := by simpa using this
        omega
      have e8 : rws[j9]? = some rws[j9] := List.getElem?_eq_getElem hi9
      obtain ⟨v8, nm8, hv8, hn8, t8, t81, t82, rfl, ht8⟩ := hH j9 _ e8
      have hv8' : hs[j9]? = some v9 := by simpa using hv9
      rw [hv8] at hv8'
      cases hv8'
      generalize rws[j9] = q8 at e8 hn8 ht8
      obtain ⟨ov8, row8⟩ := q8
      (try dsimp only at hn8 ht8)
      have N7 := news_front N' (x := (t8, tupO #[.str nm8 t81, .str ⟨row8.toArray⟩ t82])) (by simp only [List.mem_cons, ht8, or_true])
      clear N' N8' F8'
      (try dsimp only at hx9)
      rcases hn8 with ⟨rfl, rfl | rfl⟩ | ⟨rfl, rfl | rfl⟩
      all_goals k_steps
      all_goals (try dsimp only)
      all_goals (rename Fr _ _ _ _ => lF'); (rename News _ _ _ _ => lN')
      · exact LCg.CompEnd.intro lF' lN' _ (fun q hq => List.mem_cons_of_mem _ hq) off9 rfl (sel_more e8 rfl hJ9)
      · exact LCg.CompEnd.intro lF' lN' _ (fun q hq => List.mem_cons_of_mem _ hq) off9 rfl (sel_more e8 rfl hJ9)
      · exact LCg.CompEnd.intro lF' lN' _ (fun q hq => List.mem_cons_of_mem _ hq) off9 rfl (sel_same e8 one_ne0 hJ9)
      · exact LCg.CompEnd.intro lF' lN' _ (fun q hq => List.mem_cons_of_mem _ hq) off9 rfl (sel_same e8 one_ne0 hJ9)
    · subst hS9
      rw [List.size_toArray, hlh, List.take_length] at hJ9
      (try dsimp only)
      clear N8' F8'
      k_steps
      unfold Stop
      (rename Fr _ _ _ _ => lF'); (rename News _ _ _ _ => lN')
      generalize hnews : (_ :: _ : List (Addr × Obj)) = nw9 at lN'
      (try dsimp only at ez')
      with_unfolding_all refine' turns_list [(D', PySem.W.listOf (strValues zs').toArray 0)] (fun st : Int × Tok × Option Value => [(Str.ofString "worth", some (.int st.1 st.2.1)), (Str.ofString "row", st.2.2)]) (fun _ => nw9) (fun i st => st.1 = W + tn * worths ((cut (selR 0 rws)).take i)) (W, tw, m (Str.ofString "row")) (by rfl) (Mine.listOf_is (lN'.get (by rw [← hnews]; exact List.mem_cons_self))) lF' lN' (.inr ⟨_, List.mem_singleton.mpr rfl⟩) (fun _ h => h) ⟨?_, ?_, trivial⟩ ?_ (fun _ q hq => by rw [List.mem_singleton.mp hq, ← hnews]; exact List.mem_cons_self) (fun i' v' st' h' tk' I' oI' hi' inv' off' F' N' => ?_) (fun st' h' tk' inv' F' N' => ?_)
      · rfl
      · rfl
      · show W = W + tn * 0
        omega
      · obtain ⟨x9, t9, r9, rfl, ex9, er9⟩ := zs_at ez' hi'
        clear lF' lN'
        k_steps
        (try dsimp only)
        (rename Fr _ _ _ _ => lF'); (rename News _ _ _ _ => lN')
        refine StepY.next (_, _, some _) lF' lN' (fun _ h => h) off' ⟨⟨rfl, rfl, trivial⟩, by walk_at "OFFY"⟩ ?_
        rw [worths_take er9, Int.mul_add]
        show st'.1 + tn * worthF r9 = _
        omega
      · rw [List.size_toArray, strv] at inv'
        have hz : zs'.length = (cut (selR 0 rws)).length := by rw [← ez', List.length_map]
        rw [hz, List.take_length, worths_cut] at inv'
        have F9 := fr_upis [(Str.ofString "worth", some (.int st'.1 st'.2.1)), (Str.ofString "row", st'.2.2)] [(Str.ofString "asked", some (.str (Str.ofString "HERE") ta)), (Str.ofString "turn", some (.int tn tt)), (Str.ofString "worth", some (.int W tw)), (Str.ofString "table", some (.ref x)), (Str.ofString "end", some (.str e te))] F' ⟨m1, m2, m3, m4, m5, trivial⟩
        rw [inv'] at F9
        refine fin h' tk' _ _ RR F9 (fun q hq => N' q ?_) fun q hq => hq
        rw [← hnews]
        unfold lwLed at hq
        simp only [List.mem_cons] at hq ⊢
        rcases hq with h | h | h | h | h | h <;> simp [h]
  · have hnm := names_clean.2.2.2.2.2
    simp only [lwE, lwI, lwD, forBody, List.getElem?_cons_zero, List.getElem?_cons_succ, Option.getD_some]
    unfold lwLed at N
    have he9 : e.length + e.length ≤ sizeLine := by
      have hz : (4 : Nat) ≤ sizeLine := by decide
      have : e.length ≤ 2 := by rcases he with rfl | rfl | rfl <;> decide
      omega
    have F1 := fr_ifs [(Str.ofString "asked", some (.str (Str.ofString "OVER") ta)), (Str.ofString "turn", some (.int tn tt)), (Str.ofString "worth", some (.int W tw)), (Str.ofString "table", some (.ref x)), (Str.ofString "end", some (.str e te))] F ⟨m1, m2, m3, m4, m5, trivial⟩
    clear F
    dsimp only [ifs] at F1
    k_steps
    unfold Stop
    (rename Fr _ _ _ _ => lF'); (rename News _ _ _ _ => lN'); (rename And _ _ => l9)
    k_dflt (refine' storeX_C ?kF ?kN ?kc ?kU ?kd ?_ ?ka ?kb; (case ka => rfl); (case kb => rfl); (case kF => exact lF'); (case kN => exact lN'); (case kc => rfl); (case kU => exact UpdF.head (cell_far l9)); (case kd => assumption))
    intro h8' o8' F8' N8' d8'
    clear lF' lN'
    k_steps
    obtain ⟨hlh, hH⟩ := hH
    with_unfolding_all refine' ⟨_, hs.toArray, _, (fun nw => nw = _), (fun i ys _ => StrsAre ys ((selR 1 (rws.take i)).map fun r => (⟨r.toArray⟩ : Str))), rfl, rfl, F8', N8', rfl, StrsAre.nil, by rw [List.size_toArray]; have hz9 : (1001 : Nat) ≤ sizeLine := (by decide); omega, fun h nw hk N' hS => ?_, fun g9 j9 v9 ys9 nw9 I9 oI9 C9 oC9 D9 m9 h9 tk9 hv9 hS9 hJ9 hl9 hC9 hx9 F' N' off9 ne9 => ?_, fun g9 D9 h9 tk9 ys9 nw9 F' N' o9 hS9 hJ9 => ?_⟩
    · subst hS
      exact Mine.listOf_is (N'.get (List.mem_cons_of_mem _ List.mem_cons_self))
    · subst hS9
      have hi9 : j9 < rws.length := by
        have := (Array.getElem?_eq_some_iff.mp hv9).1
        have : j9 < hs.length := by simpa using this
        omega
      have e8 : rws[j9]? = some rws[j9] := List.getElem?_eq_getElem hi9
      obtain ⟨v8, nm8, hv8, hn8, t8, t81, t82, rfl, ht8⟩ := hH j9 _ e8
      have hv8' : hs[j9]? = some v9 := by simpa using hv9
      rw [hv8] at hv8'
      cases hv8'
      generalize rws[j9] = q8 at e8 hn8 ht8
      obtain ⟨ov8, row8⟩ := q8
      (try dsimp only at hn8 ht8)
      have N7 := news_front N' (x := (t8, tupO #[.str nm8 t81, .str ⟨row8.toArray⟩ t82])) (by simp only [List.mem_cons, ht8, or_true])
      clear N' N8' F8'
      (try dsimp only at hx9)
      rcases hn8 with ⟨rfl, rfl | rfl⟩ | ⟨rfl, rfl | rfl⟩
      all_goals k_steps
      all_goals (try dsimp only)
      all_goals (rename Fr _ _ _ _ => lF'); (rename News _ _ _ _ => lN')
      · exact LCg.CompEnd.intro lF' lN' _ (fun q hq => List.mem_cons_of_mem _ hq) off9 rfl (sel_same e8 nil_ne1 hJ9)
      · exact LCg.CompEnd.intro lF' lN' _ (fun q hq => List.mem_cons_of_mem _ hq) off9 rfl (sel_same e8 nil_ne1 hJ9)
      · exact LCg.CompEnd.intro lF' lN' _ (fun q hq => List.mem_cons_of_mem _ hq) off9 rfl (sel_more e8 rfl hJ9)
      · exact LCg.CompEnd.intro lF' lN' _ (fun q hq => List.mem_cons_of_mem _ hq) off9 rfl (sel_more e8 rfl hJ9)
    · subst hS9
      rw [List.size_toArray, hlh, List.take_length] at hJ9
      (try dsimp only)
      clear N8' F8'
      k_steps
      unfold Stop
      (rename Fr _ _ _ _ => lF'); (rename News _ _ _ _ => lN')
      generalize hnews : (_ :: _ : List (Addr × Obj)) = nw9 at lN'
      (try dsimp only at ez')
      with_unfolding_all refine' turns_list [(D', PySem.W.listOf (strValues zs').toArray 0)] (fun st : Int × Tok × Option Value => [(Str.ofString "worth", some (.int st.1 st.2.1)), (Str.ofString "row", st.2.2)]) (fun _ => nw9) (fun i st => st.1 = W + tn * worths ((cut (selR 1 rws)).take i)) (W, tw, m (Str.ofString "row")) (by rfl) (Mine.listOf_is (lN'.get (by rw [← hnews]; exact List.mem_cons_self))) lF' lN' (.inr ⟨_, List.mem_singleton.mpr rfl⟩) (fun _ h => h) ⟨?_, ?_, trivial⟩ ?_ (fun _ q hq => by rw [List.mem_singleton.mp hq, ← hnews]; exact List.mem_cons_self) (fun i' v' st' h' tk' I' oI' hi' inv' off' F' N' => ?_) (fun st' h' tk' inv' F' N' => ?_)
      · rfl
      · rfl
      · show W = W + tn * 0
        omega
      · obtain ⟨x9, t9, r9, rfl, ex9, er9⟩ := zs_at ez' hi'
        clear lF' lN'
        k_steps
        (try dsimp only)
        (rename Fr _ _ _ _ => lF'); (rename News _ _ _ _ => lN')
        refine StepY.next (_, _, some _) lF' lN' (fun _ h => h) off' ⟨⟨rfl, rfl, trivial⟩, by walk_at "OFFY"⟩ ?_
        rw [worths_take er9, Int.mul_add]
        show st'.1 + tn * worthF r9 = _
        omega
      · rw [List.size_toArray, strv] at inv'
        have hz : zs'.length = (cut (selR 1 rws)).length := by rw [← ez', List.length_map]
        rw [hz, List.take_length, worths_cut] at inv'
        have F9 := fr_upis [(Str.ofString "worth", some (.int st'.1 st'.2.1)), (Str.ofString "row", st'.2.2)] [(Str.ofString "asked", some (.str (Str.ofString "OVER") ta)), (Str.ofString "turn", some (.int tn tt)), (Str.ofString "worth", some (.int W tw)), (Str.ofString "table", some (.ref x)), (Str.ofString "end", some (.str e te))] F' ⟨m1, m2, m3, m4, m5, trivial⟩
        rw [inv'] at F9
        refine fin h' tk' _ _ RR F9 (fun q hq => N' q ?_) fun q hq => hq
        rw [← hnews]
        unfold lwLed at hq
        simp only [List.mem_cons] at hq ⊢
        rcases hq with h | h | h | h | h | h <;> simp [h]
end

end
section
theorem fillL9 : (∃ f : Params → Frag, f = Mine.hd.heap_1) ∧ PySem.Challenge.rw_sh0030_01 = PySem.Challenge.rw_sh0030_01 := by w_top off; k_fill; exact ⟨⟨_, rfl⟩, rfl⟩
section
variable {w : World} {s : Shared} {p : Program} {loose : List Str} {mean : ExcName → Option Value} {mg mb : Str → Option Value}
  {h₀ : Heap} {L fa : Addr} {cdv : Value} {m : Str → Option Value} {Q : Flow → Shared → Prop}
  {hq pl x dx D : Addr} {u : Tok} {hs ps vs : List Value} {nh np n : Nat} {ds : List Int} {RR : List (Addr × Obj)}
theorem lw_s5 (F : Fr h₀ L s.heap m) (N : News h₀ L s.heap (lwLed w hq pl x dx D u hs nh ps np vs n RR))
    (fin : ∀ h tk t, Fr h₀ L h (fun z => if z = Str.ofString "worth" then some (.int 0 t) else m z) → News h₀ L h (lwLed w hq pl x dx D u hs nh ps np vs n RR) → Q .next { s with heap := h, toks := tk }) :
    wpAny (model prg w) (callerA.deeper (lwE w L fa cdv)) (exec (lwS w 5) (lwE w L fa cdv)) Q (fun _ _ => False) s := by
  simp only [lwE, lwS, lwD, List.getElem?_cons_zero, List.getElem?_cons_succ, Option.getD_some]
  k_steps
  (rename Fr _ _ _ _ => lF'); (rename News _ _ _ _ => lN')
  exact fin _ _ _ lF' lN'
local macro_rules | `(tactic| walk_at "exec For") => `(tactic| (refine Stop.of ?_))
local macro_rules | `(tactic| walk_at "pyIter ref") => `(tactic| ((with_reducible show wpAny _ _ (pyIter (Value.ref _)) (fun it s₂ => TurnsAt _ _ _ _ _ _ _ _ _ it s₂) _ _); refine Stop.of ?_))
def wsum (rws : List (Int × List Nat)) (i : Nat) : Int := (if 0 < i then worths ((selR 0 rws).map quoted) else 0) + (if 1 < i then -worths ((selR 1 rws).map quoted) else 0)
theorem HdsAre.more {rws : List (Int × List Nat)} {RR' : List (Addr × Obj)} (h : HdsAre hs rws RR) (hs' : ∀ q ∈ RR, q ∈ RR') : HdsAre hs rws RR' := ⟨h.1, fun i q hq => by
  obtain ⟨v, nm, h1, h2, t, t1, t2, h3, h4⟩ := h.2 i q hq
  exact ⟨v, nm, h1, h2, t, t1, t2, h3, hs' _ h4⟩⟩
noncomputable def lwT6 (w : World) : PySem.Expr := forTarget (lwS w 6)
theorem body6 (w : World) : forBody (lwD w).1.1 6 = [lwI w] := rfl
structure OSt where
  w : Int
  tw : Tok
  row : Option Value
  asked : Option Value
  turn : Option Value
theorem led_or {q : Addr × Obj} {RR RX : List (Addr × Obj)} (h : q ∈ lwLed w hq pl x dx D u hs nh ps np vs n RX) : q ∈ lwLed w hq pl x dx D u hs nh ps np vs n RR ∨ q ∈ RX := by
  unfold lwLed at h ⊢
  simp only [List.mem_cons] at h ⊢
  rcases h with h | h | h | h | h | h <;> simp [h]
theorem led_in {q : Addr × Obj} {RR : List (Addr × Obj)} (h : q ∈ RR) : q ∈ lwLed w hq pl x dx D u hs nh ps np vs n RR := by
  unfold lwLed; simp [h]
theorem lw_s6b (X : (hd.heap_1 w.params).In h₀) (T : Top p loose mean mg mb h₀) (B : Below callerA h₀ [] h₀) {rws : List (Int × List Nat)} {e : Str} {te tw : Tok} (he : Ends3 e) (hH : HdsAre hs rws RR) (hlr : rws.length ≤ 3) (hr0 : RowsOk (selR 0 rws)) (hr1 : RowsOk (selR 1 rws)) {ld t1 t2 : Addr} {k1 k2 k3 k4 : Tok}
    (fin : ∀ h tk m' t' RR', Fr h₀ L h m' → m' (Str.ofString "worth") = some (.int (wsum rws 2) t') → (∀ z, z ≠ Str.ofString "worth" → z ≠ Str.ofString "row" → z ≠ Str.ofString "asked" → z ≠ Str.ofString "turn" → m' z = m z) → News h₀ L h (lwLed w hq pl x dx D u hs nh ps np vs n RR') → (∀ q ∈ RR, q ∈ RR') → Q .next { s with heap := h, toks := tk })
    (m3 : m (Str.ofString "worth") = some (.int 0 tw)) (m4 : m (Str.ofString "table") = some (.ref x)) (m5 : m (Str.ofString "end") = some (.str e te))
    (F : Fr h₀ L s.heap m) (N : News h₀ L s.heap ((ld, PySem.W.listOf #[.ref t1, .ref t2] 0) :: (t2, tupO #[.str (Str.ofString "OVER") k3, .int (-1) k4]) :: (t1, tupO #[.str (Str.ofString "HERE") k1, .int 1 k2]) :: lwLed w hq pl x dx D u hs nh ps np vs n RR)) :
    wpAny (model prg w) (callerA.deeper (lwE w L fa cdv)) (pyIter (.ref ld)) (fun it s₂ => TurnsAt prg w (callerA.deeper (lwE w L fa cdv)) h₀ (lwE w L fa cdv) (lwT6 w) (forBody (lwD w).1.1 6) Q (fun _ _ => False) it s₂) (fun _ _ => False) s := by
  generalize hLED : ((ld, PySem.W.listOf #[.ref t1, .ref t2] 0) :: (t2, tupO #[.str (Str.ofString "OVER") k3, .int (-1) k4]) :: (t1, tupO #[.str (Str.ofString "HERE") k1, .int 1 k2]) :: lwLed w hq pl x dx D u hs nh ps np vs n RR : List (Addr × Obj)) = LED at N
  have hld : (ld, PySem.W.listOf #[.ref t1, .ref t2] 0) ∈ LED := by rw [← hLED]; simp
  have ht2 : (t2, tupO #[.str (Str.ofString "OVER") k3, .int (-1) k4]) ∈ LED := by rw [← hLED]; simp
  have ht1 : (t1, tupO #[.str (Str.ofString "HERE") k1, .int 1 k2]) ∈ LED := by rw [← hLED]; simp
  have hin : ∀ q ∈ lwLed w hq pl x dx D u hs nh ps np vs n RR, q ∈ LED := fun q hq => by rw [← hLED]; simp [hq]
  have F8 : Fr h₀ (lwE w L fa cdv).locals s.heap m := F
  have N8 : News h₀ (lwE w L fa cdv).locals s.heap LED := N
  refine turns_list [(ld, PySem.W.listOf #[.ref t1, .ref t2] 0)] (fun st : OSt => [(Str.ofString "worth", some (.int st.w st.tw)), (Str.ofString "row", st.row), (Str.ofString "asked", st.asked), (Str.ofString "turn", st.turn)]) (fun _ => LED) (fun i st => st.w = wsum rws i) ⟨0, tw, m (Str.ofString "row"), m (Str.ofString "asked"), m (Str.ofString "turn")⟩ (by rfl) (Mine.listOf_is (N.get hld)) F8 N8 (.inr ⟨_, List.mem_singleton.mpr rfl⟩) (fun _ h => h) ⟨m3, rfl, rfl, rfl, trivial⟩ (by rfl) (fun _ q hq => by rw [List.mem_singleton.mp hq]; exact hld) (fun i' v' st' h' tk' I' oI' hi' inv' off' F' N' => ?_) (fun st' h' tk' inv' F' N' => ?_)
  · have N9 : ∀ {t : Addr} {o : Obj}, (t, o) ∈ LED → News h₀ L h' ((t, o) :: (LED ++ [(I', oI')])) := fun ht => news_front N' (List.mem_append_left _ ht)
    have hI : i' = 0 ∨ i' = 1 := by
      have := (Array.getElem?_eq_some_iff.mp hi').1
      have h2 : i' < 2 := this
      omega
    have F7 : Fr h₀ L h' (upd [(Str.ofString "worth", some (.int st'.w st'.tw)), (Str.ofString "row", st'.row), (Str.ofString "asked", st'.asked), (Str.ofString "turn", st'.turn)] m) := F'
    rw [body6]
    simp only [lwE, lwT6, forTarget, lwS, lwI, lwD, forBody, List.getElem?_cons_zero, List.getElem?_cons_succ, Option.getD_some]
    rcases hI with rfl | rfl
    · have ev : Value.ref t1 = v' := Option.some.inj hi'
      subst ev
      have N6 := N9 ht1
      clear F F8 N N8 N9 F' N'
      k_steps
      unfold Stop
      (rename Fr _ _ _ _ => lF'); (rename News _ _ _ _ => lN')
      refine lw_inner X T B (W := st'.w) (tw := st'.tw) (tt := k2) (ta := k1) (tn := 1) (te := te) (rws := rws) (RR := LED ++ [(I', oI')]) he (.inl rfl) (hH.more fun q hq => List.mem_append_left _ (hin q (led_in hq))) hlr (.inl ⟨rfl, rfl⟩) hr0 (fun h9 tk9 t9 ro9 RR9 F9 N9 sub9 => ?_) ?zm1 ?zm2 ?zm3 ?zm4 ?zm5 lF' (fun q hm => lN' q (List.mem_cons_of_mem _ ((led_or hm).elim (fun h => List.mem_append_left _ (hin q h)) fun h => h)))
      (case zm1 => rfl)
      (case zm2 => rfl)
      (case zm3 => rfl)
      (case zm4 => exact m4)
      (case zm5 => exact m5)
      refine wpAny_execs_nil (StepY.next ⟨_, _, _, _, _⟩ F9 N9 (fun q hq => led_in (sub9 q hq)) off' ⟨⟨rfl, rfl, rfl, rfl, trivial⟩, fun z z1 z2 z3 z4 => ?_⟩ ?_)
      · show upd _ _ z = m z
        rw [upd_cons, if_neg z1, upd_cons, if_neg z2, upd_nil, if_neg z4, if_neg z3, upd_cons, if_neg z1, upd_cons, if_neg z2, upd_cons, if_neg z3, upd_cons, if_neg z4, upd_nil]
      · show st'.w + _ * _ = _
        rw [inv']
        simp [wsum]
    · have ev : Value.ref t2 = v' := Option.some.inj hi'
      subst ev
      have N6 := N9 ht2
      clear F F8 N N8 N9 F' N'
      k_steps
      unfold Stop
      (rename Fr _ _ _ _ => lF'); (rename News _ _ _ _ => lN')
      refine lw_inner X T B (W := st'.w) (tw := st'.tw) (tt := k4) (ta := k3) (tn := -1) (te := te) (rws := rws) (RR := LED ++ [(I', oI')]) he (.inr rfl) (hH.more fun q hq => List.mem_append_left _ (hin q (led_in hq))) hlr (.inr ⟨rfl, rfl⟩) hr1 (fun h9 tk9 t9 ro9 RR9 F9 N9 sub9 => ?_) ?ym1 ?ym2 ?ym3 ?ym4 ?ym5 lF' (fun q hm => lN' q (List.mem_cons_of_mem _ ((led_or hm).elim (fun h => List.mem_append_left _ (hin q h)) fun h => h)))
      (case ym1 => rfl)
      (case ym2 => rfl)
      (case ym3 => rfl)
      (case ym4 => exact m4)
      (case ym5 => exact m5)
      refine wpAny_execs_nil (StepY.next ⟨_, _, _, _, _⟩ F9 N9 (fun q hq => led_in (sub9 q hq)) off' ⟨⟨rfl, rfl, rfl, rfl, trivial⟩, fun z z1 z2 z3 z4 => ?_⟩ ?_)
      · show upd _ _ z = m z
        rw [upd_cons, if_neg z1, upd_cons, if_neg z2, upd_nil, if_neg z4, if_neg z3, upd_cons, if_neg z1, upd_cons, if_neg z2, upd_cons, if_neg z3, upd_cons, if_neg z4, upd_nil]
      · show st'.w + _ * _ = _
        rw [inv']
        simp [wsum]
  · have F7 : Fr h₀ L h' (upd [(Str.ofString "worth", some (.int st'.w st'.tw)), (Str.ofString "row", st'.row), (Str.ofString "asked", st'.asked), (Str.ofString "turn", st'.turn)] m) := F'
    refine fin h' tk' _ st'.tw RR F7 ?_ (fun z z1 z2 z3 z4 => ?_) (fun q hq => N' q (hin q hq)) fun q hq => hq
    · rw [upd_cons, if_pos rfl, inv']; rfl
    · rw [upd_cons, if_neg z1, upd_cons, if_neg z2, upd_cons, if_neg z3, upd_cons, if_neg z4, upd_nil]
theorem lw_s6 (X : (hd.heap_1 w.params).In h₀) (T : Top p loose mean mg mb h₀) (B : Below callerA h₀ [] h₀) {rws : List (Int × List Nat)} {e : Str} {te tw : Tok} (he : Ends3 e) (hH : HdsAre hs rws RR) (hlr : rws.length ≤ 3) (hr0 : RowsOk (selR 0 rws)) (hr1 : RowsOk (selR 1 rws))
    (fin : ∀ h tk m' t' RR', Fr h₀ L h m' → m' (Str.ofString "worth") = some (.int (wsum rws 2) t') → (∀ z, z ≠ Str.ofString "worth" → z ≠ Str.ofString "row" → z ≠ Str.ofString "asked" → z ≠ Str.ofString "turn" → m' z = m z) → News h₀ L h (lwLed w hq pl x dx D u hs nh ps np vs n RR') → (∀ q ∈ RR, q ∈ RR') → Q .next { s with heap := h, toks := tk })
    (m3 : m (Str.ofString "worth") = some (.int 0 tw)) (m4 : m (Str.ofString "table") = some (.ref x)) (m5 : m (Str.ofString "end") = some (.str e te))
    (F : Fr h₀ L s.heap m) (N : News h₀ L s.heap (lwLed w hq pl x dx D u hs nh ps np vs n RR)) :
    wpAny (model prg w) (callerA.deeper (lwE w L fa cdv)) (exec (lwS w 6) (lwE w L fa cdv)) Q (fun _ _ => False) s := by
  simp only [lwE, lwS, lwD, List.getElem?_cons_zero, List.getElem?_cons_succ, Option.getD_some]
  k_dflt (refine' For_turns ?hF ?_; (case hF => exact F))
  unfold lwLed at N
  k_steps
  unfold Stop
  (rename Fr _ _ _ _ => lF'); (rename News _ _ _ _ => lN')
  exact lw_s6b X T B he hH hlr hr0 hr1 fin m3 m4 m5 lF' lN'
end

end
section
theorem fillL10 : (∃ f : Params → Frag, f = Mine.hd.heap_1) ∧ PySem.Challenge.rw_sh0030_01 = PySem.Challenge.rw_sh0030_01 := by w_top off; k_fill; exact ⟨⟨_, rfl⟩, rfl⟩
def PlsAre (pls : List Value) (gss : List (List Int)) (RR : List (Addr × Obj)) : Prop := pls.length = gss.length ∧ ∀ (i : Nat) (g : List Int), gss[i]? = some g → ∃ v, pls[i]? = some v ∧ PlAt v g RR
section
variable {w : World} {s : Shared} {p : Program} {loose : List Str} {mean : ExcName → Option Value} {mg mb : Str → Option Value}
  {h₀ : Heap} {L fa : Addr} {cdv : Value} {m : Str → Option Value} {Q : Flow → Shared → Prop}
  {hq pl x dx D : Addr} {u : Tok} {hs ps vs : List Value} {nh np n : Nat} {ds : List Int} {RR : List (Addr × Obj)}
theorem number_use {e1 : Env} {E : Value → Shared → Prop} {Q : Value → Shared → Prop} {news : List (Addr × Obj)} {v : Value} {es : List Int} {L : Addr} {m : Str → Option Value} (X : (hd.heap_1 w.params).In h₀) (T : Top p loose mean mg mb h₀) (hp : PlAt v es RR) (hg : es ∈ shapes) (F : Fr h₀ L s.heap m) (N : News h₀ L s.heap news) (hsub : ∀ q ∈ RR, q ∈ news)
    (h : ∀ h' tk t', Fr h₀ L h' m → News h₀ L h' news → Q (.int (numberF es) t') { s with heap := h', toks := tk }) : wpAny (model prg w) (callerA.deeper e1) (call (.ref 264) [v]) Q E s := by
  obtain ⟨pg, gs, gn, rfl, hm, hI⟩ := hp
  have hlen := len_of hg
  refine PureCall.use (call_number (X.keeps F.keep) (T.keeps F.keep) (Mine.listOf_is (N.get (hsub _ hm))) hI (by omega) (good_of hg)) F N fun v h' tk hv F' N' _ => ?_
  obtain ⟨t', rfl⟩ := hv
  exact h h' tk t' F' N'
local macro_rules | `(tactic| walk_at "eval ListComp") => `(tactic| (k_dflt (refine compLN (by k_asm) (by rfl) (by decide) (by rfl) (by decide) (by rfl) ?_)))
local macro_rules | `(tactic| walk_at "CompTurn") => `(tactic| (unfold CompTurn; (try dsimp only); intro E9))
local macro_rules | `(tactic| walk_at "call ref") => `(tactic| (refine Stop.of ?_))
theorem lw_s7 (X : (hd.heap_1 w.params).In h₀) (T : Top p loose mean mg mb h₀) (B : Below callerA h₀ [] h₀) {gss : List (List Int)} {Wv : Int} {tw : Tok} (hP : PlsAre ps gss RR) (hgs : ∀ g ∈ gss, g ∈ shapes) (hl : gss.length = 3) (hw : Wv = (gss.map numberF).sum)
    (m3 : m (Str.ofString "worth") = some (.int Wv tw)) (m4 : m (Str.ofString "players") = some (.ref pl))
    (F : Fr h₀ L s.heap m) (N : News h₀ L s.heap (lwLed w hq pl x dx D u hs nh ps np vs n RR))
    (fin : ∀ h tk, Fr h₀ L h m → News h₀ L h (lwLed w hq pl x dx D u hs nh ps np vs n RR) → Q .next { s with heap := h, toks := tk }) :
    wpAny (model prg w) (callerA.deeper (lwE w L fa cdv)) (exec (lwS w 7) (lwE w L fa cdv)) Q (fun _ _ => False) s := by
  simp only [lwE, lwS, lwD, List.getElem?_cons_zero, List.getElem?_cons_succ, Option.getD_some]
  have F1 := fr_ifs [(Str.ofString "worth", some (.int Wv tw)), (Str.ofString "players", some (.ref pl))] F ⟨m3, m4, trivial⟩
  clear F
  dsimp only [ifs] at F1
  unfold lwLed at N
  k_steps
  (rename Fr _ _ _ _ => lF'); (rename News _ _ _ _ => lN')
  obtain ⟨hlp, hP⟩ := hP
  with_unfolding_all refine' ⟨_, ps.toArray, _, (fun nw => nw = _), (fun i ys _ => IntsAre ys ((gss.take i).map numberF)), rfl, rfl, lF', lN', rfl, IntsAre.nil, by rw [List.size_toArray]; have hz9 : (1001 : Nat) ≤ sizeLine := (by decide); omega, fun h nw hk N' hS => ?_, fun g9 j9 v9 ys9 nw9 I9 oI9 C9 oC9 D9 m9 h9 tk9 hv9 hS9 hJ9 hl9 hC9 hx9 F' N' off9 ne9 => ?_, fun g9 D9 h9 tk9 ys9 nw9 F' N' o9 hS9 hJ9 => ?_⟩
  · subst hS
    exact Mine.listOf_is (N'.get (List.mem_cons_of_mem _ List.mem_cons_self))
  · subst hS9
    have hi9 : j9 < gss.length := by
      have := (Array.getElem?_eq_some_iff.mp hv9).1
      have : j9 < ps.length := by simpa using this
      omega
    have e8 : gss[j9]? = some gss[j9] := List.getElem?_eq_getElem hi9
    obtain ⟨v8, hv8, hp9⟩ := hP j9 _ e8
    have hv8' : ps[j9]? = some v9 := by simpa using hv9
    rw [hv8] at hv8'
    cases hv8'
    have hg9 := hgs _ (List.getElem_mem hi9)
    clear lF' lN'
    k_steps
    unfold Stop
    (rename Fr _ _ _ _ => lF'); (rename News _ _ _ _ => lN')
    k_dflt (refine number_use X T hp9 hg9 lF' lN' (fun q hq => by simp only [List.mem_cons, hq, or_true]) (fun h' k' t' F' N' => ?_))
    clear lF' lN'
    k_steps
    (try dsimp only)
    (rename Fr _ _ _ _ => lF'); (rename News _ _ _ _ => lN')
    refine LCg.CompEnd.intro lF' lN' _ (fun q hq => hq) off9 rfl ?_
    rw [List.take_add_one, e8, List.map_append]
    exact hJ9.append (.cons _ _ .nil)
  · subst hS9
    rw [List.size_toArray, hlp, List.take_length] at hJ9
    clear lF' lN'
    k_steps
    all_goals (try dsimp only)
    all_goals (rename Fr _ _ _ _ => lF'); (rename News _ _ _ _ => lN')
    · exact absurd hw (by assumption)
    · exact fin _ _ (fr_fis [(Str.ofString "worth", some (.int Wv tw)), (Str.ofString "players", some (.ref pl))] lF' ⟨m3, m4, trivial⟩) (fun q hq => lN' q (List.mem_cons_of_mem _ hq))
end

end
section
theorem fillL11 : (∃ f : Params → Frag, f = Mine.hd.heap_1) ∧ PySem.Challenge.rw_sh0030_01 = PySem.Challenge.rw_sh0030_01 := by w_top off; k_fill; exact ⟨⟨_, rfl⟩, rfl⟩
theorem law_ans (v : Int) : (decide (256 - v < 256) == decide (0 < v) && (decide (256 + v ≥ 256) == !decide (v < 0) && (v == 0) == (!decide (0 < v) && !decide (v < 0)))) = true := by
  have a : decide (256 - v < 256) = decide (0 < v) := decide_eq_decide.mpr (by omega)
  have b : decide (256 + v ≥ 256) = !decide (v < 0) := by rw [← decide_not]; exact decide_eq_decide.mpr (by omega)
  have c : (v == 0) = (!decide (0 < v) && !decide (v < 0)) := by
    rw [← decide_not, ← decide_not, ← Bool.decide_and]
    show decide (v = 0) = _
    exact decide_eq_decide.mpr (by omega)
  rw [a, b, c]; simp
section
variable {w : World} {s : Shared} {p : Program} {loose : List Str} {mean : ExcName → Option Value} {mg mb : Str → Option Value}
  {h₀ : Heap} {L fa : Addr} {cdv : Value} {m : Str → Option Value} {Q : Flow → Shared → Prop}
  {hq pl x dx D : Addr} {u : Tok} {hs ps vs : List Value} {nh np n : Nat} {ds : List Int} {RR : List (Addr × Obj)}
section
variable {e1 : Env} {E : Value → Shared → Prop} {Q : Value → Shared → Prop} {news : List (Addr × Obj)}
theorem ister_use (X : (hd.heap_1 w.params).In h₀) (T : Top p loose mean mg mb h₀) {a : Int} {t : Tok} (F : Fr h₀ L s.heap m) (N : News h₀ L s.heap news)
    (h : ∀ h' tk, Fr h₀ L h' m → News h₀ L h' news → Q (.bool (decide (a < 256))) { s with heap := h', toks := tk }) : wpAny (model prg w) (callerA.deeper e1) (call (.ref 69) [.int a t]) Q E s :=
  PureCall.use (call_ister (X.keeps F.keep) (T.keeps F.keep)) F N fun v h' tk hv F' N' _ => by rw [hv]; exact h h' tk F' N'
theorem isnon_use (X : (hd.heap_1 w.params).In h₀) (T : Top p loose mean mg mb h₀) {a : Int} {t : Tok} (F : Fr h₀ L s.heap m) (N : News h₀ L s.heap news)
    (h : ∀ h' tk, Fr h₀ L h' m → News h₀ L h' news → Q (.bool (decide (a ≥ 256))) { s with heap := h', toks := tk }) : wpAny (model prg w) (callerA.deeper e1) (call (.ref 76) [.int a t]) Q E s :=
  PureCall.use (call_isnon (X.keeps F.keep) (T.keeps F.keep)) F N fun v h' tk hv F' N' _ => by rw [hv]; exact h h' tk F' N'
theorem iseof_use (X : (hd.heap_1 w.params).In h₀) (T : Top p loose mean mg mb h₀) {a : Int} {t : Tok} (F : Fr h₀ L s.heap m) (N : News h₀ L s.heap news)
    (h : ∀ h' tk, Fr h₀ L h' m → News h₀ L h' news → Q (.bool (a == 0)) { s with heap := h', toks := tk }) : wpAny (model prg w) (callerA.deeper e1) (call (.ref 83) [.int a t]) Q E s :=
  PureCall.use (call_iseof (X.keeps F.keep) (T.keeps F.keep)) F N fun v h' tk hv F' N' _ => by rw [hv]; exact h h' tk F' N'
theorem played_use (X : (hd.heap_1 w.params).In h₀) (T : Top p loose mean mg mb h₀) {a0 a1 a2 : Addr} {gs0 gs1 gs2 : List Value} {gn0 gn1 gn2 : Nat} {g0 g1 g2 : List Int} (F : Fr h₀ L s.heap m) (N : News h₀ L s.heap news)
    (hm0 : (a0, PySem.W.listOf gs0.toArray gn0) ∈ news) (hI0 : IntsAre gs0 g0) (hm1 : (a1, PySem.W.listOf gs1.toArray gn1) ∈ news) (hI1 : IntsAre gs1 g1) (hm2 : (a2, PySem.W.listOf gs2.toArray gn2) ∈ news) (hI2 : IntsAre gs2 g2) (s0 : g0 ∈ shapes) (s1 : g1 ∈ shapes) (s2 : g2 ∈ shapes)
    (h : ∀ b n h' tk, Fr h₀ L h' m → News h₀ L h' (news ++ [(b, PySem.W.listOf #[.bool (decide (0 < numberF g0 + numberF g1 + numberF g2)), .bool (decide (numberF g0 + numberF g1 + numberF g2 < 0))] n)]) → Q (.ref b) { s with heap := h', toks := tk }) : wpAny (model prg w) (callerA.deeper e1) (call (.ref 269) [.ref a0, .ref a1, .ref a2]) Q E s :=
  NewCall.use (call_played (X.keeps F.keep) (T.keeps F.keep) (Mine.listOf_is (N.get hm0)) hI0 (Mine.listOf_is (N.get hm1)) hI1 (Mine.listOf_is (N.get hm2)) hI2 s0 s1 s2) F N fun v objs h' tk hv F' N' _ => by
    obtain ⟨b, n, rfl, rfl⟩ := hv
    exact h b n h' tk F' N'
end
local macro_rules | `(tactic| walk_at "call ref") => `(tactic| (refine Stop.of ?_))
theorem lw_s8 (X : (hd.heap_1 w.params).In h₀) (T : Top p loose mean mg mb h₀) (B : Below callerA h₀ [] h₀) {p0 p1 p2 : Value} {g0 g1 g2 : List Int} (hp0 : PlAt p0 g0 RR) (hp1 : PlAt p1 g1 RR) (hp2 : PlAt p2 g2 RR) (s0 : g0 ∈ shapes) (s1 : g1 ∈ shapes) (s2 : g2 ∈ shapes)
    (m4 : m (Str.ofString "players") = some (.ref pl))
    (F : Fr h₀ L s.heap m) (N : News h₀ L s.heap (lwLed w hq pl x dx D u hs nh [p0, p1, p2] np vs n RR))
    (fin : ∀ h tk, Fr h₀ L h (fun z => if z = Str.ofString "right" then some (.bool (decide (numberF g0 + numberF g1 + numberF g2 < 0))) else if z = Str.ofString "left" then some (.bool (decide (0 < numberF g0 + numberF g1 + numberF g2))) else m z) → News h₀ L h (lwLed w hq pl x dx D u hs nh [p0, p1, p2] np vs n RR) → Q .next { s with heap := h, toks := tk }) :
    wpAny (model prg w) (callerA.deeper (lwE w L fa cdv)) (exec (lwS w 8) (lwE w L fa cdv)) Q (fun _ _ => False) s := by
  simp only [lwE, lwS, lwD, List.getElem?_cons_zero, List.getElem?_cons_succ, Option.getD_some]
  have F1 := fr_ifs [(Str.ofString "players", some (.ref pl))] F ⟨m4, trivial⟩
  clear F
  dsimp only [ifs] at F1
  obtain ⟨a0, gs0, gn0, rfl, hm0, hI0⟩ := hp0
  obtain ⟨a1, gs1, gn1, rfl, hm1, hI1⟩ := hp1
  obtain ⟨a2, gs2, gn2, rfl, hm2, hI2⟩ := hp2
  unfold lwLed at N
  k_steps
  unfold Stop
  (rename Fr _ _ _ _ => lF'); (rename News _ _ _ _ => lN')
  have hin : ∀ q ∈ RR, q ∈ (hq, PySem.W.listOf hs.toArray nh) :: (pl, PySem.W.listOf [Value.ref a0, .ref a1, .ref a2].toArray np) :: (x, instObj 227 dx) :: (dx, hdDict w u hq) :: (D, PySem.W.listOf vs.toArray n) :: RR := fun q hq => by simp only [List.mem_cons, hq, or_true]
  k_dflt (refine played_use X T lF' lN' (hin _ hm0) hI0 (hin _ hm1) hI1 (hin _ hm2) hI2 s0 s1 s2 (fun b9 n9 h9 tk9 F' N' => ?_))
  have N9 := news_front N' (List.mem_append_right _ List.mem_cons_self)
  clear lF' lN' N'
  k_steps
  (try dsimp only)
  (rename Fr _ _ _ _ => lF'); (rename News _ _ _ _ => lN')
  exact fin _ _ (Fr.congr' lF' fun z => congrArg (fun q => if z = Str.ofString "right" then _ else if z = Str.ofString "left" then _ else q) (ifs_eq (l := [(Str.ofString "players", some (.ref pl))]) ⟨m4, trivial⟩)) (fun q hq => lN' q (List.mem_cons_of_mem _ (List.mem_append_left _ hq)))
set_option hygiene false in
local macro_rules | `(tactic| walk_at "call ref") => `(tactic| ((walk_at "FN"); (first | ((with_reducible show wpAny _ _ (call (Value.ref 69) _) _ _ _); (k_dflt (refine ister_use X T lF' lN' (fun h' k' F' N' => ?_)))) | ((with_reducible show wpAny _ _ (call (Value.ref 76) _) _ _ _); (k_dflt (refine isnon_use X T lF' lN' (fun h' k' F' N' => ?_)))) | ((with_reducible show wpAny _ _ (call (Value.ref 83) _) _ _ _); (k_dflt (refine iseof_use X T lF' lN' (fun h' k' F' N' => ?_))))); clear lF' lN'))
theorem lw_s9 {bl br : Bool} (m1 : m (Str.ofString "left") = some (.bool bl)) (m2 : m (Str.ofString "right") = some (.bool br))
    (F : Fr h₀ L s.heap m) (N : News h₀ L s.heap (lwLed w hq pl x dx D u hs nh ps np vs n RR))
    (fin : ∀ h tk, Fr h₀ L h (fun z => if z = Str.ofString "lost" then some (.bool (!bl && !br)) else m z) → News h₀ L h (lwLed w hq pl x dx D u hs nh ps np vs n RR) → Q .next { s with heap := h, toks := tk }) :
    wpAny (model prg w) (callerA.deeper (lwE w L fa cdv)) (exec (lwS w 9) (lwE w L fa cdv)) Q (fun _ _ => False) s := by
  simp only [lwE, lwS, lwD, List.getElem?_cons_zero, List.getElem?_cons_succ, Option.getD_some]
  have F1 := fr_ifs [(Str.ofString "left", some (.bool bl)), (Str.ofString "right", some (.bool br))] F ⟨m1, m2, trivial⟩
  clear F
  dsimp only [ifs] at F1
  k_steps
  all_goals (try dsimp only)
  all_goals (rename Fr _ _ _ _ => lF'); (rename News _ _ _ _ => lN')
  · subst_vars
    exact fin _ _ (Fr.congr' lF' fun z => by cases br <;> exact congrArg (fun q => if z = Str.ofString "lost" then _ else q) (ifs_eq (l := [(Str.ofString "left", some (.bool true)), (Str.ofString "right", some (.bool _))]) ⟨m1, m2, trivial⟩)) lN'
  · subst_vars
    exact fin _ _ (Fr.congr' lF' fun z => by cases br <;> exact congrArg (fun q => if z = Str.ofString "lost" then _ else q) (ifs_eq (l := [(Str.ofString "left", some (.bool false)), (Str.ofString "right", some (.bool _))]) ⟨m1, m2, trivial⟩)) lN'
theorem lw_s10 (X : (hd.heap_1 w.params).In h₀) (T : Top p loose mean mg mb h₀) (B : Below callerA h₀ [] h₀) {bl br bs : Bool} {Wv : Int} {tw : Tok} (m0 : m (Str.ofString "worth") = some (.int Wv tw)) (m1 : m (Str.ofString "left") = some (.bool bl)) (m2 : m (Str.ofString "right") = some (.bool br)) (m3 : m (Str.ofString "lost") = some (.bool bs))
    (e1 : bl = decide (0 < Wv)) (e2 : br = decide (Wv < 0)) (e3 : bs = (!bl && !br))
    (F : Fr h₀ L s.heap m) (N : News h₀ L s.heap (lwLed w hq pl x dx D u hs nh ps np vs n RR))
    (fin : ∀ h tk, Fr h₀ L h m → Q (.ret (.bool true)) { s with heap := h, toks := tk }) :
    wpAny (model prg w) (callerA.deeper (lwE w L fa cdv)) (exec (lwS w 10) (lwE w L fa cdv)) Q (fun _ _ => False) s := by
  simp only [lwE, lwS, lwD, List.getElem?_cons_zero, List.getElem?_cons_succ, Option.getD_some]
  have F1 := fr_ifs [(Str.ofString "worth", some (.int Wv tw)), (Str.ofString "left", some (.bool bl)), (Str.ofString "right", some (.bool br)), (Str.ofString "lost", some (.bool bs))] F ⟨m0, m1, m2, m3, trivial⟩
  clear F
  dsimp only [ifs] at F1
  unfold lwLed at N
  k_steps
  all_goals (try dsimp only)
  (rename Fr _ _ _ _ => lF')
  have e9 := law_ans Wv
  rw [← e1, ← e2, ← e3] at e9
  rw [e9]
  exact fin _ _ (fr_fis [(Str.ofString "worth", some (.int Wv tw)), (Str.ofString "left", some (.bool bl)), (Str.ofString "right", some (.bool br)), (Str.ofString "lost", some (.bool bs))] lF' ⟨m0, m1, m2, m3, trivial⟩)
end

end
section
theorem lefK_bits {ds : List Int} {i : Nat} : ∀ l ∈ lefK ds i, l = 0 ∨ l = 1 := fun l hl => by
  obtain ⟨q, hq, rfl⟩ := List.mem_map.mp hl
  exact (stalk_ok _ _ q hq).1
theorem lefK_len {ds : List Int} {i : Nat} : (lefK ds i).length = lenF (ds.getD (i + 1) 0) i := by
  unfold lefK stalkK
  rw [List.length_map, stalkL_length]
theorem lef0 {ds : List Int} : (lefK ds 0).length ≤ 3 := by rw [lefK_len]; exact (len_is (ds := ds) (i := 0) (by decide)).2
theorem lenF3 {d : Int} {i : Nat} (h : i = 1 ∨ i = 2) : lenF d i ≤ 2 := by
  have e : lenF d i = ((d.fmod 12).fmod 3).toNat := by rcases h with rfl | rfl <;> rfl
  have h1 := Int.fmod_lt_of_pos (d.fmod 12) (show (0 : Int) < 3 by decide)
  rw [e]; omega
theorem lef12 {ds : List Int} {i : Nat} (h : i = 1 ∨ i = 2) : (lefK ds i).length ≤ 2 := by rw [lefK_len]; exact lenF3 h
theorem rowOf_mem : ∀ {ls : List Int}, (∀ l ∈ ls, l = 0 ∨ l = 1) → rowOf ls ∈ rowsN ls.length
  | [], _ => List.mem_singleton.mpr rfl
  | l :: r, h => by
    have ih := rowOf_mem (ls := r) fun q hq => h q (List.mem_cons_of_mem _ hq)
    show rowOf (l :: r) ∈ (rowsN r.length).flatMap _
    refine List.mem_flatMap.mpr ⟨rowOf r, ih, ?_⟩
    rcases h l List.mem_cons_self with rfl | rfl <;> simp [rowOf]
theorem lefts_mem : ∀ {ls : List Int}, (∀ l ∈ ls, l = 0 ∨ l = 1) → ls ∈ lefts ls.length
  | [], _ => List.mem_singleton.mpr rfl
  | l :: r, h => by
    have ih := lefts_mem (ls := r) fun q hq => h q (List.mem_cons_of_mem _ hq)
    show (l :: r) ∈ (lefts r.length).flatMap _
    refine List.mem_flatMap.mpr ⟨r, ih, ?_⟩
    rcases h l List.mem_cons_self with rfl | rfl <;> simp
theorem rows2_of {r : List Nat} {k : Nat} (h : r ∈ rowsN k) (hk : k ≤ 2) : r ∈ rows2 := by
  have : k = 0 ∨ k = 1 ∨ k = 2 := by omega
  unfold rows2
  rcases this with rfl | rfl | rfl
  · exact List.mem_append_left _ (List.mem_append_left _ h)
  · exact List.mem_append_left _ (List.mem_append_right _ h)
  · exact List.mem_append_right _ h
theorem rows3_of {r : List Nat} {k : Nat} (h : r ∈ rowsN k) (hk : k ≤ 3) : r ∈ rows3 := by
  by_cases e : k ≤ 2
  · exact rows23 (rows2_of h e)
  · have : k = 3 := by omega
    subst this
    exact List.mem_append_right _ h
theorem allLefts_of {ls : List Int} {k : Nat} (h : ls ∈ lefts k) (hk : k ≤ 3) : ls ∈ allLefts := by
  have : k = 0 ∨ k = 1 ∨ k = 2 ∨ k = 3 := by omega
  unfold allLefts
  rcases this with rfl | rfl | rfl | rfl
  · exact List.mem_append_left _ (List.mem_append_left _ (List.mem_append_left _ h))
  · exact List.mem_append_left _ (List.mem_append_left _ (List.mem_append_right _ h))
  · exact List.mem_append_left _ (List.mem_append_right _ h)
  · exact List.mem_append_right _ h
theorem lefs_ok {ds : List Int} : lefK ds 0 ∈ allLefts ∧ lefK ds 1 ∈ allLefts ∧ lefK ds 2 ∈ allLefts :=
  ⟨allLefts_of (lefts_mem lefK_bits) lef0, allLefts_of (lefts_mem lefK_bits) (Nat.le_trans (lef12 (.inl rfl)) (by decide)), allLefts_of (lefts_mem lefK_bits) (Nat.le_trans (lef12 (.inr rfl)) (by decide))⟩
theorem row_fact {ls : List Int} (h : ls ∈ allLefts) : worthF (quoted (rowOf ls)) = numberF (grownOf ls) ∧ -(worthF (quoted (rowOf ls))) = numberF ((grownOf ls).map fun e => -e) ∧ grownOf ls ∈ shapes ∧ ((grownOf ls).map fun e => -e) ∈ shapes := by
  have := List.all_eq_true.mp rows_ok ls h
  simp only [Bool.and_eq_true, decide_eq_true_eq, List.contains_iff_mem] at this
  exact ⟨this.1.1.1, this.1.1.2, this.1.2, this.2⟩
theorem player_shape {ov : Int} {ls : List Int} (h : ls ∈ allLefts) : playerF ov ls ∈ shapes := by
  unfold playerF
  split
  · exact (row_fact h).2.2.2
  · exact (row_fact h).2.2.1
theorem player_number {ov : Int} {ls : List Int} (h : ls ∈ allLefts) : numberF (playerF ov ls) = if ov = 1 then -(worthF (quoted (rowOf ls))) else worthF (quoted (rowOf ls)) := by
  unfold playerF
  split
  · exact (row_fact h).2.1.symm
  · exact (row_fact h).1.symm
theorem selR_ok {a o0 o1 o2 : Int} {r0 r1 r2 : List Nat} (h0 : r0 ∈ rows3) (h1 : r1 ∈ rows2) (h2 : r2 ∈ rows2) : RowsOk (selR a [(o0, r0), (o1, r1), (o2, r2)]) := by
  by_cases a0 : o0 = a <;> by_cases a1 : o1 = a <;> by_cases a2 : o2 = a <;> simp [selR, List.filter_cons, a0, a1, a2]
  · exact .inr (.inr (.inr ⟨_, _, _, h0, h1, h2, rfl⟩))
  · exact .inr (.inr (.inl ⟨_, _, h0, h1, rfl⟩))
  · exact .inr (.inr (.inl ⟨_, _, h0, h2, rfl⟩))
  · exact .inr (.inl ⟨_, h0, rfl⟩)
  · exact .inr (.inr (.inl ⟨_, _, rows23 h1, h2, rfl⟩))
  · exact .inr (.inl ⟨_, rows23 h1, rfl⟩)
  · exact .inr (.inl ⟨_, rows23 h2, rfl⟩)
  · exact .inl rfl
theorem selR_sum {a : Int} : ∀ {rws : List (Int × List Nat)}, worths ((selR a rws).map quoted) = (rws.map fun q => if q.1 = a then worthF (quoted q.2) else 0).sum
  | [] => rfl
  | q :: r => by
    have ih := selR_sum (a := a) (rws := r)
    unfold selR worths at ih ⊢
    by_cases h : q.1 = a
    · simp only [List.filter_cons, h, decide_true, if_true, List.map_cons, List.sum_cons]
      rw [← ih]
    · simp only [List.filter_cons, h, decide_false, if_false, List.map_cons, List.sum_cons, Bool.false_eq_true]
      rw [← ih]; omega
theorem wsum_eq {o0 o1 o2 : Int} {l0 l1 l2 : List Int} (b0 : o0 = 0 ∨ o0 = 1) (b1 : o1 = 0 ∨ o1 = 1) (b2 : o2 = 0 ∨ o2 = 1) (h0 : l0 ∈ allLefts) (h1 : l1 ∈ allLefts) (h2 : l2 ∈ allLefts) :
    wsum [(o0, rowOf l0), (o1, rowOf l1), (o2, rowOf l2)] 2 = ([playerF o0 l0, playerF o1 l1, playerF o2 l2].map numberF).sum := by
  unfold wsum
  rw [if_pos (by decide), if_pos (by decide), selR_sum, selR_sum]
  simp only [List.map_cons, List.map_nil, List.sum_cons, List.sum_nil]
  rw [player_number h0, player_number h1, player_number h2]
  rcases b0 with rfl | rfl <;> rcases b1 with rfl | rfl <;> rcases b2 with rfl | rfl <;> simp <;> omega
theorem small_up {x : Int} {m n : Nat} (h : x.natAbs < 2 ^ m) (hmn : m ≤ n) : x.natAbs < 2 ^ n := Nat.lt_of_lt_of_le h (Nat.pow_le_pow_right (by decide) hmn)
theorem small_of {ns : List Int} (h : PyData.layable0 (.list (ns.map .int)) = true) : ∀ d ∈ drawsF ns, d.natAbs < 2 ^ 1048700 := by
  intro d hd
  rcases List.mem_append.mp hd with hd | hd
  · have h1 := PyData.bits_item_of_ints h (List.mem_of_mem_take hd)
    refine small_up (m := 1048576) (intBits_le_iff.mp h1) (by omega)
  · have h2 := List.mem_of_mem_drop hd
    refine small_up (m := 64) ?_ (by omega)
    simp only [List.mem_cons, List.not_mem_nil, or_false] at h2
    rcases h2 with rfl | rfl | rfl | rfl <;> decide

end
section
theorem fillL12 : (∃ f : Params → Frag, f = Mine.hd.heap_1) ∧ PySem.Challenge.rw_sh0030_01 = PySem.Challenge.rw_sh0030_01 := by w_top off; k_fill; exact ⟨⟨_, rfl⟩, rfl⟩
section
variable {w : World} {s : Shared} {p : Program} {loose : List Str} {mean : ExcName → Option Value} {mg mb : Str → Option Value}
  {h₀ : Heap} {L fa : Addr} {cdv : Value} {m : Str → Option Value} {Q : Flow → Shared → Prop}
theorem lw_body (w : World) : (lwD w).1.1 = [lwS w 0, lwS w 1, lwS w 2, lwS w 3, lwS w 4, lwS w 5, lwS w 6, lwS w 7, lwS w 8, lwS w 9, lwS w 10] := rfl
theorem hds3 {h0 h1 h2 : Value} {nm0 nm1 nm2 : Str} {o0 o1 o2 : Int} {r0 r1 r2 : List Nat} {RR : List (Addr × Obj)} (n0 : NameOk o0 nm0) (n1 : NameOk o1 nm1) (n2 : NameOk o2 nm2) (a0 : HdAt h0 nm0 r0 RR) (a1 : HdAt h1 nm1 r1 RR) (a2 : HdAt h2 nm2 r2 RR) : HdsAre [h0, h1, h2] [(o0, r0), (o1, r1), (o2, r2)] RR := ⟨rfl, fun i q hq => by
  match i, hq with
  | 0, hq => cases hq; exact ⟨h0, nm0, rfl, n0, a0⟩
  | 1, hq => cases hq; exact ⟨h1, nm1, rfl, n1, a1⟩
  | 2, hq => cases hq; exact ⟨h2, nm2, rfl, n2, a2⟩⟩
theorem PlAt.more {v : Value} {g : List Int} {RR RR' : List (Addr × Obj)} (h : PlAt v g RR) (hs : ∀ q ∈ RR, q ∈ RR') : PlAt v g RR' := by
  obtain ⟨a, gs, gn, h1, h2, h3⟩ := h
  exact ⟨a, gs, gn, h1, hs _ h2, h3⟩
theorem pls3 {p0 p1 p2 : Value} {g0 g1 g2 : List Int} {RR : List (Addr × Obj)} (a0 : PlAt p0 g0 RR) (a1 : PlAt p1 g1 RR) (a2 : PlAt p2 g2 RR) : PlsAre [p0, p1, p2] [g0, g1, g2] RR := ⟨rfl, fun i q hq => by
  match i, hq with
  | 0, hq => cases hq; exact ⟨p0, rfl, a0⟩
  | 1, hq => cases hq; exact ⟨p1, rfl, a1⟩
  | 2, hq => cases hq; exact ⟨p2, rfl, a2⟩⟩
theorem over01 (ds : List Int) (k : Nat) : overF ds k = 0 ∨ overF ds k = 1 := fmod2 _
theorem lw_all (X : (hd.heap_1 w.params).In h₀) (T : Top p loose mean mg mb h₀) (B : Below callerA h₀ [] h₀) {l : Addr} {vs : List Value} {ns : List Int} (hl : h₀.IsList l vs.toArray) (hI : IntsAre vs ns) (hlen : ns.length ≤ 63) (hsmall : ∀ d ∈ drawsF ns, d.natAbs < 2 ^ 1048700)
    (F : Fr h₀ L s.heap m) (m0 : m (Str.ofString "script") = some (.ref l)) (N : News h₀ L s.heap [])
    (fin : ∀ h tk m', Fr h₀ L h m' → Q (.ret (.bool true)) { s with heap := h, toks := tk }) :
    wpAny (model prg w) (callerA.deeper (lwE w L fa cdv)) (execs (lwD w).1.1 (lwE w L fa cdv)) Q (fun _ _ => False) s := by
  rw [lw_body]
  have F0 : Fr h₀ L s.heap (fun z => if z = Str.ofString "script" then some (.ref l) else m z) := fr_ifs [(Str.ofString "script", some (.ref l))] F ⟨m0, trivial⟩
  refine wpAny_execs_cons (lw_s0 X T B hl hI hlen F0 N fun h1 tk1 D n1 vs1 F1 N1 I1 => ?_)
  refine wpAny_execs_cons (lw_s1 X T B I1 (drawsF_len ns) F1 N1 fun h2 tk2 e te he F2 N2 => ?_)
  refine wpAny_execs_cons (lw_s2 X T B I1 F2 N2 fun h3 tk3 x dx hq u F3 N3 o3 => ?_)
  refine wpAny_execs_cons (lw_s3 F3 N3 o3 fun h4 tk4 pl F4 N4 o4 => ?_)
  have N5 : News h₀ L h4 (lwLed w hq pl x dx D u [] 0 [] 0 vs1 n1 []) := fun q hm => N4 q (by
    unfold lwLed at hm
    simp only [List.mem_cons, List.not_mem_nil, or_false] at hm ⊢
    rcases hm with h | h | h | h | h <;> simp [h])
  have hof : Offs hq pl x dx D [] := ⟨Nat.ne_of_lt o4, fun _ h => (nomatch h), ⟨Nat.ne_of_lt o3.1, Nat.ne_of_lt (Nat.lt_trans o3.1 o4)⟩, ⟨Nat.ne_of_lt o3.2.1, Nat.ne_of_lt (Nat.lt_trans o3.2.1 o4)⟩, ⟨Nat.ne_of_lt o3.2.2, Nat.ne_of_lt (Nat.lt_trans o3.2.2 o4)⟩⟩
  refine wpAny_execs_cons (lw_s4 X T B I1 (drawsF_len ns) hsmall rfl rfl rfl hof F4 N5 fun h5 tk5 m5 d0 d1 d2 p0 p1 p2 nm0 nm1 nm2 RR F5 K5 N5 n0 n1 n2 a0 a1 a2 b0 b1 b2 => ?_)
  have kx : m5 (Str.ofString "table") = some (.ref x) := K5 _ (by decide) (by decide) (by decide) (by decide) (by decide) (by decide)
  have ke : m5 (Str.ofString "end") = some (.str e te) := K5 _ (by decide) (by decide) (by decide) (by decide) (by decide) (by decide)
  have kp : m5 (Str.ofString "players") = some (.ref pl) := K5 _ (by decide) (by decide) (by decide) (by decide) (by decide) (by decide)
  refine wpAny_execs_cons (lw_s5 F5 N5 fun h6 tk6 t6 F6 N6 => ?_)
  have H6 := hds3 n0 n1 n2 a0 a1 a2
  obtain ⟨l0, l1, l2⟩ := lefs_ok (ds := drawsF ns)
  have r0 : rowOf (lefK (drawsF ns) 0) ∈ rows3 := rows3_of (rowOf_mem lefK_bits) lef0
  have r1 : rowOf (lefK (drawsF ns) 1) ∈ rows2 := rows2_of (rowOf_mem lefK_bits) (lef12 (.inl rfl))
  have r2 : rowOf (lefK (drawsF ns) 2) ∈ rows2 := rows2_of (rowOf_mem lefK_bits) (lef12 (.inr rfl))
  refine wpAny_execs_cons (lw_s6 X T B (te := te) (tw := t6) he H6 (Nat.le_refl 3) (selR_ok r0 r1 r2) (selR_ok r0 r1 r2) (fun h7 tk7 m7 t7 RR7 F7 w7 k7 N7 s7 => ?_) ?qa ?qb ?qc F6 N6)
  (case qa => rfl)
  (case qb => exact kx)
  (case qc => exact ke)
  have kp7 : m7 (Str.ofString "players") = some (.ref pl) := (k7 _ (by decide) (by decide) (by decide) (by decide)).trans kp
  have c0 := player_shape (ov := overF (drawsF ns) 0) l0
  have c1 := player_shape (ov := overF (drawsF ns) 1) l1
  have c2 := player_shape (ov := overF (drawsF ns) 2) l2
  have hw := wsum_eq (over01 (drawsF ns) 0) (over01 (drawsF ns) 1) (over01 (drawsF ns) 2) l0 l1 l2
  refine wpAny_execs_cons (lw_s7 X T B (pls3 (b0.more s7) (b1.more s7) (b2.more s7)) (fun g hg => ?_) rfl hw w7 kp7 F7 N7 fun h8 tk8 F8 N8 => ?_)
  · simp only [List.mem_cons, List.not_mem_nil, or_false] at hg
    rcases hg with rfl | rfl | rfl
    · exact c0
    · exact c1
    · exact c2
  refine wpAny_execs_cons (lw_s8 X T B (b0.more s7) (b1.more s7) (b2.more s7) c0 c1 c2 kp7 F8 N8 fun h9 tk9 F9 N9 => ?_)
  refine wpAny_execs_cons (lw_s9 (bl := decide (0 < numberF (playerF (overF (drawsF ns) 0) (lefK (drawsF ns) 0)) + numberF (playerF (overF (drawsF ns) 1) (lefK (drawsF ns) 1)) + numberF (playerF (overF (drawsF ns) 2) (lefK (drawsF ns) 2)))) (br := decide (numberF (playerF (overF (drawsF ns) 0) (lefK (drawsF ns) 0)) + numberF (playerF (overF (drawsF ns) 1) (lefK (drawsF ns) 1)) + numberF (playerF (overF (drawsF ns) 2) (lefK (drawsF ns) 2)) < 0)) ?qd ?qe F9 N9 fun h10 tk10 F10 N10 => ?_)
  (case qd => rfl)
  (case qe => rfl)
  have hv : wsum [(overF (drawsF ns) 0, rowOf (lefK (drawsF ns) 0)), (overF (drawsF ns) 1, rowOf (lefK (drawsF ns) 1)), (overF (drawsF ns) 2, rowOf (lefK (drawsF ns) 2))] 2 = numberF (playerF (overF (drawsF ns) 0) (lefK (drawsF ns) 0)) + numberF (playerF (overF (drawsF ns) 1) (lefK (drawsF ns) 1)) + numberF (playerF (overF (drawsF ns) 2) (lefK (drawsF ns) 2)) := by
    rw [hw]; simp only [List.map_cons, List.map_nil, List.sum_cons, List.sum_nil]; omega
  rw [hv] at w7
  refine wpAny_execs_cons (lw_s10 X T B (tw := t7) (bl := decide (0 < numberF (playerF (overF (drawsF ns) 0) (lefK (drawsF ns) 0)) + numberF (playerF (overF (drawsF ns) 1) (lefK (drawsF ns) 1)) + numberF (playerF (overF (drawsF ns) 2) (lefK (drawsF ns) 2)))) (br := decide (numberF (playerF (overF (drawsF ns) 0) (lefK (drawsF ns) 0)) + numberF (playerF (overF (drawsF ns) 1) (lefK (drawsF ns) 1)) + numberF (playerF (overF (drawsF ns) 2) (lefK (drawsF ns) 2)) < 0)) ?qf ?qg ?qh ?qi rfl rfl rfl F10 N10 fun h11 tk11 F11 => fin h11 tk11 _ F11)
  (case qf => exact w7)
  (case qg => rfl)
  (case qh => rfl)
  (case qi => rfl)
end

end
end Mine
theorem PySem.Challenge.cw_sh0030_01_holds : PySem.Challenge.rw_sh0030_01.Holds := by
  refine Mine.hd ?_
  k_fill
  intro w s₀ s₁ mg mb G Y fa o pm cd doc dV kV ho hd hcd hD hmg hg args vals as hpre hlay hrd hwl hlo
  have KX := kIn_of Y
  have X := (Ground.X G).1
  have V := (Ground.X G).2
  refine Ground.open G ?_
  intro T B D TE TW
  (try (refine guard_noD D (by decide +kernel) ?_; clear D))
  obtain ⟨_, _, M⟩ := bmod_of_top T
  have TA := at_of_top T
  (try (obtain ⟨_, _, he, B0⟩ := based_of_top T rfl hmg ho hd; have he' : cd = _ := he; subst he'; clear he))
  clear hmg
  wrow_args hpre hlay hrd hwl hlo
  all_goals (
    first | refine callC_kw (enter_call ?_) | refine enter_call ?_ | refine callC_kw (enter_callW ?_) | refine enter_callW ?_ | w_how
    w_top on
    try refine codeAny_mono ?_ (fun _ _ g => GoodW.toG g)
    have K0 := below_caller (Top.heap T)
    w_call any ho hd hcd hD T F
    clear hd TA
    k_drop)
  (rename Frag.In _ _ => zX); (rename Top _ _ _ _ _ _ => zT); (rename Below _ _ _ _ => zB); (rename Fr _ _ _ _ => zF); (rename News _ _ _ _ => zN); (rename IntsAre _ _ => zI); (rename Heap.IsList _ _ _ => zL)
  refine wpAny_mono (Mine.lw_all zX zT zB zL zI ?za ?zb zF ?zc zN fun h9 tk9 m9 F9 => ?zd) (fun _ _ q => q) (fun _ _ q => q.elim)
  (case za => omega)
  (case zb => exact Mine.small_of (by assumption))
  (case zc => rfl)
  (case zd =>
    (try dsimp only)
    k_steps
    all_goals (try k_data)
    all_goals w_report)
