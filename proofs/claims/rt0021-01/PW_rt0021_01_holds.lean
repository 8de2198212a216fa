import PyProof.Rows.All
import Wide.All
import OpenK.AllK
import Wide.FinOn
import PyProof.IsiTuple
import PyProof.StrLawsTight
import PyProof.Rows.StrClose5
import PyProof.Rows.StrClose3
import PyProof.AttrMissHeap
import KE.KFromBytes
import PyProof.Rows.CountFlat
import PyProof.CallType
import PyProof.FactsAll.object_1
import Lean
import PySem.Challenge.RW_rt0021_01
open PySem PySem.W PyProof.Rows PySem.Calls
set_option Elab.async false
set_option linter.unusedVariables false
set_option maxRecDepth 100000
set_option maxHeartbeats 8000000
namespace Mine
section
set_option maxHeartbeats 0
section
-- this theorem says nothing: it is here for the table of the top's objects that the library's head writes out on its way
local macro_rules | `(tactic| o_head $_H) => `(tactic| assumption)
theorem top (h : PySem.Challenge.rw_rt0021_01.row.Holds) : PySem.Challenge.rw_rt0021_01.row.Holds := by k_head
end
end
section
/-- the frame's surroundings at a given depth -/
abbrev ar (dp un : Nat) (outer : List Env) : Around := ⟨none, dp, some outer, some [], un⟩

theorem wpAny_le {α : Type} {M : Model} {A : Around} {dp un : Nat} {outer : List Env} {t : Sem α} {Q : α → Shared → Prop} {E : Value → Shared → Prop} {s : Shared}
    (h : wpAny M (ar dp un outer) t Q E s) (h1 : A.handled = none) (h2 : A.depth ≤ dp) (h3 : A.frames = some outer) (h4 : A.guards = some []) (h5 : A.units ≤ un) : wpAny M A t Q E s :=
  fun Γ p hΓ => h Γ p ⟨hΓ.1.trans h1, Nat.le_trans hΓ.2.1 h2, fun l hl => hΓ.2.2.1 l (by rw [h3]; exact hl), fun g hg => hΓ.2.2.2.1 g (by rw [h4]; exact hg), Nat.le_trans hΓ.2.2.2.2 h5⟩

abbrev Grows (h h' : Heap) : Prop := ∀ b o, h.get? b = some o → h'.get? b = some o

section
variable {prog : Program} {w : World} {A : Around} {E : Value → Shared → Prop} {s : Shared} {K : Frag} {mg mb : Str → Option Value} {p : Program} {loose : List Str} {mean : ExcName → Option Value} {Q : Value → Shared → Prop}
theorem enter_def {name qual : Str} {params : Arguments} {body : List Stmt} {scope : Scope} {dV kV doc pm cdv ct oc : Value} {an od : Option Addr} {osl : Array (Option Value)} {f : Addr} {args : List Value} {binds : List (Str × Value)}
    (X : K.In s.heap) (T : Top p loose mean mg mb s.heap)
    (ho : K.lookup f = some ⟨oc, od, .func (fnOf name qual params body scope dV kV doc pm an cdv ct), osl⟩) (hcd : codeIn K cdv qual = true) (hroom : A.depth < recursionLimit)
    (hbind : BindsTo s (fnOf name qual params body scope dV kV doc pm an cdv ct) ⟨args, []⟩ binds) (hloc : ∀ y ∈ binds, scope.names.lookup y.1 = some .local)
    (h : ∀ L h₁, Fr s.heap L h₁ (fun y => binds.reverse.lookup y) → News s.heap L h₁ [] →
      wpAny (model prog w) (A.deeper (envOf qual scope L f cdv)) (execs body (envOf qual scope L f cdv))
        (fun fl s' => Q (match fl with | .ret v => v | _ => .none) s')
        (fun e s' => wpAny (model prog w) (A.deeper (envOf qual scope L f cdv)) (leaving (envOf qual scope L f cdv) e) (fun _ s'' => E e s'') (fun e' s'' => E e' s'') s')
        { s with heap := h₁, toks := s.toks + binds.length })
    (hco : scope.isCoroutine = false) (hgen : scope.isGenerator = false) (hk : scope.kind = .function)
    (hcell : ∀ x ∈ scope.names, x.2 ≠ .cell) : wpAny (model prog w) A (call (.ref f) args) Q E s := by
  refine wpAny_call ?_
  refine codeAny_call_def (fd := fnOf name qual params body scope dV kV doc pm an cdv ct) (body := body) (binds := binds) hroom (X _ _ ho) rfl T.nolimit (codeRec_of X hcd) rfl hbind hcell hloc (fun h₁ hns hk₁ => ?_) hco hgen hk
  exact h s.heap.objs.size h₁ ⟨hns, hk₁, Nat.le_refl _⟩ News.nil
end

/-- what a call of a text's def promises: it keeps the heap and hands back what Out says -/
def Spec (f : Addr) (dp un : Nat) (args : List Value) (Pre : Heap → Prop) (Out : Heap → Heap → Value → Prop) : Prop :=
  ∀ (w : World) (p : Program) (loose : List Str) (mean : ExcName → Option Value) (mg mb : Str → Option Value) (A₀ : Around) (base : Heap) (outer : List Env) (s : Shared) (Q E : Value → Shared → Prop),
    Below A₀ base outer s.heap → (top.heap_1 w.params).In s.heap → Top p loose mean mg mb s.heap → Pre s.heap →
    (∀ r h' tk', Grows s.heap h' → Out s.heap h' r → Q r { s with heap := h', toks := tk' }) →
    wpAny (model PySem.Challenge.rw_rt0021_01.row.prog w) (ar dp un outer) (call (.ref f) args) Q E s

theorem Spec.use {f : Addr} {dp un : Nat} {args : List Value} {Pre : Heap → Prop} {Out : Heap → Heap → Value → Prop} (C : Spec f dp un args Pre Out)
    {w : World} {p : Program} {loose : List Str} {mean : ExcName → Option Value} {mg mb : Str → Option Value} {A₀ A : Around} {base h₀ : Heap} {outer : List Env} {s : Shared} {L a : Addr} {m : Str → Option Value} {news : List (Addr × Obj)} {cn : Str} {cs : Scope} {ccd : Value} {Q E : Value → Shared → Prop}
    (B : Below A₀ base outer h₀) (F : Fr h₀ L s.heap m) (X : (top.heap_1 w.params).In h₀) (N : News h₀ L s.heap news) (T : Top p loose mean mg mb h₀) (hk : cs.kind = .function)
    (h1 : A.handled = none) (h2 : A.depth ≤ dp) (h3 : A.frames = some (envOf cn cs L a ccd :: outer)) (h4 : A.guards = some []) (h5 : A.units ≤ un) (pre : Pre s.heap)
    (ret : ∀ r h' tk', Fr h₀ L h' m → News h₀ L h' news → Grows s.heap h' → Out s.heap h' r → Q r { s with heap := h', toks := tk' }) :
    wpAny (model PySem.Challenge.rw_rt0021_01.row.prog w) A (call (.ref f) args) Q E s := by
  refine wpAny_le (C w p loose mean mg mb (A₀.deeper (envOf cn cs L a ccd)) base (envOf cn cs L a ccd :: outer) s Q E (B.push F hk) (X.keeps F.keep) (T.keeps F.keep) pre ?_) h1 h2 h3 h4 h5
  intro r h' tk' hg ho
  refine ret r h' tk' ⟨F.ns.keeps hg, fun b o e => hg b o (F.keep b o e), F.above⟩ (fun q hq => ⟨hg _ _ (N q hq).1, (N q hq).2⟩) hg ho
end
section
theorem kind_issub : builtinKind "issubclass.nested" = none := by decide +kernel
theorem plain_issub : plainId "issubclass.nested" = true := by decide +kernel
theorem args_issub (a b c : Value) : argsOk "issubclass.nested" ⟨[a, b, c], []⟩ := by unfold argsOk; kernel_rfl
theorem sub_str : isSubtype (.type "str") (.type "str") = pure true := by rw [isSubtype_type]; kernel_rfl
theorem meta_str : typeOf (.type "str") = pure (.type "type") := kitMeta_of (by decide +kernel)

theorem issub_nested_str {dep : Int} {tk : Tok} : Meets (Builtin.«issubclass.nested» ⟨[.type "str", .type "str", .int dep tk], []⟩) (fun _ R s => R (.ok (.ret (.bool true))) s) := by
  intro prog w A R s hs
  have hm := meta_str
  have hself := sub_str
  repeat (any_goals (first | assumption | (rw [if_pos hm]) | (rw [hself]) | wp_step))

theorem issub_tup {prog : Program} {w : World} {A : Around} {E : Value → Shared → Prop} {s : Shared} {tp : Addr} {vs cs : List Value} {Q : Value → Shared → Prop} (hv : vs = Value.type "str" :: cs)
    (htp : s.heap.get? tp = some { cls := .type "tuple", data := .seq vs.toArray })
    (hq : ∀ tk', Q (.bool true) { s with toks := tk' }) : wpAny (model prog w) A (call (.builtin "issubclass") [.type "str", .ref tp]) Q E s := by
  refine call_issubclass (S := fun _ R s => s.heap.get? tp = some { cls := .type "tuple", data := .seq vs.toArray } ∧ ∀ tk', R (.ok (.ret (.bool true))) { s with toks := tk' }) ?_ ⟨htp, hq⟩
  intro prog w A R s hs
  refine issubclass_outer ?_
  obtain ⟨htp, hq⟩ := hs
  obtain ⟨h, g, d, t, os⟩ := s
  have hT2 : (⟨h, g, d, t, os⟩ : Shared).TypeIs (.ref tp) "tuple" := ⟨_, htp, rfl⟩
  have f1 := F.isi_sub_tuple
  repeat (any_goals (first | assumption | wp_step))
  refine wpAny_arrayLoop ?_
  simp only [Option.getD_some, List.toList_toArray]
  rw [hv, List.forIn_cons]
  refine wpAny_bind (wpAny_bind (call_function_meets kind_issub plain_issub F.entry_issubclass_nested (args_issub _ _ _) issub_nested_str ?_))
  show wpAny _ _ (truthy (.bool true) >>= _) _ _ _
  refine wpAny_bind (m := truthy (.bool true)) (wpAny_pure ?_)
  exact wpAny_bind (wpAny_pure (wpAny_pure (wpAny_pure (wpAny_pure (hq _)))))
end
section
section
variable {prog : Program} {w : World} {A : Around} {E : Value → Shared → Prop} {s : Shared} {env : Env} {h₀ : Heap} {x : Str} {body : List Stmt} {Q : Flow → Shared → Prop}

/-- a turn's end in a for over a list -/
def FlEnd {σ : Type} (h₀ : Heap) (L : Addr) (x : Str) (Led : σ → List (Addr × Obj)) (ps : σ → List (Str × Value)) (stored : List Str) (m₀ : Str → Option Value) (P : Nat → σ → Prop) (rest : List (Addr × Obj)) (i : Nat) (s s₂ : Shared) : Prop :=
  ∃ (c : σ) (h' : Heap) (tk : Nat) (m' : Str → Option Value) (news' : List (Addr × Obj)), s₂ = { s with heap := h', toks := tk } ∧ Fr h₀ L h' m' ∧ News h₀ L h' news' ∧ (∀ p ∈ Led c ++ rest, p ∈ news') ∧ (∀ p ∈ ps c, m' p.1 = some p.2) ∧ (∀ z, z ≠ x → (∀ p ∈ ps c, z ≠ p.1) → stored.contains z = false → m' z = m₀ z) ∧ P i c
def FlPost {σ : Type} (h₀ : Heap) (L : Addr) (x : Str) (Led : σ → List (Addr × Obj)) (ps : σ → List (Str × Value)) (stored : List Str) (m₀ : Str → Option Value) (P : Nat → σ → Prop) (rest : List (Addr × Obj)) (i : Nat) (s : Shared) (Q : Flow → Shared → Prop) (f : Flow) (s₂ : Shared) : Prop :=
  match f with
  | .ret v => Q (.ret v) s₂
  | .brk => Q .next s₂
  | _ => FlEnd h₀ L x Led ps stored m₀ P rest i s s₂
theorem fl_end {σ : Type} {L : Addr} {Led : σ → List (Addr × Obj)} {ps : σ → List (Str × Value)} {stored : List Str} {m₀ m' : Str → Option Value} {P : Nat → σ → Prop} {rest news' : List (Addr × Obj)} {i : Nat} {h' : Heap} {tk : Nat} (c : σ)
    (F : Fr h₀ L h' m') (N : News h₀ L h' news') (hn : ∀ p ∈ Led c ++ rest, p ∈ news') (hk : ∀ p ∈ ps c, m' p.1 = some p.2) (hr : ∀ z, z ≠ x → (∀ p ∈ ps c, z ≠ p.1) → stored.contains z = false → m' z = m₀ z) (hp : P i c) :
    FlEnd h₀ L x Led ps stored m₀ P rest i s { s with heap := h', toks := tk } := ⟨c, h', tk, m', news', rfl, F, N, hn, hk, hr, hp⟩

/-- a for over a list of the ledger's -/
theorem fl_own {σ : Type} {l : Addr} {vs : List Value} {ol : Obj} {m₀ : Str → Option Value} {news : List (Addr × Obj)} (Led : σ → List (Addr × Obj)) (ps : σ → List (Str × Value)) (stored : List Str) (P : Nat → σ → Prop) (adr : List Addr) (c₀ : σ)
    (hh : A.handled = none) (hl : s.heap.IsList l vs.toArray) (F : Fr h₀ env.locals s.heap m₀) (N : News h₀ env.locals s.heap news) (hm : (l, ol) ∈ news) (hn : ∀ p ∈ Led c₀, p ∈ news) (hadr : ∀ c, (Led c).map (·.1) = adr) (hk : ∀ p ∈ ps c₀, m₀ p.1 = some p.2) (hp : P 0 c₀)
    (turn : ∀ (c : σ) i v (u : Str → Option Value) h tk I oI, vs[i]? = some v → P i c → (∀ b ∈ adr, b < I) → l < I →
      Fr h₀ env.locals h (fun y => if y = x then some v else kstB (fun z => if stored.contains z then u z else m₀ z) (ps c) y) → News h₀ env.locals h (Led c ++ [(l, ol), (I, oI)]) →
      wpAny (model prog w) A (execs body env) (FlPost h₀ env.locals x Led ps stored m₀ P [(l, ol), (I, oI)] (i + 1) { s with heap := h, toks := tk } Q) E { s with heap := h, toks := tk })
    (done : ∀ (c : σ) (u : Str → Option Value) h tk, P vs.length c → Fr h₀ env.locals h (fun y => if y = x then u y else kstB (fun z => if stored.contains z then u z else m₀ z) (ps c) y) → News h₀ env.locals h (Led c ++ [(l, ol)]) → Q .next { s with heap := h, toks := tk }) :
    wpAny (model prog w) A (pyIter (.ref l)) (fun it s₂ => LoopAtV prog w A h₀ env x body Q E it s₂) E s := by
  have hol := (N _ hm).1
  have hlL : l ≠ env.locals := (N _ hm).2.1
  have hl0 : h₀.get? l = none := (N _ hm).2.2
  have hlt : l < s.heap.objs.size := Heap.lt_size hol
  have hne : l ≠ s.heap.objs.size := Nat.ne_of_lt hlt
  refine wpAny_pyIter_list hl ?_
  have W := Walks.list (prog := prog) (w := w) hh s.heap.objs.size l hne vs.toArray
  have hlen : vs.toArray.size = vs.length := by simp
  rw [hlen] at W
  let J : Nat → (Str → Option Value) → List (Addr × Obj) → Prop := fun i m nx => ∃ c, nx = Led c ++ [(l, ol)] ∧ (∀ p ∈ ps c, m p.1 = some p.2) ∧ (∀ z, z ≠ x → (∀ p ∈ ps c, z ≠ p.1) → stored.contains z = false → m z = m₀ z) ∧ P i c
  have hall : ∀ p ∈ Led c₀ ++ [(l, ol)], p ∈ news := fun p hp => (List.mem_append.mp hp).elim (hn p) fun h => (List.mem_singleton.mp h) ▸ hm
  have hadr0 : ∀ b ∈ adr, b < s.heap.objs.size := fun b hb => by
    rw [← hadr c₀] at hb
    obtain ⟨q, hq, rfl⟩ := List.mem_map.mp hb
    exact Heap.lt_size (N q (hn q hq)).1
  have hltI : ∀ c, ∀ p ∈ Led c ++ [(l, ol)], p.1 < s.heap.objs.size := fun c p hp => (List.mem_append.mp hp).elim (fun h => hadr0 _ (hadr c ▸ List.mem_map.mpr ⟨p, h, rfl⟩)) fun h => by rw [List.mem_singleton.mp h]; exact hlt
  refine ⟨s.heap.objs.size, [s.heap.objs.size, l], [s.heap.objs.size], vs.length, _, _, m₀, Led c₀ ++ [(l, ol)], J, rfl, W, ?_, ?_, ?_, ⟨⟨_, Heap.get?_push_size _ rfl, rfl, rfl⟩, hl.at fun o e => Heap.get?_push_of_some _ e⟩, F.push _, (fun p hp => ⟨Heap.get?_push_of_some _ (N p (hall p hp)).1, (N p (hall p hp)).2⟩), ⟨c₀, rfl, hk, fun _ _ _ _ => rfl, hp⟩, ?_, ?_⟩
  · intro hm'
    rcases List.mem_cons.mp hm' with e | hm'
    · exact absurd F.ns.lt (e ▸ Nat.lt_irrefl _)
    · exact hlL (List.mem_singleton.mp hm').symm
  · intro b hb
    rw [List.mem_singleton.mp hb]
    exact next_is_new F
  · intro p hp hI
    exact absurd (hltI _ p hp) ((List.mem_singleton.mp hI) ▸ Nat.lt_irrefl _)
  · rintro i v m₁ nx s₁ own ⟨hh', tk', rfl⟩ hin hP ⟨c, rfl, h1, h2, hp'⟩ hoff hown hget hmem hst F₁ N₁
    obtain ⟨oI, hoI, _⟩ := hst.1
    have mI : (s.heap.objs.size, oI) ∈ own := hmem _ List.mem_cons_self (next_is_new F) oI hoI
    have N₂ : News h₀ env.locals hh' (Led c ++ [(l, ol), (s.heap.objs.size, oI)]) := fun p hp => by
      rcases List.mem_append.mp hp with hp | hp
      · exact N₁ p (List.mem_append.mpr (.inr (List.mem_append.mpr (.inl hp))))
      · rcases List.mem_cons.mp hp with rfl | hp
        · exact N₁ _ (List.mem_append.mpr (.inr (List.mem_append.mpr (.inr (List.mem_singleton.mpr rfl)))))
        · rw [List.mem_singleton.mp hp]; exact N₁ _ (List.mem_append.mpr (.inl mI))
    have own2 : ∀ p ∈ own, p ∈ [(l, ol), (s.heap.objs.size, oI)] := fun p hp => by
      have a := hget p hp
      have b := hown p hp
      rcases List.mem_cons.mp b with e | b
      · have : p = (s.heap.objs.size, oI) := by
          refine Prod.ext e ?_
          rw [e] at a
          exact Option.some.inj (a.symm.trans hoI)
        rw [this]; simp
      · have e := List.mem_singleton.mp b
        have hl1 := (N₂ (l, ol) (by simp)).1
        have : p = (l, ol) := by
          refine Prod.ext e ?_
          rw [e] at a
          exact Option.some.inj (a.symm.trans hl1)
        rw [this]; simp
    have hP' : vs[i]? = some v := by simpa using hP
    refine wpAny_mono (turn c i v m₁ hh' tk' s.heap.objs.size oI hP' hp' hadr0 hlt (kst_fr h1 h2 F₁) N₂) (fun f s₂ p => ?_) fun _ _ e => e
    have fin : FlEnd h₀ env.locals x Led ps stored m₀ P [(l, ol), (s.heap.objs.size, oI)] (i + 1) { s with heap := hh', toks := tk' } s₂ → LoopStepU h₀ env.locals [s.heap.objs.size] own (J (i + 1)) { s with heap := hh', toks := tk' } .next s₂ := by
      rintro ⟨c', h', tk, m', news', e, F', N', hn', hk', hr', hp9⟩
      refine ⟨rfl, h', tk, m', Led c' ++ [(l, ol)], e, F', fun p hp => ?_, fun p hp hI => ?_, c', rfl, hk', hr', hp9⟩
      · rcases List.mem_append.mp hp with hp | hp
        · exact N' p (hn' p (List.mem_append.mpr (.inr (own2 p hp))))
        · rcases List.mem_append.mp hp with hp | hp
          · exact N' p (hn' p (List.mem_append.mpr (.inl hp)))
          · rw [List.mem_singleton.mp hp]; exact N' _ (hn' _ (List.mem_append.mpr (.inr (by simp))))
      · exact absurd (hltI _ p hp) ((List.mem_singleton.mp hI) ▸ Nat.lt_irrefl _)
    cases f with
    | ret v => exact .ret p
    | brk => exact .brk p
    | next => exact .next (fin p)
    | cont => exact .cont (fin p)
  · rintro h' tk m' nx F' N' _ ⟨c, rfl, h1, h2, hp'⟩
    exact done c m' h' tk hp' (kst_frOut h1 h2 F') N'

/-- a for over a list that stood before the call -/
theorem fl_old {σ : Type} {l : Addr} {vs : List Value} {m₀ : Str → Option Value} {news : List (Addr × Obj)} (Led : σ → List (Addr × Obj)) (ps : σ → List (Str × Value)) (stored : List Str) (P : Nat → σ → Prop) (adr : List Addr) (c₀ : σ)
    (hh : A.handled = none) (hl : h₀.IsList l vs.toArray) (F : Fr h₀ env.locals s.heap m₀) (N : News h₀ env.locals s.heap news) (hn : ∀ p ∈ Led c₀, p ∈ news) (hadr : ∀ c, (Led c).map (·.1) = adr) (hk : ∀ p ∈ ps c₀, m₀ p.1 = some p.2) (hp : P 0 c₀)
    (turn : ∀ (c : σ) i v (u : Str → Option Value) h tk I oI, vs[i]? = some v → P i c → (∀ b ∈ adr, b < I) →
      Fr h₀ env.locals h (fun y => if y = x then some v else kstB (fun z => if stored.contains z then u z else m₀ z) (ps c) y) → News h₀ env.locals h (Led c ++ [(I, oI)]) →
      wpAny (model prog w) A (execs body env) (FlPost h₀ env.locals x Led ps stored m₀ P [(I, oI)] (i + 1) { s with heap := h, toks := tk } Q) E { s with heap := h, toks := tk })
    (done : ∀ (c : σ) (u : Str → Option Value) h tk, P vs.length c → Fr h₀ env.locals h (fun y => if y = x then u y else kstB (fun z => if stored.contains z then u z else m₀ z) (ps c) y) → News h₀ env.locals h (Led c) → Q .next { s with heap := h, toks := tk }) :
    wpAny (model prog w) A (pyIter (.ref l)) (fun it s₂ => LoopAtV prog w A h₀ env x body Q E it s₂) E s := by
  have hls : s.heap.IsList l vs.toArray := hl.at fun o e => F.keep l o e
  obtain ⟨ol, hol, _⟩ := id hl
  have hlt : l < h₀.objs.size := Heap.lt_size hol
  have hne : l ≠ s.heap.objs.size := Nat.ne_of_lt (Nat.lt_trans (Nat.lt_of_lt_of_le hlt F.above) F.ns.lt)
  refine wpAny_pyIter_list hls ?_
  have W := Walks.list (prog := prog) (w := w) hh s.heap.objs.size l hne vs.toArray
  have hlen : vs.toArray.size = vs.length := by simp
  rw [hlen] at W
  let J : Nat → (Str → Option Value) → List (Addr × Obj) → Prop := fun i m nx => ∃ c, nx = Led c ∧ (∀ p ∈ ps c, m p.1 = some p.2) ∧ (∀ z, z ≠ x → (∀ p ∈ ps c, z ≠ p.1) → stored.contains z = false → m z = m₀ z) ∧ P i c
  have hadr0 : ∀ b ∈ adr, b < s.heap.objs.size := fun b hb => by
    rw [← hadr c₀] at hb
    obtain ⟨q, hq, rfl⟩ := List.mem_map.mp hb
    exact Heap.lt_size (N q (hn q hq)).1
  have hltI : ∀ c, ∀ p ∈ Led c, p.1 < s.heap.objs.size := fun c p h => hadr0 _ (hadr c ▸ List.mem_map.mpr ⟨p, h, rfl⟩)
  refine ⟨s.heap.objs.size, [s.heap.objs.size, l], [s.heap.objs.size], vs.length, _, _, m₀, Led c₀, J, rfl, W, ?_, ?_, ?_, ⟨⟨_, Heap.get?_push_size _ rfl, rfl, rfl⟩, hls.at fun o e => Heap.get?_push_of_some _ e⟩, F.push _, (fun p hp => ⟨Heap.get?_push_of_some _ (N p (hn p hp)).1, (N p (hn p hp)).2⟩), ⟨c₀, rfl, hk, fun _ _ _ _ => rfl, hp⟩, ?_, ?_⟩
  · intro hm'
    rcases List.mem_cons.mp hm' with e | hm'
    · exact absurd F.ns.lt (e ▸ Nat.lt_irrefl _)
    · exact absurd (Nat.lt_of_lt_of_le hlt F.above) ((List.mem_singleton.mp hm') ▸ Nat.lt_irrefl _)
  · intro b hb
    rw [List.mem_singleton.mp hb]
    exact next_is_new F
  · intro p hp hI
    exact absurd (hltI _ p hp) ((List.mem_singleton.mp hI) ▸ Nat.lt_irrefl _)
  · rintro i v m₁ nx s₁ own ⟨hh', tk', rfl⟩ hin hP ⟨c, rfl, h1, h2, hp'⟩ hoff hown hget hmem hst F₁ N₁
    obtain ⟨oI, hoI, _⟩ := hst.1
    have mI : (s.heap.objs.size, oI) ∈ own := hmem _ List.mem_cons_self (next_is_new F) oI hoI
    have N₂ : News h₀ env.locals hh' (Led c ++ [(s.heap.objs.size, oI)]) := fun p hp => by
      rcases List.mem_append.mp hp with hp | hp
      · exact N₁ p (List.mem_append.mpr (.inr hp))
      · rw [List.mem_singleton.mp hp]; exact N₁ _ (List.mem_append.mpr (.inl mI))
    have own2 : ∀ p ∈ own, p ∈ [(s.heap.objs.size, oI)] := fun p hp => by
      have a := hget p hp
      have b := hown p hp
      rcases List.mem_cons.mp b with e | b
      · have : p = (s.heap.objs.size, oI) := by
          refine Prod.ext e ?_
          rw [e] at a
          exact Option.some.inj (a.symm.trans hoI)
        rw [this]; simp
      · have e := List.mem_singleton.mp b
        have := (N₁ p (List.mem_append.mpr (.inl hp))).2.2
        rw [e, hol] at this
        cases this
    have hP' : vs[i]? = some v := by simpa using hP
    refine wpAny_mono (turn c i v m₁ hh' tk' s.heap.objs.size oI hP' hp' hadr0 (kst_fr h1 h2 F₁) N₂) (fun f s₂ p => ?_) fun _ _ e => e
    have fin : FlEnd h₀ env.locals x Led ps stored m₀ P [(s.heap.objs.size, oI)] (i + 1) { s with heap := hh', toks := tk' } s₂ → LoopStepU h₀ env.locals [s.heap.objs.size] own (J (i + 1)) { s with heap := hh', toks := tk' } .next s₂ := by
      rintro ⟨c', h', tk, m', news', e, F', N', hn', hk', hr', hp9⟩
      refine ⟨rfl, h', tk, m', Led c', e, F', fun p hp => ?_, fun p hp hI => ?_, c', rfl, hk', hr', hp9⟩
      · rcases List.mem_append.mp hp with hp | hp
        · exact N' p (hn' p (List.mem_append.mpr (.inr (own2 p hp))))
        · exact N' p (hn' p (List.mem_append.mpr (.inl hp)))
      · exact absurd (hltI _ p hp) ((List.mem_singleton.mp hI) ▸ Nat.lt_irrefl _)
    cases f with
    | ret v => exact .ret p
    | brk => exact .brk p
    | next => exact .next (fin p)
    | cont => exact .cont (fin p)
  · rintro h' tk m' nx F' N' _ ⟨c, rfl, h1, h2, hp'⟩
    exact done c m' h' tk hp' (kst_frOut h1 h2 F') N'
end
end
section
abbrev txts (a : List (Str × Tok)) (n : Nat) : Obj := listOf (strValues a).toArray n

theorem strValues_get {l : List (Str × Tok)} {i : Nat} {v : Value} (h : (strValues l)[i]? = some v) : ∃ y t, l[i]? = some (y, t) ∧ v = .str y t := by
  unfold strValues at h
  rw [List.getElem?_map] at h
  cases e : l[i]? with
  | none => rw [e] at h; cases h
  | some p => rw [e] at h; obtain ⟨y, t⟩ := p; exact ⟨y, t, rfl, (Option.some.inj h).symm⟩
theorem strValues_append (a b : List (Str × Tok)) : strValues (a ++ b) = strValues a ++ strValues b := by simp [strValues]
theorem strValues_length (a : List (Str × Tok)) : (strValues a).length = a.length := by simp [strValues]
theorem strValues_push (a : List (Str × Tok)) (y : Str) (t : Tok) : (strValues a).toArray.push (.str y t) = (strValues (a ++ [(y, t)])).toArray := by simp [strValues]
theorem strValues_dropLast (a : List (Str × Tok)) : (strValues a).dropLast = strValues a.dropLast := by simp [strValues, List.map_dropLast]

section
variable {prog : Program} {w : World} {A : Around} {E : Value → Shared → Prop} {s : Shared} {env : Env} {h₀ : Heap} {x : Str} {body : List Stmt} {Q : Flow → Shared → Prop}
/-- a for over an own list of texts; a turn changes one own list of texts (nc) and names -/
theorem ft_own {σ : Type} {L l nc : Addr} {ls : List (Str × Tok)} {k : Nat} {m₀ : Str → Option Value} {news : List (Addr × Obj)} (lst : σ → List (Str × Tok) × Nat) (ps : σ → List (Str × Value)) (stored : List Str) (P : Nat → σ → Prop) (c₀ : σ)
    (hh : A.handled = none) (F : Fr h₀ L s.heap m₀) (N : News h₀ L s.heap news) (hm : (l, txts ls k) ∈ news) (hn : (nc, txts (lst c₀).1 (lst c₀).2) ∈ news) (hk : ∀ p ∈ ps c₀, m₀ p.1 = some p.2) (hp : P 0 c₀) (he : env.locals = L)
    (turn : ∀ (c : σ) i y t (u : Str → Option Value) h tk I oI, ls[i]? = some (y, t) → P i c → nc < I → l < I →
      Fr h₀ L h (fun z => if z = x then some (.str y t) else kstB (fun z => if stored.contains z then u z else m₀ z) (ps c) z) → News h₀ L h [(nc, txts (lst c).1 (lst c).2), (l, txts ls k), (I, oI)] →
      wpAny (model prog w) A (execs body env) (FlPost h₀ L x (fun c => [(nc, txts (lst c).1 (lst c).2)]) ps stored m₀ P [(l, txts ls k), (I, oI)] (i + 1) { s with heap := h, toks := tk } Q) E { s with heap := h, toks := tk })
    (done : ∀ (c : σ) (u : Str → Option Value) h tk, P ls.length c → Fr h₀ L h (fun y => if y = x then u y else kstB (fun z => if stored.contains z then u z else m₀ z) (ps c) y) → News h₀ L h [(nc, txts (lst c).1 (lst c).2), (l, txts ls k)] → Q .next { s with heap := h, toks := tk }) :
    wpAny (model prog w) A (pyIter (.ref l)) (fun it s₂ => LoopAtV prog w A h₀ env x body Q E it s₂) E s := by
  subst he
  refine fl_own (fun c => [(nc, txts (lst c).1 (lst c).2)]) ps stored P [nc] c₀ hh ⟨_, (N _ hm).1, rfl, k, rfl⟩ F N hm (fun p hp => by rw [List.mem_singleton.mp hp]; exact hn) (fun c => rfl) hk hp ?_ ?_
  · intro c i v u h tk I oI hv hP hlt hl' F' N'
    obtain ⟨y, t, e, rfl⟩ := strValues_get hv
    exact turn c i y t u h tk I oI e hP (hlt nc (List.mem_singleton.mpr rfl)) hl' F' N'
  · intro c u h tk hP F' N'
    rw [strValues_length] at hP
    exact done c u h tk hP F' N'
end
end
section
local macro_rules | `(tactic| walk_at "call builtin:issubclass") => `(tactic| (k_here; (with_reducible show wpAny _ _ (call (Value.builtin "issubclass") [Value.type "str", Value.ref _]) _ _ _); (with_unfolding_all refine' issub_tup ?k1 ?k2 ?_; (case k2 => exact (by assumption : News _ _ _ _) _ (by k_mem) |>.1); (case k1 => rfl)); intro tk'))

theorem fspath_spec (x : Str) (t : Tok) : Spec 111 380 400 [.str x t] (fun _ => True) (fun _ _ r => r = .str x t) := by
  unfold Spec
  k_fill
  intro w p loose mean mg mb A₀ base outer s Q E B X T pre ret
  refine' enter_def (binds := [(Str.ofString "path", .str x t)]) X T ?k6 ?k7 ?k8 ?k9 ?kB ?_ ?c2 ?c3 ?c4 ?c5
  case k6 => k_is
  case k7 => k_is
  case k8 => k_room
  case k9 => exact BindsTo.of_eq rfl
  case kB => exact locs rfl
  case c2 => exact rfl
  case c3 => exact rfl
  case c4 => exact rfl
  case c5 => decide
  intro L' h' F' N'
  try dsimp only
  try k_fold
  w_on
  k_steps
  exact ret _ _ _ (Fr.keep (by assumption)) rfl

local macro_rules | `(tactic| walk_at "call ref") => `(tactic| (k_here; (with_reducible show wpAny _ _ (call (Value.ref 111) [Value.str _ _]) _ _ _); k_dflt (refine' Spec.use (fspath_spec _ _) ?B ?F ?X ?N ?T rfl rfl (Nat.le_of_ble_eq_true rfl) rfl rfl (Nat.le_of_ble_eq_true rfl) trivial ?_; (case B => k_asm); (case F => k_asm); (case X => k_asm); (case N => k_asm); (case T => k_asm); k_whole); intro r' h' tk' F' N' hg' ho'; subst ho'; (try k_sweep)))
theorem splitroot_spec (x : Str) (t : Tok) (hx : x.length ≤ 1000) (hs : (Txt.slice x none (some 1) != (Str.ofString "/")) = true) : Spec 118 370 350 [.str x t] (fun _ => True) (fun h h' r => ∃ a ta tb tc, r = .ref a ∧ h.get? a = none ∧ h'.get? a = some { cls := .type "tuple", data := .seq #[.str (Str.ofString "") ta, .str (Str.ofString "") tb, .str x tc] }) := by
  unfold Spec
  k_fill
  intro w p loose mean mg mb A₀ base outer s Q E B X T pre ret
  refine' enter_def (binds := [(Str.ofString "p", .str x t)]) X T ?k6 ?k7 ?k8 ?k9 ?kB ?_ ?c2 ?c3 ?c4 ?c5
  case k6 => k_is
  case k7 => k_is
  case k8 => k_room
  case k9 => exact BindsTo.of_eq rfl
  case kB => exact locs rfl
  case c2 => exact rfl
  case c3 => exact rfl
  case c4 => exact rfl
  case c5 => decide
  intro L' h' F' N'
  try dsimp only
  try k_fold
  w_on
  k_steps
  exact ret _ _ _ (Fr.keep (by assumption)) ⟨_, _, _, _, rfl, ((by assumption : News _ _ _ _) _ (.head _)).2.2, ((by assumption : News _ _ _ _) _ (.head _)).1⟩
end
section
section
variable {prog : Program} {w : World} {A : Around} {E : Value → Shared → Prop} {s : Shared} {h₀ : Heap} {L D l a b : Addr} {m : Str → Option Value} {news news' : List (Addr × Obj)} {Q : Value → Shared → Prop}
theorem strs_rev (l : List (Str × Tok)) : (strValues l).toArray.toList.reverse = strValues l.reverse := by simp [strValues]
theorem strs_add (a b : List (Str × Tok)) : (strValues a).toArray.toList ++ (strValues b).toArray.toList = strValues (a ++ b) := by simp [strValues]
theorem strs_size {l : List (Str × Tok)} {k : Nat} (h : l.length ≤ k) : (strValues l).toArray.size ≤ k := by simpa [strValues] using h
theorem take_fst_succ {l : List (Str × Tok)} {i : Nat} {y : Str} {t : Tok} (h : l[i]? = some (y, t)) : (l.take (i + 1)).map (·.1) = (l.take i).map (·.1) ++ [y] := by
  rw [List.take_add_one, h]; simp
theorem fitsN {n : Nat} (h : n ≤ 100000) : n ≤ sizeLine := Nat.le_trans h (by decide)

theorem append_T {kp : List (Str × Tok)} {n : Nat} {y : Str} {t : Tok} (F : Fr h₀ L s.heap m) (N : News h₀ L s.heap news) (U : Upd D (txts kp n) (txts (kp ++ [(y, t)]) (n + 1)) news news')
    (h : ∀ h', Fr h₀ L h' m → News h₀ L h' news' → Q .none { s with heap := h' }) (hsz : kp.length ≤ 1000) : wpAny (model prog w) A (call (.builtin "list.append") [.ref D, .str y t]) Q E s := by
  refine append_K (its := (strValues kp).toArray) (n := n) (x := .str y t) (news' := news') F N ?_ h (strs_size (fitsN (by omega)))
  rw [strValues_push]; exact U

theorem mul_T {x : Str} {t : Tok} {k d : Nat} {u : Tok} (F : Fr h₀ L s.heap m) (N : News h₀ L s.heap news) (hm : (l, (listOf #[.str x t] k : Obj)) ∈ news) (hd : d ≤ 1000)
    (h : ∀ D h', Fr h₀ L h' m → News h₀ L h' ((D, txts (List.replicate d (x, t)) 0) :: news) → (∀ p ∈ news, p.1 < D) → Q (.ref D) { s with heap := h' }) :
    wpAny (model prog w) A (binaryOp .Mult (.ref l) (.int (d : Int) u)) Q E s := by
  refine mul_list F N (N _ hm).1 (by omega) (by omega) (by simp; omega) fun h' F' N' => h _ h' F' ?_ fun p hp => Heap.lt_size (N p hp).1
  have e : List.foldl (fun x1 x2 => x1 ++ x2) #[] (List.replicate (if (#[Value.str x t] : Array Value).isEmpty = true then 0 else (d : Int).toNat) #[Value.str x t]) = (strValues (List.replicate d (x, t))).toArray := by
    rw [listMul_foldl_if]
    simp [strValues]
  rw [e] at N'
  exact N'

theorem add_T {x y : List (Str × Tok)} (F : Fr h₀ L s.heap m) (N : News h₀ L s.heap news) (ha : s.heap.IsList a (strValues x).toArray) (hb : s.heap.IsList b (strValues y).toArray) (h1 : x.length ≤ 1000) (h2 : y.length ≤ 1000)
    (h : ∀ D h', Fr h₀ L h' m → News h₀ L h' ((D, txts (x ++ y) 0) :: news) → (∀ p ∈ news, p.1 < D) → Q (.ref D) { s with heap := h' }) : wpAny (model prog w) A (binaryOp .Add (.ref a) (.ref b)) Q E s :=
  kmk_add_lit F N ha hb (strs_add x y) h (fitsN (by simp [strValues]; omega))

theorem sum_le {l : List Str} {c : Nat} (h : ∀ y ∈ l, y.length ≤ c) : (l.map (·.length)).sum ≤ l.length * c := by
  induction l with
  | nil => simp
  | cons a r ih =>
    have h1 := h a (.head _)
    have h2 := ih fun y hy => h y (.tail _ hy)
    simp only [List.map_cons, List.sum_cons, List.length_cons, Nat.add_mul]
    omega
theorem joinOk_small {sep : Str} {l : List Str} (h1 : l.length ≤ 1000) (h2 : ∀ y ∈ l, y.length ≤ 1000) (h3 : sep.length ≤ 10) : JoinOk sep l = true := by
  have a := sum_le h2
  have b : l.length * 1000 ≤ 1000 * 1000 := Nat.mul_le_mul_right _ h1
  have c : l.length * sep.length ≤ 1000 * 10 := Nat.mul_le_mul h1 h3
  exact joinOk_of (by omega)
theorem join_T {x : Str} {t : Tok} {y : List (Str × Tok)} (hl : s.heap.IsList D (strValues y).toArray) (hok : JoinOk x (y.map (·.1)) = true)
    (hq : ∀ Z t' k, Z = Txt.join x (y.map (·.1)) → Z.length ≤ 16777216 → Q (.str Z t') { s with toks := k }) : wpAny (model prog w) A (call (.builtin "str.join") [.str x t, .ref D]) Q E s :=
  SC.join hl rfl hok fun t' k => hq _ t' k rfl (Nat.le_trans (joinOk_length hok) (by decide))
theorem News.txts_at {l : List (Str × Tok)} {n : Nat} {h : Heap} (N : News h₀ L h news) (hm : (D, txts l n) ∈ news) : h.IsList D (strValues l).toArray := ⟨_, (N _ hm).1, rfl, _, rfl⟩
end
end
section
section
variable {prog : Program} {w : World} {A : Around} {E : Value → Shared → Prop} {s : Shared} {h₀ : Heap} {L D l a b : Addr} {m : Str → Option Value} {news news' : List (Addr × Obj)} {Q : Value → Shared → Prop} {n : Nat}
theorem truthy_nil {Q : Bool → Shared → Prop} (N : News h₀ L s.heap news) (hm : (D, txts [] n) ∈ news) (h : ∀ tk, Q false { s with toks := tk }) : wpAny (model prog w) A (truthy (.ref D)) Q E s :=
  wpAny_truthy_list (items := (strValues []).toArray) ⟨_, (N _ hm).1, rfl, _, rfl⟩ (by decide) (h _)
theorem truthy_snoc {Q : Bool → Shared → Prop} {y : List (Str × Tok)} {p : Str × Tok} (N : News h₀ L s.heap news) (hm : (D, txts (y ++ [p]) n) ∈ news) (hz : y.length ≤ 1000) (h : ∀ tk, Q true { s with toks := tk }) : wpAny (model prog w) A (truthy (.ref D)) Q E s := by
  refine wpAny_truthy_list (items := (strValues (y ++ [p])).toArray) ⟨_, (N _ hm).1, rfl, _, rfl⟩ (by simp [strValues]; omega) ?_
  have e : (!((strValues (y ++ [p])).toArray.isEmpty)) = true := by simp [strValues]
  rw [e]
  exact h _
theorem last_T {value slice : PySem.Expr} {y : List (Str × Tok)} {c : Str} {tc u : Tok} (N : News h₀ L s.heap news) (hm : (D, txts (y ++ [(c, tc)]) n) ∈ news) (h : Q (.str c tc) s)
    (hs : subscripted slice false (.ref D) (.int (-1) u) = operate [.ref D, .int (-1) u] (getItem (.ref D) (.int (-1) u))) :
    wpAny (model prog w) A (subscriptTail value slice (.ref D) (.int (-1) u)) Q E s := by
  have hl : s.heap.IsList D (strValues (y ++ [(c, tc)])).toArray := ⟨_, (N _ hm).1, rfl, _, rfl⟩
  refine tail_any hl.typeIs slot_list_getitem.lookup (wpAny_getItem_list_neg hl (by decide) (by simp [strValues]; omega) (by decide) ?_ h) hs
  have e : ((-1 : Int) + ((strValues (y ++ [(c, tc)])).toArray.size : Int)).toNat = y.length := by simp [strValues]; omega
  rw [e]
  simp [strValues]
theorem add_nil {y : Str} {t u : Tok} (hz : y.length ≤ 16777216) (h : ∀ t' k, Q (.str y t') { s with toks := k }) : wpAny (model prog w) A (binaryOp .Add (.str (Str.ofString "") t) (.str y u)) Q E s := by
  refine SB.add (fun t' k => ?_) ?_
  · rw [Str.append_left_empty (by decide)]; exact h t' k
  · have e : (Str.ofString "").length = 0 := by decide
    rw [e, Nat.zero_add]
    exact Nat.le_trans hz (by decide)
theorem nil_or_snoc {α : Type} (l : List α) : l = [] ∨ ∃ p b, l = p ++ [b] := by
  rcases List.eq_nil_or_concat l with h | ⟨p, b, h⟩
  · exact .inl h
  · exact .inr ⟨p, b, by rw [h, List.concat_eq_append]⟩
theorem pop_T {y : List (Str × Tok)} {p : Str × Tok} (F : Fr h₀ L s.heap m) (N : News h₀ L s.heap news) (U : Upd D (txts (y ++ [p]) n) (txts y (n + 1)) news news')
    (hz : y.length ≤ 1000) (h : ∀ h', Fr h₀ L h' m → News h₀ L h' news' → Q (.str p.1 p.2) { s with heap := h' }) : wpAny (model prog w) A (call (.builtin "list.pop") [.ref D]) Q E s := by
  refine kl_pop (its := (strValues (y ++ [p])).toArray) (p := strValues y) (y := .str p.1 p.2) F N ?_ U (by simp [strValues]; exact fitsN (by omega)) h
  have hl : ∀ (q : List Value) (v : Value), kl_last (q ++ [v]) = some (q, v) := by
    intro q v
    induction q with
    | nil => rfl
    | cons a r ih =>
      cases hr : r ++ [v] with
      | nil => simp at hr
      | cons b t =>
        have e2 : kl_last (a :: (b :: t)) = (match kl_last (b :: t) with | some (p, y) => some (a :: p, y) | none => some ([], a)) := rfl
        rw [List.cons_append, hr, e2, ← hr, ih]
  have e : (strValues (y ++ [p])).toArray.toList = strValues y ++ [Value.str p.1 p.2] := by simp [strValues]
  rw [e]
  exact hl _ _
theorem split_T {x y : Str} {t u : Tok} (hF : Fr h₀ L s.heap m) (hN : News h₀ L s.heap news) (hy : (y.length == 0) = false) (hx : x.length ≤ 1000)
    (h : ∀ D l h' k, l.map (·.1) = Txt.split x y → Fr h₀ L h' m → News h₀ L h' ((D, txts l 0) :: news) → (∀ p ∈ news, p.1 < D) → Q (.ref D) { s with heap := h', toks := k }) :
    wpAny (model prog w) A (call (.builtin "str.split") [.str x t, .str y u]) Q E s :=
  KSpl.split1 hF hN hy (fun D l h' k e _ F' N' l1 => h D l h' k e F' N' l1) (fitsN (by omega))
theorem News.cons_out {h h' : Heap} {o : Obj} (F : Fr h₀ L h m) (N : News h₀ L h' news) (e : h.get? D = none) (e' : h'.get? D = some o) : News h₀ L h' ((D, o) :: news) := by
  intro p hp
  rcases List.mem_cons.mp hp with rfl | hp
  · refine ⟨e', ?_, ?_⟩
    · intro q
      have q' : D = L := q
      rw [q'] at e
      obtain ⟨ol, _, _, ho, _⟩ := F.ns
      rw [ho] at e
      cases e
    · cases q : h₀.get? D with
      | none => rfl
      | some o' =>
      have z := F.keep _ _ q
      rw [show h.get? D = none from e] at z
      cases z
  · exact N p hp
end
end
section
theorem wp_hex {M : Model} {A : Around} {E : Value → Shared → Prop} {s : Shared} {Q : Value → Shared → Prop} {v : Value} {text : List Nat} {n : Int} (ht : (text, n) ∈ [([50, 69], (46 : Int)), ([51, 70], 63), ([50, 65], 42)])
    (h : Q (.int n s.toks) { s with toks := s.toks + 1 }) : wpAny M A ((int_private% "intFromText") v text 16) Q E s := by
  obtain ⟨hp, g, d, tk, os⟩ := s
  simp only [List.mem_cons, Prod.mk.injEq, List.not_mem_nil, or_false] at ht
  rcases ht with ⟨rfl, rfl⟩ | ⟨rfl, rfl⟩ | ⟨rfl, rfl⟩
  all_goals exact fun Γ p hΓ => h
theorem gives_hex {x : Str} {u v : Tok} {n : Int} (hx : (x, n) ∈ [(Str.ofString "2E", (46 : Int)), (Str.ofString "3F", 63), (Str.ofString "2A", 42)]) : Gives (Builtin.«int.__new__» ⟨[.type "int", .str x u, .int 16 v], []⟩) (.int n) :=
  .of_wp fun M A E s Q h => by
    have ht : (numTextOf x, n) ∈ [([50, 69], (46 : Int)), ([51, 70], 63), ([50, 65], 42)] := by
      simp only [List.mem_cons, Prod.mk.injEq, List.not_mem_nil, or_false] at hx
      rcases hx with ⟨rfl, rfl⟩ | ⟨rfl, rfl⟩ | ⟨rfl, rfl⟩ <;> decide +kernel
    obtain ⟨hp, g, d, tk, os⟩ := s
    have f1 := F.conv_sub_int
    have f2 := F.madeHere_int
    have f3 := KIN.str_int
    have f4 := KIN.str_idx
    have f5 := KIN.str_trunc
    have f6 : typeOf (.str x u) = pure (.type "str") := rfl
    clear hx
    repeat (any_goals (first
      | assumption
      | ((with_reducible show wpAny _ _ ((int_private% "intFromText") _ _ _) _ _ _); refine wp_hex ht ?_)
      | wp_step))
    all_goals exact ⟨_, rfl, h⟩
theorem typeCall_int_2 (a b : Value) : checkTypeCall "int" ⟨[a, b], []⟩ = pure () := by kernel_rfl
theorem newCall_int_2 (a b : Value) : checkBuiltinCall "int.__new__" ⟨[.type "int", a, b], []⟩ = pure () := by kernel_rfl
theorem args_init_3 (o a b : Value) : argsOk "object.__init__" ⟨[o, a, b], []⟩ := by unfold argsOk; kernel_rfl
theorem hexE : (Str.ofString "2E", (46 : Int)) ∈ [(Str.ofString "2E", (46 : Int)), (Str.ofString "3F", 63), (Str.ofString "2A", 42)] := List.Mem.head _
theorem hexF : (Str.ofString "3F", (63 : Int)) ∈ [(Str.ofString "2E", (46 : Int)), (Str.ofString "3F", 63), (Str.ofString "2A", 42)] := List.Mem.tail _ (List.Mem.head _)
theorem hexA : (Str.ofString "2A", (42 : Int)) ∈ [(Str.ofString "2E", (46 : Int)), (Str.ofString "3F", 63), (Str.ofString "2A", 42)] := List.Mem.tail _ (List.Mem.tail _ (List.Mem.head _))
section
variable {prog : Program} {w : World} {A : Around} {E : Value → Shared → Prop} {s : Shared} {Q : Value → Shared → Prop}
theorem call_hex {x : Str} {u v : Tok} {n : Int} (hx : (x, n) ∈ [(Str.ofString "2E", (46 : Int)), (Str.ofString "3F", 63), (Str.ofString "2A", 42)]) (h : Q (.int n s.toks) { s with toks := s.toks + 1 }) :
    wpAny (model prog w) A (call (.type "int") [.str x u, .int 16 v]) Q E s :=
  callType_new F.called_int F.newNe_int (typeCall_int_2 _ _) (newCall_int_2 _ _) (fun obj => args_init_3 obj _ _) F.entry_int_new (gives_hex hx).meets (show (Made.int n).post _ s from ⟨rfl, h⟩)
end
end
section
open PySem.Builtin PySem.Builtin.Str in
theorem len_list (x : Str) : x.length = x.cps.toList.length := (Array.length_toList ..).symm
theorem str_ext {x y : Str} (h : x.cps.toList = y.cps.toList) : x = y := by
  obtain ⟨a⟩ := x; obtain ⟨b⟩ := y
  exact congrArg Str.mk (Array.toList_inj.mp h)
theorem item_at {x : Str} {pre post : List Nat} {c : Nat} (h : x.cps.toList = pre ++ c :: post) : Txt.item x (pre.length : Int) = ⟨#[c]⟩ := by
  have hl : x.length = pre.length + (post.length + 1) := by rw [len_list, h]; simp
  have e1 : seqIndex? (pre.length : Int) x.length = some pre.length := by rw [seqIndex_of (by omega) (by omega)]; simp
  have e2 : x.cps[pre.length]? = some c := by rw [← Array.getElem?_toList, h]; simp
  unfold Txt.item Txt.charAt
  rw [e1, Option.bind_some, e2]; rfl
theorem item_last {x : Str} {pre : List Nat} {c : Nat} (h : x.cps.toList = pre ++ [c]) : Txt.item x (-1) = ⟨#[c]⟩ := by
  have hl : x.length = pre.length + 1 := by rw [len_list, h]; simp
  have e1 : seqIndex? (-1) x.length = some pre.length := by rw [seqIndex_neg (by decide) (by omega)]; congr 1; omega
  have e2 : x.cps[pre.length]? = some c := by rw [← Array.getElem?_toList, h]; simp
  unfold Txt.item Txt.charAt
  rw [e1, Option.bind_some, e2]; rfl
theorem slice_at {x : Str} {pre mid post : List Nat} {i j : Int} (h : x.cps.toList = pre ++ (mid ++ post)) (hi : i = pre.length) (hj : j = i + mid.length) : Txt.slice x (some i) (some j) = ⟨mid.toArray⟩ := by
  have hl : x.length = pre.length + (mid.length + post.length) := by rw [len_list, h]; simp
  have e := beq_iff_eq.mp (slice_closesL (x := x) (i := i) (j := j) (by omega) (by omega) (by omega))
  rw [e, h]
  have a : i.toNat = pre.length := by omega
  have b : (j - i).toNat = mid.length := by omega
  rw [a, b]
  simp
theorem slice_butlast {x : Str} {pre : List Nat} {c : Nat} (h : x.cps.toList = pre ++ [c]) : Txt.slice x none (some (-1)) = ⟨pre.toArray⟩ := by
  have hl : x.length = pre.length + 1 := by rw [len_list, h]; simp
  have e := beq_iff_eq.mp (slice_closes_to_neg (x := x) (j := -1) (k := (pre.length : Int)) (by decide) (by omega) (by omega))
  rw [e, h]
  simp
theorem slice_first {x : Str} {c : Nat} {post : List Nat} (h : x.cps.toList = c :: post) : Txt.slice x none (some 1) = ⟨#[c]⟩ := by
  have hl : x.length = post.length + 1 := by rw [len_list, h]; simp
  have e := beq_iff_eq.mp (slice_closes_toL (x := x) (j := 1) (by decide) (by omega))
  rw [e, h]
  simp
theorem lines_one {x : Str} (h : ∀ c ∈ x.cps.toList, Unicode.isLineBreak c = false) (hne : x.length ≠ 0) : Txt.lines x = [x] := by
  have hb : ∀ (m cur : Nat), Id.run (forIn (m := Id) (List.range' cur m) ((#[], 0) : StrLaws.LsSt) (StrLaws.lsBody x)) = (#[], 0) ∨ ¬ cur + m ≤ x.length := by
    intro m
    induction m with
    | zero => intro cur; exact .inl rfl
    | succ m ih =>
      intro cur
      by_cases hc : cur + (m + 1) ≤ x.length
      · left
        rw [List.range'_succ, List.forIn_cons]
        have hlt : cur < x.cps.size := by have : x.length = x.cps.size := rfl; omega
        have hg : Unicode.isLineBreak (x.cps.getD cur 0) = false := by
          refine h _ ?_
          rw [Array.getD_eq_getD_getElem?, Array.getElem?_eq_getElem hlt]
          exact Array.mem_toList_iff.mpr (Array.getElem_mem hlt)
        have e : StrLaws.lsBody x cur (#[], 0) = pure (ForInStep.yield (#[], 0)) := by
          unfold StrLaws.lsBody
          rw [hg, Bool.and_false]; rfl
        rw [e]
        rcases ih (cur + 1) with h1 | h1
        · exact h1
        · omega
      · exact .inr hc
  have hs : Builtin.Str.lineSpans x = [(0, x.length, x.length)] := by
    rw [StrLaws.ls_eq]
    rcases hb x.length 0 with e | e
    · rw [e]
      unfold StrLaws.lsEnd
      rw [if_pos (show (0 : Nat) < x.length by omega)]; rfl
    · omega
  unfold Txt.lines
  have hcut : lineCuts x = [(0, x.length)] := by unfold lineCuts; rw [hs]; rfl
  rw [hcut]
  simp
theorem rstrip_id {x : Str} {pre : List Nat} {c : Nat} (h : x.cps.toList = pre ++ [c]) (hc : Unicode.isSpace c = false) : Txt.rstrip x = x := by
  have hl : x.length = pre.length + 1 := by rw [len_list, h]; simp
  unfold Txt.rstrip Txt.stripBy
  rw [if_pos]
  unfold stripSame stripLo stripHi
  simp [h, hc]
theorem join_list (sep : Str) : ∀ (a : Str) (l : List Str), (Str.join sep (a :: l)).cps.toList = a.cps.toList ++ l.flatMap fun p => sep.cps.toList ++ p.cps.toList
  | a, [] => by simp [Str.join]
  | a, b :: r => by
    have ih := join_list sep b r
    show (a ++ sep ++ Str.join sep (b :: r)).cps.toList = _
    rw [Str.cps_append, Str.cps_append, Array.toList_append, Array.toList_append, ih]
    simp [List.append_assoc]
noncomputable def cutC (c : Nat) : List Nat → List Nat × List (List Nat)
  | [] => ([], [])
  | x :: l => if x = c then ([], (cutC c l).1 :: (cutC c l).2) else (x :: (cutC c l).1, (cutC c l).2)
theorem cutC_of {c : Nat} : ∀ (r : List (List Nat)) (a : List Nat), c ∉ a → (∀ p ∈ r, c ∉ p) → cutC c (a ++ r.flatMap fun p => c :: p) = (a, r)
  | [], a, ha, _ => by
    induction a with
    | nil => rfl
    | cons x a ih =>
      have hx : x ≠ c := fun h => ha (h ▸ .head _)
      have h1 := ih (fun h => ha (.tail _ h))
      show (if x = c then _ else (x :: (cutC c (a ++ ([] : List (List Nat)).flatMap fun p => c :: p)).1, (cutC c (a ++ ([] : List (List Nat)).flatMap fun p => c :: p)).2)) = _
      rw [if_neg hx, h1]
  | p :: r, a, ha, hr => by
    induction a with
    | nil =>
      have h1 := cutC_of r p (hr p (.head _)) fun q hq => hr q (.tail _ hq)
      show (if c = c then ([], (cutC c (p ++ r.flatMap fun p => c :: p)).1 :: (cutC c (p ++ r.flatMap fun p => c :: p)).2) else _) = _
      rw [if_pos rfl, h1]
    | cons x a ih =>
      have hx : x ≠ c := fun h => ha (h ▸ .head _)
      have h1 := ih (fun h => ha (.tail _ h))
      show (if x = c then _ else (x :: (cutC c (a ++ (p :: r).flatMap fun p => c :: p)).1, (cutC c (a ++ (p :: r).flatMap fun p => c :: p)).2)) = _
      rw [if_neg hx, h1]
theorem join_sep {c : Nat} (a : Str) (l : List Str) : (Str.join ⟨#[c]⟩ (a :: l)).cps.toList = a.cps.toList ++ (l.map fun p => p.cps.toList).flatMap fun p => c :: p := by
  rw [join_list, List.flatMap_map]; rfl
theorem split_ne (x y : Str) : Txt.split x y ≠ [] := by
  unfold Txt.split
  split
  · simp
  · split
    · simp
    · rw [StrLaws.partsBetween_eq]
      cases h : Builtin.Str.occurrences x y 0 x.length (x.length + 1) with
      | nil => simp [StrLaws.partsFrom]
      | cons a r => simp [StrLaws.partsFrom]
theorem split_join {c : Nat} (P : List Str) (hne : P ≠ []) (hP : ∀ p ∈ P, c ∉ p.cps.toList) : Txt.split (Str.join ⟨#[c]⟩ P) ⟨#[c]⟩ = P := by
  have h1 := StrLaws.join_split (Str.join ⟨#[c]⟩ P) ⟨#[c]⟩
  have h2 := StrLaws.split_free (Str.join ⟨#[c]⟩ P) c
  have h3 := split_ne (Str.join ⟨#[c]⟩ P) ⟨#[c]⟩
  generalize Txt.split (Str.join ⟨#[c]⟩ P) ⟨#[c]⟩ = S at h1 h2 h3
  cases P with
  | nil => exact absurd rfl hne
  | cons a l =>
    cases S with
    | nil => exact absurd rfl h3
    | cons b t =>
      have e : cutC c (Str.join ⟨#[c]⟩ (b :: t)).cps.toList = cutC c (Str.join ⟨#[c]⟩ (a :: l)).cps.toList := congrArg (fun z => cutC c z.cps.toList) h1
      rw [join_sep, join_sep, cutC_of _ _ (h2 b (.head _)) (fun q hq => by obtain ⟨p, hp, rfl⟩ := List.mem_map.mp hq; exact h2 p (.tail _ hp)),
        cutC_of _ _ (hP a (.head _)) (fun q hq => by obtain ⟨p, hp, rfl⟩ := List.mem_map.mp hq; exact hP p (.tail _ hp))] at e
      have e1 : b = a := str_ext (congrArg Prod.fst e)
      have e2 : t.map (fun p => p.cps.toList) = l.map fun p => p.cps.toList := congrArg Prod.snd e
      have e3 : t = l := (List.map_inj_right fun p q h => str_ext h).mp e2
      rw [e1, e3]
end
section
def Stopped (p : Prop) : Prop := p
theorem stop {p : Prop} (h : Stopped p) : p := h
section
variable {prog : Program} {w : World} {A : Around} {E : Value → Shared → Prop} {s : Shared} {h₀ : Heap} {L D l a b : Addr} {m : Str → Option Value} {news news' : List (Addr × Obj)} {Q : Value → Shared → Prop} {n : Nat} {value slice : PySem.Expr} {x y : Str} {i : Int} {t u : Tok}
theorem lines_T (hF : Fr h₀ L s.heap m) (hN : News h₀ L s.heap news) (hl : Txt.lines x = [x]) (hx : x.length ≤ 1000)
    (h : ∀ D h' t' k, Fr h₀ L h' m → News h₀ L h' ((D, txts [(x, t')] 0) :: news) → (∀ p ∈ news, p.1 < D) → Q (.ref D) { s with heap := h', toks := k }) :
    wpAny (model prog w) A (call (.builtin "str.splitlines") [.str x t]) Q E s := by
  refine splitlinesN hF hN (fun l h' k e F' N' => ?_) (fitsN (by omega)) (by have e := lineCuts_le x; exact fitsN (by omega))
  rw [hl] at e
  obtain ⟨t', l', rfl, e2⟩ := KSpl.cons_of e
  have := KSpl.nil_of e2
  subst this
  exact h _ h' t' k F' N' fun p hp => Heap.lt_size (hN p hp).1
theorem rstrip_T (hr : Txt.rstrip x = x) (hx : x.length ≤ 1000) (h : ∀ t' k, Q (.str x t') { s with toks := k }) : wpAny (model prog w) A (call (.builtin "str.rstrip") [.str x t]) Q E s :=
  SC.rstrip (fun t' k => by rw [hr]; exact h t' k) (fitsN (by omega))
theorem item_T (h : Txt.item x i = y) (h0 : x.length ≤ 1000) (h1 : -(x.length : Int) ≤ i) (h2 : i < x.length) (hq : ∀ tk tk', Q (.str y tk) { s with toks := tk' })
    (hs : subscripted slice false (.str x t) (.int i u) = operate [.str x t, .int i u] (getItem (.str x t) (.int i u))) (ht : ∀ r, letTemporaryGo value (.str x t) r = pure ()) :
    wpAny (model prog w) A (subscriptTail value slice (.str x t) (.int i u)) Q E s :=
  item_str (by unfold fitsSsize; simp; omega) h1 h2 (fun _ => by rw [h]; exact hq _ _) hs ht
theorem slice_ss_T {j : Int} {ui uj : Tok} (h : Txt.slice x (some i) (some j) = y) (h0 : x.length ≤ 1000) (hF : Fr h₀ L s.heap m) (hN : News h₀ L s.heap news)
    (hq : ∀ h' t' k, Fr h₀ L h' m → News h₀ L h' news → Q (.str y t') { s with heap := h', toks := k })
    (hs : subscripted slice false (.str x t) (.ref s.heap.objs.size) = operate [.ref s.heap.objs.size, .str x t] (getItem (.str x t) (.ref s.heap.objs.size)))
    (ht : ∀ r, letTemporaryGo value (.str x t) r = pure ()) :
    wpAny (model prog w) A (subscriptTail value slice (.str x t) (.ref s.heap.objs.size)) Q E { s with heap := s.heap.push { cls := .type "slice", data := .fields #[.int i ui, .int j uj, .none] } } :=
  slice_strN_ss hF hN (fun h' t' k F' N' => by rw [h]; exact hq h' t' k F' N') hs ht (fitsN (by omega))
theorem slice_ns_T {j : Int} {uj : Tok} (h : Txt.slice x none (some j) = y) (h0 : x.length ≤ 1000) (hF : Fr h₀ L s.heap m) (hN : News h₀ L s.heap news)
    (hq : ∀ h' t' k, Fr h₀ L h' m → News h₀ L h' news → Q (.str y t') { s with heap := h', toks := k })
    (hs : subscripted slice false (.str x t) (.ref s.heap.objs.size) = operate [.ref s.heap.objs.size, .str x t] (getItem (.str x t) (.ref s.heap.objs.size)))
    (ht : ∀ r, letTemporaryGo value (.str x t) r = pure ()) :
    wpAny (model prog w) A (subscriptTail value slice (.str x t) (.ref s.heap.objs.size)) Q E { s with heap := s.heap.push { cls := .type "slice", data := .fields #[.none, .int j uj, .none] } } :=
  slice_strN_ns hF hN (fun h' t' k F' N' => by rw [h]; exact hq h' t' k F' N') hs ht (fitsN (by omega))
theorem iadd_T {d c : Str} (h0 : d.length ≤ 1000) (h1 : c.length ≤ 1000) (h : ∀ t' k, Q (.str (d ++ c) t') { s with toks := k }) : wpAny (model prog w) A (inplaceOp .Add (.str d t) (.str c u)) Q E s :=
  SB.iadd h (fitsN (by omega))
theorem ends_T {b : Bool} (he : Txt.endswith x y = b) (h : Q (.bool b) s) : wpAny (model prog w) A (call (.builtin "str.endswith") [.str x t, .str y u]) Q E s := SC.endswith (by rw [he]; exact h)
theorem notIn_T {b : Bool} (he : Txt.contains x y = b) (h : Q (.bool (!b)) s) : wpAny (model prog w) A (compareOp .NotIn (.str y u) (.str x t)) Q E s := SB.notContains (by rw [he]; exact h)
theorem in_T {b : Bool} (he : Txt.contains x y = b) (h : Q (.bool b) s) : wpAny (model prog w) A (compareOp .In (.str y u) (.str x t)) Q E s := SB.contains (by rw [he]; exact h)
end
inductive Tk where
  | ch (c : Nat)
  | dot
  | ask
  | star
def Tk.enc : Tk → List Nat
  | .ch c => [c]
  | .dot => [61, 50, 69]
  | .ask => [61, 51, 70]
  | .star => [61, 50, 65]
def Tk.dec : Tk → Nat
  | .ch c => c
  | .dot => 46
  | .ask => 63
  | .star => 42
def Tk.ok : Tk → Prop
  | .ch c => 33 ≤ c ∧ c < 127 ∧ c ≠ 61
  | _ => True
end
section
open PySem.Builtin PySem.Builtin.Str
/-- the table's look-ups, told of the heap alone -/
def Looks1 (h : Heap) (D : Addr) (c : Nat) (r : Option Str) : Prop := ∀ (prog : Program) (w : World), ∃ f, h.MapOf (intKind prog w) D f ∧ (match r with | some y => ∃ ty, f (c : Int) = some (.str y ty) | none => f (c : Int) = none)
theorem Looks1.keeps {h h' : Heap} {D : Addr} {c : Nat} {r : Option Str} (x : Looks1 h D c r) (k : ∀ b o, h.get? b = some o → h'.get? b = some o) : Looks1 h' D c r := fun prog w => by
  obtain ⟨f, ⟨o, es, ep, ho, r1⟩, r2⟩ := x prog w
  exact ⟨f, ⟨o, es, ep, k _ _ ho, r1⟩, r2⟩
theorem sub_keyErr : isSubtype (.type "KeyError") (.type "LookupError") = pure true := by rw [isSubtype_type]; kernel_rfl
section
variable {prog : Program} {w : World} {A : Around} {E : Value → Shared → Prop} {s : Shared} {D : Addr} {c : Nat}
theorem lookup_hit {y : Str} {Q : Mapped → Shared → Prop} (x : Looks1 s.heap D c (some y)) (h : ∀ tk, Q (.text y) { s with toks := tk }) : wpAny (model prog w) A (tableLookup (.ref D) c) Q E s := by
  obtain ⟨f, hm, ty, hf⟩ := x prog w
  unfold tableLookup
  refine wpAny_bind (wpAny_attempt (wpAny_bind (wpAny_mkInt (wpAny_getItem_of (k := (c : Int)) (by simp [intKind, Value.isInt]) hm hf ?_))))
  have hfin := h (s.toks + 1 + 1)
  obtain ⟨hp, g, d, tk, os⟩ := s
  dsimp only
  repeat (any_goals (first | assumption | wp_step))
theorem lookup_miss {Q : Mapped → Shared → Prop} (x : Looks1 s.heap D c none) (hD : (D == sysModules) = false) (hh : A.handled = none)
    (h : ∀ h' tk, (∀ b o, s.heap.get? b = some o → h'.get? b = some o) → Q .keep { s with heap := h', toks := tk }) : wpAny (model prog w) A (tableLookup (.ref D) c) Q E s := by
  obtain ⟨f, hm, hf⟩ := x prog w
  unfold tableLookup
  refine wpAny_bind (wpAny_attempt (wpAny_bind (wpAny_mkInt (wpAny_getItem_missing_of (k := (c : Int)) (by simp [intKind, Value.isInt]) hD hh hm hf ?_))))
  intro h' e hx
  obtain ⟨ob, tt, hob, hcl, _⟩ := hx.there
  have hT : (⟨h', s.gens, s.drawn, s.toks + 1 + 1, s.os⟩ : Shared).TypeIs (.ref e) "KeyError" := ⟨ob, hob, hcl⟩
  have f1 := sub_keyErr
  have hk := hx.keeps
  dsimp only
  refine wpAny_bind ?_
  have hfin := h h' (s.toks + 1 + 1) hk
  unfold isInstance
  repeat (any_goals (first | assumption | wp_step))
end
theorem translate_dot {t : Tok} {D : Addr} : Meets (Builtin.«str.translate» ⟨[.str (Str.ofString ".") t, .ref D], []⟩)
    (fun A R s => Looks1 s.heap D 46 (some (Str.ofString "\\.")) ∧ ∀ t' tk, R (.ok (.ret (.str (Str.ofString "\\.") t'))) { s with toks := tk }) := by
  intro prog w A R s ⟨x, hq⟩
  have e : ((Str.ofString ".").cps.all fun x => decide (x < 128)) = true := by decide +kernel
  unfold Builtin.«str.translate»
  obtain ⟨hp, g, d, tk, os⟩ := s
  repeat (any_goals (first | assumption | ((with_reducible show wpAny _ _ (tableLookup _ _) _ _ _); refine lookup_hit (c := 46) x ?_; intro tk1; dsimp only) | (refine wpAny_ite_true (by first | rfl | exact e) ?_) | wp_step))
  have e2 : (List.foldl (fun (acc : Array Nat) (p : Str) => acc ++ p.cps) #[] ([Str.ofString "\\."] : List Str).reverse) = (Str.ofString "\\.").cps := by simp
  refine (?_ : R (.ok (.ret (.str ⟨List.foldl (fun (acc : Array Nat) (p : Str) => acc ++ p.cps) #[] ([Str.ofString "\\."] : List Str).reverse⟩ _))) _)
  rw [e2]
  exact hq _ _
theorem translate_keep {t : Tok} {D : Addr} {c : Nat} (hc : c < 128) (hD : (D == sysModules) = false) : Meets (Builtin.«str.translate» ⟨[.str ⟨#[c]⟩ t, .ref D], []⟩)
    (fun A R s => A.handled = none ∧ Looks1 s.heap D c none ∧ ∀ h' t' tk, (∀ b o, s.heap.get? b = some o → h'.get? b = some o) → R (.ok (.ret (.str ⟨#[c]⟩ t'))) { s with heap := h', toks := tk }) := by
  intro prog w A R s ⟨hh, x, hq⟩
  have e : (#[c].all fun x => decide (x < 128)) = true := by simp [hc]
  unfold Builtin.«str.translate»
  obtain ⟨hp, g, d, tk, os⟩ := s
  repeat (any_goals (first | assumption | ((with_reducible show wpAny _ _ (tableLookup _ _) _ _ _); refine lookup_miss (c := c) x hD hh ?_; intro h1 tk1 hk1; dsimp only) | (refine wpAny_ite_true (by first | rfl | exact e) ?_) | wp_step))
  have e2 : (List.foldl (fun (acc : Array Nat) (p : Str) => acc ++ p.cps) #[] ([{ cps := #[c] }] : List Str).reverse) = #[c] := by simp
  refine (?_ : R (.ok (.ret (.str ⟨List.foldl (fun (acc : Array Nat) (p : Str) => acc ++ p.cps) #[] ([{ cps := #[c] }] : List Str).reverse⟩ _))) _)
  rw [e2]
  exact hq _ _ _ (by assumption)
section
variable {prog : Program} {w : World} {A : Around} {E : Value → Shared → Prop} {s : Shared} {h₀ : Heap} {L D : Addr} {m : Str → Option Value} {news : List (Addr × Obj)} {Q : Value → Shared → Prop} {c : Nat} {t : Tok}
theorem call_tr_dot (Fm : Fr h₀ L s.heap m) (x : Looks1 h₀ D 46 (some (Str.ofString "\\."))) (hq : ∀ t' k, Q (.str (Str.ofString "\\.") t') { s with toks := k }) :
    wpAny (model prog w) A (call (.builtin "str.translate") [.str (Str.ofString ".") t, .ref D]) Q E s :=
  call_meets F.slot_str_translate (typeIs_str _ _ _) F.entry_str_translate (F.args_str_translate_2 _ _) translate_dot ⟨x.keeps Fm.keep, fun t' k => hq t' k⟩
theorem call_tr_keep (Fm : Fr h₀ L s.heap m) (N : News h₀ L s.heap news) (x : Looks1 h₀ D c none) (hc : c < 128) (hD : (D == sysModules) = false) (hh : A.handled = none)
    (hq : ∀ h' t' k, Fr h₀ L h' m → News h₀ L h' news → Q (.str ⟨#[c]⟩ t') { s with heap := h', toks := k }) :
    wpAny (model prog w) A (call (.builtin "str.translate") [.str ⟨#[c]⟩ t, .ref D]) Q E s :=
  call_meets F.slot_str_translate (typeIs_str _ _ _) F.entry_str_translate (F.args_str_translate_2 _ _) (translate_keep hc hD)
    ⟨hh, x.keeps Fm.keep, fun h' t' k hk => hq h' t' k ⟨Fm.ns.keeps hk, fun b o e => hk b o (Fm.keep b o e), Fm.above⟩ fun p hp => ⟨hk _ _ (N p hp).1, (N p hp).2⟩⟩
end
theorem method_translate {M : Model} {A : Around} {E : Value → Shared → Prop} {s : Shared} {x : Str} {t : Tok} {pl : Sem Bool} {Q : Value × List Value → Shared → Prop} (h : Q (.builtin "str.translate", [.str x t]) s) : wpAny M A (getMethod (.str x t) (Str.ofString "translate") pl) Q E s :=
  getMethod_builtin (typeIs_str _ _ _) F.plainAttrs_str F.slot_str_translate F.type_str_translate (fun _ e => nomatch e) h
def keysInt (es : Array DictEntry) : Bool := es.toList.all fun e => match e.key with | .int k _ => e.hash == hashInt k | _ => false
theorem keysInt_of {es : Array DictEntry} (h : keysInt es = true) (prog : Program) (w : World) : KeysOf (intKind prog w) es := by
  intro e he
  have h1 := List.all_eq_true.mp h e (Array.mem_toList_iff.mpr he)
  split at h1
  · rename_i k t hk
    exact ⟨k, by rw [hk]; simp [intKind, Value.isInt], beq_iff_eq.mp h1⟩
  · cases h1
theorem looks_none {K : Frag} {h : Heap} {es : Array DictEntry} {n : Nat} {a : Addr} {c : Nat} (X : K.In h) (hl : K.lookup a = some ⟨.type "dict", none, .dict es n, #[]⟩) (hk : keysInt es = true)
    (hf : (findBy Value.isInt es (c : Int)).isNone = true) : Looks1 h a c none := fun prog w =>
  ⟨fun k => findBy (intKind prog w).is es k, ⟨_, es, n, X _ _ hl, ⟨rfl, rfl, rfl⟩, rfl, keysInt_of hk prog w, fun _ => rfl⟩, by
    have e : findBy Value.isInt es (c : Int) = none := by simpa using hf
    exact e⟩
theorem looks_some {K : Frag} {h : Heap} {es : Array DictEntry} {n : Nat} {a : Addr} {c : Nat} {y : Str} (X : K.In h) (hl : K.lookup a = some ⟨.type "dict", none, .dict es n, #[]⟩) (hk : keysInt es = true)
    (hf : (match findBy Value.isInt es (c : Int) with | some (.str z _) => z == y | _ => false) = true) : Looks1 h a c (some y) := fun prog w =>
  ⟨fun k => findBy (intKind prog w).is es k, ⟨_, es, n, X _ _ hl, ⟨rfl, rfl, rfl⟩, rfl, keysInt_of hk prog w, fun _ => rfl⟩, by
    split at hf
    · rename_i z t e
      exact ⟨t, by rw [← beq_iff_eq.mp hf]; exact e⟩
    · cases hf⟩
end
section
theorem look_append : typeLookup (.type "list") "append" = pure (some (.builtin "list.append")) := by rw [typeLookup_type, builtinLookup_eq_fast]; kernel_rfl
theorem get_md : typeLookup (.type "method_descriptor") "__get__" = pure (some (.builtin "method_descriptor.__get__")) := by rw [typeLookup_type, builtinLookup_eq_fast]; kernel_rfl
theorem set_md : typeLookup (.type "method_descriptor") "__set__" = pure none := by rw [typeLookup_type, builtinLookup_eq_fast]; kernel_rfl
theorem del_md : typeLookup (.type "method_descriptor") "__delete__" = pure none := by rw [typeLookup_type, builtinLookup_eq_fast]; kernel_rfl
theorem ty_append : typeOf (.builtin "list.append") = pure (.type "method_descriptor") := by show builtinType _ = _; rw [builtinType_eq_fast]; kernel_rfl
abbrev bndObj (l : Addr) : Obj := { cls := .type "builtin_function_or_method", data := .fields #[.builtin "list.append", .ref l] }
theorem slot_mdget : Slot "method_descriptor" "__get__" "method_descriptor.__get__" :=
  .of (owner := "method_descriptor") (n := "__get__") (by rw [typeLookup_type, builtinLookup_eq_fast]; kernel_rfl) (by decide +kernel) (by decide +kernel) (by decide +kernel)
    (by first | exact .inl (by decide +kernel) | exact .inr (by decide +kernel)) (by rw [isSubtype_type]; kernel_rfl)
theorem entry_mdget : entryFor table "method_descriptor.__get__" = some Builtin.«method_descriptor.__get__» := entryFor_of_tree (by kernel_rfl)
theorem args_mdget (a b c : Value) : argsOk "method_descriptor.__get__" ⟨[a, b, c], []⟩ := by unfold argsOk; kernel_rfl
theorem owner_append : (kfb_private% "ownerAndName") "list.append" = ("list", "append") := by first | decide +kernel | kernel_rfl
theorem told_append : Manifest.toldItsClass.contains "list.append" = false := by decide +kernel
theorem sub_list : isSubtype (.type "list") (.type (".".intercalate ("list.append".cutAt '.').dropLast)) = pure true := by rw [isSubtype_type]; kernel_rfl
theorem run_mdget {M : Model} {A : Around} {E : Value → Shared → Prop} {s : Shared} {a : Addr} {P : Fin → Shared → Prop} (hT : s.TypeIs (.ref a) "list") (h : ∀ tk, P (.done (.ret (.ref s.heap.objs.size))) { s with heap := s.heap.push (bndObj a), toks := tk }) :
    wpAny M A (Builtin.«method_descriptor.__get__» ⟨[.builtin "list.append", .ref a, .type "list"], []⟩) P E s := by
  unfold Builtin.«method_descriptor.__get__»
  obtain ⟨hp, g, d, tk, os⟩ := s
  have f1 := sub_list
  have f2 := told_append
  repeat (any_goals (first | assumption | wp_step))
  exact h _
theorem meets_get_append (a : Addr) (xs : Array Value) (k : Nat) (u : Tok) :
    Meets (Builtin.«object.__getattribute__» ⟨[.ref a, .str (Str.ofString "append") u], []⟩) (fun A R s => s.heap.get? a = some { cls := .type "list", data := .seq xs k } ∧ ∀ tk, R (.ok (.ret (.ref s.heap.objs.size))) { s with heap := s.heap.push (bndObj a), toks := tk }) :=
  Meets.of_wp fun prog w A R s hs => by
    obtain ⟨hp, g, d, tk, os⟩ := s
    obtain ⟨hx, hs⟩ := hs
    have hT : (⟨hp, g, d, tk, os⟩ : Shared).TypeIs (.ref a) "list" := ⟨_, hx, rfl⟩
    have f1 := look_append
    have f2 := get_md
    have f3 := set_md
    have f4 := del_md
    have f5 := ty_append
    unfold Builtin.«object.__getattribute__»
    repeat (any_goals (first | assumption | wp_step))
    exact codeAny_call_builtin slot_mdget.plain entry_mdget (slot_mdget.check _ _ _ _ _ _ _ _ ty_append (args_mdget _ _ _) (run_mdget hT fun tk' => wpAny_pure ⟨_, rfl, hs _⟩))
theorem getAttr_append {prog : Program} {w : World} {A : Around} {E : Value → Shared → Prop} {s : Shared} {a : Addr} {xs : Array Value} {k : Nat} {Q : Value → Shared → Prop}
    (hx : s.heap.get? a = some { cls := .type "list", data := .seq xs k }) (h : ∀ tk, Q (.ref s.heap.objs.size) { s with heap := s.heap.push (bndObj a), toks := tk }) :
    wpAny (model prog w) A (getAttr (.ref a) (Str.ofString "append") true) Q E s := by
  obtain ⟨hp, g, d, tk, os⟩ := s
  have hT : ∀ tk', (⟨hp, g, d, tk', os⟩ : Shared).TypeIs (.ref a) "list" := fun _ => ⟨_, hx, rfl⟩
  have f3 := F.slot_list_getattribute.lookup
  have f4 := F.slot_list_getattribute.bind (.ref a)
  have f5 := am_list_getattr_none
  unfold getAttr getAttrBy
  repeat (any_goals (first | assumption | exact hT _ | ((with_reducible show wpAny _ _ (call (Value.builtin "list.__getattribute__") _ _) _ _ _); refine call_meets F.slot_list_getattribute (hT _) am_entry_list_getattribute (F.args_list_getattribute_2 _ _) (meets_get_append a xs k _) ⟨hx, fun tk' => ?_⟩) | wp_step))
  exact handed_on rfl (h _)
end
section
section
variable {prog : Program} {w : World} {M : Model} {A : Around} {E : Value → Shared → Prop} {s : Shared} {h₀ : Heap} {L : Addr} {m : Str → Option Value} {news news' : List (Addr × Obj)}
def BndAt (x l : Addr) (h : Heap) : Prop := h.get? x = some (bndObj l)
theorem BndAt.of {x l : Addr} {h : Heap} (N : News h₀ L h news) (hm : (x, bndObj l) ∈ news) : BndAt x l h := N.get hm
theorem bnd_fields {pos : Pos} {u l : Addr} {first : List Value} {args : List (Bool × Sem Value)} {Q : Value → Shared → Prop} (hplain : args.any (·.1) = false)
    (h : wpAny M A (evalArgs (.ref u) true args []) (fun x s₁ => BndAt u l s₁.heap ∧ wpAny M A (call (.ref u) (first ++ x.pos) x.kw) Q E s₁) E s) : wpAny M A (callWith pos (.ref u) first args []) Q E s := by
  unfold callWith
  refine wpAny_bind (wpAny_holding (wpAny_mono h (fun x s₁ h₁ => wpAny_bind (wpAny_standAt ?_)) fun _ _ x => x))
  obtain ⟨ho, hcall⟩ := h₁
  simp only [hplain, List.any_nil, Bool.or_false]
  refine wpAny_bind (m := keeperOf (.ref u)) ?_
  unfold keeperOf
  refine wpAny_bind (wpAny_load ho ?_)
  simp only [bndObj, show (Value.type "builtin_function_or_method" != Value.type "method") = true by decide, show (Value.type "builtin_function_or_method" == Value.type "builtin_function_or_method" || Value.type "builtin_function_or_method" == Value.type "method-wrapper") = true by decide, if_true]
  refine wpAny_pure ?_
  exact wpAny_bind (wpAny_mono hcall (fun r s₂ hr => wpAny_bind (wpAny_holding (wpAny_point (wpAny_pure hr)))) fun _ _ x => x)
theorem bnd_callWith {pos : Pos} {u l : Addr} {first : List Value} {env : Env} {e : Expr} {rest : List Expr} {Q : Value → Shared → Prop} (_N : News h₀ L s.heap news) (_hm : (u, bndObj l) ∈ news)
    (h : wpAny M A (spliced (backTo pos (starEach (e :: rest) env))) (fun vs s₁ => BndAt u l s₁.heap ∧ wpAny M A (call (.ref u) (first ++ vs)) Q E s₁) E s)
    (he : starEach (e :: rest) env = (false, eval e env) :: starEach rest env := by rfl) (hplain : (backTo pos (starEach rest env)).any (·.1) = false := by rfl) :
    wpAny M A (callWith pos (.ref u) first (backTo pos (starEach (e :: rest) env)) []) Q E s := by
  rw [he] at h ⊢
  refine bnd_fields (l := l) (by show (false || (backTo pos (starEach rest env)).any (·.1)) = false; rw [hplain]; rfl) ?_
  exact evalArgs_plain h
theorem bnd_quiet {as : Args} : (Code.builtin "list.append" as).quiet = true := Code.quiet_builtin _ (by decide +kernel)
abbrev bnd_sig : Manifest.Signature := ⟨.oneArg, "list.append", "append", .self, [⟨"object", .posOnly, true⟩]⟩
theorem bnd_sigf : Manifest.signature? "list.append" = some bnd_sig := by first | kernel_rfl | decide +kernel
theorem bnd_sub : isSubtype (.type "list") (.type "module") = pure false := by rw [isSubtype_type]; kernel_rfl
theorem bnd_kind : builtinKind "list.append" = some .method := by first | decide +kernel | kernel_rfl
theorem bnd_var : Manifest.varargsMethods.contains "list.append" = false := by decide +kernel
theorem bnd_isty {hp : Heap} {g d tk os} {l : Addr} {its : Array Value} {n : Nat} {Q : Bool → Shared → Prop} (hl : hp.get? l = some { cls := .type "list", data := .seq its n }) (h : Q false ⟨hp, g, d, tk, os⟩) : wpAny M A (isType (.ref l)) Q E ⟨hp, g, d, tk, os⟩ := by
  have hT : (⟨hp, g, d, tk, os⟩ : Shared).TypeIs (.ref l) "list" := ⟨_, hl, rfl⟩
  have f1 : isSubtype (.type "list") (.type "type") = pure false := by rw [isSubtype_type]; kernel_rfl
  unfold isType
  repeat (any_goals (first | assumption | wp_step))
theorem bnd_check {l : Addr} {v : Value} {its : Array Value} {n : Nat} {Q : Unit → Shared → Prop} (hl : s.heap.get? l = some { cls := .type "list", data := .seq its n }) (h : Q () s) : wpAny M A (checkBoundCall "list.append" ⟨[.ref l, v], []⟩) Q E s := by
  obtain ⟨hp, g, d, tk, os⟩ := s
  have hT : (⟨hp, g, d, tk, os⟩ : Shared).TypeIs (.ref l) "list" := ⟨_, hl, rfl⟩
  have f1 := bnd_sub
  have f2 : ∀ x : Value, Bind.checkArgs "list.append" { bnd_sig with full := "list.append" } ⟨[.ref l, x], []⟩ = pure () := fun x => by first | kernel_rfl | (unfold Bind.checkArgs; kernel_rfl)
  have f3 : Bind.lastOf "list.append" = "append" := by first | decide +kernel | kernel_rfl
  have f4 : Bind.lastOf "list" = "list" := by first | decide +kernel | kernel_rfl
  unfold checkBoundCall
  rw [bnd_sigf]
  dsimp only
  rw [bnd_kind]
  dsimp only
  rw [if_neg (by decide), bnd_var, f3]
  unfold isInstance
  repeat (any_goals (first | assumption | (refine bnd_isty hl ?_) | wp_step))
theorem bnd_call {x l : Addr} {its : Array Value} {n : Nat} {v : Value} {Q : Value → Shared → Prop} (ho : BndAt x l s.heap) (hl : s.heap.get? l = some { cls := .type "list", data := .seq its n }) (hsz : its.size ≤ sizeLine)
    (h : ∀ h', Heap.SameBut l s.heap h' → h'.get? l = some { cls := .type "list", data := .seq (its.push v) (n + 1) } → Q .none { s with heap := h' }) : wpAny (model prog w) A (call (.ref x) [v]) Q E s := by
  refine wpAny_call (codeAny_of_tree ?_)
  show wpAny _ A.in1 (callAny (.ref x) ⟨[v], []⟩) _ _ s
  simp only [callAny]
  refine wpAny_bind (wpAny_load ho ?_)
  simp only [bndObj, show (Value.type "builtin_function_or_method" == Value.type "method" || Value.type "builtin_function_or_method" == Value.type "builtin_function_or_method" || Value.type "builtin_function_or_method" == Value.type "method-wrapper") = true by decide, if_true]
  refine KFB.if_so (by decide) ?_
  refine wpAny_bind (bnd_check hl ?_)
  refine wpAny_bind (wpAny_pure (wpAny_pure ?_))
  refine ⟨bnd_quiet, codeAny_builtin entry_list_append ?_⟩
  show wpAny _ _ (updateSeq l (·.push v) >>= fun _ => ret .none) _ _ s
  refine wpAny_bind ?_
  refine wpAny_updateSeq hl rfl (wpAny_pure ?_)
  show Q .none _
  refine h _ (Heap.SameBut.update ..) ?_
  rw [Heap.get?_update_self _ hl (by rw [mapSeq_push]; rfl), mapSeq_push]
end
end
section
section
variable {prog : Program} {w : World} {A : Around} {E : Value → Shared → Prop} {s : Shared} {h₀ : Heap} {L : Addr} {m : Str → Option Value} {news news' : List (Addr × Obj)}
theorem getAttr_append_K {a : Addr} {xs : Array Value} {k : Nat} {Q : Value → Shared → Prop} (F : Fr h₀ L s.heap m) (N : News h₀ L s.heap news) (hm : (a, (listOf xs k : Obj)) ∈ news)
    (h : ∀ x h' tk, Fr h₀ L h' m → News h₀ L h' ((x, bndObj a) :: news) → (∀ p ∈ news, p.1 < x) → Q (.ref x) { s with heap := h', toks := tk }) : wpAny (model prog w) A (getAttr (.ref a) (Str.ofString "append") true) Q E s :=
  getAttr_append (N.get hm) fun tk => h _ _ tk (F.push _) (News.push F N _) fun p hp => Heap.lt_size (N p hp).1
theorem bnd_call_K {x l : Addr} {its : Array Value} {n : Nat} {v : Value} {Q : Value → Shared → Prop} (F : Fr h₀ L s.heap m) (N : News h₀ L s.heap news) (hx : (x, bndObj l) ∈ news)
    (U : Upd l (listOf its n) (listOf (its.push v) (n + 1)) news news') (hsz : its.size ≤ sizeLine)
    (h : ∀ h', Fr h₀ L h' m → News h₀ L h' news' → Q .none { s with heap := h' }) : wpAny (model prog w) A (call (.ref x) [v]) Q E s := by
  obtain ⟨pre, post, rfl, rfl, a, b⟩ := U.split
  have z := N (l, listOf its n) (List.mem_append.mpr (.inr (.head _)))
  exact bnd_call (N.get hx) z.1 hsz fun h' hs ho' => h h' (F.change hs z.2.1 z.2.2) (news_set N a b hs ho')
end
end
section
/-- a list of translated parts: `none` is STAR -/
def trV (S : Addr) : Option (Str × Tok) → Value
  | none => .ref S
  | some (y, t) => .str y t
def trVs (S : Addr) (l : List (Option (Str × Tok))) : List Value := l.map (trV S)
abbrev trO (S : Addr) (l : List (Option (Str × Tok))) (n : Nat) : Obj := listOf (trVs S l).toArray n
def trP (c : Nat) : Str := if c = 63 then Str.ofString "." else if c = 46 then Str.ofString "\\." else ⟨#[c]⟩
def trStep (acc : List (Option Str)) (c : Nat) : List (Option Str) := if c = 42 then (if acc.getLast? = some none then acc else acc ++ [none]) else acc ++ [some (trP c)]
def trOf (cs : List Nat) : List (Option Str) := cs.foldl trStep []
def trN (l : List (Option (Str × Tok))) : List (Option Str) := l.map (Option.map (·.1))
theorem trOf_snoc (l : List Nat) (c : Nat) : trOf (l ++ [c]) = trStep (trOf l) c := by simp [trOf]
theorem trOf_take {cs : List Nat} {j c : Nat} (h : cs[j]? = some c) : trOf (cs.take (j + 1)) = trStep (trOf (cs.take j)) c := by
  rw [List.take_add_one, h]; exact trOf_snoc _ _
theorem trStep_len (acc : List (Option Str)) (c : Nat) : (trStep acc c).length ≤ acc.length + 1 := by
  unfold trStep
  split
  · split <;> simp
  · simp
theorem trOf_len (cs : List Nat) : (trOf cs).length ≤ cs.length := by
  have h : ∀ (l : List Nat) (acc : List (Option Str)), (l.foldl trStep acc).length ≤ acc.length + l.length := by
    intro l
    induction l with
    | nil => intro acc; simp
    | cons a r ih =>
      intro acc
      have h1 := ih (trStep acc a)
      have h2 := trStep_len acc a
      simp only [List.foldl_cons, List.length_cons]; omega
  simpa [trOf] using h cs []
theorem trN_len (l : List (Option (Str × Tok))) : (trN l).length = l.length := by simp [trN]
theorem trN_snoc (l : List (Option (Str × Tok))) (p : Option (Str × Tok)) : trN (l ++ [p]) = trN l ++ [p.map (·.1)] := by simp [trN]
theorem trN_last (l : List (Option (Str × Tok))) (p : Option (Str × Tok)) : (trN (l ++ [p])).getLast? = some (p.map (·.1)) := by rw [trN_snoc]; simp
theorem trVs_push (S : Addr) (l : List (Option (Str × Tok))) (p : Option (Str × Tok)) : (trVs S l).toArray.push (trV S p) = (trVs S (l ++ [p])).toArray := by simp [trVs]
section
variable {prog : Program} {w : World} {A : Around} {E : Value → Shared → Prop} {s : Shared} {h₀ : Heap} {L D S : Addr} {m : Str → Option Value} {news news' : List (Addr × Obj)} {n : Nat}
theorem tr_nil {Q : Bool → Shared → Prop} (N : News h₀ L s.heap news) (hm : (D, trO S [] n) ∈ news) (h : ∀ tk, Q false { s with toks := tk }) : wpAny (model prog w) A (truthy (.ref D)) Q E s :=
  wpAny_truthy_list (items := (trVs S []).toArray) ⟨_, (N _ hm).1, rfl, _, rfl⟩ (by simp [trVs]) (h _)
theorem tr_snoc {Q : Bool → Shared → Prop} {y : List (Option (Str × Tok))} {p : Option (Str × Tok)} (N : News h₀ L s.heap news) (hm : (D, trO S (y ++ [p]) n) ∈ news) (hz : y.length ≤ 1000) (h : ∀ tk, Q true { s with toks := tk }) : wpAny (model prog w) A (truthy (.ref D)) Q E s := by
  refine wpAny_truthy_list (items := (trVs S (y ++ [p])).toArray) ⟨_, (N _ hm).1, rfl, _, rfl⟩ (by simp [trVs]; omega) ?_
  have e : (!((trVs S (y ++ [p])).toArray.isEmpty)) = true := by simp [trVs]
  rw [e]
  exact h _
theorem tr_last {Q : Value → Shared → Prop} {value slice : PySem.Expr} {y : List (Option (Str × Tok))} {p : Option (Str × Tok)} {u : Tok} (N : News h₀ L s.heap news) (hm : (D, trO S (y ++ [p]) n) ∈ news) (h : Q (trV S p) s)
    (hs : subscripted slice false (.ref D) (.int (-1) u) = operate [.ref D, .int (-1) u] (getItem (.ref D) (.int (-1) u))) :
    wpAny (model prog w) A (subscriptTail value slice (.ref D) (.int (-1) u)) Q E s := by
  have hl : s.heap.IsList D (trVs S (y ++ [p])).toArray := ⟨_, (N _ hm).1, rfl, _, rfl⟩
  refine tail_any hl.typeIs slot_list_getitem.lookup (wpAny_getItem_list_neg hl (by decide) (by simp [trVs]; omega) (by decide) ?_ h) hs
  have e : ((-1 : Int) + ((trVs S (y ++ [p])).toArray.size : Int)).toNat = y.length := by simp [trVs]; omega
  rw [e]
  simp [trVs]
theorem tr_add {x : Addr} {its : List (Option (Str × Tok))} {p : Option (Str × Tok)} {v : Value} {Q : Value → Shared → Prop} (hv : v = trV S p) (F : Fr h₀ L s.heap m) (N : News h₀ L s.heap news) (hx : (x, bndObj D) ∈ news)
    (U : Upd D (trO S its n) (trO S (its ++ [p]) (n + 1)) news news') (hsz : its.length ≤ 1000)
    (h : ∀ h', Fr h₀ L h' m → News h₀ L h' news' → Q .none { s with heap := h' }) : wpAny (model prog w) A (call (.ref x) [v]) Q E s := by
  subst hv
  refine bnd_call_K (its := (trVs S its).toArray) (n := n) (news' := news') F N hx ?_ (fitsN (by simp [trVs]; omega)) h
  rw [trVs_push]; exact U
end
end
section
section
variable {prog : Program} {w : World} {A : Around} {E : Value → Shared → Prop} {s : Shared} {h₀ : Heap} {L D S : Addr} {m : Str → Option Value} {news news' : List (Addr × Obj)} {n : Nat}
theorem tr_at {Q : Value → Shared → Prop} {value slice : PySem.Expr} {l : List (Option (Str × Tok))} {p : Option (Str × Tok)} {i : Int} {u : Tok} (hl : s.heap.IsList D (trVs S l).toArray) (h0 : 0 ≤ i) (h1 : i < 2 ^ 63) (hp : l[i.toNat]? = some p) (h : Q (trV S p) s)
    (hs : subscripted slice false (.ref D) (.int i u) = operate [.ref D, .int i u] (getItem (.ref D) (.int i u))) :
    wpAny (model prog w) A (subscriptTail value slice (.ref D) (.int i u)) Q E s := by
  refine tail_any hl.typeIs slot_list_getitem.lookup (wpAny_getItem_list hl h0 h1 ?_ h) hs
  simp [trVs, hp]
theorem tx_add {x : Addr} {kp : List (Str × Tok)} {y : Str} {t : Tok} {Q : Value → Shared → Prop} (F : Fr h₀ L s.heap m) (N : News h₀ L s.heap news) (hx : (x, bndObj D) ∈ news)
    (U : Upd D (txts kp n) (txts (kp ++ [(y, t)]) (n + 1)) news news') (hsz : kp.length ≤ 1000)
    (h : ∀ h', Fr h₀ L h' m → News h₀ L h' news' → Q .none { s with heap := h' }) : wpAny (model prog w) A (call (.ref x) [.str y t]) Q E s := by
  refine bnd_call_K (its := (strValues kp).toArray) (n := n) (news' := news') F N hx ?_ (fitsN (by simp [strValues]; omega)) h
  rw [strValues_push]; exact U
theorem tr_len {Q : Value → Shared → Prop} {l : List (Option (Str × Tok))} (hl : s.heap.IsList D (trVs S l).toArray) (hz : l.length ≤ 1000) (h : ∀ t k, Q (.int (l.length : Int) t) { s with toks := k }) : wpAny (model prog w) A (call (.builtin "len") [.ref D]) Q E s := by
  have e : (trVs S l).toArray.size = l.length := by simp [trVs]
  refine PyProof.Rows.len_list hl (by rw [e]; omega) ?_
  rw [e]
  exact h _ _
theorem join_small_len {sep : Str} {l : List Str} (h1 : l.length ≤ 1000) (h2 : ∀ y ∈ l, y.length ≤ 1000) (h3 : sep.length ≤ 10) : (Txt.join sep l).length ≤ 10000000 := by
  have a := sum_le h2
  have b : l.length * 1000 ≤ 1000 * 1000 := Nat.mul_le_mul_right _ h1
  have c : l.length * sep.length ≤ 1000 * 10 := Nat.mul_le_mul h1 h3
  have d : (Txt.join sep l).length ≤ (l.map (·.length)).sum + l.length * sep.length := by
    show (Builtin.Str.glued sep l).length ≤ _
    rw [StrLaws.glued_eq_join]
    exact StrLaws.join_length_le sep l
  omega
theorem join_T2 {x : Str} {t : Tok} {y : List (Str × Tok)} {Q : Value → Shared → Prop} (hl : s.heap.IsList D (strValues y).toArray) (hok : JoinOk x (y.map (·.1)) = true) (hz : (Txt.join x (y.map (·.1))).length ≤ 10000000)
    (hq : ∀ Z t' k, Z = Txt.join x (y.map (·.1)) → Z.length ≤ 10000000 → Q (.str Z t') { s with toks := k }) : wpAny (model prog w) A (call (.builtin "str.join") [.str x t, .ref D]) Q E s :=
  SC.join hl rfl hok fun t' k => hq _ t' k rfl hz
theorem joinOk_wide {sep : Str} {l : List Str} (h1 : l.length ≤ 1000) (h2 : ∀ y ∈ l, y.length ≤ 9200) (h3 : sep.length ≤ 10) : JoinOk sep l = true := by
  have a := sum_le h2
  have b : l.length * 9200 ≤ 1000 * 9200 := Nat.mul_le_mul_right _ h1
  have c : l.length * sep.length ≤ 1000 * 10 := Nat.mul_le_mul h1 h3
  exact joinOk_of (by omega)
theorem join_wide_len {sep : Str} {l : List Str} (h1 : l.length ≤ 1000) (h2 : ∀ y ∈ l, y.length ≤ 9200) (h3 : sep.length ≤ 10) : (Txt.join sep l).length ≤ 10000000 := by
  have a := sum_le h2
  have b : l.length * 9200 ≤ 1000 * 9200 := Nat.mul_le_mul_right _ h1
  have c : l.length * sep.length ≤ 1000 * 10 := Nat.mul_le_mul h1 h3
  have d : (Txt.join sep l).length ≤ (l.map (·.length)).sum + l.length * sep.length := by
    show (Builtin.Str.glued sep l).length ≤ _
    rw [StrLaws.glued_eq_join]
    exact StrLaws.join_length_le sep l
  omega
theorem tr_lst {h : Heap} {l : List (Option (Str × Tok))} (ho : h.get? D = some (trO S l n)) : h.IsList D (trVs S l).toArray := ⟨_, ho, rfl, _, rfl⟩
end
end
section
open PySem.SeqAt PySem.Spec
/-- a list of texts and Nones -/
def opV : Option (Str × Tok) → Value
  | none => .none
  | some (y, t) => .str y t
def opVs (l : List (Option (Str × Tok))) : List Value := l.map opV
abbrev opO (l : List (Option (Str × Tok))) (n : Nat) : Obj := listOf (opVs l).toArray n
def nst (P : List (Option Str)) : Nat := P.countP Option.isNone
def isNoneV : Value → Bool
  | .none => true
  | _ => false
theorem opVs_len (l : List (Option (Str × Tok))) : (opVs l).length = l.length := by simp [opVs]
theorem opVs_get {l : List (Option (Str × Tok))} {i : Nat} {v : Value} (h : (opVs l)[i]? = some v) : ∃ p, l[i]? = some p ∧ v = opV p := by
  unfold opVs at h
  rw [List.getElem?_map] at h
  cases e : l[i]? with
  | none => rw [e] at h; cases h
  | some p => rw [e] at h; exact ⟨p, rfl, (Option.some.inj h).symm⟩
theorem op_count_eq (l : List (Option (Str × Tok))) : (opVs l).countP isNoneV = nst (trN l) := by
  unfold opVs nst trN
  rw [List.countP_map, List.countP_map]
  congr 1
  funext p
  cases p with
  | none => rfl
  | some p => rfl
section
variable {prog : Program} {w : World} {A : Around} {E : Value → Shared → Prop} {s : Shared} {h₀ : Heap} {L D a b S : Addr} {m : Str → Option Value} {news news' : List (Addr × Obj)} {n : Nat} {Q : Value → Shared → Prop}
theorem op_eq (l : List (Option (Str × Tok))) : ∀ y ∈ opVs l, ∀ (A : Around) (s : Shared), EqAt A s y .none (isNoneV y) := by
  intro y hy A s
  obtain ⟨p, hp, rfl⟩ := List.mem_map.mp hy
  cases p with
  | none => exact EqAt.same _
  | some p => exact EqAt.str_none _ _
theorem op_count {l : List (Option (Str × Tok))} (hl : s.heap.IsList D (opVs l).toArray) (h : ∀ t k, Q (.int ((nst (trN l) : Nat) : Int) t) { s with toks := k }) : wpAny (model prog w) A (call (.builtin "list.count") [.ref D, .none]) Q E s := by
  obtain ⟨⟨cls, dd, data, sl⟩, ho, hc, n, hd⟩ := id hl
  simp only at hc hd
  subst hc hd
  refine call_meets PySem.F.slot_list_count ⟨_, ho, rfl⟩ PySem.F.entry_list_count (PySem.F.args_list_count_2 _ _) (list_countAt D (opVs l).toArray n dd sl .none isNoneV) ⟨ho, fun y hy => op_eq l y (by simpa using hy) _ _, ?_⟩
  rw [show (opVs l).toArray.toList = opVs l from rfl, op_count_eq]
  exact h _ _
theorem op_method {l : List (Option (Str × Tok))} {pl : Sem Bool} {Q : Value × List Value → Shared → Prop} (F : Fr h₀ L s.heap m) (ho : h₀.get? D = some (opO l n)) (h : Q (.builtin "list.count", [.ref D]) s) : wpAny (model prog w) A (getMethod (.ref D) (Str.ofString "count") pl) Q E s :=
  getMethod_builtin ⟨_, F.keep _ _ ho, rfl⟩ PySem.F.plainAttrs_list PySem.F.slot_list_count PySem.F.type_list_count (fun a e => by cases e; exact ⟨_, F.keep _ _ ho, rfl⟩) h
theorem tx_at {value slice : PySem.Expr} {l : List (Str × Tok)} {y : Str} {t : Tok} {i : Int} {u : Tok} (hl : s.heap.IsList D (strValues l).toArray) (h0 : 0 ≤ i) (h1 : i < 2 ^ 63) (hp : l[i.toNat]? = some (y, t)) (h : Q (.str y t) s)
    (hs : subscripted slice false (.ref D) (.int i u) = operate [.ref D, .int i u] (getItem (.ref D) (.int i u))) :
    wpAny (model prog w) A (subscriptTail value slice (.ref D) (.int i u)) Q E s := by
  refine tail_any hl.typeIs slot_list_getitem.lookup (wpAny_getItem_list hl h0 h1 ?_ h) hs
  simp [strValues, hp]
theorem add_LT {y : Str} {t : Tok} {z : List (Str × Tok)} (F : Fr h₀ L s.heap m) (N : News h₀ L s.heap news) (ha : s.heap.IsList a #[.str y t]) (hb : s.heap.IsList b (strValues z).toArray) (h2 : z.length ≤ 1000)
    (h : ∀ D h', Fr h₀ L h' m → News h₀ L h' ((D, txts ((y, t) :: z) 0) :: news) → (∀ p ∈ news, p.1 < D) → Q (.ref D) { s with heap := h' }) : wpAny (model prog w) A (binaryOp .Add (.ref a) (.ref b)) Q E s :=
  kmk_add_lit F N ha hb (zs := strValues ((y, t) :: z)) (by simp [strValues]) h (fitsN (by simp [strValues]; omega))
theorem add_TL {y : Str} {t : Tok} {z : List (Str × Tok)} (F : Fr h₀ L s.heap m) (N : News h₀ L s.heap news) (ha : s.heap.IsList a (strValues z).toArray) (hb : s.heap.IsList b #[.str y t]) (h2 : z.length ≤ 1000)
    (h : ∀ D h', Fr h₀ L h' m → News h₀ L h' ((D, txts (z ++ [(y, t)]) 0) :: news) → (∀ p ∈ news, p.1 < D) → Q (.ref D) { s with heap := h' }) : wpAny (model prog w) A (binaryOp .Add (.ref a) (.ref b)) Q E s :=
  kmk_add_lit F N ha hb (zs := strValues (z ++ [(y, t)])) (by simp [strValues]) h (fitsN (by simp [strValues]; omega))
theorem add_S {x y : Str} {t u : Tok} (hx : x.length ≤ 100) (hy : y.length ≤ 1000) (h : ∀ t' k, Q (.str (x ++ y) t') { s with toks := k }) : wpAny (model prog w) A (binaryOp .Add (.str x t) (.str y u)) Q E s :=
  SB.add h (fitsN (by omega))
theorem pick_mid (p q : Str × Tok) (z : List (Str × Tok)) : kms_pick (strValues (p :: z ++ [q])).toArray.toList (some 1) (some (-1)) = strValues z := by
  unfold kms_pick kms_lo kms_hi
  simp [strValues]
theorem slice_mid {value slice : PySem.Expr} {p q : Str × Tok} {z : List (Str × Tok)} {u v : Tok} (F : Fr h₀ L s.heap m) (N : News h₀ L s.heap news) (hl : s.heap.IsList a (strValues (p :: z ++ [q])).toArray) (hz : z.length ≤ 1000)
    (h : ∀ D h', Fr h₀ L h' m → News h₀ L h' ((D, txts z 0) :: news) → (∀ p ∈ news, p.1 < D) → Q (.ref D) { s with heap := h' })
    (hs : subscripted slice false (.ref a) (.ref s.heap.objs.size) = operate [.ref s.heap.objs.size, .ref a] (getItem (.ref a) (.ref s.heap.objs.size))) (ht : ∀ r, letTemporaryGo value (.ref a) r = pure ()) :
    wpAny (model prog w) A (subscriptTail value slice (.ref a) (.ref s.heap.objs.size)) Q E { s with heap := s.heap.push { cls := .type "slice", data := .fields #[.int 1 u, .int (-1) v, .none] } } :=
  kms_slice_lit F N hl (IsPart.int _ _) (IsPart.int _ _) (pick_mid p q z) h hs ht (fitsN (by simp [strValues]; omega))
end
def exOpen (seen stars : Nat) : Str := (if 1 < seen then Str.ofString ")" else Str.ofString "") ++ (if seen < stars then Str.ofString "(?>.*?" else Str.ofString ".*")
def exStep (stars : Nat) (c : Nat × List Str) : Option Str → Nat × List Str
  | none => (c.1 + 1, c.2 ++ [exOpen (c.1 + 1) stars])
  | some y => (c.1, c.2 ++ [y])
def exFold (P : List (Option Str)) (i : Nat) : Nat × List Str := (P.take i).foldl (exStep (nst P)) (0, [])
theorem exFold_succ {P : List (Option Str)} {i : Nat} {p : Option Str} (h : P[i]? = some p) : exFold P (i + 1) = exStep (nst P) (exFold P i) p := by
  unfold exFold
  rw [List.take_add_one, h]; simp
theorem exFold_seen (P : List (Option Str)) (i : Nat) : (exFold P i).1 ≤ i := by
  induction i with
  | zero => simp [exFold]
  | succ i ih =>
    cases h : P[i]? with
    | none =>
      have e : exFold P (i + 1) = exFold P i := by
        have := List.getElem?_eq_none_iff.mp h
        unfold exFold
        rw [List.take_of_length_le (by omega), List.take_of_length_le (by omega)]
      rw [e]; omega
    | some p =>
      rw [exFold_succ h]
      cases p with
      | none => show (exFold P i).1 + 1 ≤ _; omega
      | some y => show (exFold P i).1 ≤ _; omega
theorem exFold_len (P : List (Option Str)) : ∀ i, i ≤ P.length → (exFold P i).2.length = i
  | 0, _ => by simp [exFold]
  | i + 1, h => by
    have ih := exFold_len P i (by omega)
    rw [exFold_succ (List.getElem?_eq_getElem (by omega))]
    cases P[i] with
    | none => show ((exFold P i).2 ++ [_]).length = _; rw [List.length_append, ih]; rfl
    | some y => show ((exFold P i).2 ++ [_]).length = _; rw [List.length_append, ih]; rfl
def exEnds : List Str → List Str
  | [] => []
  | t0 :: r => (Str.ofString "(?s:" ++ t0) :: (r.dropLast ++ r.getLast?.toList.map (· ++ Str.ofString ")\\Z"))
theorem exEnds_of (t0 tl : Str) (mid : List Str) : exEnds (t0 :: mid ++ [tl]) = (Str.ofString "(?s:" ++ t0) :: mid ++ [tl ++ Str.ofString ")\\Z"] := by
  show (Str.ofString "(?s:" ++ t0) :: ((mid ++ [tl]).dropLast ++ (mid ++ [tl]).getLast?.toList.map (· ++ Str.ofString ")\\Z")) = _
  rw [List.dropLast_concat, List.getLast?_concat]; rfl
end
section
section
variable {prog : Program} {w : World} {A : Around} {E : Value → Shared → Prop} {h₀ : Heap} {L : Addr} {m : Str → Option Value} {env : Env} {elt : PySem.Expr} {x : Str} {scope : Scope} {cl : List (Str × Addr)} {s : Shared} {S : List (Addr × Obj) → Prop} {Fin : List Value → List (Addr × Obj) → Prop} {news : List (Addr × Obj)}
/-- a comprehension over a list of ints whose element is an int -/
theorem cm_ints {vs : List Value} {ns : List Int} (f : Int → Int) (hi : IntsAre vs ns)
    (turn : ∀ k t I oI C oC D m₂ ys h tk (E' : Value → Shared → Prop), k ∈ ns → LCg.NsObj oC m₂ → m₂ x = some (.int k t) → Fr h₀ L h m → News h₀ L h ((I, oI) :: (C, oC) :: (D, LCg.lst ys) :: news) → LCg.Off3 I C D news → ((@Ne Nat I C) ∧ (@Ne Nat I D) ∧ (@Ne Nat C D)) →
      wpAny (model prog w) A (eval elt (compEnvC scope cl C env)) (LCg.CompEnd h₀ L m { s with heap := h, toks := tk } I oI C oC D (LCg.lst ys) S (fun y news' => news' = news ∧ ∃ t, y = .int (f k) t)) E' { s with heap := h, toks := tk })
    (fin : ∀ ys, IntsAre ys (ns.map f) → Fin ys news) : LCg.CompRest prog w A h₀ L m env elt x scope cl s S (fun i v => vs.toArray[i]? = some v) Fin vs.toArray.size 0 [] news := by
  have hn : vs.toArray.size = ns.length := by rw [List.size_toArray]; exact hi.length
  have key : ∀ (j i : Nat) (ys : List Value), i + j = ns.length → IntsAre ys ((ns.take i).map f) → LCg.CompRest prog w A h₀ L m env elt x scope cl s S (fun i v => vs.toArray[i]? = some v) Fin j i ys news := by
    intro j
    induction j with
    | zero =>
      intro i ys hij hy
      have e : i = ns.length := by omega
      subst e
      rw [List.take_length] at hy
      exact LCg.CompRest.zero (fin ys hy)
    | succ j ih =>
      intro i ys hij hy
      refine LCg.CompRest.succ ?_
      intro v I oI C oC D m₂ h tk E' hv hC hx F N off ne
      obtain ⟨k, t, hv', hk⟩ := IntsAre.at hi i v (by simpa using hv)
      rw [hv'] at hx
      refine wpAny_mono (turn k t I oI C oC D m₂ ys h tk E' (List.mem_of_getElem? hk) hC hx F N off ne) (fun y s₂ hq => ?_) fun _ _ e => e
      obtain ⟨h', tk', nw, e, F', N', off', hS, hn, t', hy'⟩ := hq
      rw [hn] at N' off' hS
      refine ⟨h', tk', news, e, F', N', off', hS, ?_⟩
      rw [hy']
      refine ih (i + 1) _ (by omega) ?_
      rw [List.take_add_one, hk]
      simpa using ksk_snoc hy
  rw [hn]
  exact key ns.length 0 [] (by omega) (by simp only [List.take_zero, List.map_nil]; exact .nil)
/-- a comprehension over a list of small numbers whose element is a text or None of a table -/
theorem cm_ops {vs : List Value} {K : List Nat} (tab : Nat → Option Str) (hi : IntsAre vs (K.map Int.ofNat))
    (turn : ∀ (k : Nat) t I oI C oC D m₂ ys h tk (E' : Value → Shared → Prop), k ∈ K → LCg.NsObj oC m₂ → m₂ x = some (.int (k : Int) t) → Fr h₀ L h m → News h₀ L h ((I, oI) :: (C, oC) :: (D, LCg.lst ys) :: news) → LCg.Off3 I C D news → ((@Ne Nat I C) ∧ (@Ne Nat I D) ∧ (@Ne Nat C D)) →
      wpAny (model prog w) A (eval elt (compEnvC scope cl C env)) (LCg.CompEnd h₀ L m { s with heap := h, toks := tk } I oI C oC D (LCg.lst ys) S (fun y news' => news' = news ∧ ∃ p : Option (Str × Tok), y = opV p ∧ p.map (·.1) = tab k)) E' { s with heap := h, toks := tk })
    (fin : ∀ l : List (Option (Str × Tok)), trN l = K.map tab → Fin (opVs l) news) : LCg.CompRest prog w A h₀ L m env elt x scope cl s S (fun i v => vs.toArray[i]? = some v) Fin vs.toArray.size 0 [] news := by
  have hn : vs.toArray.size = K.length := by rw [List.size_toArray, hi.length, List.length_map]
  have key : ∀ (j i : Nat) (l : List (Option (Str × Tok))), i + j = K.length → trN l = (K.take i).map tab → LCg.CompRest prog w A h₀ L m env elt x scope cl s S (fun i v => vs.toArray[i]? = some v) Fin j i (opVs l) news := by
    intro j
    induction j with
    | zero =>
      intro i l hij hy
      have e : i = K.length := by omega
      subst e
      rw [List.take_length] at hy
      exact LCg.CompRest.zero (fin l hy)
    | succ j ih =>
      intro i l hij hy
      refine LCg.CompRest.succ ?_
      intro v I oI C oC D m₂ h tk E' hv hC hx F N off ne
      obtain ⟨k, t, hv', hk⟩ := IntsAre.at hi i v (by simpa using hv)
      rw [List.getElem?_map] at hk
      obtain ⟨k', hk', rfl⟩ : ∃ k', K[i]? = some k' ∧ Int.ofNat k' = k := by
        cases e : K[i]? with
        | none => rw [e] at hk; cases hk
        | some k' => rw [e] at hk; exact ⟨k', rfl, Option.some.inj hk⟩
      rw [hv'] at hx
      refine wpAny_mono (turn k' t I oI C oC D m₂ (opVs l) h tk E' (List.mem_of_getElem? hk') hC hx F N off ne) (fun y s₂ hq => ?_) fun _ _ e => e
      obtain ⟨h', tk', nw, e, F', N', off', hS, hn, p, hy', hp⟩ := hq
      rw [hn] at N' off' hS
      refine ⟨h', tk', news, e, F', N', off', hS, ?_⟩
      have e2 : opVs l ++ [y] = opVs (l ++ [p]) := by rw [hy']; simp [opVs]
      dsimp only
      rw [e2]
      refine ih (i + 1) _ (by omega) ?_
      rw [trN_snoc, hy, hp, List.take_add_one, hk']
      simp
  rw [hn]
  exact key K.length 0 [] (by omega) (by simp [trN])
theorem tup_item {s : Shared} {T : Addr} {its : Array Value} {i : Int} {u : Tok} {v : Value} {Q : Value → Shared → Prop} {value slice : PySem.Expr} (N : News h₀ L s.heap news) (hm : (T, ({ cls := .type "tuple", data := .seq its } : Obj)) ∈ news) (h0 : 0 ≤ i) (h1 : i < 2 ^ 63) (hp : its[i.toNat]? = some v) (h : Q v s)
    (hs : subscripted slice false (.ref T) (.int i u) = operate [.ref T, .int i u] (getItem (.ref T) (.int i u))) :
    wpAny (model prog w) A (subscriptTail value slice (.ref T) (.int i u)) Q E s := by
  have hlt : i.toNat < its.size := (Array.getElem?_eq_some_iff.mp hp).1
  have ht : IsTup s.heap T its := ⟨_, (N _ hm).1, rfl, _, rfl⟩
  exact tail_any ht.typeIs slot_tuple_getitem.lookup (getItem_tuple ht (by omega) h1 (seqIndex_of h0 (by omega)) hp h) hs
end
end
section
theorem ob_mro : mroOf (.type "object") = pure [.type "object"] := by kernel_rfl
theorem ob_new : typeLookup (.type "object") "__new__" = pure (some (.builtin "object.__new__")) := by rw [typeLookup_type, builtinLookup_eq_fast]; kernel_rfl
theorem ob_sub : isSubtype (.type "object") (.type "object") = pure true := by rw [isSubtype_type]; kernel_rfl
theorem ob_called : TypeCalled "object" "object.__new__" "object.__init__" :=
  ⟨by decide +kernel, by decide +kernel, ⟨_, _, ob_mro⟩, madeBy_type ob_mro ob_new (by decide +kernel), by decide +kernel, ob_sub, F.slot_object_init⟩
theorem ob_typeCall : checkTypeCall "object" ⟨[], []⟩ = pure () := by kernel_rfl
theorem ob_newCall : checkBuiltinCall "object.__new__" ⟨[.type "object"], []⟩ = pure () := by kernel_rfl
theorem ob_entry : entryFor table "object.__new__" = some Builtin.«object.__new__» := entryFor_of_tree (by kernel_rfl)
theorem ob_madeHere : Bind.madeHere "object.__new__" (.type "object") = pure () := by
  unfold Bind.madeHere
  have h1 : Bind.staticBase (.type "object") = pure (.type "object") := by kernel_rfl
  rw [h1]
  simp only [pure_bind, ob_called.made]
  kernel_rfl
abbrev obObj : Obj := { cls := .type "object", data := .plain }
theorem ob_new_meets : Meets (Builtin.«object.__new__» ⟨[.type "object"], []⟩) (fun _ R s => R (.ok (.ret (.ref s.heap.objs.size))) { s with heap := s.heap.push obObj }) := by
  refine Meets.of_wp fun prog w A R s hs => ?_
  obtain ⟨hp, g, d, tk, os⟩ := s
  have h1 := ob_madeHere
  have h2 : isType (.type "object") = pure true := by rfl
  have h3 : ((Manifest.find? "object").elim false (·.mro.any fun t => (Manifest.find? t).elim false (·.noNew))) = false := by kernel_rfl
  have h4 : typeHasDict (.type "object") = false := by kernel_rfl
  have h5 : diesByItsTypesDel "object" = false := by kernel_rfl
  unfold Builtin.«object.__new__»
  repeat (any_goals (first | assumption | wp_step))
  exact ⟨_, rfl, hs⟩
theorem ob_init_meets {self : Value} : Meets (Builtin.«object.__init__» ⟨[self], []⟩) (fun _ R s => R (.ok (.ret .none)) s) :=
  Meets.of_wp fun prog w A R s hs => wpAny_pure ⟨_, rfl, hs⟩
section
variable {prog : Program} {w : World} {A : Around} {E : Value → Shared → Prop} {s : Shared} {h₀ : Heap} {L : Addr} {m : Str → Option Value} {news : List (Addr × Obj)} {Q : Value → Shared → Prop}
theorem call_object (h : Q (.ref s.heap.objs.size) { s with heap := s.heap.push obObj }) : wpAny (model prog w) A (call (.type "object") []) Q E s :=
  callType_meets (Q₁ := fun obj s₁ => s₁.TypeIs obj "object" ∧ Q obj s₁) ob_called ob_typeCall ob_newCall ob_entry F.entry_object_init ob_new_meets
    (show wants _ E (.ok (.ret _)) _ from ⟨⟨_, Heap.get?_push_size _ rfl, rfl⟩, h⟩) fun obj _ hq =>
    ⟨hq.1, F.args_object_init_1 _, _, ob_init_meets, rfl, hq.2⟩
theorem call_object_K (F : Fr h₀ L s.heap m) (N : News h₀ L s.heap news) (h : ∀ x h', Fr h₀ L h' m → News h₀ L h' ((x, obObj) :: news) → (∀ p ∈ news, p.1 < x) → Q (.ref x) { s with heap := h' }) : wpAny (model prog w) A (call (.type "object") []) Q E s :=
  call_object (h _ _ (F.push _) (News.push F N _) fun p hp => Heap.lt_size (N p hp).1)
end
end
def sD : Str := Str.ofString "."
def sDD : Str := Str.ofString ".."
def sSl : Str := Str.ofString "/"
def stStep (c : Nat × List Str) (y : Str) : Nat × List Str :=
  if (y == sDD) = true then (c.1 + 1, c.2) else if (y != sD) = true then (if c.1 > 0 then (c.1 - 1, c.2) else (c.1, c.2 ++ [y])) else c
theorem st1 {c : Nat × List Str} {y : Str} (hy : (y == Str.ofString "..") = true) : stStep c y = (c.1 + 1, c.2) := by
  unfold stStep; rw [if_pos (show (y == sDD) = true from hy)]
theorem st2 {c : Nat × List Str} {y : Str} (hy : (y == Str.ofString "..") = false) (hz : (y != Str.ofString ".") = true) (hp : 0 < c.1) : stStep c y = (c.1 - 1, c.2) := by
  unfold stStep; rw [if_neg (by rw [show (y == sDD) = false from hy]; decide), if_pos (show (y != sD) = true from hz), if_pos hp]
theorem st3 {c : Nat × List Str} {y : Str} (hy : (y == Str.ofString "..") = false) (hz : (y != Str.ofString ".") = true) (hp : ¬ 0 < c.1) : stStep c y = (c.1, c.2 ++ [y]) := by
  unfold stStep; rw [if_neg (by rw [show (y == sDD) = false from hy]; decide), if_pos (show (y != sD) = true from hz), if_neg hp]
theorem st4 {c : Nat × List Str} {y : Str} (hy : (y == Str.ofString "..") = false) (hz : (y != Str.ofString ".") = false) : stStep c y = c := by
  unfold stStep; rw [if_neg (by rw [show (y == sDD) = false from hy]; decide), if_neg (by rw [show (y != sD) = false from hz]; decide)]
def stFold (ls : List Str) : Nat × List Str := ls.foldl stStep (0, [])
theorem stFold_snoc (ls : List Str) (y : Str) : stFold (ls ++ [y]) = stStep (stFold ls) y := by simp [stFold]
def orDot (x : Str) : Str := if x.length == 0 then sD else x
theorem orDot_pos {x : Str} (h : (x.length : Int) ≠ 0) : orDot x = x := by unfold orDot; rw [if_neg (by simp; omega)]
theorem orDot_zero {x : Str} (h : (x.length : Int) = 0) : orDot x = sD := by unfold orDot; rw [if_pos (by simp; omega)]
def straightF (ls : List Str) : Str := orDot (Txt.join sSl (List.replicate (stFold ls.reverse).1 sDD ++ (stFold ls.reverse).2.reverse))
theorem stFold_mem {ls : List Str} : ∀ y ∈ (stFold ls).2, y ∈ ls := by
  suffices h : ∀ (ls : List Str) (c : Nat × List Str) (S : List Str), (∀ y ∈ c.2, y ∈ S) → (∀ y ∈ ls, y ∈ S) → ∀ y ∈ (ls.foldl stStep c).2, y ∈ S from
    h ls (0, []) ls (fun y hy => nomatch hy) (fun y hy => hy)
  intro ls
  induction ls with
  | nil => intro c S h1 _; exact h1
  | cons a r ih =>
    intro c S h1 h2
    refine ih _ S ?_ fun y hy => h2 y (.tail _ hy)
    unfold stStep
    intro y hy
    split at hy
    · exact h1 y hy
    · split at hy
      · split at hy
        · exact h1 y hy
        · rcases List.mem_append.mp hy with hy | hy
          · exact h1 y hy
          · rw [List.mem_singleton.mp hy]; exact h2 a (.head _)
      · exact h1 y hy
-- the walk's own lines
local macro_rules | `(tactic| walk_at "call builtin:issubclass") => `(tactic| (k_here; (with_reducible show wpAny _ _ (call (Value.builtin "issubclass") [Value.type "str", Value.ref _]) _ _ _); (with_unfolding_all refine' issub_tup ?k1 ?k2 ?_; (case k2 => exact (by assumption : News _ _ _ _) _ (by k_mem) |>.1); (case k1 => rfl)); intro tk'))
local macro_rules | `(tactic| walk_at "subscriptTail Name Slice ref ref") => `(tactic| (k_here; (with_reducible show wpAny _ _ (subscriptTail _ (PySem.Expr.Slice none none (some _) _) (Value.ref _) (Value.ref _)) _ _ _); k_dflt (refine' krv_lit ?F ?N ?l ?k ?e ?_ ?s ?t ?z; (case F => k_asm); (case N => k_asm); (case l => kmk_list); (case k => exact IsPart.int _ _); (case e => exact strs_rev _); (case s => with_unfolding_all rfl); (case t => kmk_pure); (case z => refine strs_size (fitsN ?_); (try simp only [List.length_reverse]); omega)); intro D' h' F' N' l1; (try k_lt l1); (try k_sweep); (try dsimp only)))
local macro_rules | `(tactic| walk_at "exec For Name Subscript cons nil") => `(tactic| (k_here; (rename Fr _ _ _ _ => lF'); (with_unfolding_all refine' For_invVF lF' ?k1 ?k2 ?_; (case k1 => exact rfl); (case k2 => exact rfl); k_whole)))
local macro_rules | `(tactic| walk_at "exec For Name Name cons nil") => `(tactic| (k_here; (rename Fr _ _ _ _ => lF'); (with_unfolding_all refine' For_invVF lF' ?k1 ?k2 ?_; (case k1 => exact rfl); (case k2 => exact rfl); k_whole)))
local macro_rules | `(tactic| walk_at "call builtin:list.append") => `(tactic| (k_here; (show wpAny _ _ (call (Value.builtin _) [Value.ref _, Value.str _ _]) _ _ _); k_dflt (refine' append_T ?k1 ?k2 ?k3 ?_ ?z; (case k1 => k_asm); (case k2 => k_asm); (case k3 => k_upd); (case z => first | omega | ((try simp only [List.length_append, List.length_cons, List.length_nil] at *); omega)); k_whole); intro h' F' N'; (try k_sweep); (try dsimp only)))
local macro_rules | `(tactic| walk_at "binaryOp Mult ref int") => `(tactic| (k_here; k_dflt (refine' mul_T ?F ?N ?m ?d ?_; (case F => k_asm); (case N => k_asm); (case m => k_mem); (case d => omega); k_whole); intro D' h' F' N' l1; (try k_lt l1); (try k_sweep); (try dsimp only)))
local macro_rules | `(tactic| walk_at "binaryOp Add ref ref") => `(tactic| (k_here; (with_reducible show wpAny _ _ (binaryOp _ (Value.ref _) (Value.ref _)) _ _ _); k_dflt (refine' add_T ?F ?N ?a ?b ?z1 ?z2 ?_; (case F => k_asm); (case N => k_asm); (case a => kmk_list); (case b => kmk_list); (case z1 => simp only [List.length_append, List.length_replicate, List.length_reverse, List.length_map]; omega); (case z2 => simp only [List.length_append, List.length_replicate, List.length_reverse, List.length_map]; omega); k_whole); intro D' h' F' N' l1; (try k_lt l1); (try k_sweep); (try dsimp only)))
local macro_rules | `(tactic| walk_at "call builtin:str.join") => `(tactic| (k_here; k_dflt (refine' join_T ?l ?o ?_; (case l => kmk_list); (case o => first | assumption | (rename (∀ _, JoinOk _ _ = true) => hj; exact hj _)); k_whole); intro Z' t' k' hZ' hZl'; (try dsimp only)))
local macro_rules | `(tactic| walk_at "truthy str") => `(tactic| (k_here; (with_reducible show wpAny _ _ (PySem.truthy (Value.str _ _)) _ _ _); (refine SBL.truthy (by first | omega | (refine Nat.lt_of_le_of_lt (by assumption) (by decide))) ?_); (try dsimp only)))
local macro_rules | `(tactic| walk_at "truthy ref") => `(tactic| (k_here; (with_reducible show wpAny _ _ (PySem.truthy (Value.ref _)) _ _ _); k_dflt (first | (refine' truthy_nil ?N ?m ?_; (case N => k_asm); (case m => k_mem)) | (refine' truthy_snoc ?N ?m ?z ?_; (case N => k_asm); (case m => k_mem); (case z => omega))); intro tk'; (try dsimp only)))
local macro_rules | `(tactic| walk_at "subscriptTail Name UnaryOp ref int") => `(tactic| (k_here; (with_reducible show wpAny _ _ (subscriptTail _ _ (Value.ref _) (Value.int _ _)) _ _ _); k_dflt (refine' last_T ?N ?m ?_ ?s; (case N => k_asm); (case m => k_mem); (case s => with_unfolding_all rfl); (try dsimp only))))
local macro_rules | `(tactic| walk_at "call builtin:list.pop") => `(tactic| (k_here; (show wpAny _ _ (call (Value.builtin _) [Value.ref _]) _ _ _); k_dflt (refine' pop_T ?F ?N ?U ?z ?_; (case F => k_asm); (case N => k_asm); (case U => k_upd); (case z => omega); k_whole); intro h' F' N'; (try k_sweep); (try dsimp only)))
local macro_rules | `(tactic| walk_at "call builtin:str.split") => `(tactic| (k_here; k_dflt (refine' split_T ?F ?N ?y ?x ?_; (case F => k_asm); (case N => k_asm); (case y => decide); (case x => omega); k_whole); intro D' l' h' k' hl' F' N' l1; (try k_lt l1); (try k_sweep); (try dsimp only)))
local macro_rules | `(tactic| walk_at "call ref") => `(tactic| (k_here; (with_reducible show wpAny _ _ (call (Value.ref 111) [Value.str _ _]) _ _ _); k_dflt (refine' Spec.use (fspath_spec _ _) ?B ?F ?X ?N ?T rfl rfl (Nat.le_of_ble_eq_true rfl) rfl rfl (Nat.le_of_ble_eq_true rfl) trivial ?_; (case B => k_asm); (case F => k_asm); (case X => k_asm); (case N => k_asm); (case T => k_asm); k_whole); intro r' h' tk' F' N' hg' ho'; subst ho'; (try k_sweep); (try dsimp only)))
local macro_rules | `(tactic| walk_at "call ref") => `(tactic| (k_here; (with_reducible show wpAny _ _ (call (Value.ref 118) [Value.str _ _]) _ _ _); (rename Fr _ _ _ _ => kF0); k_dflt (refine' Spec.use (splitroot_spec _ _ ?sx ?ss) ?B kF0 ?X ?N ?T rfl rfl (Nat.le_of_ble_eq_true rfl) rfl rfl (Nat.le_of_ble_eq_true rfl) trivial ?_; (case sx => omega); (case ss => assumption); (case B => k_asm); (case X => k_asm); (case N => k_asm); (case T => k_asm); k_whole); intro r' h' tk' F' N' hg' ho'; (obtain ⟨a', ta', tb', tc', hr', hn', hs'⟩ := ho'); subst hr'; (have N9 := News.cons_out kF0 N' hn' hs'); clear N'; (try k_sweep); (try dsimp only)))
local macro_rules | `(tactic| walk_at "binaryOp Add str str") => `(tactic| (k_here; (with_reducible show wpAny _ _ (binaryOp _ (Value.str (Str.ofString "") _) (Value.str _ _)) _ _ _); (refine add_nil (by assumption) ?_); intro t' k'; (try dsimp only)))
local macro_rules | `(tactic| walk_at "call type:int") => `(tactic| (k_here; (show wpAny _ _ (call (Value.type "int") [Value.str _ _, Value.int 16 _]) _ _ _); k_dflt (first | refine' call_hex hexE ?_ | refine' call_hex hexF ?_ | refine' call_hex hexA ?_); (try dsimp only)))
theorem straight_spec (a : Addr) (l : List (Str × Tok)) (n : Nat) (h1 : l.length ≤ 40) (h2 : ∀ p ∈ l, p.1.length ≤ 40) :
    Spec 185 370 350 [.ref a] (fun h => h.get? a = some (txts l n)) (fun _ _ r => ∃ t, r = .str (straightF (l.map (·.1))) t) := by
  unfold Spec
  k_fill
  intro w p loose mean mg mb A₀ base outer s Q E B X T pre ret
  refine' enter_def (binds := [(Str.ofString "parts", .ref a)]) X T ?k6 ?k7 ?k8 ?k9 ?kB ?_ ?c2 ?c3 ?c4 ?c5
  case k6 => k_is
  case k7 => k_is
  case k8 => k_room
  case k9 => exact BindsTo.of_eq rfl
  case kB => exact locs rfl
  case c2 => exact rfl
  case c3 => exact rfl
  case c4 => exact rfl
  case c5 => decide
  intro L' h' F' N'
  try dsimp only
  try k_fold
  w_on
  have hl : s.heap.IsList a (strValues l).toArray := ⟨_, pre, rfl, _, rfl⟩
  k_steps
  rename Fr _ _ _ _ => F1
  rename News _ _ _ _ => N1
  refine' ft_own (σ := Int × Tok × List (Str × Tok) × Nat) (ls := l.reverse) (fun c => (c.2.2.1, c.2.2.2)) (fun c => [(Str.ofString "debts", .int c.1 c.2.1)]) [] (fun i c => ∃ d : Nat, c.1 = (d : Int) ∧ (d, c.2.2.1.map (·.1)) = stFold ((l.reverse.take i).map (·.1)) ∧ d ≤ i ∧ c.2.2.1.length ≤ i ∧ i ≤ 40) (0, _, [], 0) ?hh ?hF ?hN ?hm ?hn ?hk ?hp ?he ?turn ?done
  case hF => exact F1
  case hN => exact N1
  case hh => exact rfl
  case he => exact rfl
  case hm => exact .head _
  case hn => exact .tail _ (.head _)
  case hk => intro p hp; rw [List.mem_singleton.mp hp]; rfl
  case hp => exact ⟨0, rfl, rfl, Nat.le_refl _, Nat.le_refl _, by omega⟩
  case turn =>
    rintro ⟨d, td, kp, n⟩ i y t u h tk I oI hv ⟨dn, rfl, hP, hd, hk, hi⟩ hlt hlt2 F' N'
    dsimp only at F' N' hP hk
    replace hlt := ltN hlt
    replace hlt2 := ltN hlt2
    have hi2 : i < 40 := by
      have := (List.getElem?_eq_some_iff.mp hv).1
      simp at this; omega
    have hs := stFold_snoc ((l.reverse.take i).map (·.1)) y
    rw [← take_fst_succ hv, ← hP] at hs
    k_steps
    · rename (y == _) = true => hy
      dsimp only [FlPost]
      refine fl_end (_, _, kp, n) (by assumption) (by assumption) (by kst_in) (by kst_all) (by intro z h1 h2 h3; simp only [List.forall_mem_cons, List.not_mem_nil, false_implies, implies_true, and_true, ne_eq] at h2; simp [kstB, h1, h2]) ⟨dn + 1, rfl, ?_, by (try dsimp only); omega, by (try dsimp only); omega, by omega⟩
      rw [hs, st1 hy]
    · rename (y == _) = false => hy
      rename (y != _) = true => hz
      rename 0 < (dn : Int) => hp
      dsimp only [FlPost]
      refine fl_end (_, _, kp, n) (by assumption) (by assumption) (by kst_in) (by kst_all) (by intro z h1 h2 h3; simp only [List.forall_mem_cons, List.not_mem_nil, false_implies, implies_true, and_true, ne_eq] at h2; simp [kstB, h1, h2]) ⟨dn - 1, by (try dsimp only); omega, ?_, by (try dsimp only); omega, by (try dsimp only); omega, by omega⟩
      rw [hs, st2 hy hz (by (try dsimp only); omega)]
    · rename (y == _) = false => hy
      rename (y != _) = true => hz
      rename ¬ 0 < (dn : Int) => hp
      dsimp only [FlPost]
      refine fl_end (_, td, kp ++ [(y, t)], n + 1) (by assumption) (by assumption) (by kst_in) (by kst_all) (by intro z h1 h2 h3; simp only [List.forall_mem_cons, List.not_mem_nil, false_implies, implies_true, and_true, ne_eq] at h2; simp [kstB, h1, h2]) ⟨dn, rfl, ?_, by (try dsimp only); omega, by simp; omega, by omega⟩
      rw [hs, st3 hy hz (by (try dsimp only); omega)]; simp
    · rename (y == _) = false => hy
      rename (y != _) = false => hz
      dsimp only [FlPost]
      refine fl_end (_, td, kp, n) (by assumption) (by assumption) (by kst_in) (by kst_all) (by intro z h1 h2 h3; simp only [List.forall_mem_cons, List.not_mem_nil, false_implies, implies_true, and_true, ne_eq] at h2; simp [kstB, h1, h2]) ⟨dn, rfl, ?_, by (try dsimp only); omega, by (try dsimp only); omega, by omega⟩
      rw [hs, st4 hy hz]
  case done =>
    rintro ⟨d, td, kp, n⟩ u h tk ⟨dn, rfl, hP, hd, hk, hi⟩ F' N'
    dsimp only at F' N' hP hk
    rw [List.take_length] at hP
    have hrev : (l.reverse.map (·.1)) = (l.map (·.1)).reverse := List.map_reverse ..
    rw [hrev] at hP
    have hfst : ∀ tk : Nat, (List.replicate dn (Str.ofString "..", tk) ++ kp.reverse).map (·.1) = List.replicate (stFold (l.map (·.1)).reverse).1 sDD ++ (stFold (l.map (·.1)).reverse).2.reverse := by
      intro tk
      rw [← hP]
      simp [sDD]
    have hdl : dn ≤ 40 := by simp at hd; omega
    have hkl : kp.length ≤ 40 := by simp at hk; omega
    have hjok : ∀ tk : Nat, JoinOk (Str.ofString "/") ((List.replicate dn (Str.ofString "..", tk) ++ kp.reverse).map (·.1)) = true := by
      intro tk
      refine joinOk_small (by simp; omega) ?_ (by decide)
      intro y hy
      rw [hfst, ← hP] at hy
      rcases List.mem_append.mp hy with hy | hy
      · rw [List.eq_of_mem_replicate hy]; decide
      · have h3 : y ∈ (stFold (l.map (·.1)).reverse).2 := by rw [← hP]; exact List.mem_reverse.mp hy
        have h4 := stFold_mem y h3
        rw [List.mem_reverse] at h4
        obtain ⟨p, hp, rfl⟩ := List.mem_map.mp h4
        exact Nat.le_trans (h2 p hp) (by decide)
    k_steps
    all_goals
      rename _ = Txt.join _ _ => hZ
      rw [hfst] at hZ
      have hS : straightF (l.map (·.1)) = orDot _ := congrArg orDot hZ.symm
    · rename ((Str.length _ : Nat) : Int) ≠ 0 => hn
      exact ret _ _ _ (Fr.keep (by assumption)) ⟨_, congrArg (fun z => Value.str z _) (hS.trans (orDot_pos hn)).symm⟩
    · rename ((Str.length _ : Nat) : Int) = 0 => hn
      exact ret _ _ _ (Fr.keep (by assumption)) ⟨_, congrArg (fun z => Value.str z _) (hS.trans (orDot_zero hn)).symm⟩
def npStep (st : List Str) (c : Str) : List Str :=
  if c.length = 0 then st else if (c == sD) = true then st
  else if (c != sDD) = true then st ++ [c] else match st.getLast? with
    | none => st ++ [c]
    | some z => if (z == sDD) = true then st ++ [c] else st.dropLast
theorem np1 {st : List Str} {y : Str} (h : (y.length : Int) = 0) : npStep st y = st := by unfold npStep; rw [if_pos (by omega)]
theorem np2 {st : List Str} {y : Str} (h : (y.length : Int) ≠ 0) (h2 : (y == Str.ofString ".") = true) : npStep st y = st := by
  unfold npStep; rw [if_neg (by omega), if_pos (show (y == sD) = true from h2)]
theorem np3 {st : List Str} {y : Str} (h : (y.length : Int) ≠ 0) (h2 : (y == Str.ofString ".") = false) (h3 : (y != Str.ofString "..") = true) : npStep st y = st ++ [y] := by
  unfold npStep; rw [if_neg (by omega), if_neg (by rw [show (y == sD) = false from h2]; decide), if_pos (show (y != sDD) = true from h3)]
theorem np4 {y : Str} (h : (y.length : Int) ≠ 0) (h2 : (y == Str.ofString ".") = false) (h3 : (y != Str.ofString "..") = false) : npStep [] y = [y] := by
  unfold npStep; rw [if_neg (by omega), if_neg (by rw [show (y == sD) = false from h2]; decide), if_neg (by rw [show (y != sDD) = false from h3]; decide)]; rfl
theorem np5 {st : List Str} {c y : Str} (h : (y.length : Int) ≠ 0) (h2 : (y == Str.ofString ".") = false) (h3 : (y != Str.ofString "..") = false) (h4 : (c == Str.ofString "..") = true) : npStep (st ++ [c]) y = st ++ [c] ++ [y] := by
  unfold npStep; rw [if_neg (by omega), if_neg (by rw [show (y == sD) = false from h2]; decide), if_neg (by rw [show (y != sDD) = false from h3]; decide), List.getLast?_concat]
  dsimp only
  rw [if_pos (show (c == sDD) = true from h4)]
theorem np6 {st : List Str} {c y : Str} (h : (y.length : Int) ≠ 0) (h2 : (y == Str.ofString ".") = false) (h3 : (y != Str.ofString "..") = false) (h4 : (c == Str.ofString "..") = false) : npStep (st ++ [c]) y = st := by
  unfold npStep; rw [if_neg (by omega), if_neg (by rw [show (y == sD) = false from h2]; decide), if_neg (by rw [show (y != sDD) = false from h3]; decide), List.getLast?_concat]
  dsimp only
  rw [if_neg (by rw [show (c == sDD) = false from h4]; decide), List.dropLast_concat]
def npF (x : Str) : Str := orDot (Txt.join sSl ((Txt.split x sSl).foldl npStep []))
theorem npFold_mem {ls : List Str} : ∀ y ∈ ls.foldl npStep [], y ∈ ls := by
  suffices h : ∀ (ls st S : List Str), (∀ y ∈ st, y ∈ S) → (∀ y ∈ ls, y ∈ S) → ∀ y ∈ ls.foldl npStep st, y ∈ S from
    h ls [] ls (fun y hy => nomatch hy) (fun y hy => hy)
  intro ls
  induction ls with
  | nil => intro st S h1 _; exact h1
  | cons a r ih =>
    intro st S h1 h2
    refine ih _ S ?_ fun y hy => h2 y (.tail _ hy)
    have ha : ∀ y ∈ st ++ [a], y ∈ S := fun y hy => (List.mem_append.mp hy).elim (h1 y) fun h => by rw [List.mem_singleton.mp h]; exact h2 a (.head _)
    unfold npStep
    intro y hy
    split at hy
    · exact h1 y hy
    · split at hy
      · exact h1 y hy
      · split at hy
        · exact ha y hy
        · split at hy
          · exact ha y hy
          · split at hy
            · exact ha y hy
            · exact h1 y (List.dropLast_subset _ hy)
theorem normpath_spec (x : Str) (t : Tok) (hx : x.length ≤ 900) (hx0 : (x.length : Int) ≠ 0) (hs : (Txt.slice x none (some 1) != (Str.ofString "/")) = true) :
    Spec 125 360 300 [.str x t] (fun _ => True) (fun _ _ r => ∃ t, r = .str (npF x) t) := by
  unfold Spec
  k_fill
  intro w p loose mean mg mb A₀ base outer s Q E B X T pre ret
  refine' enter_def (binds := [(Str.ofString "path", .str x t)]) X T ?k6 ?k7 ?k8 ?k9 ?kB ?_ ?c2 ?c3 ?c4 ?c5
  case k6 => k_is
  case k7 => k_is
  case k8 => k_room
  case k9 => exact BindsTo.of_eq rfl
  case kB => exact locs rfl
  case c2 => exact rfl
  case c3 => exact rfl
  case c4 => exact rfl
  case c5 => decide
  intro L' h' F' N'
  try dsimp only
  try k_fold
  w_on
  k_steps
  case' _ => skip
  rotate_left
  · exact absurd (by assumption) hx0
  rename List (Str × Tok) => l
  rename List.map _ l = Txt.split _ _ => hl
  rename Fr _ _ _ _ => F1
  rename News _ _ _ _ => N1
  have hlen : (l.map (·.1)).length = (Txt.split x (Str.ofString "/")).length := congrArg List.length hl
  have hw := split_weight x (Str.ofString "/") (by decide)
  have hl1 : l.length ≤ 901 := by rw [List.length_map] at hlen; omega
  have hl2 : ∀ y ∈ l.map (·.1), y.length ≤ 900 := fun y hy => Nat.le_trans (part_short (hl ▸ hy)) hx
  refine' ft_own (σ := List (Str × Tok) × Nat) (ls := l) (fun c => c) (fun c => []) [] (fun i c => c.1.map (·.1) = ((l.take i).map (·.1)).foldl npStep [] ∧ c.1.length ≤ i ∧ i ≤ 901) ([], 0) ?hh ?hF ?hN ?hm ?hn ?hk ?hp ?he ?turn ?done
  case hF => exact F1
  case hN => exact N1
  case hh => exact rfl
  case he => exact rfl
  case hm => exact .tail _ (.head _)
  case hn => exact .head _
  case hk => intro p hp; cases hp
  case hp => exact ⟨rfl, Nat.le_refl _, by omega⟩
  case turn =>
    rintro ⟨kp, n⟩ i y t u h tk I oI hv ⟨hP, hk, hi⟩ hlt hlt2 F' N'
    dsimp only at F' N' hP hk
    replace hlt := ltN hlt
    replace hlt2 := ltN hlt2
    have hi2 : i < 901 := by
      have := (List.getElem?_eq_some_iff.mp hv).1
      omega
    have hy63 : (y.length : Int) < 9223372036854775808 := by
      have h3 : y ∈ l.map (·.1) := List.mem_map.mpr ⟨(y, t), List.mem_of_getElem? hv, rfl⟩
      have := hl2 y h3
      omega
    have hs2 : ((l.take (i + 1)).map (·.1)).foldl npStep [] = npStep (kp.map (·.1)) y := by rw [take_fst_succ hv, List.foldl_append, ← hP]; rfl
    rcases nil_or_snoc kp with rfl | ⟨kp, ⟨c, tc⟩, rfl⟩
    · k_steps
      all_goals dsimp only [FlPost]
      · refine fl_end ([], n) (by assumption) (by assumption) (by kst_in) (by intro p hp; cases hp) (by intro z h1 h2 h3; simp [kstB, h1]) ⟨?_, by simp, by omega⟩
        rw [hs2, np2 (by assumption) (by assumption)]
      · refine fl_end ([(y, t)], n + 1) (by assumption) (by assumption) (by kst_in) (by intro p hp; cases hp) (by intro z h1 h2 h3; simp [kstB, h1]) ⟨?_, by simp, by omega⟩
        rw [hs2, np3 (by assumption) (by assumption) (by assumption)]; rfl
      · refine fl_end ([(y, t)], n + 1) (by assumption) (by assumption) (by kst_in) (by intro p hp; cases hp) (by intro z h1 h2 h3; simp [kstB, h1]) ⟨?_, by simp, by omega⟩
        rw [hs2]; exact (np4 (by assumption) (by assumption) (by assumption)).symm
      · refine fl_end ([], n) (by assumption) (by assumption) (by kst_in) (by intro p hp; cases hp) (by intro z h1 h2 h3; simp [kstB, h1]) ⟨?_, by simp, by omega⟩
        rw [hs2, np1 (by assumption)]
    · have hk9 : kp.length ≤ 900 := by simp at hk; omega
      have hk8 : kp.length + 1 ≤ i := by simpa using hk
      have hs3 : (kp ++ [(c, tc)]).map (·.1) = kp.map (·.1) ++ [c] := by simp
      rw [hs3] at hs2
      k_steps
      all_goals dsimp only [FlPost]
      · refine fl_end (kp ++ [(c, tc)], n) (by assumption) (by assumption) (by kst_in) (by intro p hp; cases hp) (by intro z h1 h2 h3; simp [kstB, h1]) ⟨?_, by simp; omega, by omega⟩
        rw [hs2, np2 (by assumption) (by assumption)]; exact hs3
      · refine fl_end (kp ++ [(c, tc)] ++ [(y, t)], n + 1) (by assumption) (by assumption) (by kst_in) (by intro p hp; cases hp) (by intro z h1 h2 h3; simp [kstB, h1]) ⟨?_, by simp; omega, by omega⟩
        rw [hs2, np3 (by assumption) (by assumption) (by assumption)]; simp
      · refine fl_end (kp ++ [(c, tc)] ++ [(y, t)], n + 1) (by assumption) (by assumption) (by kst_in) (by intro p hp; cases hp) (by intro z h1 h2 h3; simp [kstB, h1]) ⟨?_, by simp; omega, by omega⟩
        rw [hs2, np5 (by assumption) (by assumption) (by assumption) (by assumption)]; simp
      · refine fl_end (kp, n + 1) (by assumption) (by assumption) (by kst_in) (by intro p hp; cases hp) (by intro z h1 h2 h3; simp [kstB, h1]) ⟨?_, by (try dsimp only); omega, by omega⟩
        rw [hs2, np6 (by assumption) (by assumption) (by assumption) (by assumption)]
      · refine fl_end (kp ++ [(c, tc)], n) (by assumption) (by assumption) (by kst_in) (by intro p hp; cases hp) (by intro z h1 h2 h3; simp [kstB, h1]) ⟨?_, by simp; omega, by omega⟩
        rw [hs2, np1 (by assumption)]; exact hs3
  case done =>
    rintro ⟨kp, n⟩ u h tk ⟨hP, hk, hi⟩ F' N'
    dsimp only at F' N' hP hk
    rw [List.take_length, hl] at hP
    have hjok : JoinOk (Str.ofString "/") (kp.map (·.1)) = true := by
      refine joinOk_small (by simp; omega) ?_ (by decide)
      intro y hy
      rw [hP] at hy
      exact Nat.le_trans (hl2 y (hl ▸ npFold_mem y hy)) (by decide)
    k_steps
    all_goals
      rename _ = Txt.join _ _ => hZ
      rw [hP] at hZ
      have hS : npF x = orDot _ := congrArg orDot hZ.symm
    · rename_i hn
      exact ret _ _ _ (Fr.keep (by assumption)) ⟨_, congrArg (fun z => Value.str z _) (hS.trans (orDot_pos (by assumption))).symm⟩
    · exact ret _ _ _ (Fr.keep (by assumption)) ⟨_, congrArg (fun z => Value.str z _) (hS.trans (orDot_zero (by assumption))).symm⟩
section
def stR (P : List Str) : Nat × List Str := P.foldr (fun y c => stStep c y) (0, [])
theorem stR_eq (P : List Str) : stFold P.reverse = stR P := by unfold stFold stR; rw [List.foldl_reverse]
theorem np_dd {a : Nat} {y : Str} (hy : y.length ≠ 0) (h2 : (y == sD) = false) (h3 : (y != sDD) = false) : npStep (List.replicate a sDD) y = List.replicate (a + 1) sDD := by
  have e : y = sDD := by simpa using h3
  rw [List.replicate_succ']
  cases a with
  | zero => rw [← e]; exact np4 (by omega) h2 h3
  | succ a =>
    rw [List.replicate_succ', ← e]
    refine np5 (by omega) h2 h3 ?_
    rw [e]; exact beq_self_eq_true _
theorem np_st : ∀ (P : List Str) (a : Nat) (ks : List Str), (∀ y ∈ P, y.length ≠ 0) → (∀ z ∈ ks, (z == sDD) = false) →
    P.foldl npStep (List.replicate a sDD ++ ks) = List.replicate (a + ((stR P).1 - ks.length)) sDD ++ (ks.take (ks.length - (stR P).1) ++ (stR P).2.reverse)
  | [], a, ks, _, _ => by simp [stR]
  | y :: r, a, ks, hP, hks => by
    have hy := hP y (.head _)
    have hr : ∀ z ∈ r, z.length ≠ 0 := fun z hz => hP z (.tail _ hz)
    have hs : stR (y :: r) = stStep (stR r) y := rfl
    rw [List.foldl_cons, hs]
    cases h2 : (y == sD) with
    | true =>
      have hn : (y != sD) = false := by rw [bne, h2]; rfl
      have hdd : (y == sDD) = false := by
        rw [beq_iff_eq.mp h2]; decide +kernel
      rw [np2 (by omega) h2, st4 hdd hn]
      exact np_st r a ks hr hks
    | false =>
      have hn : (y != sD) = true := by rw [bne, h2]; rfl
      cases h3 : (y == sDD) with
      | true =>
        have h3' : (y != sDD) = false := by rw [bne, h3]; rfl
        rw [st1 h3]
        rcases nil_or_snoc ks with rfl | ⟨ks', z, rfl⟩
        · rw [List.append_nil, np_dd hy h2 h3']
          have ih := np_st r (a + 1) [] hr (fun z hz => nomatch hz)
          rw [List.append_nil] at ih
          rw [ih]
          simp only [List.length_nil, Nat.sub_zero, Nat.zero_sub, List.take_zero, List.nil_append]
          rw [Nat.add_assoc, Nat.add_comm 1]
        · have hz : (z == sDD) = false := hks z (by simp)
          rw [← List.append_assoc, np6 (by omega) h2 h3' hz]
          have ih := np_st r a ks' hr (fun z hz => hks z (List.mem_append.mpr (.inl hz)))
          rw [ih]
          have e1 : (ks' ++ [z]).length = ks'.length + 1 := by simp
          have e2 : (ks' ++ [z]).length - ((stR r).1 + 1) = ks'.length - (stR r).1 := by omega
          have e3 : (stR r).1 + 1 - (ks' ++ [z]).length = (stR r).1 - ks'.length := by omega
          rw [e2, e3, List.take_append_of_le_length (by omega)]
      | false =>
        have h3' : (y != sDD) = true := by rw [bne, h3]; rfl
        rw [np3 (by omega) h2 h3', List.append_assoc]
        have ih := np_st r a (ks ++ [y]) hr (fun z hz => by
          rcases List.mem_append.mp hz with hz | hz
          · exact hks z hz
          · rw [List.mem_singleton.mp hz]; exact h3)
        rw [ih]
        have e1 : (ks ++ [y]).length = ks.length + 1 := by simp
        by_cases hd : 0 < (stR r).1
        · rw [st2 h3 hn hd]
          dsimp only
          have e2 : (ks ++ [y]).length - (stR r).1 = ks.length - ((stR r).1 - 1) := by omega
          have e3 : (stR r).1 - (ks ++ [y]).length = (stR r).1 - 1 - ks.length := by omega
          rw [e2, e3, List.take_append_of_le_length (by omega)]
        · rw [st3 h3 hn hd]
          dsimp only
          have e0 : (stR r).1 = 0 := by omega
          rw [e0, Nat.sub_zero, Nat.sub_zero, List.take_length, List.take_length, Nat.zero_sub, Nat.zero_sub]
          simp [List.append_assoc]
theorem np_straight {P : List Str} (hP : ∀ y ∈ P, y.length ≠ 0) : orDot (Txt.join sSl (P.foldl npStep [])) = straightF P := by
  have h := np_st P 0 [] hP (fun z hz => nomatch hz)
  unfold straightF
  rw [stR_eq]
  have h' : P.foldl npStep [] = List.replicate (stR P).1 sDD ++ (stR P).2.reverse := by
    simpa using h
  rw [h']
theorem join_is (x : Str) (l : List Str) : Txt.join x l = Str.join x l := by
  show (Builtin.Str.glued x l) = _
  exact StrLaws.glued_eq_join ..
end
theorem unquote_E (t : Tok) : Spec 132 370 350 [.str (Str.ofString "=2E") t] (fun _ => True) (fun _ _ r => ∃ t, r = .str (Str.ofString ".") t) := by
  unfold Spec
  k_fill
  intro w p loose mean mg mb A₀ base outer s Q E B X T pre ret
  refine' enter_def (binds := [(Str.ofString "s", .str (Str.ofString "=2E") t)]) X T ?k6 ?k7 ?k8 ?k9 ?kB ?_ ?c2 ?c3 ?c4 ?c5
  case k6 => k_is
  case k7 => k_is
  case k8 => k_room
  case k9 => exact BindsTo.of_eq rfl
  case kB => exact locs rfl
  case c2 => exact rfl
  case c3 => exact rfl
  case c4 => exact rfl
  case c5 => decide
  intro L' h' F' N'
  try dsimp only
  try k_fold
  w_on
  k_steps
  exact ret _ _ _ (Fr.keep (by assumption)) ⟨_, rfl⟩
theorem unquote_F (t : Tok) : Spec 132 370 350 [.str (Str.ofString "=3F") t] (fun _ => True) (fun _ _ r => ∃ t, r = .str (Str.ofString "?") t) := by
  unfold Spec
  k_fill
  intro w p loose mean mg mb A₀ base outer s Q E B X T pre ret
  refine' enter_def (binds := [(Str.ofString "s", .str (Str.ofString "=3F") t)]) X T ?k6 ?k7 ?k8 ?k9 ?kB ?_ ?c2 ?c3 ?c4 ?c5
  case k6 => k_is
  case k7 => k_is
  case k8 => k_room
  case k9 => exact BindsTo.of_eq rfl
  case kB => exact locs rfl
  case c2 => exact rfl
  case c3 => exact rfl
  case c4 => exact rfl
  case c5 => decide
  intro L' h' F' N'
  try dsimp only
  try k_fold
  w_on
  k_steps
  exact ret _ _ _ (Fr.keep (by assumption)) ⟨_, rfl⟩
theorem unquote_A (t : Tok) : Spec 132 370 350 [.str (Str.ofString "=2A") t] (fun _ => True) (fun _ _ r => ∃ t, r = .str (Str.ofString "*") t) := by
  unfold Spec
  k_fill
  intro w p loose mean mg mb A₀ base outer s Q E B X T pre ret
  refine' enter_def (binds := [(Str.ofString "s", .str (Str.ofString "=2A") t)]) X T ?k6 ?k7 ?k8 ?k9 ?kB ?_ ?c2 ?c3 ?c4 ?c5
  case k6 => k_is
  case k7 => k_is
  case k8 => k_room
  case k9 => exact BindsTo.of_eq rfl
  case kB => exact locs rfl
  case c2 => exact rfl
  case c3 => exact rfl
  case c4 => exact rfl
  case c5 => decide
  intro L' h' F' N'
  try dsimp only
  try k_fold
  w_on
  k_steps
  exact ret _ _ _ (Fr.keep (by assumption)) ⟨_, rfl⟩
theorem all_lb : ∀ c : Nat, c < 127 → 33 ≤ c → Unicode.isLineBreak c = false ∧ Unicode.isSpace c = false ∧ Txt.contains (Str.ofString "\x0d\n") ⟨#[c]⟩ = false := by decide +kernel
theorem enc_lb {k : Tk} (h : k.ok) : ∀ c ∈ k.enc, Unicode.isLineBreak c = false := by
  intro c hc
  cases k with
  | ch d => rw [List.mem_singleton.mp hc]; exact (all_lb d h.2.1 h.1).1
  | dot => revert c; decide +kernel
  | ask => revert c; decide +kernel
  | star => revert c; decide +kernel
theorem take_enc {ts : List Tk} {j : Nat} {k : Tk} (h : ts[j]? = some k) : (ts.take (j + 1)).flatMap Tk.enc = (ts.take j).flatMap Tk.enc ++ k.enc := by
  rw [List.take_add_one, h]; simp
theorem take_dec {ts : List Tk} {j : Nat} {k : Tk} (h : ts[j]? = some k) : (ts.take (j + 1)).map Tk.dec = (ts.take j).map Tk.dec ++ [k.dec] := by
  rw [List.take_add_one, h]; simp
theorem enc_split {ts : List Tk} {j : Nat} {k : Tk} (h : ts[j]? = some k) : ts.flatMap Tk.enc = (ts.take j).flatMap Tk.enc ++ (k.enc ++ (ts.drop (j + 1)).flatMap Tk.enc) := by
  have h1 := List.take_append_drop j ts
  have hlt := (List.getElem?_eq_some_iff.mp h).1
  have h2 : ts.drop j = k :: ts.drop (j + 1) := by rw [List.drop_eq_getElem_cons hlt, (List.getElem?_eq_some_iff.mp h).2]
  conv => lhs; rw [← h1, h2]
  simp
/-- how far a decoder is behind j signs -/
def DecAt (x : Str) (ts : List Tk) (j : Nat) (i : Int) (d : Str) : Prop :=
  j ≤ ts.length ∧ i = (((ts.take j).flatMap Tk.enc).length : Nat) ∧ d.cps.toList = (ts.take j).map Tk.dec ++ (if j = ts.length then [10] else [])
theorem take_le (ts : List Tk) (j : Nat) (h : j ≤ ts.length) : j ≤ ((ts.take j).flatMap Tk.enc).length := by
  have h1 : ∀ l : List Tk, l.length ≤ (l.flatMap Tk.enc).length := by
    intro l
    induction l with
    | nil => exact Nat.le_refl _
    | cons a r ih =>
      have : 1 ≤ a.enc.length := by cases a <;> exact Nat.le_of_ble_eq_true rfl
      simp only [List.flatMap_cons, List.length_append, List.length_cons]; omega
  have h2 := h1 (ts.take j)
  rw [List.length_take] at h2
  omega
theorem after_zero {ts : List Tk} {j : Nat} (hlt : j < ts.length) : ((ts.drop (j + 1)).flatMap Tk.enc).length = 0 ↔ j + 1 = ts.length := by
  constructor
  · intro h
    cases e : ts.drop (j + 1) with
    | nil => have := List.drop_eq_nil_iff.mp e; omega
    | cons a r =>
      rw [e] at h
      have : 1 ≤ a.enc.length := by cases a <;> exact Nat.le_of_ble_eq_true rfl
      simp only [List.flatMap_cons, List.length_append] at h
      omega
  · intro h
    rw [List.drop_eq_nil_of_le (by omega)]; rfl
theorem DecAt.step {x d d' : Str} {ts : List Tk} {j : Nat} {i i' : Int} {k : Tk} (h : DecAt x ts j i d) (hk : ts[j]? = some k) (hi' : i' = i + k.enc.length)
    (hd' : d'.cps.toList = d.cps.toList ++ [k.dec] ++ (if j + 1 = ts.length then [10] else [])) : DecAt x ts (j + 1) i' d' := by
  have hlt := (List.getElem?_eq_some_iff.mp hk).1
  obtain ⟨h1, h2, h3⟩ := h
  refine ⟨hlt, ?_, ?_⟩
  · rw [take_enc hk, hi', h2]; simp
  · rw [hd', h3, if_neg (by omega), take_dec hk]; simp
theorem ends_nl {d : Str} {pre : List Nat} (h : d.cps.toList = pre ++ [10]) : Txt.endswith d (Str.ofString "\n") = true := by
  have e : d = (⟨pre.toArray⟩ : Str) ++ Str.ofString "\n" := str_ext (by rw [h, Str.cps_append, Array.toList_append]; rfl)
  rw [e, KAf.ends_right (by decide)]
  decide +kernel
local macro_rules | `(tactic| walk_at "exec While Compare cons nil") => `(tactic| (refine stop ?_))
local macro_rules | `(tactic| walk_at "pyIter ref") => `(tactic| ((with_reducible show wpAny _ _ (pyIter (Value.ref _)) (fun it s₂ => LoopAtV _ _ _ _ _ _ _ _ _ it s₂) _ _); (refine stop ?_)))
local macro_rules | `(tactic| walk_at "exec For Name Call cons nil") => `(tactic| (k_here; (rename Fr _ _ _ _ => lF'); (with_unfolding_all refine' For_invVF lF' ?k1 ?k2 ?_; (case k1 => exact rfl); (case k2 => exact rfl); k_whole)))
local macro_rules | `(tactic| walk_at "call builtin:str.splitlines") => `(tactic| (k_here; k_dflt (refine' lines_T ?F ?N ?l ?x ?_; (case F => k_asm); (case N => k_asm); (case l => assumption); (case x => omega); k_whole); intro D' h' t' k' F' N' l1; (try k_lt l1); (try k_sweep); (try dsimp only)))
local macro_rules | `(tactic| walk_at "call builtin:str.rstrip") => `(tactic| (k_here; k_dflt (refine' rstrip_T ?l ?x ?_; (case l => assumption); (case x => omega)); intro t' k'; (try dsimp only)))
local macro_rules | `(tactic| walk_at "subscriptTail Name Name str int") => `(tactic| (k_here; (with_reducible show wpAny _ _ (subscriptTail _ _ (Value.str _ _) (Value.int _ _)) _ _ _); (first | (k_dflt (refine' item_T ?h ?h0 ?h1 ?h2 ?_ ?s ?t; (case h => assumption); (case h0 => omega); (case h1 => omega); (case h2 => omega); (case s => with_unfolding_all rfl); (case t => intro _; with_unfolding_all rfl)); intro tk' tk'; (try dsimp only)) | (refine stop ?_))))
local macro_rules | `(tactic| walk_at "subscriptTail Name BinOp str int") => `(tactic| (k_here; (with_reducible show wpAny _ _ (subscriptTail _ _ (Value.str _ _) (Value.int _ _)) _ _ _); (first | (k_dflt (refine' item_T ?h ?h0 ?h1 ?h2 ?_ ?s ?t; (case h => assumption); (case h0 => omega); (case h1 => omega); (case h2 => omega); (case s => with_unfolding_all rfl); (case t => intro _; with_unfolding_all rfl)); intro tk' tk'; (try dsimp only)) | (refine stop ?_))))
local macro_rules | `(tactic| walk_at "subscriptTail Name UnaryOp str int") => `(tactic| (k_here; (with_reducible show wpAny _ _ (subscriptTail _ _ (Value.str _ _) (Value.int _ _)) _ _ _); (first | (k_dflt (refine' item_T ?h ?h0 ?h1 ?h2 ?_ ?s ?t; (case h => assumption); (case h0 => omega); (case h1 => omega); (case h2 => omega); (case s => with_unfolding_all rfl); (case t => intro _; with_unfolding_all rfl)); intro tk' tk'; (try dsimp only)) | (refine stop ?_))))
local macro_rules | `(tactic| walk_at "subscriptTail Name Slice str ref") => `(tactic| (k_here; (with_reducible show wpAny _ _ (subscriptTail _ (Expr.Slice (some _) (some _) none _) _ _) _ _ _); k_dflt (refine' slice_ss_T (s := ⟨_, _, _, _, _⟩) ?h ?h0 ?F ?N ?_ ?s ?t; (case h => assumption); (case h0 => omega); (case F => k_asm); (case N => k_asm); (case s => with_unfolding_all rfl); (case t => intro _; with_unfolding_all rfl)); intro h' t' k' F' N'; (try k_sweep); (try dsimp only)))
local macro_rules | `(tactic| walk_at "subscriptTail Name Slice str ref") => `(tactic| (k_here; (with_reducible show wpAny _ _ (subscriptTail _ (Expr.Slice none (some _) none _) _ _) _ _ _); k_dflt (refine' slice_ns_T (s := ⟨_, _, _, _, _⟩) ?h ?h0 ?F ?N ?_ ?s ?t; (case h => assumption); (case h0 => omega); (case F => k_asm); (case N => k_asm); (case s => with_unfolding_all rfl); (case t => intro _; with_unfolding_all rfl)); intro h' t' k' F' N'; (try k_sweep); (try dsimp only)))
local macro_rules | `(tactic| walk_at "inplaceOp Add str str") => `(tactic| (k_here; (first | (k_dflt (refine' iadd_T ?a ?b ?_; (case a => first | omega | (simp only [Str.length_append]; omega)); (case b => first | omega | exact Nat.le_of_ble_eq_true rfl)); intro t' k'; (try dsimp only)) | (refine stop ?_))))
local macro_rules | `(tactic| walk_at "call builtin:str.endswith") => `(tactic| (k_here; k_dflt (refine' ends_T ?h ?_; (case h => assumption))))
local macro_rules | `(tactic| walk_at "compareOp NotIn str str") => `(tactic| (k_here; k_dflt (refine' notIn_T ?h ?_; (case h => assumption)); (try dsimp only)))
local macro_rules | `(tactic| walk_at "compareOp In str str") => `(tactic| (k_here; k_dflt (refine' in_T ?h ?_; (case h => assumption)); (try dsimp only)))
local macro_rules | `(tactic| walk_at "call ref") => `(tactic| (k_here; (with_reducible show wpAny _ _ (call (Value.ref 132) [Value.str _ _]) _ _ _); k_dflt (first
  | refine' Spec.use (unquote_E _) ?B ?F ?X ?N ?T rfl rfl (Nat.le_of_ble_eq_true rfl) rfl rfl (Nat.le_of_ble_eq_true rfl) trivial ?_
  | refine' Spec.use (unquote_F _) ?B ?F ?X ?N ?T rfl rfl (Nat.le_of_ble_eq_true rfl) rfl rfl (Nat.le_of_ble_eq_true rfl) trivial ?_
  | refine' Spec.use (unquote_A _) ?B ?F ?X ?N ?T rfl rfl (Nat.le_of_ble_eq_true rfl) rfl rfl (Nat.le_of_ble_eq_true rfl) trivial ?_); (case B => k_asm); (case F => k_asm); (case X => k_asm); (case N => k_asm); (case T => k_asm); intro r' h' tk' F' N' hg' ho'; (obtain ⟨t', hr'⟩ := ho'); subst hr'; (try k_sweep); (try dsimp only)))
local macro_rules | `(tactic| walk_at "KswPost") => `(tactic| (refine stop ?_))
local macro_rules | `(tactic| walk_at "KswEnd") => `(tactic| (refine stop ?_))
local macro_rules | `(tactic| walk_at "call builtin:str.translate") => `(tactic| (k_here; k_dflt (first
  | (refine' call_tr_dot ?F ?x ?_; (case F => k_asm); (case x => assumption); intro t' k')
  | (refine' call_tr_keep ?F ?N ?x ?c ?d rfl ?_; (case F => k_asm); (case N => k_asm); (case x => assumption); (case c => omega); (case d => decide); intro h' t' k' F' N'; (try k_sweep))); (try dsimp only)))
local macro_rules | `(tactic| walk_at "getMethod str") => `(tactic| (k_here; (show wpAny _ _ (getMethod (Value.str _ _) (Str.ofString "translate") _) _ _ _); (refine method_translate ?_); (try dsimp only)))
theorem decode_spec (x : Str) (t : Tok) (ts ini : List Tk) (z : Nat) (hx : x.cps.toList = ts.flatMap Tk.enc) (hts : ts = ini ++ [.ch z]) (hok : ∀ k ∈ ts, k.ok) (hlen : x.length ≤ 900) :
    Spec 140 360 300 [.str x t] (fun _ => True) (fun _ _ r => ∃ t, r = .str ⟨(ts.map Tk.dec).toArray⟩ t) := by
  have hz : (Tk.ch z).ok := hok _ (by rw [hts]; simp)
  have hxl : x.cps.toList = ini.flatMap Tk.enc ++ [z] := by rw [hx, hts]; simp [Tk.enc]
  have hx0 : x.length ≠ 0 := by rw [len_list, hxl]; simp
  have hL : Txt.lines x = [x] := lines_one (fun c hc => by rw [hx] at hc; obtain ⟨k, hk, hc⟩ := List.mem_flatMap.mp hc; exact enc_lb (hok k hk) c hc) hx0
  have hR : Txt.rstrip x = x := rstrip_id hxl (all_lb z hz.2.1 hz.1).2.1
  have hI : Txt.item x (-1) = ⟨#[z]⟩ := item_last hxl
  have hC : Txt.contains (Str.ofString "\x0d\n") ⟨#[z]⟩ = false := (all_lb z hz.2.1 hz.1).2.2
  have hx63 : (x.length : Int) < 9223372036854775808 := by omega
  have hx0' : (x.length : Int) ≠ 0 := by omega
  unfold Spec
  k_fill
  intro w p loose mean mg mb A₀ base outer s Q E B X T pre ret
  refine' enter_def (binds := [(Str.ofString "encoded", .str x t), (Str.ofString "eol", .str (Str.ofString "\n") 416)]) X T ?k6 ?k7 ?k8 ?k9 ?kB ?_ ?c2 ?c3 ?c4 ?c5
  case k6 => k_is
  case k7 => k_is
  case k8 => k_room
  case k9 => exact binds_K X rfl (by k_is) rfl rfl rfl
  case kB => exact locs rfl
  case c2 => exact rfl
  case c3 => exact rfl
  case c4 => exact rfl
  case c5 => decide
  intro L' h' F' N'
  try dsimp only
  try k_fold
  w_on
  k_steps
  rotate_left
  · exact absurd (by assumption) hx0'
  unfold Stopped
  rename Fr _ _ _ _ => F1
  rename News _ _ _ _ => N1
  obtain ⟨tl, N9⟩ : ∃ tl, News _ _ _ [(_, txts [(x, tl)] 0)] := ⟨_, N1⟩
  refine' fl_own (σ := Str × Tok) (vs := strValues [(x, tl)]) (fun _ => []) (fun c => [(Str.ofString "decoded", .str c.1 c.2)]) [Str.ofString "i", Str.ofString "n", Str.ofString "c"] (fun i c => if i = 0 then c.1 = Str.ofString "" else c.1.cps.toList = ts.map Tk.dec ++ [10]) [] (Str.ofString "", _) ?hh ?hl ?hF ?hN ?hm ?hn ?hadr ?hk ?hp ?turn ?done
  case hF => exact F1
  case hN => exact N9
  case hh => exact rfl
  case hl => exact News.txts_at N9 (.head _)
  case hm => exact .head _
  case hn => intro p hp; cases hp
  case hadr => intro c; rfl
  case hk => intro p hp; rw [List.mem_singleton.mp hp]; rfl
  case hp => rfl
  case turn =>
    rintro ⟨d, td⟩ i v u h tk I oI hv hP hlt hlt2 F' N'
    have hi0 : i = 0 := by
      have := (List.getElem?_eq_some_iff.mp hv).1
      simp [strValues] at this; omega
    subst hi0
    have hv' : v = .str x tl := (Option.some.inj hv).symm
    subst hv'
    have hd : d = Str.ofString "" := hP
    subst hd
    k_steps
    all_goals first | (exfalso; omega) | skip
    unfold Stopped
    rename Fr _ _ _ _ => F2
    rename News _ _ _ _ => N2
    refine' ksw_while (σ := Int × Tok × Str × Tok) (fun _ => _) (fun c => [(Str.ofString "i", .int c.1 c.2.1), (Str.ofString "decoded", .str c.2.2.1 c.2.2.2)]) (fun _ => True) [Str.ofString "c"] (fun c => ∃ j, DecAt x ts j c.1 c.2.2.1) (fun c => x.length - c.1.toNat) (0, _, Str.ofString "", _) ?wF ?wN ?wf ?wk ?wp ?wt ?wE
    case wF => exact F2
    case wN => exact N2
    case wf => exact trivial
    case wk => kst_all
    case wp => exact ⟨0, Nat.zero_le _, rfl, by rw [if_neg (by rw [hts]; simp)]; rfl⟩
    case wE => passes_own
    rintro ⟨i, ti, d, td⟩ u h tk _ ⟨j, hj, hi, hd⟩ F' N'
    dsimp only at F' N' hi hd
    have hxlen : x.length = (ts.flatMap Tk.enc).length := by rw [len_list, hx]
    rcases Nat.lt_or_ge j ts.length with hlt | hge
    · obtain ⟨k, hk⟩ : ∃ k, ts[j]? = some k := ⟨_, List.getElem?_eq_getElem hlt⟩
      have hes := enc_split hk
      rw [← hx] at hes
      have hte := take_enc hk
      have htd := take_dec hk
      have hkok := hok k (List.mem_of_getElem? hk)
      have hpre : ((ts.take j).flatMap Tk.enc).length + (k.enc.length + ((ts.drop (j + 1)).flatMap Tk.enc).length) = x.length := by rw [len_list, hes]; simp
      have hpost := after_zero hlt
      have hjle := take_le ts j hj
      have hdl : d.length ≤ 901 := by
        rw [len_list, hd, if_neg (by omega)]; simp; omega
      cases k with
      | ch c =>
        dsimp only [Tk.enc, List.length_cons, List.length_nil] at hpre
        have hcl : (⟨#[c]⟩ : Str).length = 1 := rfl
        have hi9 : i < (x.length : Int) := by omega
        have hi0 : Txt.item x i = ⟨#[c]⟩ := by rw [hi]; exact item_at hes
        have hc1 : ((⟨#[c]⟩ : Str) != Str.ofString "=") = true := by
          have h61 : c ≠ 61 := hkok.2.2
          rw [bne_iff_ne]
          intro e
          have e2 := congrArg (fun z => z.cps.toList) e
          have e3 : [c] = [61] := e2
          exact h61 (List.cons.inj e3).1
        k_steps
        all_goals first | (exfalso; omega) | skip
        · unfold Stopped
          dsimp only [KswPost]
          have hj1 : j + 1 = ts.length := by omega
          refine ksw_end (_, _, d ++ ⟨#[c]⟩ ++ Str.ofString "\n", _) (by assumption) (by assumption) (fun p hp => hp) trivial (by kst_all) (by intro z h2 h3; simp only [List.forall_mem_cons, List.not_mem_nil, false_implies, implies_true, and_true, ne_eq] at h2; simp only [List.contains_cons, List.contains_nil, Bool.or_false, Bool.or_eq_false_iff, beq_eq_false_iff_ne, ne_eq] at h3; simp [kstB, h2, h3]) ⟨j + 1, DecAt.step ⟨hj, hi, hd⟩ hk (by simp [Tk.enc]) (by rw [if_pos hj1, Str.cps_append, Str.cps_append]; simp [Tk.dec]; try rfl)⟩ (by dsimp only; omega)
        · unfold Stopped
          dsimp only [KswPost]
          have hj1 : ¬ j + 1 = ts.length := by omega
          refine ksw_end (_, _, d ++ ⟨#[c]⟩, _) (by assumption) (by assumption) (fun p hp => hp) trivial (by kst_all) (by intro z h2 h3; simp only [List.forall_mem_cons, List.not_mem_nil, false_implies, implies_true, and_true, ne_eq] at h2; simp only [List.contains_cons, List.contains_nil, Bool.or_false, Bool.or_eq_false_iff, beq_eq_false_iff_ne, ne_eq] at h3; simp [kstB, h2, h3]) ⟨j + 1, DecAt.step ⟨hj, hi, hd⟩ hk (by simp [Tk.enc]) (by rw [if_neg hj1, Str.cps_append]; simp [Tk.dec]; try rfl)⟩ (by dsimp only; omega)
      | dot =>
        dsimp only [Tk.enc, List.length_cons, List.length_nil] at hpre
        have hcl : (Str.ofString ".").length = 1 := by decide
        have hi9 : i < (x.length : Int) := by omega
        have hi0 : Txt.item x i = Str.ofString "=" := by rw [hi]; exact item_at hes
        have hi1 : Txt.item x (i + 1) = Str.ofString "2" := by
          have e := item_at (x := x) (pre := (ts.take j).flatMap Tk.enc ++ [61]) (c := 50) (post := 69 :: (ts.drop (j + 1)).flatMap Tk.enc) (by rw [hes]; simp [Tk.enc])
          have e2 : i + 1 = (((ts.take j).flatMap Tk.enc ++ [61]).length : Nat) := by simp [hi]
          rw [e2]; exact e
        have hi2 : Txt.item x (i + 2) = Str.ofString "E" := by
          have e := item_at (x := x) (pre := (ts.take j).flatMap Tk.enc ++ [61, 50]) (c := 69) (post := (ts.drop (j + 1)).flatMap Tk.enc) (by rw [hes]; simp [Tk.enc])
          have e2 : i + 2 = (((ts.take j).flatMap Tk.enc ++ [61, 50]).length : Nat) := by simp [hi]
          rw [e2]; exact e
        have hsl : Txt.slice x (some i) (some (i + 3)) = Str.ofString "=2E" := slice_at (mid := [61, 50, 69]) hes hi rfl
        have hh1 : Txt.contains (Str.ofString "0123456789abcdefABCDEF") (Str.ofString "2") = true := by decide +kernel
        have hh2 : Txt.contains (Str.ofString "0123456789abcdefABCDEF") (Str.ofString "E") = true := by decide +kernel
        k_steps
        all_goals first | (exfalso; omega) | skip
        · unfold Stopped
          dsimp only [KswPost]
          have hj1 : j + 1 = ts.length := by omega
          refine ksw_end (_, _, d ++ Str.ofString "." ++ Str.ofString "\n", _) (by assumption) (by assumption) (fun p hp => hp) trivial (by kst_all) (by intro z h2 h3; simp only [List.forall_mem_cons, List.not_mem_nil, false_implies, implies_true, and_true, ne_eq] at h2; simp only [List.contains_cons, List.contains_nil, Bool.or_false, Bool.or_eq_false_iff, beq_eq_false_iff_ne, ne_eq] at h3; simp [kstB, h2, h3]) ⟨j + 1, DecAt.step ⟨hj, hi, hd⟩ hk (by simp [Tk.enc]) (by rw [if_pos hj1, Str.cps_append, Str.cps_append]; simp [Tk.dec]; try rfl)⟩ (by dsimp only; omega)
        · unfold Stopped
          dsimp only [KswPost]
          have hj1 : ¬ j + 1 = ts.length := by omega
          refine ksw_end (_, _, d ++ Str.ofString ".", _) (by assumption) (by assumption) (fun p hp => hp) trivial (by kst_all) (by intro z h2 h3; simp only [List.forall_mem_cons, List.not_mem_nil, false_implies, implies_true, and_true, ne_eq] at h2; simp only [List.contains_cons, List.contains_nil, Bool.or_false, Bool.or_eq_false_iff, beq_eq_false_iff_ne, ne_eq] at h3; simp [kstB, h2, h3]) ⟨j + 1, DecAt.step ⟨hj, hi, hd⟩ hk (by simp [Tk.enc]) (by rw [if_neg hj1, Str.cps_append]; simp [Tk.dec]; try rfl)⟩ (by dsimp only; omega)
      | ask =>
        dsimp only [Tk.enc, List.length_cons, List.length_nil] at hpre
        have hcl : (Str.ofString "?").length = 1 := by decide
        have hi9 : i < (x.length : Int) := by omega
        have hi0 : Txt.item x i = Str.ofString "=" := by rw [hi]; exact item_at hes
        have hi1 : Txt.item x (i + 1) = Str.ofString "3" := by
          have e := item_at (x := x) (pre := (ts.take j).flatMap Tk.enc ++ [61]) (c := 51) (post := 70 :: (ts.drop (j + 1)).flatMap Tk.enc) (by rw [hes]; simp [Tk.enc])
          have e2 : i + 1 = (((ts.take j).flatMap Tk.enc ++ [61]).length : Nat) := by simp [hi]
          rw [e2]; exact e
        have hi2 : Txt.item x (i + 2) = Str.ofString "F" := by
          have e := item_at (x := x) (pre := (ts.take j).flatMap Tk.enc ++ [61, 51]) (c := 70) (post := (ts.drop (j + 1)).flatMap Tk.enc) (by rw [hes]; simp [Tk.enc])
          have e2 : i + 2 = (((ts.take j).flatMap Tk.enc ++ [61, 51]).length : Nat) := by simp [hi]
          rw [e2]; exact e
        have hsl : Txt.slice x (some i) (some (i + 3)) = Str.ofString "=3F" := slice_at (mid := [61, 51, 70]) hes hi rfl
        have hh1 : Txt.contains (Str.ofString "0123456789abcdefABCDEF") (Str.ofString "3") = true := by decide +kernel
        have hh2 : Txt.contains (Str.ofString "0123456789abcdefABCDEF") (Str.ofString "F") = true := by decide +kernel
        k_steps
        all_goals first | (exfalso; omega) | skip
        · unfold Stopped
          dsimp only [KswPost]
          have hj1 : j + 1 = ts.length := by omega
          refine ksw_end (_, _, d ++ Str.ofString "?" ++ Str.ofString "\n", _) (by assumption) (by assumption) (fun p hp => hp) trivial (by kst_all) (by intro z h2 h3; simp only [List.forall_mem_cons, List.not_mem_nil, false_implies, implies_true, and_true, ne_eq] at h2; simp only [List.contains_cons, List.contains_nil, Bool.or_false, Bool.or_eq_false_iff, beq_eq_false_iff_ne, ne_eq] at h3; simp [kstB, h2, h3]) ⟨j + 1, DecAt.step ⟨hj, hi, hd⟩ hk (by simp [Tk.enc]) (by rw [if_pos hj1, Str.cps_append, Str.cps_append]; simp [Tk.dec]; try rfl)⟩ (by dsimp only; omega)
        · unfold Stopped
          dsimp only [KswPost]
          have hj1 : ¬ j + 1 = ts.length := by omega
          refine ksw_end (_, _, d ++ Str.ofString "?", _) (by assumption) (by assumption) (fun p hp => hp) trivial (by kst_all) (by intro z h2 h3; simp only [List.forall_mem_cons, List.not_mem_nil, false_implies, implies_true, and_true, ne_eq] at h2; simp only [List.contains_cons, List.contains_nil, Bool.or_false, Bool.or_eq_false_iff, beq_eq_false_iff_ne, ne_eq] at h3; simp [kstB, h2, h3]) ⟨j + 1, DecAt.step ⟨hj, hi, hd⟩ hk (by simp [Tk.enc]) (by rw [if_neg hj1, Str.cps_append]; simp [Tk.dec]; try rfl)⟩ (by dsimp only; omega)
      | star =>
        dsimp only [Tk.enc, List.length_cons, List.length_nil] at hpre
        have hcl : (Str.ofString "*").length = 1 := by decide
        have hi9 : i < (x.length : Int) := by omega
        have hi0 : Txt.item x i = Str.ofString "=" := by rw [hi]; exact item_at hes
        have hi1 : Txt.item x (i + 1) = Str.ofString "2" := by
          have e := item_at (x := x) (pre := (ts.take j).flatMap Tk.enc ++ [61]) (c := 50) (post := 65 :: (ts.drop (j + 1)).flatMap Tk.enc) (by rw [hes]; simp [Tk.enc])
          have e2 : i + 1 = (((ts.take j).flatMap Tk.enc ++ [61]).length : Nat) := by simp [hi]
          rw [e2]; exact e
        have hi2 : Txt.item x (i + 2) = Str.ofString "A" := by
          have e := item_at (x := x) (pre := (ts.take j).flatMap Tk.enc ++ [61, 50]) (c := 65) (post := (ts.drop (j + 1)).flatMap Tk.enc) (by rw [hes]; simp [Tk.enc])
          have e2 : i + 2 = (((ts.take j).flatMap Tk.enc ++ [61, 50]).length : Nat) := by simp [hi]
          rw [e2]; exact e
        have hsl : Txt.slice x (some i) (some (i + 3)) = Str.ofString "=2A" := slice_at (mid := [61, 50, 65]) hes hi rfl
        have hh1 : Txt.contains (Str.ofString "0123456789abcdefABCDEF") (Str.ofString "2") = true := by decide +kernel
        have hh2 : Txt.contains (Str.ofString "0123456789abcdefABCDEF") (Str.ofString "A") = true := by decide +kernel
        k_steps
        all_goals first | (exfalso; omega) | skip
        · unfold Stopped
          dsimp only [KswPost]
          have hj1 : j + 1 = ts.length := by omega
          refine ksw_end (_, _, d ++ Str.ofString "*" ++ Str.ofString "\n", _) (by assumption) (by assumption) (fun p hp => hp) trivial (by kst_all) (by intro z h2 h3; simp only [List.forall_mem_cons, List.not_mem_nil, false_implies, implies_true, and_true, ne_eq] at h2; simp only [List.contains_cons, List.contains_nil, Bool.or_false, Bool.or_eq_false_iff, beq_eq_false_iff_ne, ne_eq] at h3; simp [kstB, h2, h3]) ⟨j + 1, DecAt.step ⟨hj, hi, hd⟩ hk (by simp [Tk.enc]) (by rw [if_pos hj1, Str.cps_append, Str.cps_append]; simp [Tk.dec]; try rfl)⟩ (by dsimp only; omega)
        · unfold Stopped
          dsimp only [KswPost]
          have hj1 : ¬ j + 1 = ts.length := by omega
          refine ksw_end (_, _, d ++ Str.ofString "*", _) (by assumption) (by assumption) (fun p hp => hp) trivial (by kst_all) (by intro z h2 h3; simp only [List.forall_mem_cons, List.not_mem_nil, false_implies, implies_true, and_true, ne_eq] at h2; simp only [List.contains_cons, List.contains_nil, Bool.or_false, Bool.or_eq_false_iff, beq_eq_false_iff_ne, ne_eq] at h3; simp [kstB, h2, h3]) ⟨j + 1, DecAt.step ⟨hj, hi, hd⟩ hk (by simp [Tk.enc]) (by rw [if_neg hj1, Str.cps_append]; simp [Tk.dec]; try rfl)⟩ (by dsimp only; omega)
    · have hj2 : j = ts.length := by omega
      have hi9 : ¬ i < (x.length : Int) := by
        rw [hj2, List.take_length] at hi
        omega
      rw [hj2, List.take_length, if_pos rfl] at hd
      k_steps
      dsimp only [FlPost]
      refine fl_end (d, td) (by assumption) (by assumption) (by kst_in) (by kst_all) (by intro z h1 h2 h3; simp only [List.forall_mem_cons, List.not_mem_nil, false_implies, implies_true, and_true, ne_eq] at h2; simp only [List.contains_cons, List.contains_nil, Bool.or_false, Bool.or_eq_false_iff, beq_eq_false_iff_ne, ne_eq] at h3; simp [kstB, h1, h2, h3]) hd
  case done =>
    rintro ⟨d, td⟩ u h tk hP F' N'
    have hd : d.cps.toList = ts.map Tk.dec ++ [10] := hP
    dsimp only at F' N'
    have hdl : d.length ≤ 901 := by
      have h9 := take_le ts ts.length (Nat.le_refl _)
      rw [List.take_length] at h9
      rw [len_list] at hlen
      rw [len_list, hd]; rw [hx] at hlen; simp; omega
    have hS : Txt.slice d none (some (-1)) = ⟨(ts.map Tk.dec).toArray⟩ := slice_butlast hd
    have hE : Txt.endswith d (Str.ofString "\n") = true := ends_nl hd
    k_steps
    exact ret _ _ _ (Fr.keep (by assumption)) ⟨_, rfl⟩
theorem escape_dot (t : Tok) : Spec 164 380 400 [.str (Str.ofString ".") t] (fun _ => True) (fun _ _ r => ∃ t, r = .str (Str.ofString "\\.") t) := by
  unfold Spec
  k_fill
  intro w p loose mean mg mb A₀ base outer s Q E B X T pre ret
  refine' enter_def (binds := [(Str.ofString "pattern", .str (Str.ofString ".") t)]) X T ?k6 ?k7 ?k8 ?k9 ?kB ?_ ?c2 ?c3 ?c4 ?c5
  case k6 => k_is
  case k7 => k_is
  case k8 => k_room
  case k9 => exact BindsTo.of_eq rfl
  case kB => exact locs rfl
  case c2 => exact rfl
  case c3 => exact rfl
  case c4 => exact rfl
  case c5 => decide
  intro L' h' F' N'
  try dsimp only
  try k_fold
  w_on
  have hlook : Looks1 s.heap 154 46 (some (Str.ofString "\\.")) := by
    refine' looks_some X ?l ?k ?f
    case l => k_is
    case k => decide +kernel
    case f => decide +kernel
  k_steps
  exact ret _ _ _ (Fr.keep (by assumption)) ⟨_, rfl⟩
theorem escape_keep (c : Nat) (t : Tok) (hc : c ∈ [97, 47, 61, 50, 51, 69, 70, 65]) : Spec 164 380 400 [.str ⟨#[c]⟩ t] (fun _ => True) (fun _ _ r => ∃ t, r = .str ⟨#[c]⟩ t) := by
  have hc128 : c < 128 := by
    simp only [List.mem_cons, List.not_mem_nil, or_false] at hc
    omega
  unfold Spec
  k_fill
  intro w p loose mean mg mb A₀ base outer s Q E B X T pre ret
  refine' enter_def (binds := [(Str.ofString "pattern", .str ⟨#[c]⟩ t)]) X T ?k6 ?k7 ?k8 ?k9 ?kB ?_ ?c2 ?c3 ?c4 ?c5
  case k6 => k_is
  case k7 => k_is
  case k8 => k_room
  case k9 => exact BindsTo.of_eq rfl
  case kB => exact locs rfl
  case c2 => exact rfl
  case c3 => exact rfl
  case c4 => exact rfl
  case c5 => decide
  intro L' h' F' N'
  try dsimp only
  try k_fold
  w_on
  have hlook : Looks1 s.heap 154 c none := by
    refine' looks_none X ?l ?k ?f
    case l => k_is
    case k => decide +kernel
    case f =>
      simp only [List.mem_cons, List.not_mem_nil, or_false] at hc
      rcases hc with rfl | rfl | rfl | rfl | rfl | rfl | rfl | rfl <;> decide +kernel
  k_steps
  exact ret _ _ _ (Fr.keep (by assumption)) ⟨_, rfl⟩
theorem tr_item {x : Str} {j : Nat} {c : Nat} (h : x.cps.toList[j]? = some c) : Txt.item x (j : Int) = ⟨#[c]⟩ := by
  have hlt := (List.getElem?_eq_some_iff.mp h).1
  have h1 := List.take_append_drop j x.cps.toList
  have h2 : x.cps.toList.drop j = c :: x.cps.toList.drop (j + 1) := by rw [List.drop_eq_getElem_cons hlt, (List.getElem?_eq_some_iff.mp h).2]
  have h3 : x.cps.toList = x.cps.toList.take j ++ (c :: x.cps.toList.drop (j + 1)) := by rw [← h2, h1]
  have e := item_at h3
  rw [List.length_take, Nat.min_eq_left (by omega)] at e
  exact e
def TrAt (x : Str) (l : List (Option (Str × Tok))) (i : Int) : Prop := ∃ j : Nat, j ≤ x.length ∧ i = j ∧ trN l = trOf (x.cps.toList.take j)
theorem pick3 {h₀ h : Heap} {L a b d : Addr} {o q : Obj} {P : Prop} (N : News h₀ L h [(a, o), (b, bndObj d), (d, q)]) (k : ∀ a' o' b' d', a' = a → o' = o → b' = b → d' = d → News h₀ L h [(a', o'), (b', bndObj d'), (d', q)] → P) : P := k _ _ _ _ rfl rfl rfl rfl N
local macro_rules | `(tactic| walk_at "getAttr ref") => `(tactic| (k_here; (show wpAny _ _ (getAttr (Value.ref _) (Str.ofString "append") true) _ _ _); k_dflt (refine' getAttr_append_K ?F ?N ?m ?_; (case F => k_asm); (case N => k_asm); (case m => k_mem); k_whole); intro x' h' tk' F' N' l1; (try k_lt l1); (try k_sweep); (try dsimp only)))
local macro_rules | `(tactic| walk_at "callWith ref") => `(tactic| (k_here; (with_reducible show wpAny _ _ (callWith _ (Value.ref _) _ (backTo _ (starEach (_ :: _) _)) []) _ _ _); k_dflt (refine' bnd_callWith ?N ?M ?_; (case N => k_asm); (case M => k_mem); k_whole)))
local macro_rules | `(tactic| walk_at "And") => `(tactic| ((with_reducible show BndAt _ _ _ ∧ _); k_dflt (refine ⟨BndAt.of (by k_asm) (by k_mem), ?_⟩); (try dsimp only [List.nil_append, List.cons_append])))
local macro_rules | `(tactic| walk_at "BndAt") => `(tactic| (k_dflt (exact BndAt.of (by k_asm) (by k_mem))))
local macro_rules | `(tactic| walk_at "call ref") => `(tactic| (k_here; (with_reducible show wpAny _ _ (call (Value.ref _) [_]) _ _ _); k_dflt (first
  | (refine' tr_add (p := none) rfl ?F ?N ?x ?U ?z ?_; (case F => k_asm); (case N => k_asm); (case x => k_mem); (case U => k_upd); (case z => omega); k_whole)
  | (refine' tr_add (p := some (_, _)) rfl ?F ?N ?x ?U ?z ?_; (case F => k_asm); (case N => k_asm); (case x => k_mem); (case U => k_upd); (case z => omega); k_whole)); intro h' F' N'; (try k_sweep); (try dsimp only)))
local macro_rules | `(tactic| walk_at "call ref") => `(tactic| (k_here; (with_reducible show wpAny _ _ (call (Value.ref 164) [Value.str _ _]) _ _ _); k_dflt (first
  | refine' Spec.use (escape_dot _) ?B ?F ?X ?N ?T rfl rfl (Nat.le_of_ble_eq_true rfl) rfl rfl (Nat.le_of_ble_eq_true rfl) trivial ?_
  | refine' Spec.use (escape_keep _ _ (by assumption)) ?B ?F ?X ?N ?T rfl rfl (Nat.le_of_ble_eq_true rfl) rfl rfl (Nat.le_of_ble_eq_true rfl) trivial ?_); (case B => k_asm); (case F => k_asm); (case X => k_asm); (case N => k_asm); (case T => k_asm); intro r' h' tk' F' N' hg' ho'; (obtain ⟨t', hr'⟩ := ho'); subst hr'; (try k_sweep); (try dsimp only)))
local macro_rules | `(tactic| walk_at "truthy ref") => `(tactic| (k_here; (with_reducible show wpAny _ _ (PySem.truthy (Value.ref _)) _ _ _); k_dflt (first | (refine' tr_nil ?N ?m ?_; (case N => k_asm); (case m => k_mem)) | (refine' tr_snoc ?N ?m ?z ?_; (case N => k_asm); (case m => k_mem); (case z => omega))); intro tk'; (try dsimp only)))
local macro_rules | `(tactic| walk_at "subscriptTail Name UnaryOp ref int") => `(tactic| (k_here; (with_reducible show wpAny _ _ (subscriptTail _ _ (Value.ref _) (Value.int _ _)) _ _ _); k_dflt (refine' tr_last ?N ?m ?_ ?s; (case N => k_asm); (case m => k_mem); (case s => with_unfolding_all rfl); (try dsimp only [trV]))))
local macro_rules | `(tactic| walk_at "compareOp IsNot str ref") => `(tactic| (k_here; refine wpAny_isNot_other (by rfl) (by intro x; cases x) ?_))
local macro_rules | `(tactic| walk_at "compareOp IsNot") => `(tactic| (k_here; (with_reducible show wpAny _ _ (compareOp CmpOp.IsNot (Value.str _ _) (Value.ref _)) _ _ _); refine wpAny_isNot_other (by rfl) (by intro x; cases x) ?_))
theorem tr_spec (x : Str) (t tq : Tok) (S : Addr) (hx : x.length ≤ 900) (hok : ∀ c ∈ x.cps.toList, c ∈ [42, 63, 46, 97, 47, 61, 50, 51, 69, 70, 65]) : Spec 171 360 300 [.str x t, .ref S, .str (Str.ofString ".") tq] (fun h => ∃ o, h.get? S = some o)
    (fun h0 h r => ∃ a l n, r = .ref a ∧ h0.get? a = none ∧ h.get? a = some (trO S l n) ∧ trN l = trOf x.cps.toList) := by
  unfold Spec
  k_fill
  intro w p loose mean mg mb A₀ base outer s Q E B X T pre ret
  refine' enter_def (binds := [(Str.ofString "pat", .str x t), (Str.ofString "STAR", .ref S), (Str.ofString "QUESTION_MARK", .str (Str.ofString ".") tq)]) X T ?k6 ?k7 ?k8 ?k9 ?kB ?_ ?c2 ?c3 ?c4 ?c5
  case k6 => k_is
  case k7 => k_is
  case k8 => k_room
  case k9 => exact BindsTo.of_eq rfl
  case kB => exact locs rfl
  case c2 => exact rfl
  case c3 => exact rfl
  case c4 => exact rfl
  case c5 => decide
  intro L' h' F' N'
  try dsimp only
  try k_fold
  w_on
  have hx63 : (x.length : Int) < 9223372036854775808 := by omega
  k_steps
  unfold Stopped
  rename Fr _ _ _ _ => F1
  rename News _ _ _ _ => N1
  refine pick3 N1 ?_
  intro T0 O0 X0 D0 e1 e2 e3 e4 N9
  clear e2
  subst e1 e3 e4
  refine' ksw_while (σ := List (Option (Str × Tok)) × Nat × Int × Tok) (fun c => [(T0, O0), (X0, bndObj D0), (D0, trO S c.1 c.2.1)]) (fun c => [(Str.ofString "i", .int c.2.2.1 c.2.2.2)]) (fun _ => True) [Str.ofString "c"] (fun c => TrAt x c.1 c.2.2.1) (fun c => x.length - c.2.2.1.toNat) ([], 0, 0, _) ?wF ?wN ?wf ?wk ?wp ?wt ?wE
  case wF => exact F1
  case wN => exact N9
  case wf => exact trivial
  case wk => kst_all
  case wp => exact ⟨0, Nat.zero_le _, rfl, rfl⟩
  case wE => passes_own
  rintro ⟨l, n, i, ti⟩ u h tk _ ⟨j, hj, hi, hl⟩ F' N'
  dsimp only at F' N' hi hl
  have hll : l.length ≤ 900 := by
    have h1 := trOf_len (x.cps.toList.take j)
    rw [← hl, trN_len, List.length_take] at h1
    omega
  rcases Nat.lt_or_ge j x.length with hlt | hge
  · obtain ⟨c, hc⟩ : ∃ c, x.cps.toList[j]? = some c := ⟨_, List.getElem?_eq_getElem (by rw [← len_list]; exact hlt)⟩
    have hstep := trOf_take hc
    have hcl : (⟨#[c]⟩ : Str).length = 1 := rfl
    have hi9 : i < (x.length : Int) := by omega
    have hi0 : Txt.item x i = ⟨#[c]⟩ := by rw [hi]; exact tr_item hc
    have hcok := hok c (List.mem_of_getElem? hc)
    have fin : ∀ l', trN l' = trStep (trN l) c → TrAt x l' (i + 1) := fun l' e => ⟨j + 1, hlt, by omega, by rw [e, hl, hstep]⟩
    by_cases h42 : c = 42
    · subst h42
      have hi1 : Txt.item x i = Str.ofString "*" := hi0
      clear hi0
      rcases nil_or_snoc l with rfl | ⟨y, p, rfl⟩
      · k_steps
        unfold Stopped
        dsimp only [KswPost]
        refine ksw_end ([none], _, _, _) (by assumption) (by assumption) (fun p hp => hp) trivial (by kst_all) (by intro z h2 h3; simp only [List.forall_mem_cons, List.not_mem_nil, false_implies, implies_true, and_true, ne_eq] at h2; simp only [List.contains_cons, List.contains_nil, Bool.or_false, Bool.or_eq_false_iff, beq_eq_false_iff_ne, ne_eq] at h3; simp [kstB, h2, h3]) (fin _ (by first | rfl | simp [trN, trStep])) (by dsimp only; omega)
      · have hyl : y.length ≤ 900 := by simp only [List.length_append, List.length_cons, List.length_nil] at hll; omega
        have hlast := trN_last y p
        cases p with
        | none =>
          k_steps
          unfold Stopped
          dsimp only [KswPost]
          refine ksw_end (y ++ [none], _, _, _) (by assumption) (by assumption) (fun p hp => hp) trivial (by kst_all) (by intro z h2 h3; simp only [List.forall_mem_cons, List.not_mem_nil, false_implies, implies_true, and_true, ne_eq] at h2; simp only [List.contains_cons, List.contains_nil, Bool.or_false, Bool.or_eq_false_iff, beq_eq_false_iff_ne, ne_eq] at h3; simp [kstB, h2, h3]) (fin _ (by unfold trStep; rw [if_pos rfl, if_pos (show _ = some none from hlast)])) (by dsimp only; omega)
        | some p =>
          obtain ⟨py, pt⟩ := p
          k_steps
          unfold Stopped
          dsimp only [KswPost]
          refine ksw_end (y ++ [some (py, pt)] ++ [none], _, _, _) (by assumption) (by assumption) (fun p hp => hp) trivial (by kst_all) (by intro z h2 h3; simp only [List.forall_mem_cons, List.not_mem_nil, false_implies, implies_true, and_true, ne_eq] at h2; simp only [List.contains_cons, List.contains_nil, Bool.or_false, Bool.or_eq_false_iff, beq_eq_false_iff_ne, ne_eq] at h3; simp [kstB, h2, h3]) (fin _ (by unfold trStep; rw [if_pos rfl, if_neg (by rw [hlast]; simp), trN_snoc]; rfl)) (by dsimp only; omega)
    · by_cases h63 : c = 63
      · subst h63
        have hi1 : Txt.item x i = Str.ofString "?" := hi0
        clear hi0
        k_steps
        unfold Stopped
        dsimp only [KswPost]
        refine ksw_end (l ++ [some (Str.ofString ".", _)], _, _, _) (by assumption) (by assumption) (fun p hp => hp) trivial (by kst_all) (by intro z h2 h3; simp only [List.forall_mem_cons, List.not_mem_nil, false_implies, implies_true, and_true, ne_eq] at h2; simp only [List.contains_cons, List.contains_nil, Bool.or_false, Bool.or_eq_false_iff, beq_eq_false_iff_ne, ne_eq] at h3; simp [kstB, h2, h3]) (fin _ (by unfold trStep; rw [if_neg (by decide), trN_snoc]; rfl)) (by dsimp only; omega)
      · by_cases h46 : c = 46
        · subst h46
          have hi1 : Txt.item x i = Str.ofString "." := hi0
          clear hi0
          k_steps
          unfold Stopped
          dsimp only [KswPost]
          refine ksw_end (l ++ [some (Str.ofString "\\.", _)], _, _, _) (by assumption) (by assumption) (fun p hp => hp) trivial (by kst_all) (by intro z h2 h3; simp only [List.forall_mem_cons, List.not_mem_nil, false_implies, implies_true, and_true, ne_eq] at h2; simp only [List.contains_cons, List.contains_nil, Bool.or_false, Bool.or_eq_false_iff, beq_eq_false_iff_ne, ne_eq] at h3; simp [kstB, h2, h3]) (fin _ (by unfold trStep; rw [if_neg (by decide), trN_snoc]; rfl)) (by dsimp only; omega)
        · have hkeep : c ∈ [97, 47, 61, 50, 51, 69, 70, 65] := by
            simp only [List.mem_cons, List.not_mem_nil, or_false] at hcok ⊢
            omega
          have n1 : ∀ d : Nat, c ≠ d → ((⟨#[c]⟩ : Str) == ⟨#[d]⟩) = false := fun d hd => by
            rw [beq_eq_false_iff_ne]
            intro e
            have e2 := congrArg (fun z => z.cps.toList) e
            have e3 : [c] = [d] := e2
            exact hd (List.cons.inj e3).1
          have n42 : ((⟨#[c]⟩ : Str) == Str.ofString "*") = false := n1 42 h42
          have n63 : ((⟨#[c]⟩ : Str) == Str.ofString "?") = false := n1 63 h63
          have n91 : ((⟨#[c]⟩ : Str) == Str.ofString "[") = false := n1 91 (by simp only [List.mem_cons, List.not_mem_nil, or_false] at hkeep; omega)
          clear n1
          k_steps
          unfold Stopped
          dsimp only [KswPost]
          refine ksw_end (l ++ [some (⟨#[c]⟩, _)], _, _, _) (by assumption) (by assumption) (fun p hp => hp) trivial (by kst_all) (by intro z h2 h3; simp only [List.forall_mem_cons, List.not_mem_nil, false_implies, implies_true, and_true, ne_eq] at h2; simp only [List.contains_cons, List.contains_nil, Bool.or_false, Bool.or_eq_false_iff, beq_eq_false_iff_ne, ne_eq] at h3; simp [kstB, h2, h3]) (fin _ (by unfold trStep; rw [if_neg h42, trN_snoc]; simp [trP, h63, h46])) (by dsimp only; omega)
  · have hj2 : j = x.length := by omega
    have hi9 : ¬ i < (x.length : Int) := by omega
    have hi8 : i = (x.length : Int) := by omega
    rw [hj2, len_list, List.take_length] at hl
    k_steps
    exact ret _ _ _ (Fr.keep (by assumption)) ⟨D0, l, n, rfl, (N' (D0, trO S l n) (by simp)).2.2, N'.get (by simp), hl⟩
/-- the parts of a row that begins with STAR and has a plain part after every STAR -/
def grp (fs : List (List (Str × Tok))) : List (Option (Str × Tok)) := fs.flatMap fun f => none :: f.map some
def jnPiece (last : Bool) (f : List Str) : List Str := if last then [Str.ofString ".*", Txt.join (Str.ofString "") f] else [Str.ofString "(?>.*?" ++ Txt.join (Str.ofString "") f ++ Str.ofString ")"]
def jnRes (fs : List (List Str)) (g : Nat) : List Str := (List.range g).flatMap fun k => jnPiece (k + 1 == fs.length) (fs[k]?.getD [])
def jnNames (fs : List (List (Str × Tok))) : List (List Str) := fs.map fun f => f.map (·.1)
def jnText (fs : List (List (Str × Tok))) : Str := Str.ofString "(?s:" ++ Txt.join (Str.ofString "") (jnRes (jnNames fs) fs.length) ++ Str.ofString ")\\Z"
def JnAt (fs : List (List (Str × Tok))) (g : Nat) (kp : List (Str × Tok)) (i : Int) : Prop := g ≤ fs.length ∧ i = ((grp (fs.take g)).length : Nat) ∧ kp.map (·.1) = jnRes (jnNames fs) g
theorem jnRes_succ (fs : List (List Str)) (g : Nat) : jnRes fs (g + 1) = jnRes fs g ++ jnPiece (g + 1 == fs.length) (fs[g]?.getD []) := by simp [jnRes, List.range_succ]
theorem grp_take {fs : List (List (Str × Tok))} {g : Nat} {f : List (Str × Tok)} (h : fs[g]? = some f) : (grp (fs.take (g + 1))).length = (grp (fs.take g)).length + (1 + f.length) := by
  rw [List.take_add_one, h]; simp [grp]; omega
theorem JnAt.step {fs : List (List (Str × Tok))} {g : Nat} {kp kp' : List (Str × Tok)} {i i' : Int} {f : List (Str × Tok)} (h : JnAt fs g kp i) (hf : fs[g]? = some f) (hi : i' = i + 1 + (f.length : Int))
    (hk : kp'.map (·.1) = kp.map (·.1) ++ jnPiece (g + 1 == fs.length) (f.map (·.1))) : JnAt fs (g + 1) kp' i' := by
  obtain ⟨a, b, c⟩ := h
  refine ⟨(List.getElem?_eq_some_iff.mp hf).1, ?_, ?_⟩
  · rw [grp_take hf, hi, b]; push_cast; omega
  · have e : (jnNames fs)[g]? = some (f.map (·.1)) := by simp [jnNames, hf]
    have e2 : (jnNames fs).length = fs.length := by simp [jnNames]
    rw [hk, c, jnRes_succ, e, e2]; rfl
theorem pick1 {h₀ h : Heap} {L l : Addr} {o : Obj} {rest : List (Addr × Obj)} {P : Prop} (N : News h₀ L h ((l, o) :: rest)) (k : ∀ l', l' = l → News h₀ L h ((l', o) :: rest) → P) : P := k _ rfl N
theorem grp_split {fs : List (List (Str × Tok))} {g : Nat} {f : List (Str × Tok)} (h : fs[g]? = some f) : grp fs = grp (fs.take g) ++ (none :: (f.map some ++ grp (fs.drop (g + 1)))) := by
  have h1 := List.take_append_drop g fs
  have hlt := (List.getElem?_eq_some_iff.mp h).1
  have h2 : fs.drop g = f :: fs.drop (g + 1) := by rw [List.drop_eq_getElem_cons hlt, (List.getElem?_eq_some_iff.mp h).2]
  conv => lhs; rw [← h1, h2]
  simp [grp]
theorem grp_after_zero {fs : List (List (Str × Tok))} {g : Nat} (hlt : g < fs.length) : (grp (fs.drop (g + 1))).length = 0 ↔ g + 1 = fs.length := by
  constructor
  · intro h
    cases e : fs.drop (g + 1) with
    | nil => have := List.drop_eq_nil_iff.mp e; omega
    | cons a r =>
      rw [e] at h
      simp [grp] at h
  · intro h
    rw [List.drop_eq_nil_of_le (by omega)]; rfl
theorem jnRes_len (fs : List (List Str)) : ∀ g, g < fs.length → (jnRes fs g).length = g
  | 0, _ => rfl
  | g + 1, h => by
    have ih := jnRes_len fs g (by omega)
    have e : (g + 1 == fs.length) = false := by rw [beq_eq_false_iff_ne]; omega
    rw [jnRes_succ, List.length_append, ih, e]; simp [jnPiece]
theorem grp_len : ∀ fs : List (List (Str × Tok)), fs.length ≤ (grp fs).length
  | [] => Nat.le_refl _
  | f :: r => by
    have ih := grp_len r
    have e : (grp (f :: r)).length = 1 + f.length + (grp r).length := by simp [grp]; omega
    rw [e, List.length_cons]; omega
theorem grp_next {fs : List (List (Str × Tok))} {g : Nat} {f : List (Str × Tok)} (h : fs[g]? = some f) (hl : g + 1 ≠ fs.length) : (grp fs)[(grp (fs.take g)).length + (1 + f.length)]? = some none := by
  have hlt := (List.getElem?_eq_some_iff.mp h).1
  obtain ⟨q, qs, hq⟩ : ∃ q qs, fs.drop (g + 1) = q :: qs := List.exists_cons_of_ne_nil (by intro e; rw [List.drop_eq_nil_iff] at e; omega)
  have h0 : (grp (fs.drop (g + 1)))[0]? = some none := by rw [hq]; rfl
  rw [grp_split h, List.getElem?_append_right (by omega), show (grp (fs.take g)).length + (1 + f.length) - (grp (fs.take g)).length = f.length + 1 by omega, List.getElem?_cons_succ, List.getElem?_append_right (by simp)]
  simpa using h0
theorem join_len_nil {l : List Str} {c : Nat} (h : ∀ y ∈ l, y.length ≤ c) : (Txt.join (Str.ofString "") l).length ≤ l.length * c := by
  have a := sum_le h
  have z : (Str.ofString "").length = 0 := by decide
  have d : (Txt.join (Str.ofString "") l).length ≤ (l.map (·.length)).sum + l.length * (Str.ofString "").length := by
    show (Builtin.Str.glued (Str.ofString "") l).length ≤ _
    rw [StrLaws.glued_eq_join]
    exact StrLaws.join_length_le _ l
  rw [z, Nat.mul_zero, Nat.add_zero] at d
  omega
theorem grp_mem_len {fs : List (List (Str × Tok))} {f : List (Str × Tok)} (h : f ∈ fs) : f.length ≤ (grp fs).length := by
  obtain ⟨k, hk⟩ := List.getElem?_of_mem h
  rw [grp_split hk]; simp; omega
theorem jnPiece_len {b : Bool} {f : List Str} {y : Str} (hf : f.length ≤ 900) (h : ∀ z ∈ f, z.length ≤ 10) (hy : y ∈ jnPiece b f) : y.length ≤ 9200 := by
  have j := join_len_nil h
  have a1 : (Str.ofString ".*").length = 2 := by decide
  have a2 : (Str.ofString "(?>.*?").length = 6 := by decide
  have a3 : (Str.ofString ")").length = 1 := by decide
  cases b with
  | true =>
    have hy : y ∈ [Str.ofString ".*", Txt.join (Str.ofString "") f] := hy
    simp only [List.mem_cons, List.not_mem_nil, or_false] at hy
    rcases hy with rfl | rfl <;> omega
  | false =>
    have hy : y ∈ [Str.ofString "(?>.*?" ++ Txt.join (Str.ofString "") f ++ Str.ofString ")"] := hy
    simp only [List.mem_cons, List.not_mem_nil, or_false] at hy
    subst hy
    rw [Str.length_append, Str.length_append]; omega
theorem jnRes_mem {fs : List (List (Str × Tok))} (hb : ∀ f ∈ fs, ∀ p ∈ f, p.1.length ≤ 10) (hlen : (grp fs).length ≤ 900) {g : Nat} {y : Str} (hy : y ∈ jnRes (jnNames fs) g) : y.length ≤ 9200 := by
  unfold jnRes at hy
  obtain ⟨k, _, hy⟩ := List.mem_flatMap.mp hy
  cases e : fs[k]? with
  | none =>
    have e2 : (jnNames fs)[k]? = none := by simp only [jnNames, List.getElem?_map, e]; rfl
    rw [e2] at hy
    have hz9 : ∀ z ∈ ([] : List Str), z.length ≤ 10 := fun z hz => absurd hz List.not_mem_nil
    exact jnPiece_len (Nat.zero_le _) hz9 hy
  | some f =>
    have e2 : (jnNames fs)[k]? = some (f.map (·.1)) := by simp only [jnNames, List.getElem?_map, e]; rfl
    have hm := List.mem_of_getElem? e
    have hl := grp_mem_len hm
    rw [e2] at hy
    have hf9 : (f.map (·.1)).length ≤ 900 := by rw [List.length_map]; exact Nat.le_trans hl hlen
    have hz9 : ∀ z ∈ f.map (·.1), z.length ≤ 10 := by
      intro z hz
      obtain ⟨p, hp, rfl⟩ := List.mem_map.mp hz
      exact hb f hm p hp
    exact jnPiece_len hf9 hz9 hy
theorem jnRes_full {fs : List (List Str)} (h : fs ≠ []) : (jnRes fs fs.length).length = fs.length + 1 := by
  obtain ⟨n, hn⟩ : ∃ n, fs.length = n + 1 := ⟨fs.length - 1, by have := List.length_pos_iff.mpr h; omega⟩
  have e : (n + 1 == fs.length) = true := by rw [hn]; exact beq_self_eq_true _
  rw [hn, jnRes_succ, List.length_append, jnRes_len fs n (by omega), e]; simp [jnPiece]
local macro_rules | `(tactic| walk_at "call ref") => `(tactic| (k_here; (with_reducible show wpAny _ _ (call (Value.ref _) [Value.str _ _]) _ _ _); k_dflt (refine' tx_add ?F ?N ?x ?U ?z ?_; (case F => k_asm); (case N => k_asm); (case x => k_mem); (case U => k_upd); (case z => first | omega | ((try simp only [List.length_append, List.length_cons, List.length_nil] at *); omega)); k_whole); intro h' F' N'; (try k_sweep); (try dsimp only)))
local macro_rules | `(tactic| walk_at "subscriptTail Name Name ref int") => `(tactic| (k_here; (with_reducible show wpAny _ _ (subscriptTail _ _ (Value.ref _) (Value.int _ _)) _ _ _); (first | (k_dflt (refine' tr_at ?l ?h0 ?h1 ?p ?_ ?s; (case l => kmk_list); (case h0 => omega); (case h1 => omega); (case p => assumption); (case s => with_unfolding_all rfl)); (try dsimp only [trV])) | (refine stop ?_))))
local macro_rules | `(tactic| walk_at "call builtin:len") => `(tactic| (k_here; (with_reducible show wpAny _ _ (call (Value.builtin "len") [Value.ref _]) _ _ _); k_dflt (refine' tr_len ?l ?z ?_; (case l => kmk_list); (case z => omega)); intro t' k'; (try dsimp only)))
local macro_rules | `(tactic| walk_at "exec While BoolOp cons nil") => `(tactic| (refine stop ?_))
local macro_rules | `(tactic| walk_at "call builtin:str.join") => `(tactic| (k_here; k_dflt (refine' join_T2 ?l ?o ?z ?_; (case l => kmk_list); (case o => assumption); (case z => assumption); k_whole); intro Z' t' k' hZ' hZl'; (try dsimp only)))
theorem jn_spec (a S : Addr) (n : Nat) (fs : List (List (Str × Tok))) (h1 : fs ≠ []) (h2 : ∀ f ∈ fs, f ≠ []) (hb : ∀ f ∈ fs, ∀ p ∈ f, p.1.length ≤ 10) (hlen : (grp fs).length ≤ 900) : Spec 178 360 300 [.ref a, .ref S] (fun h => h.get? a = some (trO S (grp fs) n) ∧ ∃ o, h.get? S = some o)
    (fun _ _ r => ∃ t, r = .str (jnText fs) t) := by
  unfold Spec
  k_fill
  intro w p loose mean mg mb A₀ base outer s Q E B X T pre ret
  refine' enter_def (binds := [(Str.ofString "inp", .ref a), (Str.ofString "STAR", .ref S)]) X T ?k6 ?k7 ?k8 ?k9 ?kB ?_ ?c2 ?c3 ?c4 ?c5
  case k6 => k_is
  case k7 => k_is
  case k8 => k_room
  case k9 => exact BindsTo.of_eq rfl
  case kB => exact locs rfl
  case c2 => exact rfl
  case c3 => exact rfl
  case c4 => exact rfl
  case c5 => decide
  intro L' h' F' N'
  try dsimp only
  try k_fold
  w_on
  have hl0 := tr_lst pre.1
  obtain ⟨f, r, rfl⟩ : ∃ f r, fs = f :: r := List.exists_cons_of_ne_nil h1
  have hi0 : (grp (f :: r))[(0 : Int).toNat]? = some none := rfl
  have hn0 : (0 : Int) < ((grp (f :: r)).length : Nat) := by simp [grp]; omega
  k_steps
  unfold Stopped
  rename Fr _ _ _ _ => F1
  rename News _ _ _ _ => N1
  refine pick3 N1 ?_
  intro T0 O0 X0 D0 e1 e2 e3 e4 N9
  clear e2
  subst e1 e3 e4
  refine' ksw_while (σ := Tok) (fun _ => [(T0, O0), (X0, bndObj D0), (D0, txts [] 0)]) (fun c => [(Str.ofString "i", .int 0 c)]) (fun _ => True) [] (fun _ => True) (fun _ => 0) _ ?w0F ?w0N ?w0f ?w0k ?w0p ?w0t ?w0E
  case w0F => exact F1
  case w0N => exact N9
  case w0f => exact trivial
  case w0k => kst_all
  case w0p => exact trivial
  case w0E => passes_own
  intro ti0 u0 h0 tk0 _ _ F0 N0
  clear F1 N1 N9
  try dsimp only at F0 N0
  k_steps
  unfold Stopped
  rename Fr _ _ _ _ => F1
  rename News _ _ _ _ => N9
  refine' ksw_while (σ := Nat × List (Str × Tok) × Nat × Int × Tok) (fun c => [(T0, O0), (X0, bndObj D0), (D0, txts c.2.1 c.2.2.1)]) (fun c => [(Str.ofString "i", .int c.2.2.2.1 c.2.2.2.2)]) (fun _ => True) [Str.ofString "fixed"] (fun c => JnAt (f :: r) c.1 c.2.1 c.2.2.2.1) (fun c => (f :: r).length - c.1) (0, [], 0, 0, _) ?wF ?wN ?wf ?wk ?wp ?wt ?wE
  case wF => exact F1
  case wN => exact N9
  case wf => exact trivial
  case wk => kst_all
  case wp => exact ⟨Nat.zero_le _, rfl, rfl⟩
  case wE => passes_own
  rintro ⟨g, kp, n, i, ti⟩ u h tk _ ⟨hg, hi, hkp⟩ F' N'
  dsimp only at F' N' hi hkp hg
  rcases Nat.lt_or_ge g (f :: r).length with hlt | hge
  · obtain ⟨fg, hfg⟩ : ∃ fg, (f :: r)[g]? = some fg := ⟨_, List.getElem?_eq_getElem hlt⟩
    have hsp := grp_split hfg
    have hfne := h2 fg (List.mem_of_getElem? hfg)
    have hz := grp_after_zero hlt
    obtain ⟨p0, fr, rfl⟩ := List.exists_cons_of_ne_nil hfne
    have hnl : (grp ((f :: r).take g)).length + (1 + ((fr.length + 1) + (grp ((f :: r).drop (g + 1))).length)) = (grp (f :: r)).length := by
      rw [hsp]; simp only [List.length_append, List.length_cons, List.length_map]; omega
    have hi9 : i < ((grp (f :: r)).length : Nat) := by omega
    have hi1 : (grp (f :: r))[i.toNat]? = some none := by rw [hsp, hi]; simp
    have hi2 : (grp (f :: r))[(i + 1).toNat]? = some (some (p0.1, p0.2)) := by
      have e : (i + 1).toNat = (grp ((f :: r).take g)).length + 1 := by omega
      rw [hsp, e, List.getElem?_append_right (by omega)]; simp
    have hi8 : i + 1 ≠ ((grp (f :: r)).length : Nat) := by omega
    have hfl : fr.length ≤ 900 := by omega
    have hjok : JoinOk (Str.ofString "") (((p0.1, p0.2) :: fr).map (·.1)) = true := by
      refine joinOk_small (by simp; omega) ?_ (by decide)
      intro y hy
      obtain ⟨p, hp, rfl⟩ := List.mem_map.mp hy
      have := hb _ (List.mem_of_getElem? hfg) p hp
      omega
    have hjl : (Txt.join (Str.ofString "") (((p0.1, p0.2) :: fr).map (·.1))).length ≤ 10000000 := by
      refine join_small_len (by simp; omega) ?_ (by decide)
      intro y hy
      obtain ⟨p, hp, rfl⟩ := List.mem_map.mp hy
      have := hb _ (List.mem_of_getElem? hfg) p hp
      omega
    k_steps
    · exact absurd (by assumption) hi8
    unfold Stopped
    rename Fr _ _ _ _ => F2
    rename News _ _ _ _ => N2
    refine pick1 N2 ?_
    intro G0 e5 N3
    clear N2
    subst e5
    refine' ksw_while (σ := Nat × Nat × Int × Tok) (fun c => [(G0, txts ((p0 :: fr).take c.1) c.2.1), (T0, O0), (X0, bndObj D0), (D0, txts kp n)]) (fun c => [(Str.ofString "i", .int c.2.2.1 c.2.2.2)]) (fun _ => True) [] (fun c => c.1 ≤ fr.length + 1 ∧ c.2.2.1 = i + 1 + (c.1 : Int)) (fun c => fr.length + 1 - c.1) (0, 0, i + 1, _) ?vF ?vN ?vf ?vk ?vp ?vt ?vE
    case vF => exact F2
    case vN => exact N3
    case vf => exact trivial
    case vk => kst_all
    case vp => exact ⟨Nat.zero_le _, by simp⟩
    case vE => passes_own
    rintro ⟨k, n2, i2, ti2⟩ u2 hh2 tk2 _ ⟨hk, hi3⟩ F3 N4
    dsimp only at F3 N4 hk hi3
    clear F2 N3
    rcases Nat.lt_or_ge k (fr.length + 1) with hklt | hkge
    · obtain ⟨⟨py, pt⟩, hpk⟩ : ∃ p, (p0 :: fr)[k]? = some p := ⟨_, List.getElem?_eq_getElem (by simp only [List.length_cons]; omega)⟩
      have hi4 : (grp (f :: r))[i2.toNat]? = some (some (py, pt)) := by
        have e : i2.toNat = (grp ((f :: r).take g)).length + (1 + k) := by omega
        rw [hsp, e, List.getElem?_append_right (by omega), show (grp ((f :: r).take g)).length + (1 + k) - (grp ((f :: r).take g)).length = k + 1 by omega, List.getElem?_cons_succ, List.getElem?_append_left (by simp; omega), List.getElem?_map, hpk]
        rfl
      have hi5 : i2 < ((grp (f :: r)).length : Nat) := by omega
      have htk : (p0 :: fr).take (k + 1) = (p0 :: fr).take k ++ [(py, pt)] := by rw [List.take_add_one, hpk]; rfl
      have htl : ((p0 :: fr).take k).length ≤ 900 := by rw [List.length_take]; omega
      k_steps
      unfold Stopped
      dsimp only [KswPost]
      rename News _ _ _ _ => N5
      rw [← htk] at N5
      refine ksw_end (k + 1, n2 + 1, i2 + 1, _) (by assumption) (by assumption) (fun p hp => hp) trivial (by kst_all) (by intro z h2 h3; simp only [List.forall_mem_cons, List.not_mem_nil, false_implies, implies_true, and_true, ne_eq] at h2; simp [kstB, h2]) ⟨by omega, by rw [hi3]; push_cast; omega⟩ (by dsimp only; omega)
    · have hk2 : k = fr.length + 1 := by omega
      have htk : (p0 :: fr).take k = (p0.1, p0.2) :: fr := by rw [hk2]; exact List.take_length (l := p0 :: fr)
      rw [htk] at N4
      have hkl : kp.length ≤ 900 := by
        have q1 : (kp.map (·.1)).length = g := by rw [hkp]; exact jnRes_len _ _ (by simp only [jnNames, List.length_map]; exact hlt)
        have q2 := grp_len ((f :: r).take g)
        rw [List.length_map] at q1
        rw [List.length_take] at q2
        omega
      by_cases hlast : g + 1 = (f :: r).length
      · have hz0 := hz.mpr hlast
        have hi4 : ¬ i2 < ((grp (f :: r)).length : Nat) := by omega
        have hi5 : i2 = ((grp (f :: r)).length : Nat) := by omega
        k_steps
        all_goals first | (exfalso; omega) | skip
        unfold Stopped
        dsimp only [KswPost]
        rename _ = Txt.join _ _ => hZ
        refine ksw_end (g + 1, kp ++ [(Str.ofString ".*", _)] ++ [(_, _)], n + 1 + 1, i2, _) (by assumption) (by assumption) (fun p hp => List.mem_cons_of_mem _ hp) trivial (by kst_all) (by intro z h2 h3; simp only [List.forall_mem_cons, List.not_mem_nil, false_implies, implies_true, and_true, ne_eq] at h2; simp only [List.contains_cons, List.contains_nil, Bool.or_false, Bool.or_eq_false_iff, beq_eq_false_iff_ne, ne_eq] at h3; simp [kstB, h2, h3]) (JnAt.step ⟨hg, hi, hkp⟩ hfg (by rw [hi3, hk2]; simp) (by rw [hlast, beq_self_eq_true]; simp [jnPiece, hZ])) (by dsimp only; omega)
      · have hz0 : (grp ((f :: r).drop (g + 1))).length ≠ 0 := fun e => hlast (hz.mp e)
        have hi4 : i2 < ((grp (f :: r)).length : Nat) := by omega
        have hi5 : i2 ≠ ((grp (f :: r)).length : Nat) := by omega
        have hi6 : (grp (f :: r))[i2.toNat]? = some none := by
          have e : i2.toNat = (grp ((f :: r).take g)).length + (1 + (p0 :: fr).length) := by simp only [List.length_cons]; omega
          rw [e]; exact grp_next hfg hlast
        have hlf : (g + 1 == (f :: r).length) = false := by rw [beq_eq_false_iff_ne]; exact hlast
        have e0 : Str.empty ++ Str.ofString "(?>.*?" = Str.ofString "(?>.*?" := by decide +kernel
        k_steps
        all_goals first | (exfalso; omega) | skip
        unfold Stopped
        dsimp only [KswPost]
        rename _ = Txt.join _ _ => hZ
        refine ksw_end (g + 1, kp ++ [(_, _)], n + 1, i2, _) (by assumption) (by assumption) (fun p hp => List.mem_cons_of_mem _ hp) trivial (by kst_all) (by intro z h2 h3; simp only [List.forall_mem_cons, List.not_mem_nil, false_implies, implies_true, and_true, ne_eq] at h2; simp only [List.contains_cons, List.contains_nil, Bool.or_false, Bool.or_eq_false_iff, beq_eq_false_iff_ne, ne_eq] at h3; simp [kstB, h2, h3]) (JnAt.step ⟨hg, hi, hkp⟩ hfg (by rw [hi3, hk2]; simp) (by first | (rw [hlf]; simp [jnPiece, hZ, e0]; done) | skip)) (by dsimp only; omega)
  · have hg2 : g = (f :: r).length := by omega
    rw [hg2, List.take_length] at hi
    have hi9 : ¬ i < ((grp (f :: r)).length : Nat) := by omega
    have hi8 : i = ((grp (f :: r)).length : Nat) := by omega
    have q := jnRes_full (fs := jnNames (f :: r)) (by simp [jnNames])
    have q2 : (jnNames (f :: r)).length = (f :: r).length := List.length_map ..
    rw [q2] at q
    have q3 := grp_len (f :: r)
    have hkn : (kp.map (·.1)).length ≤ 1000 := by rw [hkp, hg2, q]; omega
    have hkm : ∀ y ∈ kp.map (·.1), y.length ≤ 9200 := by
      intro y hy
      rw [hkp] at hy
      exact jnRes_mem hb hlen hy
    have hjok : JoinOk (Str.ofString "") (kp.map (·.1)) = true := joinOk_wide hkn hkm (by decide)
    have hjl : (Txt.join (Str.ofString "") (kp.map (·.1))).length ≤ 10000000 := join_wide_len hkn hkm (by decide)
    have e0 : Str.empty ++ Str.ofString "(?s:" = Str.ofString "(?s:" := by decide +kernel
    have eY : Str.empty ++ Str.ofString "(?s:" ++ Txt.join (Str.ofString "") (kp.map (·.1)) ++ Str.ofString ")\\Z" = jnText (f :: r) := by rw [hkp, hg2, e0]; rfl
    k_steps
    rename _ = Txt.join _ _ => hZ
    subst hZ
    exact ret _ _ _ (Fr.keep (by assumption)) ⟨_, congrArg (fun z => Value.str z _) eY⟩
def gnam (gs : List (List Str)) : List (Option Str) := gs.flatMap fun g => none :: g.map some
def jnTextN (gs : List (List Str)) : Str := Str.ofString "(?s:" ++ Txt.join (Str.ofString "") (jnRes gs gs.length) ++ Str.ofString ")\\Z"
theorem jnText_eq (fs : List (List (Str × Tok))) : jnText fs = jnTextN (jnNames fs) := by
  unfold jnText jnTextN
  rw [show (jnNames fs).length = fs.length from List.length_map ..]
theorem some_of : ∀ (g : List Str) (l : List (Option (Str × Tok))), trN l = g.map some → ∃ f : List (Str × Tok), l = f.map some ∧ f.map (·.1) = g
  | [], l, h => ⟨[], by simpa [trN] using h, rfl⟩
  | y :: g, l, h => by
    cases l with
    | nil => simp [trN] at h
    | cons p r =>
      have h1 : p.map (·.1) = some y ∧ trN r = g.map some := by simpa [trN] using h
      obtain ⟨f, rfl, e⟩ := some_of g r h1.2
      cases p with
      | none => cases h1.1
      | some q => exact ⟨q :: f, rfl, by simp [e]; exact Option.some.inj h1.1⟩
theorem grp_of : ∀ {gs : List (List Str)} {l : List (Option (Str × Tok))}, trN l = gnam gs → ∃ fs, l = grp fs ∧ jnNames fs = gs
  | [], l, h => ⟨[], by simpa [trN, gnam, grp] using h, rfl⟩
  | g :: gs, l, h => by
    have e : gnam (g :: gs) = none :: (g.map some ++ gnam gs) := by simp [gnam]
    rw [e] at h
    cases l with
    | nil => simp [trN] at h
    | cons p r =>
      have h1 : p.map (·.1) = none ∧ trN r = g.map some ++ gnam gs := by simpa [trN] using h
      have hp : p = none := by simpa using h1.1
      obtain ⟨r1, r2, rfl, e1, e2⟩ := List.map_eq_append_iff.mp h1.2
      obtain ⟨f, rfl, e3⟩ := some_of g r1 e1
      obtain ⟨fs, rfl, e4⟩ := grp_of (gs := gs) (l := r2) e2
      refine ⟨f :: fs, ?_, ?_⟩
      · rw [hp]; simp [grp]
      · simp [jnNames] at e4 ⊢
        exact ⟨e3, e4⟩
theorem trN_grp (fs : List (List (Str × Tok))) : trN (grp fs) = gnam (jnNames fs) := by
  induction fs with
  | nil => rfl
  | cons f r ih =>
    have e1 : grp (f :: r) = none :: (f.map some ++ grp r) := by simp [grp]
    have e2 : gnam (jnNames (f :: r)) = none :: ((f.map (·.1)).map some ++ gnam (jnNames r)) := by simp [gnam, jnNames]
    rw [e1, e2, ← ih]; simp [trN]
theorem jn_h1 {fs : List (List (Str × Tok))} {gs : List (List Str)} (h : jnNames fs = gs) (hg : gs ≠ []) : fs ≠ [] := by
  rintro rfl; exact hg h.symm
theorem jn_h2 {fs : List (List (Str × Tok))} {gs : List (List Str)} (h : jnNames fs = gs) (hg : ∀ g ∈ gs, g ≠ []) : ∀ f ∈ fs, f ≠ [] := by
  intro f hf e
  refine hg (f.map (·.1)) ?_ (by rw [e]; rfl)
  rw [← h]; exact List.mem_map.mpr ⟨f, hf, rfl⟩
theorem jn_h3 {fs : List (List (Str × Tok))} {gs : List (List Str)} (h : jnNames fs = gs) (hg : ∀ g ∈ gs, ∀ y ∈ g, y.length ≤ 10) : ∀ f ∈ fs, ∀ p ∈ f, p.1.length ≤ 10 := by
  intro f hf p hp
  refine hg (f.map (·.1)) ?_ p.1 (List.mem_map.mpr ⟨p, hp, rfl⟩)
  rw [← h]; exact List.mem_map.mpr ⟨f, hf, rfl⟩
theorem jn_h4 {fs : List (List (Str × Tok))} {gs : List (List Str)} (h : jnNames fs = gs) (hg : (gnam gs).length ≤ 900) : (grp fs).length ≤ 900 := by
  rw [← trN_len, trN_grp, h]; exact hg
local macro_rules | `(tactic| walk_at "call type:object") => `(tactic| (k_here; (show wpAny _ _ (call (Value.type "object") []) _ _ _); k_dflt (refine' call_object_K ?F ?N ?_; (case F => k_asm); (case N => k_asm); k_whole); intro x' h' F' N' l1; (try k_lt l1); (try k_sweep); (try dsimp only)))
local macro_rules | `(tactic| walk_at "call ref") => `(tactic| (k_here; (with_reducible show wpAny _ _ (call (Value.ref 171) [Value.str _ _, Value.ref _, Value.str _ _]) _ _ _); (rename Fr _ _ _ _ => kF0); k_dflt (refine' Spec.use (tr_spec _ _ _ _ ?sx ?so) ?B kF0 ?X ?N ?T rfl rfl (Nat.le_of_ble_eq_true rfl) rfl rfl (Nat.le_of_ble_eq_true rfl) ?pre ?_; (case sx => assumption); (case so => assumption); (case B => k_asm); (case X => k_asm); (case N => k_asm); (case T => k_asm); (case pre => exact ⟨obObj, News.get (by assumption) (by k_mem)⟩); k_whole); intro r' h' tk' F' N' hg' ho'; (obtain ⟨a', l', n', hr', hn', hs', hl'⟩ := ho'); subst hr'; (rename trOf _ = gnam _ => hg9); (obtain ⟨fs', hf1', hf2'⟩ := grp_of (hl'.trans hg9)); subst hf1'; (have N9 := News.cons_out kF0 N' hn' hs'); clear N'; (try k_sweep); (try dsimp only)))
local macro_rules | `(tactic| walk_at "call ref") => `(tactic| (k_here; (with_reducible show wpAny _ _ (call (Value.ref 178) [Value.ref _, Value.ref _]) _ _ _); (rename Fr _ _ _ _ => kF0); (rename jnNames _ = _ => hj9); k_dflt (refine' Spec.use (jn_spec _ _ _ _ (jn_h1 hj9 (by assumption)) (jn_h2 hj9 (by assumption)) (jn_h3 hj9 (by assumption)) (jn_h4 hj9 (by assumption))) ?B kF0 ?X ?N ?T rfl rfl (Nat.le_of_ble_eq_true rfl) rfl rfl (Nat.le_of_ble_eq_true rfl) ?pre ?_; (case B => k_asm); (case X => k_asm); (case N => k_asm); (case T => k_asm); (case pre => exact ⟨News.get (by assumption) (by k_mem), obObj, News.get (by assumption) (by k_mem)⟩); k_whole); intro r' h' tk' F' N' hg' ho'; (obtain ⟨t', hr'⟩ := ho'); subst hr'; (try k_sweep); (try dsimp only)))
theorem tl_spec (x : Str) (t : Tok) (gs : List (List Str)) (hx : x.length ≤ 900) (hok : ∀ c ∈ x.cps.toList, c ∈ [42, 63, 46, 97, 47, 61, 50, 51, 69, 70, 65]) (hgs : trOf x.cps.toList = gnam gs)
    (h1 : gs ≠ []) (h2 : ∀ g ∈ gs, g ≠ []) (h3 : ∀ g ∈ gs, ∀ y ∈ g, y.length ≤ 10) : Spec 152 350 250 [.str x t] (fun _ => True) (fun _ _ r => ∃ t, r = .str (jnTextN gs) t) := by
  have h4 : (gnam gs).length ≤ 900 := by rw [← hgs]; exact Nat.le_trans (trOf_len _) (by rw [← len_list]; exact hx)
  unfold Spec
  k_fill
  intro w p loose mean mg mb A₀ base outer s Q E B X T pre ret
  refine' enter_def (binds := [(Str.ofString "pat", .str x t)]) X T ?k6 ?k7 ?k8 ?k9 ?kB ?_ ?c2 ?c3 ?c4 ?c5
  case k6 => k_is
  case k7 => k_is
  case k8 => k_room
  case k9 => exact BindsTo.of_eq rfl
  case kB => exact locs rfl
  case c2 => exact rfl
  case c3 => exact rfl
  case c4 => exact rfl
  case c5 => decide
  intro L' h' F' N'
  try dsimp only
  try k_fold
  w_on
  k_steps
  rename jnNames _ = _ => hj
  exact ret _ _ _ (Fr.keep (by assumption)) ⟨_, congrArg (fun z => Value.str z _) ((jnText_eq _).trans (congrArg jnTextN hj))⟩
section
abbrev cl (x : Str) : List Nat := x.cps.toList
/-- parts with a separator between any two -/
noncomputable def J {α : Type} (sep : α) : List (List α) → List α
  | [] => []
  | [a] => a
  | a :: b :: r => a ++ sep :: J sep (b :: r)
theorem J_cons {α : Type} (sep : α) (a : List α) : ∀ r : List (List α), r ≠ [] → J sep (a :: r) = a ++ sep :: J sep r
  | [], h => absurd rfl h
  | b :: r, _ => rfl
theorem J_pre {α : Type} (sep : α) (p a : List α) (r : List (List α)) : J sep ((p ++ a) :: r) = p ++ J sep (a :: r) := by
  cases r with
  | nil => rfl
  | cons b r => simp [J]
theorem J_suf {α : Type} (sep : α) (a s : List α) : ∀ r : List (List α), J sep (r ++ [a ++ s]) = J sep (r ++ [a]) ++ s
  | [] => rfl
  | [b] => by simp [J]
  | b :: c :: r => by
    have ih := J_suf sep a s (c :: r)
    show b ++ sep :: J sep (c :: r ++ [a ++ s]) = b ++ sep :: J sep (c :: r ++ [a]) ++ s
    rw [ih]; simp
theorem J_map {α β : Type} (φ : α → List β) (sep : α) (sep' : β) (h : φ sep = [sep']) : ∀ l : List (List α), (J sep l).flatMap φ = J sep' (l.map fun a => a.flatMap φ)
  | [] => rfl
  | [a] => rfl
  | a :: b :: r => by
    have ih := J_map φ sep sep' h (b :: r)
    show (a ++ sep :: J sep (b :: r)).flatMap φ = a.flatMap φ ++ sep' :: J sep' ((b :: r).map fun a => a.flatMap φ)
    rw [List.flatMap_append, List.flatMap_cons, ih, h]; rfl
theorem J_mem {α : Type} {sep : α} {c : α} : ∀ {l : List (List α)}, c ∈ J sep l → c = sep ∨ ∃ a ∈ l, c ∈ a
  | [], h => nomatch h
  | [a], h => .inr ⟨a, .head _, h⟩
  | a :: b :: r, h => by
    rcases List.mem_append.mp (show c ∈ a ++ sep :: J sep (b :: r) from h) with h | h
    · exact .inr ⟨a, .head _, h⟩
    · rcases List.mem_cons.mp h with h | h
      · exact .inl h
      · rcases J_mem h with h | ⟨d, hd, h⟩
        · exact .inl h
        · exact .inr ⟨d, .tail _ hd, h⟩
theorem J_len {α : Type} {sep : α} {c : Nat} : ∀ {l : List (List α)}, (∀ a ∈ l, a.length ≤ c) → (J sep l).length ≤ l.length * (c + 1)
  | [], _ => by simp [J]
  | [a], h => by have := h a (.head _); show a.length ≤ 1 * (c + 1); omega
  | a :: b :: r, h => by
    have ih := J_len (sep := sep) (l := b :: r) fun x hx => h x (.tail _ hx)
    have := h a (.head _)
    show (a ++ sep :: J sep (b :: r)).length ≤ ((b :: r).length + 1) * (c + 1)
    rw [List.length_append, List.length_cons, Nat.add_mul]; omega
theorem cl_join (l : List Str) : cl (Txt.join (Str.ofString "/") l) = J 47 (l.map cl) := by
  rw [join_is]
  cases l with
  | nil => rfl
  | cons a r =>
    have h := join_sep (c := 47) a r
    have e : (Str.ofString "/" : Str) = ⟨#[47]⟩ := by decide +kernel
    rw [e]
    show (Str.join ⟨#[47]⟩ (a :: r)).cps.toList = _
    rw [h]
    clear h
    induction r generalizing a with
    | nil => simp [J]
    | cons b r ih =>
      have := ih b
      show _ = cl a ++ 47 :: J 47 (List.map cl (b :: r))
      rw [← this]; simp
theorem cl_join0 (l : List Str) : cl (Txt.join (Str.ofString "") l) = l.flatMap cl := by
  rw [join_is]
  cases l with
  | nil => rfl
  | cons a r =>
    have h := join_list (Str.ofString "") a r
    have e : (Str.ofString "").cps.toList = [] := by decide +kernel
    rw [e] at h
    show (Str.join (Str.ofString "") (a :: r)).cps.toList = _
    rw [h]; simp
theorem cl_append (a b : Str) : cl (a ++ b) = cl a ++ cl b := by
  show (a ++ b).cps.toList = _
  rw [Str.cps_append, Array.toList_append]

/-- a pattern's parts: `none` is a star -/
noncomputable def pcs : Option (List Nat) → List Nat
  | none => [42]
  | some cs => cs
noncomputable def trX : Option (List Nat) → List (Option Str)
  | none => [none]
  | some cs => cs.map fun c => some (trP c)
noncomputable def trL (P : List (Option (List Nat))) : List (Option Str) := J (some (trP 47)) (P.map trX)
theorem tr_some : ∀ (cs : List Nat) (acc : List (Option Str)), 42 ∉ cs → cs.foldl trStep acc = acc ++ cs.map fun c => some (trP c)
  | [], acc, _ => by simp
  | c :: r, acc, h => by
    have hc : c ≠ 42 := fun e => h (e ▸ .head _)
    have e : trStep acc c = acc ++ [some (trP c)] := by unfold trStep; rw [if_neg hc]
    rw [List.foldl_cons, e, tr_some r _ fun hm => h (.tail _ hm)]
    simp
theorem tr_part (p : Option (List Nat)) (acc : List (Option Str)) (hp : 42 ∉ p.getD []) (ha : acc.getLast? ≠ some none) : (pcs p).foldl trStep acc = acc ++ trX p := by
  cases p with
  | some cs => exact tr_some cs acc hp
  | none =>
    show trStep acc 42 = _
    unfold trStep
    rw [if_pos rfl, if_neg ha]; rfl
theorem tr_row : ∀ (P : List (Option (List Nat))) (acc : List (Option Str)), (∀ p ∈ P, 42 ∉ p.getD []) → acc.getLast? ≠ some none → (J 47 (P.map pcs)).foldl trStep acc = acc ++ trL P
  | [], acc, _, _ => by simp [J, trL]
  | [p], acc, h, ha => tr_part p acc (h p (.head _)) ha
  | p :: q :: r, acc, h, ha => by
    show (pcs p ++ 47 :: J 47 ((q :: r).map pcs)).foldl trStep acc = acc ++ (trX p ++ some (trP 47) :: trL (q :: r))
    have e : trStep (acc ++ trX p) 47 = acc ++ trX p ++ [some (trP 47)] := by unfold trStep; rw [if_neg (by decide)]
    rw [List.foldl_append, tr_part p acc (h p (.head _)) ha, List.foldl_cons, e, tr_row (q :: r) _ (fun x hx => h x (.tail _ hx)) (by simp)]
    simp
theorem trOf_row {P : List (Option (List Nat))} (h : ∀ p ∈ P, 42 ∉ p.getD []) : trOf (J 47 (P.map pcs)) = trL P := by
  unfold trOf
  rw [tr_row P [] h (by simp)]; simp
/-- groups -/
noncomputable def gsp : List (Option Str) → List Str × List (List Str)
  | [] => ([], [])
  | none :: r => ([], (gsp r).1 :: (gsp r).2)
  | some y :: r => (y :: (gsp r).1, (gsp r).2)
theorem gsp_eq : ∀ T : List (Option Str), T = (gsp T).1.map some ++ gnam (gsp T).2
  | [] => rfl
  | none :: r => by
    have ih := gsp_eq r
    show none :: r = [].map some ++ gnam ((gsp r).1 :: (gsp r).2)
    have e : gnam ((gsp r).1 :: (gsp r).2) = none :: ((gsp r).1.map some ++ gnam (gsp r).2) := by simp [gnam]
    rw [e, ← ih]; rfl
  | some y :: r => by
    have ih := gsp_eq r
    show some y :: r = some y :: ((gsp r).1.map some ++ gnam (gsp r).2)
    rw [← ih]
noncomputable def okT : List (Option Str) → Bool
  | [] => true
  | [none] => false
  | none :: none :: _ => false
  | none :: some y :: r => okT (some y :: r)
  | some _ :: r => okT r
theorem gsp_ne : ∀ T : List (Option Str), okT T = true → ∀ g ∈ (gsp T).2, g ≠ []
  | [], _, g, h => nomatch h
  | [none], h, _, _ => by simp [okT] at h
  | none :: none :: _, h, _, _ => by simp [okT] at h
  | none :: some y :: r, h, g, hg => by
    rcases List.mem_cons.mp (show g ∈ (y :: (gsp r).1) :: (gsp r).2 from hg) with rfl | hg
    · simp
    · exact gsp_ne (some y :: r) h g hg
  | some _ :: r, h, g, hg => gsp_ne r (by simpa [okT] using h) g hg
theorem gsp_mem : ∀ (T : List (Option Str)) (g : List Str) (y : Str), g ∈ (gsp T).2 → y ∈ g → some y ∈ T := by
  intro T g y hg hy
  rw [gsp_eq T]
  refine List.mem_append.mpr (.inr ?_)
  unfold gnam
  exact List.mem_flatMap.mpr ⟨g, hg, .tail _ (List.mem_map.mpr ⟨y, hy, rfl⟩)⟩
theorem okT_some : ∀ (l : List Str) (T : List (Option Str)), okT (l.map some ++ T) = okT T
  | [], _ => rfl
  | y :: l, T => by
    have ih := okT_some l T
    show okT (some y :: (l.map some ++ T)) = _
    rw [show okT (some y :: (l.map some ++ T)) = okT (l.map some ++ T) by simp [okT], ih]
theorem trX_some (cs : List Nat) : trX (some cs) = (cs.map trP).map some := by simp [trX]
theorem trL_cons (p q : Option (List Nat)) (r : List (Option (List Nat))) : trL (p :: q :: r) = trX p ++ some (trP 47) :: trL (q :: r) := rfl
theorem okT_trL : ∀ P : List (Option (List Nat)), P.getLast? ≠ some none → okT (trL P) = true
  | [], _ => rfl
  | [none], h => absurd rfl h
  | [some cs], _ => by
    have e : trL [some cs] = (cs.map trP).map some ++ [] := by rw [List.append_nil, ← trX_some]; rfl
    rw [e, okT_some]; rfl
  | none :: q :: r, h => by
    rw [trL_cons]
    have ih := okT_trL (q :: r) (by simpa using h)
    show okT (none :: some (trP 47) :: trL (q :: r)) = true
    simpa [okT] using ih
  | some cs :: q :: r, h => by
    rw [trL_cons, trX_some, okT_some]
    have ih := okT_trL (q :: r) (by simpa using h)
    simpa [okT] using ih
/-- the text of the parts -/
def oB : List Nat := [40, 63, 62, 46, 42, 63]
def oE : List Nat := [46, 42]
noncomputable def jt : Bool → List (Option Str) → List Nat
  | _, [] => []
  | b, none :: r => (if b then [] else [41]) ++ ((if r.any Option.isNone then oB else oE) ++ jt false r)
  | b, some y :: r => cl y ++ jt b r
theorem jt_some (b : Bool) : ∀ (l : List Str) (T : List (Option Str)), jt b (l.map some ++ T) = l.flatMap cl ++ jt b T
  | [], _ => rfl
  | y :: l, T => by
    show cl y ++ jt b (l.map some ++ T) = _
    rw [jt_some b l T]; simp
theorem any_some (l : List Str) (T : List (Option Str)) : (l.map some ++ T).any Option.isNone = T.any Option.isNone := by simp
theorem jnRes_cons (f : List Str) (r : List (List Str)) : jnRes (f :: r) (r.length + 1) = jnPiece (r.length == 0) f ++ jnRes r r.length := by
  unfold jnRes
  rw [List.range_succ_eq_map, List.flatMap_cons, List.flatMap_map]
  have e1 : (0 + 1 == (f :: r).length) = (r.length == 0) := by
    rw [List.length_cons]
    cases r.length with
    | zero => rfl
    | succ n => simp
  rw [e1]
  congr 1
  refine congrArg (fun F => List.flatMap F (List.range r.length)) (funext fun k => ?_)
  have e2 : (k.succ + 1 == (f :: r).length) = (k + 1 == r.length) := by
    rw [List.length_cons]
    rw [Bool.eq_iff_iff, beq_iff_eq, beq_iff_eq]; omega
  rw [e2]; rfl
theorem gnam_cons (f : List Str) (r : List (List Str)) : gnam (f :: r) = none :: (f.map some ++ gnam r) := by simp [gnam]
theorem jt_false (f : List Str) (r : List (List Str)) : jt false (gnam (f :: r)) = 41 :: jt true (gnam (f :: r)) := by
  rw [gnam_cons]; simp [jt]
theorem jn_text : ∀ gs : List (List Str), gs ≠ [] → (jnRes gs gs.length).flatMap cl = jt true (gnam gs)
  | [], h => absurd rfl h
  | [f], _ => by
    show (jnRes [f] (([] : List (List Str)).length + 1)).flatMap cl = _
    rw [jnRes_cons f []]
    have e : jnPiece (([] : List (List Str)).length == 0) f = [Str.ofString ".*", Txt.join (Str.ofString "") f] := rfl
    have e2 : jnRes [] ([] : List (List Str)).length = [] := rfl
    have e3 : cl (Str.ofString ".*") = oE := by decide +kernel
    have e4 : gnam [f] = none :: (f.map some ++ []) := gnam_cons f []
    rw [e, e2, List.append_nil, e4]
    show cl (Str.ofString ".*") ++ (cl (Txt.join (Str.ofString "") f) ++ []) = [] ++ ((if (f.map some ++ []).any Option.isNone then oB else oE) ++ jt false (f.map some ++ []))
    rw [e3, cl_join0, any_some, jt_some]; simp [jt]
  | f :: g :: r, _ => by
    have ih := jn_text (g :: r) (by simp)
    show (jnRes (f :: g :: r) ((g :: r).length + 1)).flatMap cl = _
    rw [jnRes_cons f (g :: r), List.flatMap_append, ih, gnam_cons f (g :: r)]
    have e : jnPiece ((g :: r).length == 0) f = [Str.ofString "(?>.*?" ++ Txt.join (Str.ofString "") f ++ Str.ofString ")"] := rfl
    have e3 : cl (Str.ofString "(?>.*?") = oB := by decide +kernel
    have e4 : cl (Str.ofString ")") = [41] := by decide +kernel
    rw [e]
    show cl (Str.ofString "(?>.*?" ++ Txt.join (Str.ofString "") f ++ Str.ofString ")") ++ [] ++ _ = [] ++ ((if (f.map some ++ gnam (g :: r)).any Option.isNone then oB else oE) ++ jt false (f.map some ++ gnam (g :: r)))
    have e5 : (gnam (g :: r)).any Option.isNone = true := by rw [gnam_cons]; rfl
    rw [cl_append, cl_append, cl_join0, e3, e4, any_some, e5, jt_some, jt_false]; simp
def pB : List Nat := [40, 63, 115, 58]
def pE : List Nat := [41, 92, 90]
theorem jnTextN_cl {gs : List (List Str)} (h : gs ≠ []) : cl (jnTextN gs) = pB ++ jt true (gnam gs) ++ pE := by
  have e1 : cl (Str.ofString "(?s:") = pB := by decide +kernel
  have e2 : cl (Str.ofString ")\\Z") = pE := by decide +kernel
  unfold jnTextN
  rw [cl_append, cl_append, cl_join0, jn_text gs h, e1, e2]
/-- the expression's texts -/
noncomputable def exG {α : Type} (lit : Nat → α) : Bool → List (Option (List α)) → List (List α)
  | _, [] => []
  | b, none :: r => ((if b then [] else [lit 41]) ++ (if r.any Option.isNone then oB else oE).map lit) :: exG lit false r
  | b, some y :: r => y :: exG lit b r
theorem exG_ne {α : Type} (lit : Nat → α) (b : Bool) (p : Option (List α)) (r : List (Option (List α))) : exG lit b (p :: r) ≠ [] := by
  cases p <;> simp [exG]
theorem exG_len {α : Type} (lit : Nat → α) : ∀ (b : Bool) (P : List (Option (List α))), (exG lit b P).length = P.length
  | _, [] => rfl
  | b, none :: r => by simp [exG, exG_len lit false r]
  | b, some y :: r => by simp [exG, exG_len lit b r]
theorem exG_map {α : Type} (lit : Nat → α) (φ : α → List Nat) (h : ∀ c, φ (lit c) = [c]) : ∀ (b : Bool) (P : List (Option (List α))), (exG lit b P).map (fun a => a.flatMap φ) = exG id b (P.map (Option.map fun a => a.flatMap φ))
  | _, [] => rfl
  | b, none :: r => by
    have ih := exG_map lit φ h false r
    have e : ∀ l : List Nat, (l.map lit).flatMap φ = l := by
      intro l
      induction l with
      | nil => rfl
      | cons c l ih => simp [h, ih]
    have e2 : (r.map (Option.map fun a => a.flatMap φ)).any Option.isNone = r.any Option.isNone := by
      rw [List.any_map]; congr 1; funext p; cases p <;> rfl
    have e3 : exG id b ((none :: r).map (Option.map fun a => a.flatMap φ)) = ((if b then [] else [41]) ++ (if (r.map (Option.map fun a => a.flatMap φ)).any Option.isNone then oB else oE).map id) :: exG id false (r.map (Option.map fun a => a.flatMap φ)) := rfl
    rw [e3, e2, ← ih]
    show (((if b then [] else [lit 41]) ++ (if r.any Option.isNone then oB else oE).map lit).flatMap φ) :: _ = _
    rw [List.flatMap_append, e, List.map_id]
    congr 2
    cases b
    · show [lit 41].flatMap φ = [41]; simp [h]
    · rfl
  | b, some y :: r => by
    have ih := exG_map lit φ h b r
    show y.flatMap φ :: (exG lit b r).map _ = y.flatMap φ :: exG id b (r.map _)
    rw [ih]
theorem exG_mem {α : Type} {lit : Nat → α} {c : α} : ∀ {b : Bool} {P : List (Option (List α))} {a : List α}, a ∈ exG lit b P → c ∈ a → (∃ n ∈ [41, 40, 63, 62, 46, 42], c = lit n) ∨ ∃ y, some y ∈ P ∧ c ∈ y
  | _, [], _, h, _ => nomatch h
  | b, none :: r, a, h, hc => by
    rcases List.mem_cons.mp (show a ∈ ((if b then [] else [lit 41]) ++ (if r.any Option.isNone then oB else oE).map lit) :: exG lit false r from h) with rfl | h
    · left
      rcases List.mem_append.mp hc with hc | hc
      · cases b
        · exact ⟨41, .head _, List.mem_singleton.mp hc⟩
        · cases hc
      · obtain ⟨n, hn, rfl⟩ := List.mem_map.mp hc
        refine ⟨n, ?_, rfl⟩
        split at hn
        · simp only [oB, List.mem_cons, List.not_mem_nil, or_false] at hn ⊢; omega
        · simp only [oE, List.mem_cons, List.not_mem_nil, or_false] at hn ⊢; omega
    · rcases exG_mem h hc with h | ⟨y, hy, h⟩
      · exact .inl h
      · exact .inr ⟨y, .tail _ hy, h⟩
  | b, some y :: r, a, h, hc => by
    rcases List.mem_cons.mp (show a ∈ y :: exG lit b r from h) with rfl | h
    · exact .inr ⟨a, .head _, hc⟩
    · rcases exG_mem h hc with h | ⟨z, hz, h⟩
      · exact .inl h
      · exact .inr ⟨z, .tail _ hz, h⟩
theorem exG_bnd {α : Type} {lit : Nat → α} {n : Nat} (hn : 7 ≤ n) : ∀ {b : Bool} {P : List (Option (List α))}, (∀ y, some y ∈ P → y ≠ [] ∧ y.length ≤ n) → ∀ a ∈ exG lit b P, a ≠ [] ∧ a.length ≤ n
  | _, [], _, _, h => nomatch h
  | b, none :: r, hP, a, h => by
    rcases List.mem_cons.mp (show a ∈ ((if b then [] else [lit 41]) ++ (if r.any Option.isNone then oB else oE).map lit) :: exG lit false r from h) with rfl | h
    · have q : ∀ l : List Nat, l = oB ∨ l = oE → l ≠ [] ∧ l.length ≤ 6 := by
        rintro l (rfl | rfl) <;> decide
      have q2 := q (if r.any Option.isNone then oB else oE) (by split; exact .inl rfl; exact .inr rfl)
      generalize (if r.any Option.isNone then oB else oE) = l at q2
      constructor
      · intro e
        have e2 := congrArg List.length e
        rw [List.length_append, List.length_map] at e2
        have := List.length_pos_iff.mpr q2.1
        simp only [List.length_nil] at e2
        omega
      · rw [List.length_append, List.length_map]
        cases b
        · show [lit 41].length + _ ≤ n
          rw [List.length_singleton]; omega
        · show ([] : List α).length + _ ≤ n
          rw [List.length_nil]; omega
    · exact exG_bnd hn (fun y hy => hP y (.tail _ hy)) a h
  | b, some y :: r, hP, a, h => by
    rcases List.mem_cons.mp (show a ∈ y :: exG lit b r from h) with rfl | h
    · exact hP a (.head _)
    · exact exG_bnd hn (fun y hy => hP y (.tail _ hy)) a h
def trC (c : Nat) : List Nat := cl (trP c)
theorem any_trL : ∀ P : List (Option (List Nat)), (trL P).any Option.isNone = P.any Option.isNone
  | [] => rfl
  | [none] => rfl
  | [some cs] => by
    have e : trL [some cs] = (cs.map trP).map some ++ [] := by rw [List.append_nil, ← trX_some]; rfl
    rw [e, any_some]; rfl
  | none :: q :: r => by rw [trL_cons]; rfl
  | some cs :: q :: r => by
    rw [trL_cons, trX_some, any_some]
    have ih := any_trL (q :: r)
    simpa using ih
theorem jt_trL : ∀ (b : Bool) (P : List (Option (List Nat))), jt b (trL P) = J 47 (exG id b (P.map (Option.map fun cs => cs.flatMap trC)))
  | _, [] => rfl
  | b, [none] => by
    show (if b then [] else [41]) ++ (oE ++ []) = (if b then [] else [41]) ++ oE.map id
    simp
  | b, [some cs] => by
    have e : trL [some cs] = (cs.map trP).map some ++ [] := by rw [List.append_nil, ← trX_some]; rfl
    rw [e, jt_some]
    show (cs.map trP).flatMap cl ++ [] = cs.flatMap trC
    rw [List.append_nil, List.flatMap_map]; rfl
  | b, none :: q :: r => by
    have ih := jt_trL false (q :: r)
    have ha := any_trL (q :: r)
    have e3 : exG id b ((none :: q :: r).map (Option.map fun cs => cs.flatMap trC)) = ((if b then [] else [41]) ++ (if ((q :: r).map (Option.map fun cs => cs.flatMap trC)).any Option.isNone then oB else oE).map id) :: exG id false ((q :: r).map (Option.map fun cs => cs.flatMap trC)) := rfl
    have e2 : ((q :: r).map (Option.map fun cs => cs.flatMap trC)).any Option.isNone = (q :: r).any Option.isNone := by
      rw [List.any_map]; congr 1; funext p; cases p <;> rfl
    have e47 : cl (trP 47) = [47] := by decide +kernel
    rw [trL_cons, e3, e2, J_cons 47 _ _ (show exG id false ((q :: r).map _) ≠ [] from exG_ne id false _ _), ← ih]
    show (if b then [] else [41]) ++ ((if (some (trP 47) :: trL (q :: r)).any Option.isNone then oB else oE) ++ (cl (trP 47) ++ jt false (trL (q :: r)))) = _
    rw [show (some (trP 47) :: trL (q :: r)).any Option.isNone = (trL (q :: r)).any Option.isNone by rfl, ha, e47, List.map_id]
    simp
  | b, some cs :: q :: r => by
    have ih := jt_trL b (q :: r)
    have e3 : exG id b ((some cs :: q :: r).map (Option.map fun cs => cs.flatMap trC)) = cs.flatMap trC :: exG id b ((q :: r).map (Option.map fun cs => cs.flatMap trC)) := rfl
    have e47 : cl (trP 47) = [47] := by decide +kernel
    rw [trL_cons, trX_some, jt_some, e3, J_cons 47 _ _ (show exG id b ((q :: r).map _) ≠ [] from exG_ne id b _ _), ← ih]
    show _ ++ (cl (trP 47) ++ jt b (trL (q :: r))) = _
    rw [e47, List.flatMap_map]; rfl
end
section
theorem any_cl (r : List (Option Str)) : (r.map (Option.map cl)).any Option.isNone = r.any Option.isNone := by
  rw [List.any_map]; congr 1; funext p; cases p <;> rfl
theorem nst_pos (r : List (Option Str)) : 0 < nst r ↔ r.any Option.isNone = true := by
  unfold nst
  rw [List.countP_pos_iff, List.any_eq_true]
theorem ex_fold : ∀ (r : List (Option Str)) (stars sn : Nat) (out : List Str), sn + nst r = stars → (r.foldl (exStep stars) (sn, out)).2.map cl = out.map cl ++ exG id (sn == 0) (r.map (Option.map cl))
  | [], _, _, out, _ => by simp [exG]
  | none :: r, stars, sn, out, h => by
    have hn : nst (none :: r) = nst r + 1 := by simp [nst]
    have ih := ex_fold r stars (sn + 1) (out ++ [exOpen (sn + 1) stars]) (by omega)
    rw [List.foldl_cons]
    show (List.foldl (exStep stars) (sn + 1, out ++ [exOpen (sn + 1) stars]) r).2.map cl = _
    rw [ih, show (sn + 1 == 0) = false from rfl, List.map_append, List.append_assoc]
    congr 1
    show [cl (exOpen (sn + 1) stars)] ++ _ = ((if (sn == 0) = true then [] else [id 41]) ++ (if (r.map (Option.map cl)).any Option.isNone then oB else oE).map id) :: exG id false (r.map (Option.map cl))
    rw [List.singleton_append]
    congr 1
    rw [any_cl, List.map_id]
    unfold exOpen
    rw [cl_append]
    have e1 : cl (Str.ofString ")") = [41] := by decide +kernel
    have e2 : cl (Str.ofString "") = [] := by decide +kernel
    have e3 : cl (Str.ofString "(?>.*?") = oB := by decide +kernel
    have e4 : cl (Str.ofString ".*") = oE := by decide +kernel
    congr 1
    · by_cases c : sn = 0
      · subst c; rw [if_neg (by omega)]; exact e2
      · rw [if_pos (by omega), if_neg (by simpa using c)]; exact e1
    · by_cases c : 0 < nst r
      · rw [if_pos (by omega), if_pos ((nst_pos r).mp c)]; exact e3
      · rw [if_neg (by omega), if_neg (fun e => c ((nst_pos r).mpr e))]; exact e4
  | some y :: r, stars, sn, out, h => by
    have hn : nst (some y :: r) = nst r := by simp [nst]
    have ih := ex_fold r stars sn (out ++ [y]) (by omega)
    rw [List.foldl_cons]
    show (List.foldl (exStep stars) (sn, out ++ [y]) r).2.map cl = _
    rw [ih]
    show (out ++ [y]).map cl ++ _ = out.map cl ++ (cl y :: exG id (sn == 0) (r.map (Option.map cl)))
    simp
theorem exFold_cl (P : List (Option Str)) : (exFold P P.length).2.map cl = exG id true (P.map (Option.map cl)) := by
  unfold exFold
  rw [List.take_length, ex_fold P (nst P) 0 [] (by omega)]; rfl
theorem two_of {α : Type} {T : List α} (h : 2 ≤ T.length) : ∃ a mid b, T = a :: mid ++ [b] := by
  rcases nil_or_snoc T with rfl | ⟨r, b, rfl⟩
  · simp at h
  · cases r with
    | nil => simp at h
    | cons a r => exact ⟨a, r, b, rfl⟩
theorem ends_cl {T : List Str} (h : 2 ≤ T.length) : J 47 ((exEnds T).map cl) = pB ++ J 47 (T.map cl) ++ pE := by
  obtain ⟨a, mid, b, rfl⟩ := two_of h
  have e1 : cl (Str.ofString "(?s:") = pB := by decide +kernel
  have e2 : cl (Str.ofString ")\\Z") = pE := by decide +kernel
  rw [exEnds_of]
  have e3 : ((Str.ofString "(?s:" ++ a) :: mid ++ [b ++ Str.ofString ")\\Z"]).map cl = (pB ++ cl a) :: (mid.map cl ++ [cl b ++ pE]) := by
    simp [cl_append, e1, e2]
  rw [e3, J_pre]
  have e4 := J_suf 47 (cl b) pE (cl a :: mid.map cl)
  show pB ++ J 47 ((cl a :: mid.map cl) ++ [cl b ++ pE]) = _
  rw [e4]
  simp
theorem ends_mem {T : List Str} {n : Nat} (h : 2 ≤ T.length) (hT : ∀ y ∈ T, cl y ≠ [] ∧ 47 ∉ cl y ∧ (cl y).length ≤ n) : ∀ y ∈ exEnds T, cl y ≠ [] ∧ 47 ∉ cl y ∧ (cl y).length ≤ n + 4 := by
  obtain ⟨a, mid, b, rfl⟩ := two_of h
  have e1 : cl (Str.ofString "(?s:") = pB := by decide +kernel
  have e2 : cl (Str.ofString ")\\Z") = pE := by decide +kernel
  rw [exEnds_of]
  intro y hy
  rcases List.mem_append.mp hy with hy | hy
  · rcases List.mem_cons.mp hy with rfl | hy
    · have q := hT a (by simp)
      rw [cl_append, e1]
      refine ⟨by simp [pB], fun hm => ?_, by rw [List.length_append]; have : pB.length = 4 := rfl; omega⟩
      rcases List.mem_append.mp hm with hm | hm
      · revert hm; decide
      · exact q.2.1 hm
    · have q := hT y (by simp [hy])
      exact ⟨q.1, q.2.1, by omega⟩
  · rw [List.mem_singleton.mp hy, cl_append, e2]
    have q := hT b (by simp)
    refine ⟨by simp [pE], fun hm => ?_, by rw [List.length_append]; have : pE.length = 3 := rfl; omega⟩
    rcases List.mem_append.mp hm with hm | hm
    · exact q.2.1 hm
    · revert hm; decide
theorem ends_ne {T : List Str} (h : 2 ≤ T.length) : exEnds T ≠ [] := by
  obtain ⟨a, mid, b, rfl⟩ := two_of h
  rw [exEnds_of]; simp
theorem ends_len {T : List Str} (h : 2 ≤ T.length) : (exEnds T).length = T.length := by
  obtain ⟨a, mid, b, rfl⟩ := two_of h
  rw [exEnds_of]; simp
/-- what normpath's contract asks and says -/
def NpOk (x P : Str) : Prop := x.length ≤ 900 ∧ ((x.length : Int) ≠ 0) ∧ (Txt.slice x none (some 1) != (Str.ofString "/")) = true ∧ npF x = P
def DcOk (x y : Str) : Prop := ∃ ts ini z, x.cps.toList = ts.flatMap Tk.enc ∧ ts = ini ++ [.ch z] ∧ (∀ k ∈ ts, k.ok) ∧ x.length ≤ 900 ∧ y = ⟨(ts.map Tk.dec).toArray⟩
def TlOk (x y : Str) : Prop := ∃ gs, x.length ≤ 900 ∧ (∀ c ∈ x.cps.toList, c ∈ [42, 63, 46, 97, 47, 61, 50, 51, 69, 70, 65]) ∧ trOf x.cps.toList = gnam gs ∧ gs ≠ [] ∧ (∀ g ∈ gs, g ≠ []) ∧ (∀ g ∈ gs, ∀ y ∈ g, y.length ≤ 10) ∧ y = jnTextN gs
theorem npOk_join {l : List Str} (hl : l ≠ []) (h : ∀ y ∈ l, cl y ≠ [] ∧ 47 ∉ cl y) (hn : (Txt.join (Str.ofString "/") l).length ≤ 900) : NpOk (Txt.join (Str.ofString "/") l) (straightF l) := by
  have e47 : (Str.ofString "/" : Str) = ⟨#[47]⟩ := by decide +kernel
  have hc := cl_join l
  obtain ⟨a, r, rfl⟩ := List.exists_cons_of_ne_nil hl
  have ha := h a (.head _)
  obtain ⟨c, post, hcp⟩ := List.exists_cons_of_ne_nil ha.1
  have hc47 : c ≠ 47 := fun e => ha.2 (by rw [hcp, e]; exact .head _)
  have hcl : (Txt.join (Str.ofString "/") (a :: r)).cps.toList = c :: J 47 (post :: r.map cl) := by
    refine hc.trans ?_
    rw [List.map_cons, hcp]
    exact J_pre 47 [c] post (r.map cl)
  have hsp : Txt.split (Txt.join (Str.ofString "/") (a :: r)) sSl = a :: r := by
    rw [join_is]
    show Txt.split (Str.join (Str.ofString "/") (a :: r)) (Str.ofString "/") = _
    rw [e47]
    exact split_join (a :: r) hl fun p hp => (h p hp).2
  refine ⟨hn, ?_, ?_, ?_⟩
  · rw [len_list, hcl]; simp
    omega
  · rw [slice_first hcl, bne_iff_ne, e47]
    intro e
    have e2 : [c] = [47] := congrArg (fun z => z.cps.toList) e
    exact hc47 (List.cons.inj e2).1
  · unfold npF
    rw [hsp]
    refine np_straight fun y hy => ?_
    rw [len_list]
    have := (h y hy).1
    intro e
    exact this (List.length_eq_zero_iff.mp e)
theorem trP_len (c : Nat) : (trP c).length ≤ 10 := by
  unfold trP
  split
  · decide
  · split
    · decide
    · show 1 ≤ 10; omega
theorem trL_mem {P : List (Option (List Nat))} {y : Str} (h : some y ∈ trL P) : ∃ c, y = trP c := by
  rcases J_mem h with h | ⟨a, ha, h⟩
  · exact ⟨47, Option.some.inj h⟩
  · obtain ⟨p, hp, rfl⟩ := List.mem_map.mp ha
    cases p with
    | none => exact absurd (List.mem_singleton.mp h) (by simp)
    | some cs =>
      obtain ⟨c, hc, e⟩ := List.mem_map.mp h
      exact ⟨c, (Option.some.inj e).symm⟩
theorem tl_of {x : Str} {q : Option (List Nat)} {r : List (Option (List Nat))} (hx : cl x = J 47 ((none :: q :: r).map pcs)) (h42 : ∀ p ∈ none :: q :: r, 42 ∉ p.getD []) (hlast : (none :: q :: r).getLast? ≠ some none)
    (hn : x.length ≤ 900) (hch : ∀ c ∈ cl x, c ∈ [42, 63, 46, 97, 47, 61, 50, 51, 69, 70, 65]) : ∃ y, TlOk x y ∧ cl y = pB ++ J 47 (exG id true ((none :: q :: r).map (Option.map fun cs => cs.flatMap trC))) ++ pE := by
  have ht : trOf (cl x) = trL (none :: q :: r) := by rw [hx]; exact trOf_row h42
  have hs := gsp_eq (trL (none :: q :: r))
  have h1 : (gsp (trL (none :: q :: r))).1 = [] := rfl
  have h2 : (gsp (trL (none :: q :: r))).2 ≠ [] := by
    show (gsp (none :: some (trP 47) :: trL (q :: r))).2 ≠ []
    simp [gsp]
  rw [h1, List.map_nil, List.nil_append] at hs
  refine ⟨jnTextN (gsp (trL (none :: q :: r))).2, ⟨(gsp (trL (none :: q :: r))).2, hn, hch, ht.trans hs, h2, gsp_ne _ (okT_trL _ hlast), fun g hg y hy => ?_, rfl⟩, ?_⟩
  · obtain ⟨c, rfl⟩ := trL_mem (gsp_mem _ g y hg hy)
    exact trP_len c
  · rw [jnTextN_cl h2, ← hs, jt_trL]

/-- the law's tables -/
def wL : List (Option Str) := [some (Str.ofString "a"), some (Str.ofString "."), some (Str.ofString ".."), some (Str.ofString "=2E"), some (Str.ofString "=2E=2E"), some (Str.ofString "?"), some (Str.ofString "??"), some (Str.ofString "=3F"), some (Str.ofString "=3F=3F"), some (Str.ofString "*"), some (Str.ofString "=2A")]
def bL : List (Option Str) := [some (Str.ofString "a"), some (Str.ofString "."), some (Str.ofString ".."), some (Str.ofString "."), some (Str.ofString ".."), some (Str.ofString "?"), some (Str.ofString "??"), some (Str.ofString "?"), some (Str.ofString "??"), some (Str.ofString "*"), some (Str.ofString "*")]
def fL : List (Option Str) := [some (Str.ofString "a"), some (Str.ofString "\\."), some (Str.ofString "\\.\\."), some (Str.ofString "\\."), some (Str.ofString "\\.\\."), some (Str.ofString "."), some (Str.ofString ".."), some (Str.ofString "."), some (Str.ofString ".."), none, none]
def sL : List (Option Str) := [some (Str.ofString "a"), some (Str.ofString "\\."), some (Str.ofString "\\.\\."), some (Str.ofString "."), some (Str.ofString ".."), some (Str.ofString "."), some (Str.ofString ".."), some (Str.ofString "?"), some (Str.ofString "??"), none, some (Str.ofString "*")]
def atT (L : List (Option Str)) (k : Nat) : Option Str := (L[k]?).getD none
def atS (L : List (Option Str)) (k : Nat) : Str := (atT L k).getD (Str.ofString "")
def tkL : List (List Tk) := [[.ch 97], [.ch 46], [.ch 46, .ch 46], [.dot], [.dot, .dot], [.ch 63], [.ch 63, .ch 63], [.ask], [.ask, .ask], [.ch 42], [.star]]
def tk2L : List (List Tk) := [[.ch 97], [.ch 92, .ch 46], [.ch 92, .ch 46, .ch 92, .ch 46], [.dot], [.dot, .dot], [.ch 46], [.ch 46, .ch 46], [.ask], [.ask, .ask], [], [.star]]
def tkW (k : Nat) : List Tk := (tkL[k]?).getD []
def tk2 (k : Nat) : List Tk := (tk2L[k]?).getD []
def p1 (k : Nat) : Option (List Nat) := if k = 9 ∨ k = 10 then none else some ((tkW k).map Tk.dec)
def p2 (k : Nat) : Option (List Nat) := if k = 9 then none else some ((tkW k).flatMap Tk.enc)
def q2 (k : Nat) : Option (List Tk) := if k = 9 then none else some (tk2 k)
def okB : Tk → Bool
  | .ch c => decide (33 ≤ c ∧ c < 127 ∧ c ≠ 61)
  | _ => true
theorem ok_of : ∀ {t : Tk}, okB t = true → t.ok
  | .ch c, h => (show 33 ≤ c ∧ c < 127 ∧ c ≠ 61 from of_decide_eq_true h)
  | .dot, _ => trivial
  | .ask, _ => trivial
  | .star, _ => trivial
theorem f_w : ∀ k < 11, atT wL k = some (atS wL k) ∧ cl (atS wL k) = (tkW k).flatMap Tk.enc ∧ cl (atS wL k) ≠ [] ∧ 47 ∉ cl (atS wL k) ∧ (cl (atS wL k)).length ≤ 6 := by decide +kernel
theorem f_b : ∀ k < 11, atT bL k = some (atS bL k) ∧ cl (atS bL k) = (tkW k).map Tk.dec ∧ cl (atS bL k) ≠ [] ∧ 47 ∉ cl (atS bL k) ∧ (cl (atS bL k)).length ≤ 6 := by decide +kernel
theorem f_1 : ∀ k < 11, pcs (p1 k) = (tkW k).map Tk.dec ∧ pcs (p2 k) = (tkW k).flatMap Tk.enc ∧ 42 ∉ (p1 k).getD [] ∧ 42 ∉ (p2 k).getD [] := by decide +kernel
theorem f_2 : ∀ k < 11, (atT fL k).map cl = (p1 k).map (fun cs => cs.flatMap trC) ∧ (atT sL k).map cl = (q2 k).map (fun ts => ts.flatMap fun t => [t.dec]) ∧ (p2 k).map (fun cs => cs.flatMap trC) = (q2 k).map (fun ts => ts.flatMap Tk.enc) := by decide +kernel
theorem f_3 : ∀ k < 11, (∀ y ∈ (atT fL k).map cl, y ≠ [] ∧ 47 ∉ y ∧ y.length ≤ 6) ∧ (∀ y ∈ (atT sL k).map cl, y ≠ [] ∧ 47 ∉ y ∧ y.length ≤ 6) := by decide +kernel
theorem f_4 : ∀ k < 11, (tkW k).all okB = true ∧ (tk2 k).all okB = true ∧ (∀ c ∈ (tkW k).flatMap Tk.enc, c ∈ [42, 63, 46, 97, 47, 61, 50, 51, 69, 70, 65]) ∧ (∀ c ∈ (tkW k).map Tk.dec, c ∈ [42, 63, 46, 97, 47, 61, 50, 51, 69, 70, 65]) ∧ (tk2 k).flatMap (fun t => [t.dec]) = (tk2 k).map Tk.dec := by decide +kernel
theorem f_5 : ∀ k < 11, ∀ z, q2 k = some z → z ≠ [] ∧ z.length ≤ 7 := by
  have q : ∀ k < 11, ∀ z ∈ q2 k, z.isEmpty = false ∧ z.length ≤ 7 := by decide +kernel
  intro k hk z hz
  have := q k hk z hz
  exact ⟨fun e => by rw [e] at this; exact absurd this.1 (by decide), this.2⟩
end
section
/-- a row's kinds -/
structure KOk (K : List Nat) : Prop where
  small : ∀ k ∈ K, k < 11
  form : ∃ M, K = 9 :: (M ++ [0]) ∧ M ≠ []
  len : K.length ≤ 21
theorem map_fun {α β : Type} {f g : α → β} {l : List α} (h : ∀ x ∈ l, f x = g x) : l.map f = l.map g := List.map_congr_left h
theorem flat_J {sep : Tk} (φ : Tk → List Nat) (h : φ sep = [47]) (K : List Nat) (f : Nat → List Tk) : (J sep (K.map f)).flatMap φ = J 47 (K.map fun k => (f k).flatMap φ) := by
  rw [J_map φ sep 47 h, List.map_map]; rfl
theorem fm_dec (ts : List Tk) : ts.flatMap (fun t => [t.dec]) = ts.map Tk.dec := by
  induction ts with
  | nil => rfl
  | cons t r ih => rw [List.flatMap_cons, ih]; rfl
theorem join_len {Z : List Str} (hZ : ∀ y ∈ Z, (cl y).length ≤ 11) (hn : Z.length ≤ 21) : (Txt.join (Str.ofString "/") Z).length ≤ 900 := by
  have e := congrArg List.length (cl_join Z)
  have q := J_len (sep := 47) (c := 11) (l := Z.map cl) (by
    intro a ha
    obtain ⟨k, hk, rfl⟩ := List.mem_map.mp ha
    exact hZ k hk)
  rw [List.length_map] at q
  have q3 : Z.length * (11 + 1) ≤ 21 * 12 := Nat.mul_le_mul_right _ hn
  rw [len_list]
  have q4 : (cl (Txt.join (Str.ofString "/") Z)).length = (Txt.join (Str.ofString "/") Z).cps.toList.length := rfl
  omega
section
variable {K : List Nat} (h : KOk K)
include h
theorem k_tw : (K.map (atS wL)).map cl = K.map fun k => (tkW k).flatMap Tk.enc := by
  rw [List.map_map]; exact map_fun fun k hk => (f_w k (h.small k hk)).2.1
theorem k_tb : (K.map (atS bL)).map cl = K.map fun k => (tkW k).map Tk.dec := by
  rw [List.map_map]; exact map_fun fun k hk => (f_b k (h.small k hk)).2.1
theorem k_ne : K ≠ [] := by
  obtain ⟨M, rfl, _⟩ := h.form; simp
theorem k_row : cl (Txt.join (Str.ofString "/") (K.map (atS wL))) = (J (.ch 47) (K.map tkW)).flatMap Tk.enc := by
  rw [cl_join, k_tw h, flat_J Tk.enc rfl]
theorem k_brow : cl (Txt.join (Str.ofString "/") (K.map (atS bL))) = (J (.ch 47) (K.map tkW)).map Tk.dec := by
  rw [cl_join, k_tb h, ← fm_dec, flat_J (fun t => [t.dec]) rfl]
  refine congrArg (J 47) (map_fun fun k _ => (fm_dec _).symm)
theorem k_rowlen : (Txt.join (Str.ofString "/") (K.map (atS wL))).length ≤ 900 := join_len (fun y hy => by
  obtain ⟨k, hk, rfl⟩ := List.mem_map.mp hy
  exact Nat.le_trans (f_w k (h.small k hk)).2.2.2.2 (by decide)) (by rw [List.length_map]; exact h.len)
theorem k_browlen : (Txt.join (Str.ofString "/") (K.map (atS bL))).length ≤ 900 := join_len (fun y hy => by
  obtain ⟨k, hk, rfl⟩ := List.mem_map.mp hy
  exact Nat.le_trans (f_b k (h.small k hk)).2.2.2.2 (by decide)) (by rw [List.length_map]; exact h.len)
theorem n_row : NpOk (Txt.join (Str.ofString "/") (K.map (atS wL))) (straightF (K.map (atS wL))) := by
  refine npOk_join (by simpa using k_ne h) (fun y hy => ?_) (k_rowlen h)
  obtain ⟨k, hk, rfl⟩ := List.mem_map.mp hy
  have q := f_w k (h.small k hk)
  exact ⟨q.2.2.1, q.2.2.2.1⟩
theorem n_brow : NpOk (Txt.join (Str.ofString "/") (K.map (atS bL))) (straightF (K.map (atS bL))) := by
  refine npOk_join (by simpa using k_ne h) (fun y hy => ?_) (k_browlen h)
  obtain ⟨k, hk, rfl⟩ := List.mem_map.mp hy
  have q := f_b k (h.small k hk)
  exact ⟨q.2.2.1, q.2.2.2.1⟩
theorem d_row : DcOk (Txt.join (Str.ofString "/") (K.map (atS wL))) (Txt.join (Str.ofString "/") (K.map (atS bL))) := by
  have e := k_brow h
  obtain ⟨M, hM, _⟩ := h.form
  refine ⟨J (.ch 47) (K.map tkW), J (.ch 47) ((9 :: M).map tkW ++ [[]]), 97, k_row h, ?_, ?_, k_rowlen h, str_ext e⟩
  · rw [hM]
    have q := J_suf (Tk.ch 47) [] [Tk.ch 97] ((9 :: M).map tkW)
    rw [← q]
    congr 1
    simp [tkW, tkL]
  · intro t ht
    rcases J_mem ht with rfl | ⟨a, ha, ht⟩
    · exact ⟨by decide, by decide, by decide⟩
    · obtain ⟨k, hk, rfl⟩ := List.mem_map.mp ha
      exact ok_of (List.all_eq_true.mp (f_4 k (h.small k hk)).1 t ht)
omit h in
theorem slash_ok : 47 ∈ [42, 63, 46, 97, 47, 61, 50, 51, 69, 70, 65] := by decide
theorem c_row : ∀ c ∈ cl (Txt.join (Str.ofString "/") (K.map (atS wL))), c ∈ [42, 63, 46, 97, 47, 61, 50, 51, 69, 70, 65] := by
  intro c hc
  rw [cl_join, k_tw h] at hc
  rcases J_mem hc with rfl | ⟨a, ha, hc⟩
  · exact slash_ok
  · obtain ⟨k, hk, rfl⟩ := List.mem_map.mp ha
    exact (f_4 k (h.small k hk)).2.2.1 c hc
theorem c_brow : ∀ c ∈ cl (Txt.join (Str.ofString "/") (K.map (atS bL))), c ∈ [42, 63, 46, 97, 47, 61, 50, 51, 69, 70, 65] := by
  intro c hc
  rw [cl_join, k_tb h] at hc
  rcases J_mem hc with rfl | ⟨a, ha, hc⟩
  · exact slash_ok
  · obtain ⟨k, hk, rfl⟩ := List.mem_map.mp ha
    exact (f_4 k (h.small k hk)).2.2.2.1 c hc
/-- the expressions' texts -/
theorem ex_len (f : Nat → Option Str) : 2 ≤ ((exFold (K.map f) (K.map f).length).2).length ∧ ((exFold (K.map f) (K.map f).length).2).length ≤ 21 := by
  rw [exFold_len _ _ (Nat.le_refl _), List.length_map]
  obtain ⟨M, hM, hM2⟩ := h.form
  have := List.length_pos_iff.mpr hM2
  refine ⟨?_, h.len⟩
  rw [hM]; simp
theorem ex_parts (f : Nat → Option Str) (hf : ∀ k < 11, ∀ y ∈ (f k).map cl, y ≠ [] ∧ 47 ∉ y ∧ y.length ≤ 6) : ∀ y ∈ (exFold (K.map f) (K.map f).length).2, cl y ≠ [] ∧ 47 ∉ cl y ∧ (cl y).length ≤ 7 := by
  intro y hy
  have hm : cl y ∈ exG id true ((K.map f).map (Option.map cl)) := by
    rw [← exFold_cl]; exact List.mem_map.mpr ⟨y, hy, rfl⟩
  have hP : ∀ z, some z ∈ (K.map f).map (Option.map cl) → z ≠ [] ∧ 47 ∉ z ∧ z.length ≤ 6 := by
    intro z hz
    rw [List.map_map] at hz
    obtain ⟨k, hk, e⟩ := List.mem_map.mp hz
    exact hf k (h.small k hk) z e
  have q1 := exG_bnd (Nat.le_refl 7) (fun z hz => ⟨(hP z hz).1, Nat.le_trans (hP z hz).2.2 (by decide)⟩) (cl y) hm
  refine ⟨q1.1, fun h47 => ?_, q1.2⟩
  rcases exG_mem hm h47 with ⟨n, hn, e⟩ | ⟨z, hz, hz2⟩
  · have : (47 : Nat) = n := e
    subst this
    revert hn; decide
  · exact (hP z hz).2.1 hz2
theorem ends_facts (f : Nat → Option Str) (hf : ∀ k < 11, ∀ y ∈ (f k).map cl, y ≠ [] ∧ 47 ∉ y ∧ y.length ≤ 6) :
    (∀ y ∈ exEnds (exFold (K.map f) (K.map f).length).2, cl y ≠ [] ∧ 47 ∉ cl y ∧ (cl y).length ≤ 11) ∧ (exEnds (exFold (K.map f) (K.map f).length).2).length ≤ 21 ∧ exEnds (exFold (K.map f) (K.map f).length).2 ≠ [] ∧
    (Txt.join (Str.ofString "/") (exEnds (exFold (K.map f) (K.map f).length).2)).length ≤ 900 := by
  have hl := ex_len h f
  have hm := ends_mem hl.1 (ex_parts h f hf)
  have hlen : (exEnds (exFold (K.map f) (K.map f).length).2).length ≤ 21 := by rw [ends_len hl.1]; exact hl.2
  exact ⟨hm, hlen, ends_ne hl.1, join_len (fun y hy => (hm y hy).2.2) hlen⟩
theorem n_ex (f : Nat → Option Str) (hf : ∀ k < 11, ∀ y ∈ (f k).map cl, y ≠ [] ∧ 47 ∉ y ∧ y.length ≤ 6) :
    NpOk (Txt.join (Str.ofString "/") (exEnds (exFold (K.map f) (K.map f).length).2)) (straightF (exEnds (exFold (K.map f) (K.map f).length).2)) := by
  have q := ends_facts h f hf
  exact npOk_join q.2.2.1 (fun y hy => ⟨(q.1 y hy).1, (q.1 y hy).2.1⟩) q.2.2.2
theorem cl_ex (f : Nat → Option Str) : cl (Txt.join (Str.ofString "/") (exEnds (exFold (K.map f) (K.map f).length).2)) = pB ++ J 47 (exG id true (K.map fun k => (f k).map cl)) ++ pE := by
  rw [cl_join, ends_cl (ex_len h f).1, exFold_cl, List.map_map]; rfl
theorem k_split : ∃ b r, K = 9 :: b :: r ∧ K.getLast? = some 0 := by
  obtain ⟨M, rfl, hM⟩ := h.form
  obtain ⟨b, r, rfl⟩ := List.exists_cons_of_ne_nil hM
  exact ⟨b, r ++ [0], rfl, by rw [← List.cons_append, List.getLast?_concat]⟩
theorem tl_k {x : Str} (p : Nat → Option (List Nat)) (hp9 : p 9 = none) (hp0 : p 0 ≠ none) (h42 : ∀ k < 11, 42 ∉ (p k).getD []) (hx : cl x = J 47 (K.map fun k => pcs (p k))) (hn : x.length ≤ 900)
    (hch : ∀ c ∈ cl x, c ∈ [42, 63, 46, 97, 47, 61, 50, 51, 69, 70, 65]) : ∃ y, TlOk x y ∧ cl y = pB ++ J 47 (exG id true (K.map fun k => (p k).map fun cs => cs.flatMap trC)) ++ pE := by
  obtain ⟨b, r, hK, hl⟩ := k_split h
  have e : K.map p = none :: p b :: r.map p := by rw [hK]; simp [hp9]
  have q := tl_of (x := x) (q := p b) (r := r.map p) (by rw [← e, List.map_map]; exact hx) (by
    rw [← e]
    intro z hz
    obtain ⟨k, hk, rfl⟩ := List.mem_map.mp hz
    exact h42 k (h.small k hk)) (by
    rw [← e, List.getLast?_map, hl]
    intro e2
    exact hp0 (Option.some.inj e2)) hn hch
  rw [← e, List.map_map] at q
  exact q
end
theorem hf_f : ∀ k < 11, ∀ y ∈ (atT fL k).map cl, y ≠ [] ∧ 47 ∉ y ∧ y.length ≤ 6 := fun k hk => (f_3 k hk).1
theorem hf_s : ∀ k < 11, ∀ y ∈ (atT sL k).map cl, y ≠ [] ∧ 47 ∉ y ∧ y.length ≤ 6 := fun k hk => (f_3 k hk).2
def exT (L : List (Option Str)) (K : List Nat) : List Str := exEnds (exFold (K.map (atT L)) (K.map (atT L)).length).2
theorem t_brow {K : List Nat} (h : KOk K) : TlOk (Txt.join (Str.ofString "/") (K.map (atS bL))) (Txt.join (Str.ofString "/") (exT fL K)) := by
  obtain ⟨y, hy, e⟩ := tl_k h p1 rfl (by simp [p1]) (fun k hk => (f_1 k hk).2.2.1) (x := Txt.join (Str.ofString "/") (K.map (atS bL))) (by
    rw [cl_join, k_tb h]
    exact congrArg (J 47) (map_fun fun k hk => ((f_1 k (h.small k hk)).1).symm)) (k_browlen h) (c_brow h)
  have e2 : y = Txt.join (Str.ofString "/") (exT fL K) := by
    refine str_ext ?_
    have q : cl y = cl (Txt.join (Str.ofString "/") (exT fL K)) := by
      rw [e]
      unfold exT
      rw [cl_ex h (atT fL)]
      have q := map_fun (l := K) (f := fun k => (p1 k).map fun cs => cs.flatMap trC) (g := fun k => (atT fL k).map cl) fun k hk => ((f_2 k (h.small k hk)).1).symm
      rw [q]
    exact q
  rw [← e2]; exact hy
theorem t_row {K : List Nat} (h : KOk K) : ∃ y, TlOk (Txt.join (Str.ofString "/") (K.map (atS wL))) y ∧ DcOk y (Txt.join (Str.ofString "/") (exT sL K)) := by
  obtain ⟨y, hy, e⟩ := tl_k h p2 rfl (by simp [p2]) (fun k hk => (f_1 k hk).2.2.2) (x := Txt.join (Str.ofString "/") (K.map (atS wL))) (by
    rw [cl_join, k_tw h]
    exact congrArg (J 47) (map_fun fun k hk => ((f_1 k (h.small k hk)).2.1).symm)) (k_rowlen h) (c_row h)
  refine ⟨y, hy, ?_⟩
  have eq2 : (K.map fun k => (p2 k).map fun cs => cs.flatMap trC) = (K.map q2).map (Option.map fun a => a.flatMap Tk.enc) := by
    rw [List.map_map]; exact map_fun fun k hk => (f_2 k (h.small k hk)).2.2
  rw [eq2, ← exG_map Tk.ch Tk.enc (fun c => rfl), ← J_map Tk.enc (Tk.ch 47) 47 rfl] at e
  have ec : ∀ l : List Nat, (l.map Tk.ch).flatMap Tk.enc = l := by
    intro l
    induction l with
    | nil => rfl
    | cons c r ih => rw [List.map_cons, List.flatMap_cons, ih]; rfl
  have ed : ∀ l : List Nat, (l.map Tk.ch).map Tk.dec = l := by
    intro l
    induction l with
    | nil => rfl
    | cons c r ih => rw [List.map_cons, List.map_cons, ih]; rfl
  have hylen : y.length ≤ 900 := by
    have q := J_len (sep := Tk.ch 47) (c := 7) (l := exG Tk.ch true (K.map q2)) fun a ha => ((exG_bnd (Nat.le_refl 7) (fun z hz => ?_) a ha).2)
    · rw [exG_len, List.length_map] at q
      have q3 : K.length * (7 + 1) ≤ 21 * 8 := Nat.mul_le_mul_right _ h.len
      have q5 : ∀ l : List Tk, (l.flatMap Tk.enc).length ≤ l.length * 3 := by
        intro l
        induction l with
        | nil => simp
        | cons t r ih =>
          have : t.enc.length ≤ 3 := by cases t <;> simp [Tk.enc]
          rw [List.flatMap_cons, List.length_append, List.length_cons]; omega
      have q6 := q5 (J (Tk.ch 47) (exG Tk.ch true (K.map q2)))
      have q7 := congrArg List.length e
      rw [List.length_append, List.length_append] at q7
      have q8 : pB.length = 4 := rfl
      have q9 : pE.length = 3 := rfl
      rw [len_list]
      have q4 : (cl y).length = y.cps.toList.length := rfl
      omega
    · obtain ⟨k, hk, e3⟩ := List.mem_map.mp hz
      have q := f_5 k (h.small k hk)
      rw [e3] at q
      exact q z rfl
  refine ⟨pB.map Tk.ch ++ J (.ch 47) (exG Tk.ch true (K.map q2)) ++ pE.map Tk.ch, pB.map Tk.ch ++ J (.ch 47) (exG Tk.ch true (K.map q2)) ++ [.ch 41, .ch 92], 90, ?_, by rw [List.append_assoc (pB.map Tk.ch ++ _) _ [Tk.ch 90]]; rfl, ?_, hylen, ?_⟩
  · rw [List.flatMap_append, List.flatMap_append, ec, ec]; exact e
  · intro t ht
    rcases List.mem_append.mp ht with ht | ht
    · rcases List.mem_append.mp ht with ht | ht
      · refine ok_of ?_
        have q : (pB.map Tk.ch).all okB = true := by decide
        exact List.all_eq_true.mp q t ht
      · rcases J_mem ht with rfl | ⟨a, ha, ht⟩
        · exact ok_of (by decide)
        · rcases exG_mem ha ht with ⟨n, hn, rfl⟩ | ⟨z, hz, hz2⟩
          · refine ok_of ?_
            have q : ∀ n ∈ [41, 40, 63, 62, 46, 42], okB (Tk.ch n) = true := by decide
            exact q n hn
          · obtain ⟨k, hk, e3⟩ := List.mem_map.mp hz
            have q := (f_4 k (h.small k hk)).2.1
            unfold q2 at e3
            split at e3
            · cases e3
            · rw [Option.some.inj e3] at q
              exact ok_of (List.all_eq_true.mp q t hz2)
    · refine ok_of ?_
      have q : (pE.map Tk.ch).all okB = true := by decide
      exact List.all_eq_true.mp q t ht
  · refine str_ext ?_
    show cl (Txt.join (Str.ofString "/") (exT sL K)) = (pB.map Tk.ch ++ J (.ch 47) (exG Tk.ch true (K.map q2)) ++ pE.map Tk.ch).map Tk.dec
    unfold exT
    rw [cl_ex h (atT sL), List.map_append, List.map_append, ed, ed, ← fm_dec, J_map (fun t => [t.dec]) (Tk.ch 47) 47 rfl, exG_map Tk.ch (fun t => [t.dec]) (fun c => rfl), List.map_map]
    have q := map_fun (l := K) (f := fun k => (atT sL k).map cl) (g := fun k => Option.map (fun a : List Tk => a.flatMap fun t => [t.dec]) (q2 k)) fun k hk => (f_2 k (h.small k hk)).2.1
    rw [q]; rfl
end
theorem exOpen_len (a b : Nat) : (exOpen a b).length ≤ 20 := by
  unfold exOpen
  split <;> split <;> decide +kernel
local macro_rules | `(tactic| walk_at "call builtin:list.count") => `(tactic| (k_here; (show wpAny _ _ (call (Value.builtin "list.count") [Value.ref _, Value.none]) _ _ _); k_dflt (refine' op_count ?l ?_; (case l => kmk_list)); intro t' k'; (try dsimp only)))
local macro_rules | `(tactic| walk_at "subscriptTail Name Constant ref int") => `(tactic| (k_here; (with_reducible show wpAny _ _ (subscriptTail _ _ (Value.ref _) (Value.int 0 _)) _ _ _); k_dflt (refine' tx_at ?l ?h0 ?h1 ?p ?_ ?s; (case l => kmk_list); (case h0 => decide); (case h1 => decide); (case p => rfl); (case s => with_unfolding_all rfl)); (try dsimp only)))
local macro_rules | `(tactic| walk_at "binaryOp Add str str") => `(tactic| (k_here; (with_reducible show wpAny _ _ (binaryOp _ (Value.str _ _) (Value.str _ _)) _ _ _); (refine add_S ?hx ?hy ?_); (case hx => first | exact Nat.le_of_ble_eq_true rfl | omega); (case hy => first | exact Nat.le_of_ble_eq_true rfl | omega); intro t' k'; (try dsimp only)))
local macro_rules | `(tactic| walk_at "binaryOp Add ref ref") => `(tactic| (k_here; (with_reducible show wpAny _ _ (binaryOp _ (Value.ref _) (Value.ref _)) _ _ _); k_dflt (first
  | (refine' add_LT ?F ?N ?a ?b ?z2 ?_; (case F => k_asm); (case N => k_asm); (case a => kmk_list); (case b => kmk_list); (case z2 => omega); k_whole)
  | (refine' add_TL ?F ?N ?a ?b ?z2 ?_; (case F => k_asm); (case N => k_asm); (case a => kmk_list); (case b => kmk_list); (case z2 => simp only [List.length_cons]; omega); k_whole)); intro D' h' F' N' l1; (try k_lt l1); (try k_sweep); (try dsimp only)))
local macro_rules | `(tactic| walk_at "subscriptTail Name Slice ref ref") => `(tactic| (k_here; (with_reducible show wpAny _ _ (subscriptTail _ (PySem.Expr.Slice (some _) (some _) none _) (Value.ref _) (Value.ref _)) _ _ _); k_dflt (refine' slice_mid ?F ?N ?l ?z ?_ ?s ?t; (case F => k_asm); (case N => k_asm); (case l => kmk_list); (case z => omega); (case s => with_unfolding_all rfl); (case t => kmk_pure)); intro D' h' F' N' l1; (try k_lt l1); (try k_sweep); (try dsimp only)))
local macro_rules | `(tactic| walk_at "getMethod ref") => `(tactic| (k_here; (with_reducible show wpAny _ _ (getMethod (Value.ref _) (PySem.Str.ofString "count") _) _ _ _); k_dflt (refine' op_method ?F ?o ?_; (case F => k_asm); (case o => assumption)); (try dsimp only)))
theorem ex_spec (a : Addr) (l : List (Option (Str × Tok))) (n : Nat) (h1 : l.length ≤ 40) (h2 : ∀ p : Str × Tok, some p ∈ l → p.1.length ≤ 20) (h3 : 2 ≤ l.length) :
    Spec 192 350 250 [.ref a] (fun h => h.get? a = some (opO l n)) (fun h0 h r => ∃ b k m, r = .ref b ∧ h0.get? b = none ∧ h.get? b = some (txts k m) ∧ k.map (·.1) = exEnds (exFold (trN l) l.length).2) := by
  unfold Spec
  k_fill
  intro w p loose mean mg mb A₀ base outer s Q E B X T pre ret
  refine' enter_def (binds := [(Str.ofString "parts", .ref a)]) X T ?k6 ?k7 ?k8 ?k9 ?kB ?_ ?c2 ?c3 ?c4 ?c5
  case k6 => k_is
  case k7 => k_is
  case k8 => k_room
  case k9 => exact BindsTo.of_eq rfl
  case kB => exact locs rfl
  case c2 => exact rfl
  case c3 => exact rfl
  case c4 => exact rfl
  case c5 => decide
  intro L' h' F' N'
  try dsimp only
  try k_fold
  w_on
  have hl : s.heap.IsList a (opVs l).toArray := ⟨_, pre, rfl, _, rfl⟩
  have hst : nst (trN l) ≤ 40 := by
    have := List.countP_le_length (p := Option.isNone) (l := trN l)
    rw [trN_len] at this
    unfold nst; omega
  k_steps
  unfold Stopped
  rename Fr _ _ _ _ => F1
  rename News _ _ _ _ => N1
  refine pick1 N1 ?_
  intro G0 e5 N3
  clear N1
  subst e5
  refine' fl_old (σ := Nat × Tok × List (Str × Tok) × Nat) (vs := opVs l) (fun c => [(G0, txts c.2.2.1 c.2.2.2)]) (fun c => [(Str.ofString "seen", .int (c.1 : Int) c.2.1)]) [] (fun i c => (c.1, c.2.2.1.map (·.1)) = exFold (trN l) i ∧ c.2.2.1.length ≤ i ∧ i ≤ 40 ∧ ∀ p ∈ c.2.2.1, p.1.length ≤ 20) [G0] (0, _, [], 0) ?hh ?hl ?hF ?hN ?hn ?hadr ?hk ?hp ?turn ?done
  case hF => exact F1
  case hN => exact N3
  case hh => exact rfl
  case hl => exact hl
  case hn => intro p hp; rw [List.mem_singleton.mp hp]; exact .head _
  case hadr => intro c; rfl
  case hk => intro p hp; rw [List.mem_singleton.mp hp]; rfl
  case hp => exact ⟨rfl, Nat.le_refl _, by omega, fun p hp => nomatch hp⟩
  case turn =>
    rintro ⟨sn, td, kp, n2⟩ i v u h tk I oI hv ⟨hP, hk, hi, hb⟩ hlt F' N'
    obtain ⟨p, hlp, rfl⟩ := opVs_get hv
    dsimp only at F' N' hP hk hb
    have hlt2 := ltN (hlt G0 (List.mem_singleton.mpr rfl))
    have hi2 : i < 40 := by
      have := (List.getElem?_eq_some_iff.mp hlp).1
      omega
    have hnp : (trN l)[i]? = some (p.map (·.1)) := by unfold trN; rw [List.getElem?_map, hlp]; rfl
    have hs := exFold_succ hnp
    have hsn : sn ≤ 40 := by
      have := exFold_seen (trN l) i
      rw [← hP] at this
      exact Nat.le_trans this hi
    rw [← hP] at hs
    cases p with
    | none =>
      dsimp only [opV] at F'
      have hs' : exFold (trN l) (i + 1) = (sn + 1, kp.map (·.1) ++ [exOpen (sn + 1) (nst (trN l))]) := hs
      have hol := exOpen_len (sn + 1) (nst (trN l))
      rcases Nat.lt_or_ge 0 sn with c1 | c1
      · rcases Nat.lt_or_ge (sn + 1) (nst (trN l)) with c2 | c2
        · have he : Str.ofString ")" ++ Str.ofString "(?>.*?" = Str.ofString ")(?>.*?" := by decide +kernel
          unfold exOpen at hs' hol
          rw [if_pos (show 1 < sn + 1 by omega), if_pos c2, he] at hs' hol
          k_steps
          dsimp only [FlPost]
          refine fl_end (sn + 1, _, kp ++ [(Str.ofString ")(?>.*?", _)], n2 + 1) (by assumption) (by assumption) (by kst_in) (by kst_all) (by intro z h1 h2 h3; simp only [List.forall_mem_cons, List.not_mem_nil, false_implies, implies_true, and_true, ne_eq] at h2; simp [kstB, h1, h2]) ⟨by rw [hs']; simp, by simp; omega, by omega, ?_⟩
          intro p hp
          rcases List.mem_append.mp hp with hp | hp
          · exact hb p hp
          · rw [List.mem_singleton.mp hp]; exact hol
        · have he : Str.ofString ")" ++ Str.ofString ".*" = Str.ofString ").*" := by decide +kernel
          unfold exOpen at hs' hol
          rw [if_pos (show 1 < sn + 1 by omega), if_neg (by omega), he] at hs' hol
          k_steps
          dsimp only [FlPost]
          refine fl_end (sn + 1, _, kp ++ [(Str.ofString ").*", _)], n2 + 1) (by assumption) (by assumption) (by kst_in) (by kst_all) (by intro z h1 h2 h3; simp only [List.forall_mem_cons, List.not_mem_nil, false_implies, implies_true, and_true, ne_eq] at h2; simp [kstB, h1, h2]) ⟨by rw [hs']; simp, by simp; omega, by omega, ?_⟩
          intro p hp
          rcases List.mem_append.mp hp with hp | hp
          · exact hb p hp
          · rw [List.mem_singleton.mp hp]; exact hol
      · rcases Nat.lt_or_ge (sn + 1) (nst (trN l)) with c2 | c2
        · have he : Str.ofString "" ++ Str.ofString "(?>.*?" = Str.ofString "(?>.*?" := by decide +kernel
          unfold exOpen at hs' hol
          rw [if_neg (show ¬ 1 < sn + 1 by omega), if_pos c2, he] at hs' hol
          k_steps
          dsimp only [FlPost]
          refine fl_end (sn + 1, _, kp ++ [(Str.ofString "(?>.*?", _)], n2 + 1) (by assumption) (by assumption) (by kst_in) (by kst_all) (by intro z h1 h2 h3; simp only [List.forall_mem_cons, List.not_mem_nil, false_implies, implies_true, and_true, ne_eq] at h2; simp [kstB, h1, h2]) ⟨by rw [hs']; simp, by simp; omega, by omega, ?_⟩
          intro p hp
          rcases List.mem_append.mp hp with hp | hp
          · exact hb p hp
          · rw [List.mem_singleton.mp hp]; exact hol
        · have he : Str.ofString "" ++ Str.ofString ".*" = Str.ofString ".*" := by decide +kernel
          unfold exOpen at hs' hol
          rw [if_neg (show ¬ 1 < sn + 1 by omega), if_neg (by omega), he] at hs' hol
          k_steps
          dsimp only [FlPost]
          refine fl_end (sn + 1, _, kp ++ [(Str.ofString ".*", _)], n2 + 1) (by assumption) (by assumption) (by kst_in) (by kst_all) (by intro z h1 h2 h3; simp only [List.forall_mem_cons, List.not_mem_nil, false_implies, implies_true, and_true, ne_eq] at h2; simp [kstB, h1, h2]) ⟨by rw [hs']; simp, by simp; omega, by omega, ?_⟩
          intro p hp
          rcases List.mem_append.mp hp with hp | hp
          · exact hb p hp
          · rw [List.mem_singleton.mp hp]; exact hol
    | some p =>
      obtain ⟨y, t⟩ := p
      dsimp only [opV] at F'
      have hs' : exFold (trN l) (i + 1) = (sn, kp.map (·.1) ++ [y]) := hs
      have hyl : y.length ≤ 20 := h2 (y, t) (List.mem_of_getElem? hlp)
      k_steps
      dsimp only [FlPost]
      refine fl_end (sn, td, kp ++ [(y, t)], n2 + 1) (by assumption) (by assumption) (by kst_in) (by kst_all) (by intro z h1 h2 h3; simp only [List.forall_mem_cons, List.not_mem_nil, false_implies, implies_true, and_true, ne_eq] at h2; simp [kstB, h1, h2]) ⟨by rw [hs']; simp, by simp; omega, by omega, ?_⟩
      intro p hp
      rcases List.mem_append.mp hp with hp | hp
      · exact hb p hp
      · rw [List.mem_singleton.mp hp]; exact hyl
  case done =>
    rintro ⟨sn, td, kp, n2⟩ u h tk ⟨hP, hk, hi, hb⟩ F' N'
    dsimp only at F' N' hP hk hb
    rw [opVs_len] at hP hk hi
    have hlen : kp.length = l.length := by
      have q := congrArg (fun c => c.2.length) hP
      dsimp only at q
      rw [List.length_map, exFold_len _ _ (by rw [trN_len]; exact Nat.le_refl _)] at q
      exact q
    rcases nil_or_snoc kp with rfl | ⟨k0, ⟨yl, ul⟩, rfl⟩
    · rw [List.length_nil] at hlen; omega
    cases k0 with
    | nil => simp at hlen; omega
    | cons q mid =>
      obtain ⟨y0, u0⟩ := q
      have hml : mid.length ≤ 40 := by simp only [List.length_append, List.length_cons] at hlen; omega
      have hb0 : y0.length ≤ 20 := hb (y0, u0) (by simp)
      have hbl : yl.length ≤ 20 := hb (yl, ul) (by simp)
      k_steps
      refine ret _ _ _ (Fr.keep (by assumption)) ⟨_, _, _, rfl, ((by assumption : News _ _ _ _) _ (.head _)).2.2, ((by assumption : News _ _ _ _) _ (.head _)).1, ?_⟩
      have e2 : (exFold (trN l) l.length).2 = y0 :: mid.map (·.1) ++ [yl] := by rw [← hP]; simp
      rw [e2, exEnds_of]
      simp
section
theorem np_k {x P : Str} {t : Tok} (h : NpOk x P) : Spec 125 360 300 [.str x t] (fun _ => True) (fun _ _ r => ∃ t, r = .str P t) := by
  obtain ⟨h1, h2, h3, rfl⟩ := h
  exact normpath_spec x t h1 h2 h3
theorem dc_k {x y : Str} {t : Tok} (h : DcOk x y) : Spec 140 360 300 [.str x t] (fun _ => True) (fun _ _ r => ∃ t, r = .str y t) := by
  obtain ⟨ts, ini, z, h1, h2, h3, h4, rfl⟩ := h
  exact decode_spec x t ts ini z h1 h2 h3 h4
theorem tl_k9 {x y : Str} {t : Tok} (h : TlOk x y) : Spec 152 350 250 [.str x t] (fun _ => True) (fun _ _ r => ∃ t, r = .str y t) := by
  obtain ⟨gs, h1, h2, h3, h4, h5, h6, rfl⟩ := h
  exact tl_spec x t gs h1 h2 h3 h4 h5 h6
def StOk (l : List (Str × Tok)) (P : Str) : Prop := l.length ≤ 40 ∧ (∀ p ∈ l, p.1.length ≤ 40) ∧ straightF (l.map (·.1)) = P
theorem stOk_of {l : List (Str × Tok)} {Z : List Str} (h : l.map (·.1) = Z) (h1 : Z.length ≤ 40) (h2 : ∀ y ∈ Z, (cl y).length ≤ 40) : StOk l (straightF Z) := by
  subst h
  rw [List.length_map] at h1
  exact ⟨h1, fun p hp => by rw [len_list]; exact h2 p.1 (List.mem_map.mpr ⟨p, hp, rfl⟩), rfl⟩
theorem st_k {a : Addr} {l : List (Str × Tok)} {n : Nat} {P : Str} (h : StOk l P) : Spec 185 370 350 [.ref a] (fun h => h.get? a = some (txts l n)) (fun _ _ r => ∃ t, r = .str P t) := by
  obtain ⟨h1, h2, rfl⟩ := h
  exact straight_spec a l n h1 h2
def ExOk (l : List (Option (Str × Tok))) (T : List Str) : Prop := l.length ≤ 40 ∧ (∀ p : Str × Tok, some p ∈ l → p.1.length ≤ 20) ∧ 2 ≤ l.length ∧ exEnds (exFold (trN l) l.length).2 = T
theorem ex_k {a : Addr} {l : List (Option (Str × Tok))} {n : Nat} {T : List Str} (h : ExOk l T) : Spec 192 350 250 [.ref a] (fun h => h.get? a = some (opO l n)) (fun h0 h r => ∃ b k m, r = .ref b ∧ h0.get? b = none ∧ h.get? b = some (txts k m) ∧ k.map (·.1) = T) := by
  obtain ⟨h1, h2, h3, rfl⟩ := h
  exact ex_spec a l n h1 h2 h3
section
variable {prog : Program} {w : World} {A : Around} {E : Value → Shared → Prop} {s : Shared} {h₀ : Heap} {L T a : Addr} {m : Str → Option Value} {news : List (Addr × Obj)} {Q : Value → Shared → Prop}
theorem eq_same {x : Str} {t u : Tok} (h : Q (.bool true) s) : wpAny (model prog w) A (compareOp .Eq (.str x t) (.str x u)) Q E s := eq_str (by rw [beq_self_eq_true]; exact h)
theorem ne_same {x : Str} {t u : Tok} (h : Q (.bool false) s) : wpAny (model prog w) A (compareOp .NotEq (.str x t) (.str x u)) Q E s := ne_str (by rw [bne_self_eq_false]; exact h)
/-- a written tuple of texts and Nones -/
inductive OpsAre : List Value → List (Option Str) → Prop where
  | nil : OpsAre [] []
  | str (y : Str) (t : Tok) {vs : List Value} {l : List (Option Str)} : OpsAre vs l → OpsAre (.str y t :: vs) (some y :: l)
  | no {vs : List Value} {l : List (Option Str)} : OpsAre vs l → OpsAre (.none :: vs) (none :: l)
theorem OpsAre.at {vs : List Value} {l : List (Option Str)} (h : OpsAre vs l) : ∀ k, k < l.length → ∃ p : Option (Str × Tok), vs[k]? = some (opV p) ∧ p.map (·.1) = (l[k]?).getD none := by
  induction h with
  | nil => intro k hk; exact absurd hk (Nat.not_lt_zero _)
  | str y t h ih =>
    intro k hk
    cases k with
    | zero => exact ⟨some (y, t), rfl, rfl⟩
    | succ k => exact ih k (by simpa using hk)
  | no h ih =>
    intro k hk
    cases k with
    | zero => exact ⟨Option.none, rfl, rfl⟩
    | succ k => exact ih k (by simpa using hk)
theorem tup_menu {vs : List Value} {l : List (Option Str)} {k : Nat} {u : Tok} {value slice : PySem.Expr} (N : News h₀ L s.heap news) (hm : (T, ({ cls := .type "tuple", data := .seq vs.toArray } : Obj)) ∈ news) (hv : OpsAre vs l) (hl : l.length = 11) (hk : k < 11)
    (h : ∀ p : Option (Str × Tok), p.map (·.1) = atT l k → Q (opV p) s)
    (hs : subscripted slice false (.ref T) (.int (k : Int) u) = operate [.ref T, .int (k : Int) u] (getItem (.ref T) (.int (k : Int) u))) :
    wpAny (model prog w) A (subscriptTail value slice (.ref T) (.int (k : Int) u)) Q E s := by
  obtain ⟨p, hp, hq⟩ := hv.at k (by omega)
  refine tup_item N hm (by omega) (by omega) ?_ (h p hq) hs
  rw [Int.toNat_natCast]
  simpa using hp
theorem cm_end {I C D : Addr} {oI oC oD o : Obj} {S : List (Addr × Obj) → Prop} {R : Value → Prop} {y : Value} {h' : Heap} {tk : Nat} {s₁ : Shared} (F : Fr h₀ L h' m) (N : News h₀ L h' ((T, o) :: (I, oI) :: (C, oC) :: (D, oD) :: news)) (off : LCg.Off3 I C D news) (hS : S news) (hR : R y) :
    LCg.CompEnd h₀ L m s₁ I oI C oC D oD S (fun y news' => news' = news ∧ R y) y { s₁ with heap := h', toks := tk } :=
  LCg.CompEnd.intro F N news (fun p hp => .tail _ hp) off hS ⟨rfl, hR⟩
theorem join_T3 {D : Addr} {x R : Str} {t : Tok} {y : List (Str × Tok)} (hl : s.heap.IsList D (strValues y).toArray) (he : Txt.join x (y.map (·.1)) = R) (hok : JoinOk x (y.map (·.1)) = true)
    (hq : ∀ t' k, Q (.str R t') { s with toks := k }) : wpAny (model prog w) A (call (.builtin "str.join") [.str x t, .ref D]) Q E s := by
  subst he
  exact SC.join hl rfl hok fun t' k => hq t' k
theorem pick0 {h : Heap} {a : Addr} {o : Obj} {rest : List (Addr × Obj)} (N : News h₀ L h ((a, o) :: rest)) : News h₀ L h [(a, o)] := fun p hp => N p (by rw [List.mem_singleton.mp hp]; exact .head _)
end
theorem pick0e {h₀ h : Heap} {L a : Addr} {o : Obj} {rest : List (Addr × Obj)} {P : Prop} (N : News h₀ L h ((a, o) :: rest)) (k : ∀ a', a' = a → News h₀ L h [(a', o)] → P) : P := k _ rfl (pick0 N)
/-- the kinds of a script -/
def kindsOf (ns : List Int) : List Nat := 9 :: 0 :: 4 :: ((ns.take 16).map (fun k => (k.fmod 11).toNat) ++ [7, 0])
theorem kinds_ints (ns : List Int) : [9, 0, 4] ++ (ns.take 16).map (fun k => k.fmod 11) ++ [7, 0] = (kindsOf ns).map Int.ofNat := by
  have e : ∀ l : List Int, l.map (fun k => k.fmod 11) = (l.map (fun k => (k.fmod 11).toNat)).map Int.ofNat := by
    intro l
    rw [List.map_map]
    refine List.map_congr_left fun k _ => ?_
    have := Int.fmod_nonneg_of_pos k (show (0 : Int) < 11 by decide)
    show k.fmod 11 = ((k.fmod 11).toNat : Int)
    omega
  unfold kindsOf
  rw [e]
  simp
theorem kinds_ok (ns : List Int) : KOk (kindsOf ns) where
  small := by
    intro k hk
    unfold kindsOf at hk
    simp only [List.mem_cons, List.mem_append, List.mem_map, List.not_mem_nil, or_false] at hk
    rcases hk with rfl | rfl | rfl | ⟨x, _, rfl⟩ | rfl | rfl
    · decide
    · decide
    · decide
    · have := Int.fmod_lt_of_pos x (show (0 : Int) < 11 by decide)
      omega
    · decide
    · decide
  form := ⟨0 :: 4 :: ((ns.take 16).map (fun k => (k.fmod 11).toNat) ++ [7]), by simp [kindsOf], by simp⟩
  len := by
    unfold kindsOf
    simp only [List.length_cons, List.length_append, List.length_map, List.length_take, List.length_nil]; omega
theorem texts_of {K : List Nat} {L : List (Option Str)} {l : List (Option (Str × Tok))} (h : trN l = K.map (atT L)) (hL : ∀ k ∈ K, atT L k = some (atS L k)) : ∃ l' : List (Str × Tok), l = l'.map some ∧ l'.map (·.1) = K.map (atS L) := by
  refine some_of (K.map (atS L)) l ?_
  rw [h, List.map_map]
  exact List.map_congr_left hL
theorem lst_txts (l : List (Str × Tok)) : LCg.lst (opVs (l.map some)) = txts l l.length := by
  have e : opVs (l.map some) = strValues l := by
    unfold opVs strValues
    rw [List.map_map]; rfl
  rw [e]
  show ({ cls := .type "list", data := .seq (strValues l).toArray (strValues l).length } : Obj) = _
  rw [strValues_length]
theorem lst_ops (l : List (Option (Str × Tok))) : LCg.lst (opVs l) = opO l l.length := by
  show ({ cls := .type "list", data := .seq (opVs l).toArray (opVs l).length } : Obj) = _
  rw [opVs_len]
theorem exOk_of {K : List Nat} (h : KOk K) {L : List (Option Str)} {l : List (Option (Str × Tok))} (hl : trN l = K.map (atT L)) (hL : ∀ k < 11, ∀ y ∈ (atT L k).map cl, y ≠ [] ∧ 47 ∉ y ∧ y.length ≤ 6) : ExOk l (exT L K) := by
  have e : l.length = K.length := by rw [← trN_len, hl, List.length_map]
  have h21 := h.len
  obtain ⟨M, hM, hM2⟩ := h.form
  have := List.length_pos_iff.mpr hM2
  refine ⟨by omega, fun p hp => ?_, ?_, ?_⟩
  · have hm : some p.1 ∈ trN l := List.mem_map.mpr ⟨some p, hp, rfl⟩
    rw [hl] at hm
    obtain ⟨k, hk, e2⟩ := List.mem_map.mp hm
    have q := hL k (h.small k hk) (cl p.1) (by rw [e2]; rfl)
    rw [len_list]
    exact Nat.le_trans q.2.2 (by decide)
  · rw [e, hM]; simp
  · unfold exT
    rw [hl, e, List.length_map]
theorem law_facts {K : List Nat} (h : KOk K) : ∃ (R B Y1 Y2 Z2 : Str) (WS BS TF TS : List Str), (K.map (atS wL) = WS ∧ Txt.join (Str.ofString "/") WS = R ∧ JoinOk (Str.ofString "/") WS = true ∧ NpOk R (straightF WS) ∧ DcOk R B ∧ K.map (atS bL) = BS ∧ NpOk B (straightF BS)) ∧
    (TlOk B Y1 ∧ exT fL K = TF ∧ NpOk Y1 (straightF TF)) ∧ (TlOk R Y2 ∧ DcOk Y2 Z2 ∧ exT sL K = TS ∧ NpOk Z2 (straightF TS)) ∧
    (WS.length ≤ 40 ∧ BS.length ≤ 40 ∧ TF.length ≤ 40 ∧ TS.length ≤ 40) ∧ ((∀ y ∈ WS, (cl y).length ≤ 40) ∧ (∀ y ∈ BS, (cl y).length ≤ 40) ∧ (∀ y ∈ TF, (cl y).length ≤ 40) ∧ (∀ y ∈ TS, (cl y).length ≤ 40)) := by
  obtain ⟨y2, ht2, hd2⟩ := t_row h
  have ef := ends_facts h (atT fL) hf_f
  have es := ends_facts h (atT sL) hf_s
  have h21 := h.len
  have lw : ∀ y ∈ K.map (atS wL), (cl y).length ≤ 40 := fun y hy => by
    obtain ⟨k, hk, rfl⟩ := List.mem_map.mp hy
    exact Nat.le_trans (f_w k (h.small k hk)).2.2.2.2 (by decide)
  have lb : ∀ y ∈ K.map (atS bL), (cl y).length ≤ 40 := fun y hy => by
    obtain ⟨k, hk, rfl⟩ := List.mem_map.mp hy
    exact Nat.le_trans (f_b k (h.small k hk)).2.2.2.2 (by decide)
  refine ⟨_, _, _, y2, _, _, _, _, _, ⟨rfl, rfl, ?_, n_row h, d_row h, rfl, n_brow h⟩, ⟨t_brow h, rfl, n_ex h (atT fL) hf_f⟩, ⟨ht2, hd2, rfl, n_ex h (atT sL) hf_s⟩, ⟨?_, ?_, Nat.le_trans ef.2.1 (by decide), Nat.le_trans es.2.1 (by decide)⟩, lw, lb, fun y hy => Nat.le_trans (ef.1 y hy).2.2 (by decide), fun y hy => Nat.le_trans (es.1 y hy).2.2 (by decide)⟩
  · refine joinOk_small (by rw [List.length_map]; omega) (fun y hy => ?_) (by decide)
    rw [len_list]
    exact Nat.le_trans (lw y hy) (by decide)
  · rw [List.length_map]; omega
  · rw [List.length_map]; omega
end
section
set_option maxHeartbeats 0
/-- the law's own part of the text: its first row and the law -/
def V : Program := view PySem.Challenge.pw_rt0021_01 [0, 32]
def lo : List Str := ["_wall", "_plain_name", "ABCMeta", "_ABCLike", "_abc_plain_meta", "fspath", "splitroot", "normpath", "NL", "unquote", "digits", "hexdigits", "decode", "_twin_re_1", "translate", "_special_chars_map", "escape", "_translate", "_join_translated_parts", "_law_straight", "_law_expression"].map Str.ofString
def adds : List Addr := [2, 3, 32, 34, 35, 37, 38, 39, 41, 42, 44, 45, 46, 53, 55, 56, 58, 59, 60, 61, 62, 65, 72, 74, 75, 77, 78, 79, 81, 82, 84, 85, 86, 88, 89, 91, 92, 93, 94, 95, 98, 100, 101, 103, 104, 105, 107, 108, 110, 111, 112, 114, 115, 117, 118, 119, 121, 122, 124, 125, 126, 128, 129, 131, 132, 133, 134, 136, 137, 139, 140, 144, 145, 146, 148, 149, 151, 152, 154, 158, 160, 161, 163, 164, 165, 167, 168, 170, 171, 172, 174, 175, 177, 178, 179, 181, 182, 184, 185, 186, 188, 189, 191, 192, 193, 196, 197]
theorem adds_are : ∀ P, adds = (top.heap_1 P).map (·.1) := fun P => by kernel_rfl
noncomputable abbrev HK : Hook := kHook top.heap_1 adds adds_are
noncomputable abbrev xt (s : Shared) : Bool := xlAt V [] s && recOk (RowW.records PySem.Challenge.rw_rt0021_01.row.toRowW) s
noncomputable abbrev LeftAt (w : World) : Prop := (openEnds treeTable (PySem.Challenge.rw_rt0021_01.row.toRowW).prog w 5058).map (fun s => (openSeen V lo (importedModules (PySem.Challenge.rw_rt0021_01.row.toRowW).prog.main.body) xt true s, HK.obs s)) = some (openGood V lo, HK.val w)
theorem rows2 {P : World → Prop} (h : ∀ a b w, P ((World.withFollow w "special-get-raises" b).withFollow "comprehension-iter-twice" a)) : ∀ w, P w :=
  byRow2 "comprehension-iter-twice" (byRow2 "special-get-raises" (h false false) (h false true)) (byRow2 "special-get-raises" (h true false) (h true true))
-- the run of the top in four checks (two rows of the world's), by the library's own twins of its words
theorem left_ff (w : World) : LeftAt ((World.withFollow w "special-get-raises" false).withFollow "comprehension-iter-twice" false) := by
  unfold LeftAt openEnds fencedOpening topFrom
  rw [PySem.W.Fast.te14364793385576792824, PySem.W.Fast.te10274390034422433532, PySem.W.Fast.te1435165496053646825, PySem.W.Fast.te14289696077712309145, PySem.W.Fast.te14082659384304107361, PySem.W.Fast.te8920871248978507458, PySem.W.Fast.te4187177175401517315, PySem.W.Fast.te5923862056798008813]
  kernel_rfl
theorem left_ft (w : World) : LeftAt ((World.withFollow w "special-get-raises" true).withFollow "comprehension-iter-twice" false) := by
  unfold LeftAt openEnds fencedOpening topFrom
  rw [PySem.W.Fast.te14364793385576792824, PySem.W.Fast.te10274390034422433532, PySem.W.Fast.te1435165496053646825, PySem.W.Fast.te14289696077712309145, PySem.W.Fast.te14082659384304107361, PySem.W.Fast.te8920871248978507458, PySem.W.Fast.te4187177175401517315, PySem.W.Fast.te5923862056798008813]
  kernel_rfl
theorem left_tf (w : World) : LeftAt ((World.withFollow w "special-get-raises" false).withFollow "comprehension-iter-twice" true) := by
  unfold LeftAt openEnds fencedOpening topFrom
  rw [PySem.W.Fast.te14364793385576792824, PySem.W.Fast.te10274390034422433532, PySem.W.Fast.te1435165496053646825, PySem.W.Fast.te14289696077712309145, PySem.W.Fast.te14082659384304107361, PySem.W.Fast.te8920871248978507458, PySem.W.Fast.te4187177175401517315, PySem.W.Fast.te5923862056798008813]
  kernel_rfl
theorem left_tt (w : World) : LeftAt ((World.withFollow w "special-get-raises" true).withFollow "comprehension-iter-twice" true) := by
  unfold LeftAt openEnds fencedOpening topFrom
  rw [PySem.W.Fast.te14364793385576792824, PySem.W.Fast.te10274390034422433532, PySem.W.Fast.te1435165496053646825, PySem.W.Fast.te14289696077712309145, PySem.W.Fast.te14082659384304107361, PySem.W.Fast.te8920871248978507458, PySem.W.Fast.te4187177175401517315, PySem.W.Fast.te5923862056798008813]
  kernel_rfl
theorem left : ∀ w, LeftAt w := rows2 fun a b w => match a, b with
  | false, false => left_ff w
  | false, true => left_ft w
  | true, false => left_tf w
  | true, true => left_tt w
end
local macro_rules | `(tactic| walk_at "eval ListComp") => `(tactic| (refine stop ?_))
local macro_rules | `(tactic| walk_at "exec Assign cons ListComp") => `(tactic| (refine stop ?_))
local macro_rules | `(tactic| walk_at "CompSrc") => `(tactic| (refine stop ?_))
local macro_rules | `(tactic| walk_at "compareOp Eq str str") => `(tactic| (k_here; refine eq_same ?_; (try dsimp only)))
local macro_rules | `(tactic| walk_at "compareOp NotEq str str") => `(tactic| (k_here; refine ne_same ?_; (try dsimp only)))
local macro_rules | `(tactic| walk_at "call builtin:str.join") => `(tactic| (k_here; k_dflt (refine' join_T3 ?l ?e ?o ?_; (case l => kmk_list); (case e => assumption); (case o => assumption)); intro t' k'; (try dsimp only)))
local macro_rules | `(tactic| walk_at "call ref") => `(tactic| (k_here; (with_reducible show wpAny _ _ (call (Value.ref 125) [Value.str _ _]) _ _ _); k_dflt (refine' Spec.use (np_k ?ok) ?B ?F ?X ?N ?T rfl rfl (Nat.le_of_ble_eq_true rfl) rfl rfl (Nat.le_of_ble_eq_true rfl) trivial ?_; (case ok => assumption); (case B => k_asm); (case F => k_asm); (case X => k_asm); (case N => k_asm); (case T => k_asm); k_whole); intro r' h' tk' F' N' hg' ho'; (obtain ⟨t', hr'⟩ := ho'); subst hr'; clear hg'; (try k_sweep); (try dsimp only)))
local macro_rules | `(tactic| walk_at "call ref") => `(tactic| (k_here; (with_reducible show wpAny _ _ (call (Value.ref 140) [Value.str _ _]) _ _ _); k_dflt (refine' Spec.use (dc_k ?ok) ?B ?F ?X ?N ?T rfl rfl (Nat.le_of_ble_eq_true rfl) rfl rfl (Nat.le_of_ble_eq_true rfl) trivial ?_; (case ok => assumption); (case B => k_asm); (case F => k_asm); (case X => k_asm); (case N => k_asm); (case T => k_asm); k_whole); intro r' h' tk' F' N' hg' ho'; (obtain ⟨t', hr'⟩ := ho'); subst hr'; clear hg'; (try k_sweep); (try dsimp only)))
local macro_rules | `(tactic| walk_at "call ref") => `(tactic| (k_here; (with_reducible show wpAny _ _ (call (Value.ref 152) [Value.str _ _]) _ _ _); k_dflt (refine' Spec.use (tl_k9 ?ok) ?B ?F ?X ?N ?T rfl rfl (Nat.le_of_ble_eq_true rfl) rfl rfl (Nat.le_of_ble_eq_true rfl) trivial ?_; (case ok => assumption); (case B => k_asm); (case F => k_asm); (case X => k_asm); (case N => k_asm); (case T => k_asm); k_whole); intro r' h' tk' F' N' hg' ho'; (obtain ⟨t', hr'⟩ := ho'); subst hr'; clear hg'; (try k_sweep); (try dsimp only)))
local macro_rules | `(tactic| walk_at "call ref") => `(tactic| (k_here; (with_reducible show wpAny _ _ (call (Value.ref 185) [Value.ref _]) _ _ _); k_dflt (refine' Spec.use (st_k ?ok) ?B ?F ?X ?N ?T rfl rfl (Nat.le_of_ble_eq_true rfl) rfl rfl (Nat.le_of_ble_eq_true rfl) ?pre ?_; (case pre => exact News.get (by assumption) (by k_mem)); (case ok => assumption); (case B => k_asm); (case F => k_asm); (case X => k_asm); (case N => k_asm); (case T => k_asm); k_whole); intro r' h' tk' F' N' hg' ho'; (obtain ⟨t', hr'⟩ := ho'); subst hr'; clear hg'; (try k_sweep); (try dsimp only)))
local macro_rules | `(tactic| walk_at "call ref") => `(tactic| (k_here; (with_reducible show wpAny _ _ (call (Value.ref 192) [Value.ref _]) _ _ _); (rename Fr _ _ _ _ => kF0); k_dflt (refine' Spec.use (ex_k ?ok) ?B kF0 ?X ?N ?T rfl rfl (Nat.le_of_ble_eq_true rfl) rfl rfl (Nat.le_of_ble_eq_true rfl) ?pre ?_; (case pre => exact News.get (by assumption) (by k_mem)); (case ok => assumption); (case B => k_asm); (case X => k_asm); (case N => k_asm); (case T => k_asm); k_whole); intro r' h' tk' F' N' hg' ho'; (obtain ⟨b', k', m', hr', hn', hs', hk'⟩ := ho'); subst hr'; clear hg'; (have st9 := stOk_of hk' (by assumption) (by assumption)); (have N9 := News.cons_out kF0 N' hn' hs'); clear N'; (try k_sweep); (try dsimp only)))
local macro_rules | `(tactic| walk_at "subscriptTail Tuple") => `(tactic| (refine stop ?_))
theorem sz_ints {vs : List Value} {ns : List Int} (h : IntsAre vs ns) (hn : ns.length ≤ 1000) : vs.toArray.size ≤ sizeLine := by
  rw [List.size_toArray, h.length]; exact fitsN (by omega)
theorem left_of_claim : PySem.Challenge.rw_rt0021_01.Holds := by
  w_on
  o_law
  refine PySem.W.holds_open (q := V) (loose := lo) (Xt := xt) (XP := XL V []) (Yf := Hook.obs HK) (Ya := Hook.val HK) (YP := Hook.says HK) (N := 5058) left (Hook.of HK) (Hook.keeps HK) (fun s e => xl_of s (Bool.and_eq_true_iff.mp e).1) XL.keeps (by rfl) (by rfl) (by rfl) (fun s e => recFacts_of (Bool.and_eq_true_iff.mp e).2) (by rfl) (by first | assumption | decide +kernel) (by decide +kernel) ⟨rfl, rfl, rfl, rfl, rfl, by decide +kernel⟩ ?hw ?hc
  case hw => w_witness2
  case hc =>
    unfold HK
    k_go0
    all_goals try k_fold
    k_steps
    unfold Stopped
    refine LCg.ListComp_U (F₀ := by k_asm) (by rfl) (by decide) (by rfl) (by decide) (by rfl) ?_
    k_steps
    unfold Stopped
    refine LCg.CompSrc.ledger (by rfl) (by k_asm) (by k_asm) (by k_mem) (sz_ints (by assumption) (by simp; omega)) ?_
    intro g1
    refine cm_ints (fun k => k.fmod 11) (by assumption) ?turn ?fin
    case turn =>
      intro k t I oI C oC D m₂ ys h tk E' hk hC hx F9 N9 off ne
      simp only [LCg.Off3, and_true] at off
      k_steps
    case fin =>
    intro ys hys D h tk F9 N9 off
    simp only [LCg.Off1, and_true] at off
    k_steps
    unfold Stopped
    rename IntsAre _ (_ ++ _ ++ _) => hInts
    rw [kinds_ints] at hInts
    obtain ⟨K, hKo, hInts⟩ : ∃ K, KOk K ∧ IntsAre _ (K.map Int.ofNat) := ⟨_, kinds_ok _, hInts⟩
    have hlen9 : (K.map Int.ofNat).length ≤ 1000 := by rw [List.length_map]; exact Nat.le_trans hKo.len (by decide)
    rename News _ _ _ _ => N1
    refine pick0e N1 ?_
    intro Dk e1 Nk
    clear N1
    subst e1
    -- written
    refine LCg.Assign_ListComp_U (F₀ := by k_asm) (by rfl) (by with_unfolding_all rfl) (by with_unfolding_all rfl) (by decide) (by rfl) (by decide) (by rfl) (by rfl) (by rfl) ?_
    k_steps
    unfold Stopped
    refine LCg.CompSrc.ledger (by rfl) (by k_asm) (by k_asm) (by k_mem) (sz_ints hInts hlen9) ?_
    intro g9
    refine cm_ops (atT wL) hInts ?turn ?fin
    case turn =>
      intro k t I oI C oC D9 m₂ ys h tk E' hk hC hx F9 N9 off ne
      have off0 := off
      have hk11 := hKo.small k hk
      simp only [LCg.Off3, and_true] at off
      k_steps
      unfold Stopped
      refine tup_menu (by k_asm) (by k_mem) (l := wL) (.str _ _ (.str _ _ (.str _ _ (.str _ _ (.str _ _ (.str _ _ (.str _ _ (.str _ _ (.str _ _ (.str _ _ (.str _ _ .nil))))))))))) rfl hk11 ?_ (by with_unfolding_all rfl)
      intro p hp
      dsimp only
      exact cm_end (by k_asm) (by k_asm) off0 (by lcg_src) ⟨p, rfl, hp⟩
    case fin =>

    intro lw hlw Dw hw tkw Fw Nw offw
    simp only [LCg.Off1, and_true] at offw
    obtain ⟨tw, rfl, htw⟩ := texts_of hlw fun k hk => (f_w k (hKo.small k hk)).1
    rw [lst_txts] at Nw
    k_steps
    unfold Stopped
    -- bare
    refine LCg.Assign_ListComp_U (F₀ := by k_asm) (by rfl) (by with_unfolding_all rfl) (by with_unfolding_all rfl) (by decide) (by rfl) (by decide) (by rfl) (by rfl) (by rfl) ?_
    k_steps
    unfold Stopped
    refine LCg.CompSrc.ledger (by rfl) (by k_asm) (by k_asm) (by k_mem) (sz_ints hInts hlen9) ?_
    intro g9
    refine cm_ops (atT bL) hInts ?turn ?fin
    case turn =>
      intro k t I oI C oC D9 m₂ ys h tk E' hk hC hx F9 N9 off ne
      have off0 := off
      have hk11 := hKo.small k hk
      simp only [LCg.Off3, and_true] at off
      k_steps
      unfold Stopped
      refine tup_menu (by k_asm) (by k_mem) (l := bL) (.str _ _ (.str _ _ (.str _ _ (.str _ _ (.str _ _ (.str _ _ (.str _ _ (.str _ _ (.str _ _ (.str _ _ (.str _ _ .nil))))))))))) rfl hk11 ?_ (by with_unfolding_all rfl)
      intro p hp
      dsimp only
      exact cm_end (by k_asm) (by k_asm) off0 (by lcg_src) ⟨p, rfl, hp⟩
    case fin =>
    intro lb hlb Db hb tkb Fb Nb offb
    simp only [LCg.Off1, and_true] at offb
    obtain ⟨tb, rfl, htb⟩ := texts_of hlb fun k hk => (f_b k (hKo.small k hk)).1
    rw [lst_txts] at Nb
    k_steps
    unfold Stopped
    -- first
    refine LCg.Assign_ListComp_U (F₀ := by k_asm) (by rfl) (by with_unfolding_all rfl) (by with_unfolding_all rfl) (by decide) (by rfl) (by decide) (by rfl) (by rfl) (by rfl) ?_
    k_steps
    unfold Stopped
    refine LCg.CompSrc.ledger (by rfl) (by k_asm) (by k_asm) (by k_mem) (sz_ints hInts hlen9) ?_
    intro g9
    refine cm_ops (atT fL) hInts ?turn ?fin
    case turn =>
      intro k t I oI C oC D9 m₂ ys h tk E' hk hC hx F9 N9 off ne
      have off0 := off
      have hk11 := hKo.small k hk
      simp only [LCg.Off3, and_true] at off
      k_steps
      unfold Stopped
      refine tup_menu (by k_asm) (by k_mem) (l := fL) (.str _ _ (.str _ _ (.str _ _ (.str _ _ (.str _ _ (.str _ _ (.str _ _ (.str _ _ (.str _ _ (.no (.no .nil))))))))))) rfl hk11 ?_ (by with_unfolding_all rfl)
      intro p hp
      dsimp only
      exact cm_end (by k_asm) (by k_asm) off0 (by lcg_src) ⟨p, rfl, hp⟩
    case fin =>
    intro lf hlf Df hf tkf Ff Nf offf
    simp only [LCg.Off1, and_true] at offf
    rw [lst_ops] at Nf
    have exf := exOk_of hKo hlf hf_f
    k_steps
    unfold Stopped
    -- second
    refine LCg.Assign_ListComp_U (F₀ := by k_asm) (by rfl) (by with_unfolding_all rfl) (by with_unfolding_all rfl) (by decide) (by rfl) (by decide) (by rfl) (by rfl) (by rfl) ?_
    k_steps
    unfold Stopped
    refine LCg.CompSrc.ledger (by rfl) (by k_asm) (by k_asm) (by k_mem) (sz_ints hInts hlen9) ?_
    intro g9
    refine cm_ops (atT sL) hInts ?turn ?fin
    case turn =>
      intro k t I oI C oC D9 m₂ ys h tk E' hk hC hx F9 N9 off ne
      have off0 := off
      have hk11 := hKo.small k hk
      simp only [LCg.Off3, and_true] at off
      k_steps
      unfold Stopped
      refine tup_menu (by k_asm) (by k_mem) (l := sL) (.str _ _ (.str _ _ (.str _ _ (.str _ _ (.str _ _ (.str _ _ (.str _ _ (.str _ _ (.str _ _ (.no (.str _ _ .nil))))))))))) rfl hk11 ?_ (by with_unfolding_all rfl)
      intro p hp
      dsimp only
      exact cm_end (by k_asm) (by k_asm) off0 (by lcg_src) ⟨p, rfl, hp⟩
    case fin =>
    intro ls hls Ds hs tks Fs Ns offs
    simp only [LCg.Off1, and_true] at offs
    rw [lst_ops] at Ns
    have exs := exOk_of hKo hls hf_s
    obtain ⟨R, B, Y1, Y2, Z2, WS, BS, TF, TS, ⟨kw, hR, hjo, n1, d1, kb, n2⟩, ⟨t1, kf, n3⟩, ⟨t2, d2, ks, n4⟩, ⟨z1, z2, z3, z4⟩, ⟨l1, l2, l3, l4⟩⟩ := law_facts hKo
    rw [kf] at exf
    rw [ks] at exs
    rw [kw] at htw
    rw [kb] at htb
    have stw := stOk_of htw z1 l1
    have stb := stOk_of htb z2 l2
    rw [← htw] at hR hjo
    clear htw htb kw kb kf ks hInts hKo hlw hlb hlf hls hlen9
    k_steps
end Mine
theorem PySem.Challenge.cw_rt0021_01_holds : PySem.Challenge.rw_rt0021_01.Holds := by
  exact Mine.left_of_claim
