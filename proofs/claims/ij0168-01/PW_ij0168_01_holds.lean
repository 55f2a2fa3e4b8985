import PyProof.Rows.All
import Wide.All
import OpenK.AllK
import Wide.FinOn
import PyProof.FactsAll.str_8
import PySem.Challenge.RW_ij0168_01
open PySem PySem.W PyProof.Rows
set_option Elab.async false
set_option compiler.extract_closed false
namespace Mine
set_option maxRecDepth 100000
set_option maxHeartbeats 8000000
section
local macro_rules | `(tactic| o_head $_) => `(tactic| exact False.elim (by assumption))
theorem hd : False → OpenRow.Holds PySem.Challenge.rw_ij0168_01.row := by
  intro f
  k_head
end
end Mine
open PySem.Calls PySem.Spec
set_option rowWalk.seconds 0
set_option linter.unusedVariables false
set_option linter.unusedSimpArgs false
set_option maxRecDepth 100000
set_option maxHeartbeats 4000000
namespace Mine
theorem fresh0 : True := by
  w_top off
  exact trivial
section
abbrev Kp (h h' : Heap) : Prop := ∀ b o, h.get? b = some o → h'.get? b = some o

/-- what stands around a call: no handler, room for d frames and u units, the text's objects, the top's facts -/
structure Gd (K : Frag) (p : Program) (loose : List Str) (mean : ExcName → Option Value) (mg mb : Str → Option Value) (A : Around) (h : Heap) (d u : Nat) : Prop where
  hh : A.handled = none
  dep : A.depth + d < recursionLimit
  uni : A.units + u < cLine
  K : K.In h
  T : Top p loose mean mg mb h

section
variable {K : Frag} {p : Program} {loose : List Str} {mean : ExcName → Option Value} {mg mb : Str → Option Value} {A : Around} {h h' : Heap} {d u d' u' : Nat}
theorem Gd.keeps (G : Gd K p loose mean mg mb A h d u) (k : Kp h h') : Gd K p loose mean mg mb A h' d u := ⟨G.hh, G.dep, G.uni, G.K.keeps k, G.T.keeps k⟩
theorem Gd.less (G : Gd K p loose mean mg mb A h d u) (hd : d' ≤ d) (hu : u' ≤ u) : Gd K p loose mean mg mb A h d' u' := ⟨G.hh, by have := G.dep; omega, by have := G.uni; omega, G.K, G.T⟩
theorem Gd.deeper (G : Gd K p loose mean mg mb A h (d + 1) (u + 3)) (env : Env) : Gd K p loose mean mg mb (A.deeper env) h d u := ⟨G.hh, by have := G.dep; show A.depth + 1 + d < _; omega, by have := G.uni; show A.units + 3 + u < _; omega, G.K, G.T⟩

/-- the entry of a def of the text's: the base is the whole heap, nothing is raised -/
theorem enter {prog : Program} {w : World} {s : Shared} {E Q : Value → Shared → Prop} {name qual : Str} {params : Arguments} {body : List Stmt} {scope : Scope} {cl : List (Str × Addr)} {dV kV doc pm cdv ct oc : Value} {an od : Option Addr} {osl : Array (Option Value)} {f : Addr} {args : List Value} {binds : List (Str × Value)}
    (G : Gd K p loose mean mg mb A s.heap d u)
    (ho : s.heap.get? f = some ⟨oc, od, .func (fnX name qual params body scope cl dV kV doc pm an cdv ct), osl⟩) (hcd : s.heap.CodeRec cdv qual)
    (hbind : BindsTo s (fnX name qual params body scope cl dV kV doc pm an cdv ct) ⟨args, []⟩ binds) (hloc : ∀ y ∈ binds, scope.names.lookup y.1 = some .local)
    (h : ∀ L h₁, Fr s.heap L h₁ (fun y => binds.reverse.lookup y) → News s.heap L h₁ [] →
      wpAny (model prog w) (A.deeper (envX qual scope L f cdv cl)) (execs body (envX qual scope L f cdv cl))
        (fun fl s' => Q (match fl with | .ret v => v | _ => .none) s') (fun _ _ => False) { s with heap := h₁, toks := s.toks + binds.length })
    (hco : scope.isCoroutine = false) (hgen : scope.isGenerator = false) (hk : scope.kind = .function)
    (hcell : ∀ x ∈ scope.names, x.2 ≠ .cell) : wpAny (model prog w) A (call (.ref f) args) Q E s := by
  refine wpAny_call (codeAny_call_def (fd := fnX name qual params body scope cl dV kV doc pm an cdv ct) (body := body) (binds := binds) (Nat.lt_of_le_of_lt (Nat.le_add_right _ _) G.dep) ho rfl G.T.nolimit hcd rfl hbind hcell hloc (fun h₁ hns hk₁ => ?_) hco hgen hk)
  exact wpAny_mono (h _ h₁ ⟨hns, hk₁, Nat.le_refl _⟩ News.nil) (fun fl s' hl => hl) fun _ _ x => x.elim
theorem fnK {f : Addr} {o : Obj} (X : K.In h) (e : K.lookup f = some o) : h.get? f = some o := X _ _ e
theorem codeK {cdv : Value} {q : Str} (X : K.In h) (e : codeIn K cdv q = true) : h.CodeRec cdv q := codeRec_of X e

theorem newsK {h₀ : Heap} {L l : Addr} {m : Str → Option Value} {news : List (Addr × Obj)} {o : Obj} (F : Fr h₀ L h m) (N : News h₀ L h news) (k : Kp h h') (e : h'.get? l = some o) (hl : h.get? l = none) : News h₀ L h' ((l, o) :: news) := by
  intro q hq
  rcases List.mem_cons.mp hq with rfl | hq
  · refine ⟨e, ?_, ?_⟩
    · rintro rfl
      obtain ⟨oL, _, _, e', _⟩ := F.ns
      rw [hl] at e'; cases e'
    · cases q : h₀.get? l with
      | none => rfl
      | some o' => have := F.keep _ _ q; rw [hl] at this; cases this
  · exact N.grown k q hq
theorem neK {h₀ : Heap} {L l : Addr} {news : List (Addr × Obj)} (N : News h₀ L h news) (hl : h.get? l = none) : ∀ q ∈ news, q.1 ≠ l := fun q hq e => by
  have := (N q hq).1; rw [e, hl] at this; cases this
/-- one entry of a ledger kept -/
theorem newsTake {h₀ : Heap} {L : Addr} {q : Addr × Obj} {news rest : List (Addr × Obj)} (N : News h₀ L h news) (hm : q ∈ news) (N' : News h₀ L h rest) : News h₀ L h (q :: rest) := fun p hp => (List.mem_cons.mp hp).elim (fun e => e ▸ N _ hm) (N' p)
theorem noneK {h₀ h₁ : Heap} {l : Addr} (k : Kp h₀ h₁) (hl : h₁.get? l = none) : h₀.get? l = none := by
  cases q : h₀.get? l with
  | none => rfl
  | some o => have := k _ _ q; rw [hl] at this; cases this
end

def TurnPost (h₀ : Heap) (L : Addr) (Jn : (Str → Option Value) → List (Addr × Obj) → Prop) (I : Addr) (oI : Obj) (s₁ : Shared) (Q : Flow → Shared → Prop) (f : Flow) (s₂ : Shared) : Prop :=
  match f with
  | .ret v => Q (.ret v) s₂
  | .brk => Q .next s₂
  | _ => ∃ h' tk m' news', s₂ = { s₁ with heap := h', toks := tk } ∧ Fr h₀ L h' m' ∧ News h₀ L h' ((I, oI) :: news') ∧ (∀ p ∈ news', p.1 ≠ I) ∧ Jn m' news'

theorem TurnPost.next {h₀ h' : Heap} {L : Addr} {Jn : (Str → Option Value) → List (Addr × Obj) → Prop} {I : Addr} {oI : Obj} {s₁ : Shared} {Q : Flow → Shared → Prop} {m' : Str → Option Value} {news' : List (Addr × Obj)} {tk : Nat}
    (F : Fr h₀ L h' m') (N : News h₀ L h' ((I, oI) :: news')) (hn : ∀ p ∈ news', p.1 ≠ I) (hJ : Jn m' news') : TurnPost h₀ L Jn I oI s₁ Q .next { s₁ with heap := h', toks := tk } := ⟨h', tk, m', news', rfl, F, N, hn, hJ⟩
theorem TurnPost.cont {h₀ h' : Heap} {L : Addr} {Jn : (Str → Option Value) → List (Addr × Obj) → Prop} {I : Addr} {oI : Obj} {s₁ : Shared} {Q : Flow → Shared → Prop} {m' : Str → Option Value} {news' : List (Addr × Obj)} {tk : Nat}
    (F : Fr h₀ L h' m') (N : News h₀ L h' ((I, oI) :: news')) (hn : ∀ p ∈ news', p.1 ≠ I) (hJ : Jn m' news') : TurnPost h₀ L Jn I oI s₁ Q .cont { s₁ with heap := h', toks := tk } := ⟨h', tk, m', news', rfl, F, N, hn, hJ⟩

section
variable {prog : Program} {w : World} {A : Around} {E : Value → Shared → Prop} {s : Shared} {env : Env} {h₀ : Heap} {x : Str} {body : List Stmt} {Q : Flow → Shared → Prop}

theorem forL {l : Addr} {lo : Obj} {vs : Array Value} {n : Nat} {m₀ : Str → Option Value} {news : List (Addr × Obj)} (J : Nat → (Str → Option Value) → List (Addr × Obj) → Prop)
    (hh : A.handled = none) (hc : lo.cls = .type "list") (hd : lo.data = .seq vs n) (hl : h₀.get? l = some lo ∨ ∀ i m news, J i m news → (l, lo) ∈ news)
    (F : Fr h₀ env.locals s.heap m₀) (N : News h₀ env.locals s.heap news) (hj : J 0 m₀ news)
    (turn : ∀ i v m₁ news₁ I oI h tk, i < vs.size → vs[i]? = some v → J i m₁ news₁ → (∀ p ∈ news₁, p.1 ≠ I) → Fr h₀ env.locals h (fun y => if y = x then some v else m₁ y) → News h₀ env.locals h ((I, oI) :: news₁) →
      wpAny (model prog w) A (execs body env) (TurnPost h₀ env.locals (J (i + 1)) I oI { s with heap := h, toks := tk } Q) E { s with heap := h, toks := tk })
    (done : ∀ m₁ news₁ h tk, J vs.size m₁ news₁ → Fr h₀ env.locals h m₁ → News h₀ env.locals h news₁ → Q .next { s with heap := h, toks := tk }) :
    wpAny (model prog w) A (pyIter (.ref l)) (fun it s₂ => LoopAtV prog w A h₀ env x body Q E it s₂) E s := by
  have at_ : ∀ {i m news h}, J i m news → Fr h₀ env.locals h m → News h₀ env.locals h news → h.get? l = some lo := fun hJ F N => hl.elim (fun e => F.keep _ _ e) fun k => (N _ (k _ _ _ hJ)).1
  have ho := at_ hj F N
  have hls : s.heap.IsList l vs := ⟨lo, ho, hc, n, hd⟩
  have hlt : l < s.heap.objs.size := Heap.lt_size ho
  have hne : l ≠ s.heap.objs.size := Nat.ne_of_lt hlt
  have hlL : l ≠ env.locals := by
    rintro rfl
    obtain ⟨o, es, ep, e, hd', _⟩ := F.ns
    rw [ho] at e; cases e; rw [hd] at hd'; cases hd'
  refine wpAny_pyIter_list hls ?_
  have W := Walks.list (prog := prog) (w := w) hh s.heap.objs.size l hne vs
  refine ⟨_, _, _, vs.size, _, _, m₀, news, J, rfl, W, ?_, ?_, ?_, ⟨⟨_, Heap.get?_push_size _ rfl, rfl, rfl⟩, hls.at fun o e => Heap.get?_push_of_some _ e⟩, F.push _, (fun p hp => ⟨Heap.get?_push_of_some _ (N p hp).1, (N p hp).2⟩), hj, ?_, ?_⟩
  · intro hm
    rcases List.mem_cons.mp hm with e | hm
    · exact absurd F.ns.lt (e ▸ Nat.lt_irrefl _)
    · exact hlL (List.mem_singleton.mp hm).symm
  · intro b hb
    rw [List.mem_singleton.mp hb]
    exact next_is_new F
  · intro p hp hI
    exact absurd (Heap.lt_size (N p hp).1) ((List.mem_singleton.mp hI) ▸ Nat.lt_irrefl _)
  · rintro i v m₁ news₁ s₁ own ⟨hh', tk', rfl⟩ hin hP hJ hoff hown hat hthere hSt F₁ N₁
    obtain ⟨oI, hoI, _⟩ := hSt.1
    have hI₀ : h₀.get? s.heap.objs.size = none := next_is_new F
    have hmem : (s.heap.objs.size, oI) ∈ own := hthere _ (.head _) hI₀ _ hoI
    have N₂ : News h₀ env.locals hh' ((s.heap.objs.size, oI) :: news₁) := fun p hp => (List.mem_cons.mp hp).elim (fun e => e ▸ N₁ _ (List.mem_append_left _ hmem)) fun h => N₁ _ (List.mem_append_right _ h)
    have hnl : ∀ p ∈ news₁, p.1 ≠ s.heap.objs.size := fun p hp q => hoff p hp (by rw [q]; exact .head _)
    refine wpAny_mono (turn i v m₁ news₁ _ oI hh' tk' hin hP hJ hnl F₁ N₂) (fun f s₂ p => ?_) fun _ _ e => e
    have fin : (∃ h' tk m' news', s₂ = { ({ s with heap := hh', toks := tk' } : Shared) with heap := h', toks := tk } ∧ Fr h₀ env.locals h' m' ∧ News h₀ env.locals h' ((s.heap.objs.size, oI) :: news') ∧ (∀ p ∈ news', p.1 ≠ s.heap.objs.size) ∧ J (i + 1) m' news') →
        LoopStepU h₀ env.locals [s.heap.objs.size] own (J (i + 1)) { s with heap := hh', toks := tk' } .next s₂ := by
      rintro ⟨h', tk, m', news', e, F', N', hn, hJ'⟩
      refine ⟨rfl, h', tk, m', news', e, F', fun p hp => ?_, fun p hp hq => hn p hp (List.mem_singleton.mp hq), hJ'⟩
      rcases List.mem_append.mp hp with hp | hp
      · refine ⟨?_, (N₁ p (List.mem_append_left _ hp)).2⟩
        rcases List.mem_cons.mp (hown p hp) with q | q
        · have h1 := (N' _ (.head _)).1
          have h2 := hat p hp
          rw [q] at h2 ⊢
          rw [show ({ s with heap := hh', toks := tk' } : Shared).heap.get? s.heap.objs.size = some oI from hoI] at h2
          rw [← h2]; exact h1
        · have q := List.mem_singleton.mp q
          have h1 := at_ hJ' F' (fun p hp => N' p (.tail _ hp))
          have h2 := hat p hp
          have h3 : hh'.get? l = some lo := hl.elim (fun e => F₁.keep _ _ e) fun k => (N₁ _ (List.mem_append_right _ (k _ _ _ hJ))).1
          rw [q] at h2 ⊢
          rw [show ({ s with heap := hh', toks := tk' } : Shared).heap.get? l = some lo from h3] at h2
          rw [← h2]; exact h1
      · exact N' p (.tail _ hp)
    cases f with
    | ret v => exact .ret p
    | brk => exact .brk p
    | next => exact .next (fin p)
    | cont => exact .cont (fin p)
  · rintro h' tk m' news' F' N' _ hJ
    exact done m' news' h' tk hJ F' N'
end

/-- a frame's map with names read off -/
theorem read1 {m : Str → Option Value} {a : Str} {v : Value} (h : m a = some v) : ∃ u : Str → Option Value, m = fun y => if y = a then some v else u y := by
  refine ⟨m, ?_⟩
  funext y
  by_cases e : y = a
  · subst e; rw [if_pos rfl]; exact h
  · rw [if_neg e]
theorem read2 {m : Str → Option Value} {a b : Str} {v x : Value} (h : m a = some v) (h2 : m b = some x) : ∃ u : Str → Option Value, m = fun y => if y = a then some v else if y = b then some x else u y := by
  obtain ⟨u, e⟩ := read1 h2
  refine ⟨u, ?_⟩
  funext y
  by_cases q : y = a
  · subst q; rw [if_pos rfl]; exact h
  · rw [if_neg q, e]
theorem read3 {m : Str → Option Value} {a b c : Str} {v x z : Value} (h : m a = some v) (h2 : m b = some x) (h3 : m c = some z) : ∃ u : Str → Option Value, m = fun y => if y = a then some v else if y = b then some x else if y = c then some z else u y := by
  obtain ⟨u, e⟩ := read2 h2 h3
  refine ⟨u, ?_⟩
  funext y
  by_cases q : y = a
  · subst q; rw [if_pos rfl]; exact h
  · rw [if_neg q, e]
theorem read4 {m : Str → Option Value} {a b c d : Str} {v x z k : Value} (h : m a = some v) (h2 : m b = some x) (h3 : m c = some z) (h4 : m d = some k) : ∃ u : Str → Option Value, m = fun y => if y = a then some v else if y = b then some x else if y = c then some z else if y = d then some k else u y := by
  obtain ⟨u, e⟩ := read3 h2 h3 h4
  refine ⟨u, ?_⟩
  funext y
  by_cases q : y = a
  · subst q; rw [if_pos rfl]; exact h
  · rw [if_neg q, e]

/-! lists of texts -/
def strsP (ss : List Str) : PyData := .list (ss.map PyData.str)
def Okk (ss : List Str) : Prop := ∀ x ∈ ss, PyData.strOk x = true
theorem Okk.nil : Okk [] := fun _ h => nomatch h
theorem Okk.cons {a : Str} {r : List Str} (h : PyData.strOk a = true) (t : Okk r) : Okk (a :: r) := fun x hx => (List.mem_cons.mp hx).elim (fun e => e ▸ h) (t x)
theorem Okk.append {a b : List Str} (h : Okk a) (t : Okk b) : Okk (a ++ b) := fun x hx => (List.mem_append.mp hx).elim (h x) (t x)
theorem canLayAll0_strs : ∀ ss : List Str, Okk ss → PyData.canLayAll0 (ss.map PyData.str) = true
  | [], _ => by simp [PyData.canLayAll0]
  | n :: r, h => by simp [PyData.canLayAll0, PyData.canLay0, canLayAll0_strs r fun x hx => h x (.tail _ hx), h n (.head _)]
theorem depthAll_strs : ∀ ss : List Str, PyData.depthAll (ss.map PyData.str) ≤ 1
  | [] => by simp [PyData.depthAll]
  | n :: r => by
    have := depthAll_strs r
    simp only [List.map_cons, PyData.depthAll, PyData.depth]
    omega
theorem shaped_strs (ss : List Str) (h : Okk ss) : SeqAt.shaped (strsP ss) = true := by
  have h1 := depthAll_strs ss
  have h2 : PyData.depth (strsP ss) ≤ 64 := by simp only [strsP, PyData.depth]; omega
  show (PyData.canLay0 (.list (ss.map PyData.str)) && decide (PyData.depth (.list (ss.map PyData.str)) ≤ 64)) = true
  rw [Bool.and_eq_true]
  exact ⟨by simp only [PyData.canLay0]; exact canLayAll0_strs ss h, decide_eq_true h2⟩
theorem eqvAll_strs : ∀ ss ts : List Str, PyData.eqvAll (ss.map PyData.str) (ts.map PyData.str) = decide (ss = ts)
  | [], [] => by simp [PyData.eqvAll]
  | [], _ :: _ => by simp [PyData.eqvAll]
  | _ :: _, [] => by simp [PyData.eqvAll]
  | n :: r, k :: q => by
    simp only [List.map_cons, PyData.eqvAll, PyData.eqv, eqvAll_strs r q]
    by_cases h : n = k <;> simp [h]
theorem eqv_strs (ss ts : List Str) : PyData.eqv (strsP ss) (strsP ts) = decide (ss = ts) := by
  simp only [strsP, PyData.eqv]; exact eqvAll_strs ss ts
theorem reads_strs {h : Heap} {a : Addr} {vs : List Value} {ss : List Str} (hl : h.IsList a vs.toArray) (hi : StrsAre vs ss) : Reads h (.ref a) (strsP ss) [a] := by
  obtain ⟨o, ho, hc, n, hd⟩ := hl
  exact Reads.list ho hc hd (by simpa using StrsAre.reads h hi)
theorem memL {h₀ h : Heap} {L l : Addr} {news : List (Addr × Obj)} {vs : List Value} {n : Nat} (N : News h₀ L h news) (hm : (l, listOf vs.toArray n) ∈ news) : h.IsList l vs.toArray := ⟨_, N.get hm, rfl, _, rfl⟩
section
variable {prog : Program} {w : World} {A : Around} {E : Value → Shared → Prop} {s : Shared} {h₀ : Heap} {L : Addr} {m : Str → Option Value} {news : List (Addr × Obj)} {a b : Addr} {vs us : List Value} {ss ts : List Str} {Q : Value → Shared → Prop}
theorem eq_strsL (hl : s.heap.IsList a vs.toArray) (hi : StrsAre vs ss) (hl' : s.heap.IsList b us.toArray) (hi' : StrsAre us ts) (ok : Okk ss) (ok' : Okk ts) (hu : A.units + 64 < cLine)
    (h : Q (.bool (decide (ss = ts))) s) : wpAny (model prog w) A (compareOp .Eq (.ref a) (.ref b)) Q E s :=
  eq_dataH (reads_strs hl hi) (reads_strs hl' hi') (shaped_strs ss ok) (shaped_strs ts ok') hu (by rw [eqv_strs]; exact h)
theorem ne_strsL (hl : s.heap.IsList a vs.toArray) (hi : StrsAre vs ss) (hl' : s.heap.IsList b us.toArray) (hi' : StrsAre us ts) (ok : Okk ss) (ok' : Okk ts) (hu : A.units + 64 < cLine)
    (h : Q (.bool (!decide (ss = ts))) s) : wpAny (model prog w) A (compareOp .NotEq (.ref a) (.ref b)) Q E s :=
  ne_dataH (reads_strs hl hi) (reads_strs hl' hi') (shaped_strs ss ok) (shaped_strs ts ok') hu (by rw [eqv_strs]; exact h)

theorem last_strs {value slice : PySem.Expr} {u : Tok} (hl : s.heap.IsList a vs.toArray) (hi : StrsAre vs ss) (hne : ss ≠ [])
    (h : ∀ t, Q (.str (ss.getLast?.getD (Str.ofString "")) t) s) (hs : subscripted slice false (.ref a) (.int (-1) u) = operate [.ref a, .int (-1) u] (getItem (.ref a) (.int (-1) u)) := by with_unfolding_all rfl) :
    wpAny (model prog w) A (subscriptTail value slice (.ref a) (.int (-1) u)) Q E s := by
  have hlen := hi.length
  have hpos : 0 < ss.length := List.length_pos_iff.mpr hne
  obtain ⟨t, ht⟩ := hi.get (ss.length - 1) (ss.getLast?.getD (Str.ofString "")) (by rw [List.getLast?_eq_getElem?, List.getElem?_eq_getElem (by omega)]; rfl)
  refine tail_any hl.typeIs slot_list_getitem.lookup (wpAny_getItem_list_neg hl (by decide) ?_ (by decide) ?_ (h t)) hs
  · rw [List.size_toArray]; omega
  · rw [List.size_toArray, hlen, show ((-1 : Int) + (ss.length : Int)).toNat = ss.length - 1 by omega]
    simpa using ht
theorem pick_upto_neg1 : (slicePick vs.toArray none (some (-1)) none) = (vs.take (vs.length - 1)).toArray := by
  have e : sliceBounds none (some (-1)) none vs.toArray.size = (((0 : Nat) : Int), ((vs.length - 1 : Nat) : Int), 1) := by
    simp only [sliceBounds, Option.getD_none, show (1 : Int) > 0 by decide, if_true, show ((-1 : Int) < 0) by decide, List.size_toArray]
    congr 1
    congr 1
    omega
  rw [kmk_pick_nat _ e]
  simp
theorem slice_droplast {value slice : PySem.Expr} {vl vu : Value} (F : Fr h₀ L s.heap m) (N : News h₀ L s.heap news) (hl : s.heap.IsList a vs.toArray) (hi : StrsAre vs ss) (pl : IsPart vl none) (pu : IsPart vu (some (-1)))
    (h : ∀ D ws h', Fr h₀ L h' m → News h₀ L h' ((D, listOf (List.toArray ws) 0) :: news) → (∀ p ∈ news, p.1 < D) → StrsAre ws ss.dropLast → Q (.ref D) { s with heap := h' })
    (hs : subscripted slice false (.ref a) (.ref s.heap.objs.size) = operate [.ref s.heap.objs.size, .ref a] (getItem (.ref a) (.ref s.heap.objs.size))) (ht : ∀ r, letTemporaryGo value (.ref a) r = pure ()) (hz : ss.length ≤ sizeLine) :
    wpAny (model prog w) A (subscriptTail value slice (.ref a) (.ref s.heap.objs.size)) Q E { s with heap := s.heap.push { cls := .type "slice", data := .fields #[vl, vu, .none] } } := by
  refine kmk_slice F N hl pl pu (fun D h' F' N' l1 => h D (vs.take (vs.length - 1)) h' F' ?_ l1 ?_) hs ht (by rw [List.size_toArray, hi.length]; exact hz)
  · rw [pick_upto_neg1] at N'; exact N'
  · rw [List.dropLast_eq_take, ← hi.length]; exact hi.take' _
theorem add_strs (F : Fr h₀ L s.heap m) (N : News h₀ L s.heap news) (hl : s.heap.IsList a vs.toArray) (hi : StrsAre vs ss) (hl' : s.heap.IsList b us.toArray) (hi' : StrsAre us ts) (hz : ss.length + ts.length ≤ sizeLine)
    (h : ∀ D ws h', Fr h₀ L h' m → News h₀ L h' ((D, listOf (List.toArray ws) 0) :: news) → (∀ p ∈ news, p.1 < D) → StrsAre ws (ss ++ ts) → Q (.ref D) { s with heap := h' }) :
    wpAny (model prog w) A (binaryOp .Add (.ref a) (.ref b)) Q E s :=
  add_arrays F N hl hl' (fun h' F' N' => h _ _ h' F' N' (fun p hp => Heap.lt_size (N p hp).1) (by simpa using hi.append' hi')) (by rw [List.size_toArray, List.size_toArray, hi.length, hi'.length]; exact hz)
end
theorem read5 {m : Str → Option Value} {a b c d e : Str} {v x z k y₅ : Value} (h : m a = some v) (h2 : m b = some x) (h3 : m c = some z) (h4 : m d = some k) (h5 : m e = some y₅) : ∃ u : Str → Option Value, m = fun y => if y = a then some v else if y = b then some x else if y = c then some z else if y = d then some k else if y = e then some y₅ else u y := by
  obtain ⟨u, e⟩ := read4 h2 h3 h4 h5
  refine ⟨u, ?_⟩
  funext y
  by_cases q : y = a
  · subst q; rw [if_pos rfl]; exact h
  · rw [if_neg q, e]
section
variable {prog : Program} {w : World} {A : Around} {E : Value → Shared → Prop} {s : Shared} {h₀ : Heap} {L D : Addr} {m : Str → Option Value} {news news' : List (Addr × Obj)} {n : Nat} {ws : List Value} {ss : List Str}
theorem append_strs {x : Str} {t : Tok} {Q : Value → Shared → Prop} (F : Fr h₀ L s.heap m) (N : News h₀ L s.heap news) (hi : StrsAre ws ss) (U : Upd D (listOf ws.toArray n) (listOf (ws ++ [Value.str x t]).toArray (n + 1)) news news') (hz : ss.length ≤ sizeLine)
    (h : ∀ h', Fr h₀ L h' m → News h₀ L h' news' → StrsAre (ws ++ [Value.str x t]) (ss ++ [x]) → Q .none { s with heap := h' }) : wpAny (model prog w) A (call (.builtin "list.append") [.ref D, .str x t]) Q E s := by
  have U' : Upd D (listOf ws.toArray n) (listOf (ws.toArray.push (.str x t)) (n + 1)) news news' := by
    rw [List.push_toArray]; exact U
  exact append_K F N U' (fun h' F' N' => h h' F' N' (hi.append' (.cons _ _ .nil))) (by rw [List.size_toArray, hi.length]; exact hz)
theorem pop_last : ∀ {us : List Value} {l : List Str}, StrsAre us l → 0 < us.length → ∃ y, us = us.dropLast ++ [y] ∧ StrsAre us.dropLast l.dropLast
  | _, _, .nil, h => absurd h (Nat.lt_irrefl 0)
  | _, _, .cons x t .nil, _ => ⟨_, rfl, .nil⟩
  | _, _, .cons x t (.cons x' t' r), _ => by
    obtain ⟨y, h1, h2⟩ := pop_last (.cons x' t' r) (Nat.succ_pos _)
    exact ⟨y, congrArg (List.cons (Value.str x t)) h1, .cons x t h2⟩
theorem pop_strs {Q : Value → Shared → Prop} (F : Fr h₀ L s.heap m) (N : News h₀ L s.heap news) (hi : StrsAre ws ss) (U : Upd D (listOf ws.toArray n) (listOf ws.dropLast.toArray (n + 1)) news news') (hne : ss ≠ []) (hz : ss.length ≤ sizeLine)
    (h : ∀ v h', Fr h₀ L h' m → News h₀ L h' news' → StrsAre ws.dropLast ss.dropLast → Q v { s with heap := h' }) : wpAny (model prog w) A (call (.builtin "list.pop") [.ref D]) Q E s := by
  have hl := hi.length
  have hp : 0 < ws.length := by rw [hl]; exact List.length_pos_iff.mpr hne
  obtain ⟨y, h1, h3⟩ := pop_last hi hp
  refine kl_pop F N (p := ws.dropLast) (y := y) ?_ U (by simpa [hl] using hz) fun h' F' N' => h _ h' F' N' h3
  have e := kpa_last y ws.dropLast
  rw [← h1] at e
  simpa using e
end
section
variable {prog : Program} {w : World} {A : Around} {E : Value → Shared → Prop} {s : Shared}
theorem truthy_strsL {l : Addr} {vs : List Value} {ss : List Str} {Q : Bool → Shared → Prop} (hl : s.heap.IsList l vs.toArray) (hi : StrsAre vs ss) (hfit : ss.length < 2 ^ 62)
    (h : Q (!decide (ss = [])) { s with toks := s.toks + 1 + 1 }) : wpAny (model prog w) A (truthy (.ref l)) Q E s :=
  wpAny_truthy_list hl (by have := hi.length; simp only [List.size_toArray]; omega) (by
    have e : (!vs.toArray.isEmpty) = !decide (ss = []) := by
      cases hi with
      | nil => rfl
      | cons _ _ _ => simp
    rw [e]; exact h)
theorem len_strsL {l : Addr} {vs : List Value} {ss : List Str} {Q : Value → Shared → Prop} (hl : s.heap.IsList l vs.toArray) (hi : StrsAre vs ss) (hfit : ss.length < 2 ^ 62)
    (h : Q (.int (ss.length : Nat) (s.toks + 1)) { s with toks := s.toks + 1 + 1 }) : wpAny (model prog w) A (call (.builtin "len") [.ref l]) Q E s := by
    have e : vs.toArray.size = ss.length := by simp [hi.length]
    refine Calls.call_len_list hl (by omega) ?_
    rw [e]
    exact h
theorem add_empty {y : Str} {t u : Tok} {Q : Value → Shared → Prop} (h : Q (.str y u) s) : wpAny (model prog w) A (binaryOp .Add (.str (Str.ofString "") t) (.str y u)) Q E s :=
  PySem.P.add_str (by rw [if_pos (by decide +kernel)]; exact h)
end
/-- a goal held back from the walk -/
def Hold (P : Prop) : Prop := P
theorem hold {P : Prop} (h : Hold P) : P := h
section
variable {K : Frag} {p : Program} {loose : List Str} {mean : ExcName → Option Value} {mg mb : Str → Option Value} {A : Around} {d u : Nat}
/-- the entry of a def whose names are cells too -/
theorem enterC {prog : Program} {w : World} {s : Shared} {E Q : Value → Shared → Prop} {name qual : Str} {params : Arguments} {body : List Stmt} {scope : Scope} {dV kV doc pm cdv ct oc : Value} {an od : Option Addr} {osl : Array (Option Value)} {f : Addr} {args : List Value} {binds : List (Str × Value)}
    (G : Gd K p loose mean mg mb A s.heap d u)
    (ho : s.heap.get? f = some ⟨oc, od, .func (fnX name qual params body scope [] dV kV doc pm an cdv ct), osl⟩) (hcd : s.heap.CodeRec cdv qual)
    (hbind : BindsTo s (fnX name qual params body scope [] dV kV doc pm an cdv ct) ⟨args, []⟩ binds)
    (hkind : (binds.all fun y => scope.names.lookup y.1 == some .local || scope.names.lookup y.1 == some .cell) = true) (hnd : ((cellsFrom 0 scope.names []).map (·.1)).Nodup)
    (h : ∀ L h₁ tk cells, Fr s.heap L h₁ (bindL (envOfC qual scope L f cdv).kindOf binds fun _ => none) → News s.heap L h₁ cells →
      CellsAre (bindC (envOfC qual scope L f cdv).kindOf binds fun _ => none) (cellsFrom (L + 1) scope.names []) cells →
      wpAny (model prog w) (A.deeper (envOfC qual scope L f cdv)) (execs body (envOfC qual scope L f cdv))
        (fun fl s' => Q (match fl with | .ret v => v | _ => .none) s') (fun _ _ => False) { s with heap := h₁, toks := tk })
    (hco : scope.isCoroutine = false) (hgen : scope.isGenerator = false) (hk : scope.kind = .function) : wpAny (model prog w) A (call (.ref f) args) Q E s := by
  refine wpAny_call (codeAny_call_function (fd := fnX name qual params body scope [] dV kV doc pm an cdv ct) (body := body) (Nat.lt_of_le_of_lt (Nat.le_add_right _ _) G.dep) ho rfl hco hgen rfl hcd (hbind _ _ _ _ ?_))
  refine wpAny_newFunctionEnv_cells hk (kindsX hkind _) fun env' he s' x => ?_
  subst he
  refine ⟨G.T.nolimit.keeps x.toInCall.keep, codeAny_func ?_⟩
  obtain ⟨h₁, tk, rfl, _⟩ := x.done
  obtain ⟨cells, NC, Y⟩ := Cl.news (h₀ := s.heap) (Nat.le_refl _) fun n c hm => ⟨x.cell n c (lookup_of_mem_nodup (cellsFrom_names scope.names 0 (s.heap.objs.size + 1) [] [] rfl ▸ hnd) hm), x.above n c hm⟩
  exact wpAny_mono (h s.heap.objs.size h₁ tk cells ⟨x.toInCall.ns, x.toInCall.keep, Nat.le_refl _⟩ NC Y) (fun fl s' hl => hl) fun _ _ x => x.elim
end

end
section
theorem fresh1 : True := by
  w_top off
  exact trivial
/-! a call run by the semantics' own tree, in a room of written size -/
abbrev roomA : Around := { handled := none, depth := 400, frames := none, guards := none, units := 3000 }
theorem inRoom {A : Around} {Γ : PySem.Ctx} (hh : A.handled = none) (hd : A.depth ≤ 400) (hu : A.units ≤ 3000) (h : Γ.In A) : Γ.In roomA :=
  ⟨h.1.trans hh, Nat.le_trans h.2.1 hd, (fun _ e => by cases e), (fun _ e => by cases e), Nat.le_trans h.2.2.2.2 hu⟩
theorem wpRoom {α : Type} {M : Model} {A : Around} {t : Sem α} {Q : α → Shared → Prop} {E : Value → Shared → Prop} {s : Shared} (hh : A.handled = none) (hd : A.depth ≤ 400) (hu : A.units ≤ 3000) (h : wpAny M roomA t Q E s) : wpAny M A t Q E s :=
  fun Γ p hΓ => h Γ p (inRoom hh hd hu hΓ)
theorem memKp {h₀ h : Heap} {news : List (Addr × Obj)} (D : X.Mem h₀ h [] news) : Kp h₀ h := fun b o e => D.keep b o e (by simp [X.away])
/-- what a run call hands on -/
def XRet (P : Prop) : Prop := P
theorem XRet.out {P : Prop} (h : XRet P) : P := h
local macro_rules | `(tactic| x_close) => `(tactic| ((with_reducible rename XRet _ => xr); first | exact (XRet.out xr) _ _ (memKp (by assumption)) | exact (XRet.out xr) _ _ (fun _ _ e => e)))

theorem x_issub (w : World) {A : Around} {s : Shared} {Q E : Value → Shared → Prop} {D : Addr} (X : (hd.heap_1 w.params).In s.heap)
    (hD : s.heap.get? D = some { cls := Value.type "tuple", data := Data.seq #[Value.type "str", Value.type "bytes"] })
    (xret : XRet (∀ h' tk', Kp s.heap h' → Q (.bool true) { s with heap := h', toks := tk' })) :
    wpAny (model PySem.Challenge.rw_ij0168_01.row.prog w) A (call (.builtin "issubclass") [.type "str", .ref D]) Q E s := by
  revert X; k_fill; intro X
  x_run

theorem fresh2 : True := by
  w_top off
  exact trivial
local macro_rules | `(tactic| walk_at "call builtin:issubclass") => `(tactic| (k_here; k_dflt (refine' x_issub _ ?X ?D ?_; (case X => k_in); (case D => exact News.get (by k_asm) (by k_mem)); k_whole); (refine (show XRet _ from ?_)); (show ∀ _, _); intro h' tk' hk'; (with_reducible rename Fr _ _ _ _ => lF); (with_reducible rename News _ _ _ _ => lN); (have F' := Fr.keeps lF hk'); (have N' := News.grown lN hk'); clear lF lN hk'))
theorem t_fspath (w : World) {mean : ExcName → Option Value} {mg mb : Str → Option Value} {loose : List Str} {A : Around} {s : Shared} {Q E : Value → Shared → Prop} (x : Str) (t : Tok)
    (G : Gd (hd.heap_1 w.params) topProg loose mean mg mb A s.heap 5 100)
    (ret : ∀ h' tk', Kp s.heap h' → Q (.str x t) { s with heap := h', toks := tk' }) :
    wpAny (model PySem.Challenge.rw_ij0168_01.row.prog w) A (call (.ref 151) [.str x t]) Q E s := by
  obtain ⟨hd9, dp9, fr9, gs9, un9⟩ := A; obtain rfl : hd9 = none := G.hh
  revert G; k_fill; intro G
  (have mX := Gd.K G); (have mT := Gd.T G); (have mH := Gd.hh G); (have mU := Gd.uni G); (have mD := Gd.dep G)
  refine' enter (binds := [(Str.ofString "path", .str x t)]) G ?o_5 ?c_5 ?b_5 ?l_5 ?_ ?c2_5 ?c3_5 ?c4_5 ?c5_5
  (case o_5 => refine fnK mX ?_; k_dflt k_is)
  (case c_5 => refine codeK mX ?_; k_dflt k_is); (case b_5 => first | exact BindsTo.of_eq rfl | exact binds_K mX rfl (by k_is) rfl rfl rfl); (case l_5 => exact locs rfl); (case c2_5 => exact rfl); (case c3_5 => exact rfl); (case c4_5 => exact rfl); (case c5_5 => decide)
  intro L' h' F' N'; (try dsimp only); (try k_fold)
  k_steps
  all_goals (exact ret _ _ (Fr.keep (by assumption)))
theorem t_sep (w : World) {mean : ExcName → Option Value} {mg mb : Str → Option Value} {loose : List Str} {A : Around} {s : Shared} {Q E : Value → Shared → Prop} (x : Str) (t : Tok)
    (G : Gd (hd.heap_1 w.params) topProg loose mean mg mb A s.heap 5 100)
    (ret : ∀ h' tk' t', Kp s.heap h' → Q (.str (Str.ofString "/") t') { s with heap := h', toks := tk' }) :
    wpAny (model PySem.Challenge.rw_ij0168_01.row.prog w) A (call (.ref 78) [.str x t]) Q E s := by
  obtain ⟨hd9, dp9, fr9, gs9, un9⟩ := A; obtain rfl : hd9 = none := G.hh
  revert G; k_fill; intro G
  (have mX := Gd.K G); (have mT := Gd.T G); (have mH := Gd.hh G); (have mU := Gd.uni G); (have mD := Gd.dep G)
  refine' enter (binds := [(Str.ofString "path", .str x t)]) G ?o_6 ?c_6 ?b_6 ?l_6 ?_ ?c2_6 ?c3_6 ?c4_6 ?c5_6
  (case o_6 => refine fnK mX ?_; k_dflt k_is)
  (case c_6 => refine codeK mX ?_; k_dflt k_is); (case b_6 => first | exact BindsTo.of_eq rfl | exact binds_K mX rfl (by k_is) rfl rfl rfl); (case l_6 => exact locs rfl); (case c2_6 => exact rfl); (case c3_6 => exact rfl); (case c4_6 => exact rfl); (case c5_6 => decide)
  intro L' h' F' N'; (try dsimp only); (try k_fold)
  k_steps
  all_goals (exact ret _ _ _ (Fr.keep (by assumption)))

end
section
theorem fresh3 : True := by
  w_top off
  exact trivial
local macro_rules | `(tactic| walk_at "mine kept") => `(tactic| ((with_reducible rename Kp _ _ => hk'); (with_reducible rename Fr _ _ _ _ => lF); (with_reducible rename News _ _ _ _ => lN); (have F' := Fr.keeps lF hk'); (have N' := News.grown lN hk'); clear lF lN hk'))
local macro_rules | `(tactic| walk_at "mine gd") => `(tactic| ((with_reducible rename Gd _ _ _ _ _ _ _ _ _ _ => mG); exact Gd.keeps (Gd.deeper (Gd.less mG (by decide) (by decide)) _) (Fr.keep (by k_asm))))
local macro_rules | `(tactic| walk_at "call ref") => `(tactic| (k_here; k_dflt (refine' t_fspath _ _ _ ?G ?_; (case G => walk_at "mine gd"); k_whole); intro h' tk' hk'; walk_at "mine kept"; (try dsimp only)))
local macro_rules | `(tactic| walk_at "call ref") => `(tactic| (k_here; k_dflt (refine' t_sep _ _ _ ?G ?_; (case G => walk_at "mine gd"); k_whole); intro h' tk' t' hk'; walk_at "mine kept"; (try dsimp only)))
abbrev tupO (its : Array Value) : Obj := { cls := Value.type "tuple", data := Data.seq its }
def splitH0 (x : Str) : Str := Txt.slice x none (some (Txt.rfind x (Str.ofString "/") + 1))
def splitHead (x : Str) : Str :=
  if ((splitH0 x).length : Int) ≠ 0 ∧ (splitH0 x != Txt.mul (Str.ofString "/") ((splitH0 x).length : Int)) = true then Txt.rstripChars (splitH0 x) (Str.ofString "/") else splitH0 x
def splitTail (x : Str) : Str := Txt.slice x (some (Txt.rfind x (Str.ofString "/") + 1)) none
theorem splitHead_no {x : Str} (h : ¬ (((splitH0 x).length : Int) ≠ 0 ∧ (splitH0 x != Txt.mul (Str.ofString "/") ((splitH0 x).length : Int)) = true)) : splitHead x = splitH0 x := if_neg h
theorem splitHead_yes {x : Str} (h : ((splitH0 x).length : Int) ≠ 0) (h2 : (splitH0 x != Txt.mul (Str.ofString "/") ((splitH0 x).length : Int)) = true) : splitHead x = Txt.rstripChars (splitH0 x) (Str.ofString "/") := if_pos ⟨h, h2⟩
theorem t_split (w : World) {mean : ExcName → Option Value} {mg mb : Str → Option Value} {loose : List Str} {A : Around} {s : Shared} {Q E : Value → Shared → Prop} (x : Str) (t : Tok)
    (G : Gd (hd.heap_1 w.params) topProg loose mean mg mb A s.heap 10 200) (hx : x.length < 10000)
    (ret : ∀ T h' tk' ta tb, Kp s.heap h' → h'.get? T = some (tupO #[.str (splitHead x) ta, .str (splitTail x) tb]) → s.heap.get? T = none → Q (.ref T) { s with heap := h', toks := tk' }) :
    wpAny (model PySem.Challenge.rw_ij0168_01.row.prog w) A (call (.ref 158) [.str x t]) Q E s := by
  obtain ⟨hd9, dp9, fr9, gs9, un9⟩ := A; obtain rfl : hd9 = none := G.hh
  revert G; k_fill; intro G
  (have mX := Gd.K G); (have mT := Gd.T G); (have mH := Gd.hh G); (have mU := Gd.uni G); (have mD := Gd.dep G)
  refine' enter (binds := [(Str.ofString "p", .str x t)]) G ?o_9 ?c_9 ?b_9 ?l_9 ?_ ?c2_9 ?c3_9 ?c4_9 ?c5_9
  (case o_9 => refine fnK mX ?_; k_dflt k_is)
  (case c_9 => refine codeK mX ?_; k_dflt k_is); (case b_9 => first | exact BindsTo.of_eq rfl | exact binds_K mX rfl (by k_is) rfl rfl rfl); (case l_9 => exact locs rfl); (case c2_9 => exact rfl); (case c3_9 => exact rfl); (case c4_9 => exact rfl); (case c5_9 => decide)
  intro L' h' F' N'; (try dsimp only); (try k_fold)
  k_steps
  all_goals (
    (with_reducible rename Fr _ _ _ _ => lF); (with_reducible rename News _ _ _ _ => lN)
    have hn := (lN _ (.head _)).2.2
    have hg := (lN _ (.head _)).1
    dsimp only at hn hg
    exact ret _ _ _ _ _ lF.keep (by first
      | (rw [splitHead_yes (by assumption) (by assumption)]; exact hg)
      | (rw [splitHead_no (fun q => by first | exact absurd q.1 (by assumption) | exact q.1 (by assumption) | exact Bool.noConfusion (q.2.symm.trans (by assumption)))]; exact hg)) hn)

end
section
local macro_rules | `(tactic| walk_at "pad pad pad") => `(tactic| fail "a row that only parts the tables of rows")
local macro_rules | `(tactic| walk_at "pad pad pad") => `(tactic| fail "a row that only parts the tables of rows")
theorem fresh4 : True := by
  w_top off
  exact trivial
def rowStep (row : List Str) (c : Str) : List Str :=
  if (c == Str.ofString "..") = true ∧ decide (row = []) = false ∧ (row.getLast?.getD (Str.ofString "") != Str.ofString "..") = true then row.dropLast
  else if (c != Str.ofString "") = true ∧ (c != Str.ofString ".") = true then row ++ [c] else row
def rowF (xs : List Str) : List Str := xs.foldl rowStep []
theorem rowF_take {xs : List Str} {i : Nat} {x : Str} (h : xs[i]? = some x) : rowF (xs.take (i + 1)) = rowStep (rowF (xs.take i)) x := by
  unfold rowF; rw [List.take_add_one, h]; simp

def RowJ (xs : List Str) (i : Nat) (m : Str → Option Value) (news : List (Addr × Obj)) : Prop :=
  ∃ r ws n, news = [(r, listOf (List.toArray ws) n)] ∧ StrsAre ws (rowF (xs.take i)) ∧ m (Str.ofString "row") = some (.ref r)

theorem RowJ.turn {h₀ h' : Heap} {L : Addr} {I : Addr} {oI : Obj} {s₁ : Shared} {Q : Flow → Shared → Prop} {m' : Str → Option Value} {news : List (Addr × Obj)} {tk i n : Nat} {r : Addr} {ws : List Value} {xs : List Str}
    (F : Fr h₀ L h' m') (hr : m' (Str.ofString "row") = some (.ref r)) (N : News h₀ L h' news) (hm : (r, listOf ws.toArray n) ∈ news) (hI : (I, oI) ∈ news) (hne : r ≠ I) (hS : StrsAre ws (rowF (xs.take (i + 1)))) :
    TurnPost h₀ L (RowJ xs (i + 1)) I oI s₁ Q .next { s₁ with heap := h', toks := tk } :=
  TurnPost.next (news' := [(r, listOf ws.toArray n)]) F (newsTake N hI (newsTake N hm News.nil)) (fun p hp => by rw [List.mem_singleton.mp hp]; exact hne) ⟨r, ws, n, rfl, hS, hr⟩

local macro_rules | `(tactic| walk_at "compareOp NotEq ref ref") => `(tactic| (k_here; (with_reducible show wpAny _ _ (compareOp CmpOp.NotEq (Value.ref _) (Value.ref _)) _ _ _); k_dflt (refine' ne_strsL ?k1 ?k2 ?k3 ?k4 ?k5 ?k6 ?k7 ?_; (case k1 => exact memL (by k_asm) (by k_mem)); (case k3 => exact memL (vs := []) (by k_asm) (by k_mem)); (case k2 => first | assumption | exact StrsAre.nil); (case k4 => first | assumption | exact StrsAre.nil); (case k5 => first | assumption | exact Okk.nil); (case k6 => first | assumption | exact Okk.nil); (case k7 => (show _ + 3 + 64 < _; omega)); k_whole)))
local macro_rules | `(tactic| walk_at "binaryOp Add ref ref") => `(tactic| (k_here; (with_reducible show wpAny _ _ (binaryOp Operator.Add (Value.ref _) (Value.ref _)) _ _ _); k_dflt (refine' add_strs ?F ?N ?k1 ?k2 ?k3 ?k4 ?k5 ?_; (case F => k_asm); (case N => k_asm); (case k1 => exact memL (by k_asm) (by k_mem)); (case k3 => exact memL (vs := [_]) (by k_asm) (by k_mem)); (case k2 => assumption); (case k4 => exact StrsAre.cons _ _ StrsAre.nil); (case k5 => (rw [sizeLine_eq, List.length_singleton]; omega)); k_whole); intro D' ws' h' F' N' l1 hS'; (try k_lt l1)))
local macro_rules | `(tactic| walk_at "subscriptTail Name UnaryOp ref int") => `(tactic| (k_here; (with_reducible show wpAny _ _ (subscriptTail _ _ (Value.ref _) (Value.int _ _)) _ _ _); k_dflt (refine' last_strs ?k1 ?k2 ?k3 ?_ ?k4; (case k1 => exact memL (by k_asm) (by k_mem)); (case k2 => assumption); (case k3 => exact of_decide_eq_false (by assumption)); (case k4 => with_unfolding_all rfl); k_whole); intro t'))
local macro_rules | `(tactic| walk_at "subscriptTail Name Slice ref ref") => `(tactic| (k_here; (with_reducible show wpAny _ _ (subscriptTail _ (PySem.Expr.Slice _ _ none _) (Value.ref _) (Value.ref _)) _ _ _); k_dflt (refine' slice_droplast ?F ?N ?l ?i ?p ?q ?_ ?s ?t ?z; (case F => k_asm); (case N => k_asm); (case l => exact memL (by k_asm) (by k_mem)); (case i => assumption); (case p => kmk_part); (case q => kmk_part); (case s => with_unfolding_all rfl); (case t => kmk_pure); (case z => (rw [sizeLine_eq]; omega)); k_whole); intro D' ws' h' F' N' l1 hS'; (try k_lt l1)))

theorem t_row (w : World) {mean : ExcName → Option Value} {mg mb : Str → Option Value} {loose : List Str} {A : Around} {s : Shared} {Q E : Value → Shared → Prop} (l : Addr) (vs : List Value) (xs : List Str) (n : Nat)
    (G : Gd (hd.heap_1 w.params) topProg loose mean mg mb A s.heap 20 100) (hl : s.heap.get? l = some (listOf vs.toArray n)) (hS : StrsAre vs xs) (hok : ∀ i, Okk (rowF (xs.take i))) (hsz : ∀ i, (rowF (xs.take i)).length < 1000)
    (ret : ∀ r ws n h' tk', Kp s.heap h' → h'.get? r = some (listOf (List.toArray ws) n) → s.heap.get? r = none → StrsAre ws (rowF xs) → Q (.ref r) { s with heap := h', toks := tk' }) :
    wpAny (model PySem.Challenge.rw_ij0168_01.row.prog w) A (call (.ref 208) [.ref l]) Q E s := by
  obtain ⟨hd9, dp9, fr9, gs9, un9⟩ := A; obtain rfl : hd9 = none := G.hh
  revert G; k_fill; intro G
  (have mX := Gd.K G); (have mT := Gd.T G); (have mH := Gd.hh G); (have mU := Gd.uni G); (have mD := Gd.dep G)
  refine' enter (binds := [(Str.ofString "pieces", .ref l)]) G ?o_14 ?c_14 ?b_14 ?l_14 ?_ ?c2_14 ?c3_14 ?c4_14 ?c5_14
  (case o_14 => refine fnK mX ?_; k_dflt k_is)
  (case c_14 => refine codeK mX ?_; k_dflt k_is); (case b_14 => first | exact BindsTo.of_eq rfl | exact binds_K mX rfl (by k_is) rfl rfl rfl); (case l_14 => exact locs rfl); (case c2_14 => exact rfl); (case c3_14 => exact rfl); (case c4_14 => exact rfl); (case c5_14 => decide)
  intro L' h' F' N'; (try dsimp only); (try k_fold)
  k_steps
  (rename Fr _ _ _ _ => lF'); (refine For_invVF lF' (by rfl) (by rfl) ?_)
  k_steps
  (rename Fr _ _ _ _ => lF); (rename News _ _ _ _ => lN)
  refine forL (RowJ xs) mH rfl rfl (.inl hl) lF lN ⟨_, [], 0, rfl, StrsAre.nil, rfl⟩ ?_ ?_
  · intro i v m₁ news₁ I oI h tk hi hv hJ hnI F N
    obtain ⟨r, ws, n, rfl, hws, hr⟩ := hJ
    obtain ⟨x, t, rfl, hx⟩ := hS.item i v (by simpa using hv)
    have hIr : r ≠ I := hnI _ (.head _)
    have hoki := hok i
    have hszi := hsz i
    obtain ⟨u, rfl⟩ := read1 hr
    clear lF lN hr
    replace F : Fr s.heap L' h _ := F
    replace N : News s.heap L' h _ := N
    have hst := rowF_take hx
    generalize rowF (xs.take i) = row at *
    try k_fold
    k_steps
    all_goals (
      refine RowJ.turn (by assumption) (by exact rfl) (by assumption) (by k_mem) (by k_mem) ?_ ?_
      · (first | assumption | (refine neN ?_; omega))
      · (rw [hst]; simp only [rowStep, *, Bool.false_eq_true, false_and, and_false, true_and, and_true, if_true, if_false, Bool.true_eq_false, reduceIte, and_self]))
  · rintro m₁ news₁ h tk ⟨r, ws, n, rfl, hws, hr⟩ F N
    obtain ⟨u, rfl⟩ := read1 hr
    clear lF lN hr
    replace F : Fr s.heap L' h _ := F
    replace N : News s.heap L' h _ := N
    k_steps
    refine ret _ _ _ _ _ F.keep (N _ (.head _)).1 (N _ (.head _)).2.2 ?_
    have : vs.toArray.size = xs.length := by rw [List.size_toArray, hS.length]
    rw [this, List.take_length] at hws
    exact hws

end
section
theorem fresh5 : True := by
  w_top off
  exact trivial
local macro_rules | `(tactic| walk_at "mine kept") => `(tactic| ((with_reducible rename Kp _ _ => hk'); (with_reducible rename Fr _ _ _ _ => lF); (with_reducible rename News _ _ _ _ => lN); (have F' := Fr.keeps lF hk'); (have N' := News.grown lN hk'); clear lF lN hk'))
local macro_rules | `(tactic| walk_at "mine gd") => `(tactic| ((with_reducible rename Gd _ _ _ _ _ _ _ _ _ _ => mG); exact Gd.keeps (Gd.deeper (Gd.less mG (by decide) (by decide)) _) (Fr.keep (by k_asm))))
local macro_rules | `(tactic| walk_at "call ref") => `(tactic| (k_here; k_dflt (refine' t_fspath _ _ _ ?G ?_; (case G => walk_at "mine gd"); k_whole); intro h' tk' hk'; walk_at "mine kept"; (try dsimp only)))
local macro_rules | `(tactic| walk_at "call ref") => `(tactic| (k_here; k_dflt (refine' t_sep _ _ _ ?G ?_; (case G => walk_at "mine gd"); k_whole); intro h' tk' t' hk'; walk_at "mine kept"; (try dsimp only)))
local macro_rules | `(tactic| walk_at "mine new") => `(tactic| ((with_reducible rename Kp _ _ => hk'); (with_reducible rename Fr _ _ _ _ => lF); (with_reducible rename News _ _ _ _ => lN); (with_reducible rename Heap.get? _ _ = none => hn'); (have F' := Fr.keeps lF hk'); (have N' := newsK lF lN hk' (by assumption) hn'); (have ne' := neK lN hn'); clear lF lN hk' hn'))

theorem fresh6 : True := by
  w_top off
  exact trivial
theorem t_sroot (w : World) {mean : ExcName → Option Value} {mg mb : Str → Option Value} {loose : List Str} {A : Around} {s : Shared} {Q E : Value → Shared → Prop} (x : Str) (t : Tok)
    (G : Gd (hd.heap_1 w.params) topProg loose mean mg mb A s.heap 10 200) (hx : x.length < 10000) (hp : (Txt.slice x none (some 1) != Str.ofString "/") = true)
    (ret : ∀ T h' tk' ta tb, Kp s.heap h' → h'.get? T = some (tupO #[.str (Str.ofString "") ta, .str (Str.ofString "") ta, .str x tb]) → s.heap.get? T = none → Q (.ref T) { s with heap := h', toks := tk' }) :
    wpAny (model PySem.Challenge.rw_ij0168_01.row.prog w) A (call (.ref 165) [.str x t]) Q E s := by
  obtain ⟨hd9, dp9, fr9, gs9, un9⟩ := A; obtain rfl : hd9 = none := G.hh
  revert G; k_fill; intro G
  (have mX := Gd.K G); (have mT := Gd.T G); (have mH := Gd.hh G); (have mU := Gd.uni G); (have mD := Gd.dep G)
  refine' enter (binds := [(Str.ofString "p", .str x t)]) G ?o_17 ?c_17 ?b_17 ?l_17 ?_ ?c2_17 ?c3_17 ?c4_17 ?c5_17
  (case o_17 => refine fnK mX ?_; k_dflt k_is)
  (case c_17 => refine codeK mX ?_; k_dflt k_is); (case b_17 => first | exact BindsTo.of_eq rfl | exact binds_K mX rfl (by k_is) rfl rfl rfl); (case l_17 => exact locs rfl); (case c2_17 => exact rfl); (case c3_17 => exact rfl); (case c4_17 => exact rfl); (case c5_17 => decide)
  intro L' h' F' N'; (try dsimp only); (try k_fold)
  k_steps
  all_goals (
    (with_reducible rename Fr _ _ _ _ => lF); (with_reducible rename News _ _ _ _ => lN)
    exact ret _ _ _ _ _ lF.keep (lN _ (.head _)).1 (lN _ (.head _)).2.2)

section
local macro_rules | `(tactic| walk_at "pad pad pad") => `(tactic| fail "a row that only parts the tables of rows")
theorem fresh7 : True := by
  w_top off
  exact trivial
local macro_rules | `(tactic| walk_at "call ref") => `(tactic| (k_here; k_dflt (refine' t_sroot _ _ _ ?G ?x ?p ?_; (case G => walk_at "mine gd"); (case x => assumption); (case p => assumption); k_whole); intro T' h' tk' ta' tb' hk' hg' hn'; walk_at "mine new"; (try dsimp only)))
def normStep (row : List Str) (c : Str) : List Str :=
  if ((c.length : Nat) : Int) = 0 ∨ (c == Str.ofString ".") = true then row
  else if (c != Str.ofString "..") = true ∨ row = [] ∨ (row.getLast?.getD (Str.ofString "") == Str.ofString "..") = true then row ++ [c]
  else row.dropLast
section
variable {row : List Str} {c : Str}
theorem normStep_keep (h : ((c.length : Nat) : Int) = 0 ∨ (c == Str.ofString ".") = true) : normStep row c = row := if_pos h
theorem normStep_app (h0 : ((c.length : Nat) : Int) ≠ 0) (h1 : (c == Str.ofString ".") = false) (h2 : (c != Str.ofString "..") = true ∨ row = [] ∨ (row.getLast?.getD (Str.ofString "") == Str.ofString "..") = true) : normStep row c = row ++ [c] := by
  unfold normStep; rw [if_neg (by rintro (h | h); exact h0 h; rw [h1] at h; cases h), if_pos h2]
theorem normStep_pop (h0 : ((c.length : Nat) : Int) ≠ 0) (h1 : (c == Str.ofString ".") = false) (h2 : (c != Str.ofString "..") = false) (h3 : ¬ row = []) (h4 : (row.getLast?.getD (Str.ofString "") == Str.ofString "..") = false) : normStep row c = row.dropLast := by
  unfold normStep; rw [if_neg (by rintro (h | h); exact h0 h; rw [h1] at h; cases h), if_neg (by rintro (h | h | h); rw [h2] at h; cases h; exact h3 h; rw [h4] at h; cases h)]
end
def normF (xs : List Str) : List Str := xs.foldl normStep []
theorem normF_take {xs : List Str} {i : Nat} {x : Str} (h : xs[i]? = some x) : normF (xs.take (i + 1)) = normStep (normF (xs.take i)) x := by
  unfold normF; rw [List.take_add_one, h]; simp
def NormJ (r cl : Addr) (co : Obj) (xs : List Str) (i : Nat) (m : Str → Option Value) (news : List (Addr × Obj)) : Prop :=
  ∃ ws n t1 t2 t3 t4, news = [(r, listOf (List.toArray ws) n), (cl, co)] ∧ StrsAre ws (normF (xs.take i)) ∧ m (Str.ofString "new_comps") = some (.ref r) ∧
    m (Str.ofString "dot") = some (.str (Str.ofString ".") t1) ∧ m (Str.ofString "dotdot") = some (.str (Str.ofString "..") t2) ∧ m (Str.ofString "sep") = some (.str (Str.ofString "/") t3) ∧
    m (Str.ofString "initial_slashes") = some (.str (Str.ofString "") t4)
local macro_rules | `(tactic| walk_at "call builtin:str.join") => `(tactic| (k_here; (with_reducible show wpAny _ _ (call (Value.builtin _) [Value.str _ _, Value.ref _]) _ _ _); k_dflt (refine' join_list ?a ?b ?c ?_; (case a => exact memL (by k_asm) (by k_mem)); (case b => assumption); (case c => assumption); k_whole); intro t' k'))
local macro_rules | `(tactic| walk_at "call builtin:list.append") => `(tactic| (k_here; (with_reducible show wpAny _ _ (call (Value.builtin _) [Value.ref _, Value.str _ _]) _ _ _); k_dflt (refine' append_strs ?F ?N ?i ?U ?z ?_; (case F => k_asm); (case N => k_asm); (case U => k_upd); (case i => assumption); (case z => (rw [sizeLine_eq]; omega)); k_whole); intro h' F' N' hS'))
local macro_rules | `(tactic| walk_at "call builtin:list.pop") => `(tactic| (k_here; (with_reducible show wpAny _ _ (call (Value.builtin _) [Value.ref _]) _ _ _); k_dflt (refine' pop_strs ?F ?N ?i ?U ?e ?z ?_; (case F => k_asm); (case N => k_asm); (case U => k_upd); (case i => assumption); (case e => first | assumption | exact ne_of_not (by assumption) | exact of_decide_eq_false (by assumption)); (case z => (rw [sizeLine_eq]; omega)); k_whole); intro v' h' F' N' hS'))
local macro_rules | `(tactic| walk_at "truthy ref") => `(tactic| (k_here; (with_reducible show wpAny _ _ (truthy (Value.ref _)) _ _ _); k_dflt (refine' truthy_strsL ?a ?b ?c ?_; (case a => exact memL (by k_asm) (by k_mem)); (case b => assumption); (case c => omega); k_whole)))
local macro_rules | `(tactic| walk_at "binaryOp Add str str") => `(tactic| (k_here; (with_reducible show wpAny _ _ (binaryOp Operator.Add (Value.str (Str.ofString "") _) (Value.str _ _)) _ _ _); k_dflt (refine add_empty ?_)))
section
variable {h₀ h' : Heap} {L : Addr} {I r cl : Addr} {oI co : Obj} {s₁ : Shared} {Q : Flow → Shared → Prop} {m' : Str → Option Value} {news : List (Addr × Obj)} {tk i n : Nat} {ws : List Value} {xs : List Str} {t1 t2 t3 t4 : Tok}
theorem NormJ.turn {f : Flow} (hf : f = .next ∨ f = .cont) (F : Fr h₀ L h' m') (N : News h₀ L h' news) (hm : (r, listOf ws.toArray n) ∈ news) (hc : (cl, co) ∈ news) (hI : (I, oI) ∈ news) (hne : (r : Nat) ≠ I) (hnc : (cl : Nat) ≠ I)
    (h1 : m' (Str.ofString "new_comps") = some (.ref r)) (h2 : m' (Str.ofString "dot") = some (.str (Str.ofString ".") t1)) (h3 : m' (Str.ofString "dotdot") = some (.str (Str.ofString "..") t2)) (h4 : m' (Str.ofString "sep") = some (.str (Str.ofString "/") t3))
    (h5 : m' (Str.ofString "initial_slashes") = some (.str (Str.ofString "") t4)) (hS : StrsAre ws (normF (xs.take (i + 1)))) :
    TurnPost h₀ L (NormJ r cl co xs (i + 1)) I oI s₁ Q f { s₁ with heap := h', toks := tk } := by
  have k : ∀ p ∈ [(r, listOf ws.toArray n), (cl, co)], p.1 ≠ I := fun p hp => by
    rcases List.mem_cons.mp hp with rfl | hp
    · exact hne
    · rw [List.mem_singleton.mp hp]; exact hnc
  rcases hf with rfl | rfl
  · exact TurnPost.next F (newsTake N hI (newsTake N hm (newsTake N hc News.nil))) k ⟨ws, n, t1, t2, t3, t4, rfl, hS, h1, h2, h3, h4, h5⟩
  · exact TurnPost.cont F (newsTake N hI (newsTake N hm (newsTake N hc News.nil))) k ⟨ws, n, t1, t2, t3, t4, rfl, hS, h1, h2, h3, h4, h5⟩
end
theorem ne_of_not {ss : List Str} (h : (!decide (ss = [])) = true) : ss ≠ [] := fun e => by rw [decide_eq_true e] at h; cases h
theorem of_not {ss : List Str} (h : (!decide (ss = [])) = false) : ss = [] := by
  by_cases e : ss = []
  · exact e
  · rw [decide_eq_false e] at h; cases h
local macro_rules | `(tactic| walk_at "subscriptTail Name UnaryOp ref int") => `(tactic| (k_here; (with_reducible show wpAny _ _ (subscriptTail _ _ (Value.ref _) (Value.int _ _)) _ _ _); k_dflt (refine' last_strs ?k1 ?k2 ?k3 ?_ ?k4; (case k1 => exact memL (by k_asm) (by k_mem)); (case k2 => assumption); (case k3 => first | assumption | exact ne_of_not (by assumption) | exact of_decide_eq_false (by assumption)); (case k4 => with_unfolding_all rfl); k_whole); intro t'))
def normJoin (x : Str) : Str := Txt.join (Str.ofString "/") (normF (Txt.split x (Str.ofString "/")))
def normPath (x : Str) : Str := if ((normJoin x).length : Int) = 0 then Str.ofString "." else normJoin x
theorem normPath_no {x : Str} (h : ((Txt.join (Str.ofString "/") (normF (Txt.split x (Str.ofString "/")))).length : Int) ≠ 0) : Txt.join (Str.ofString "/") (normF (Txt.split x (Str.ofString "/"))) = normPath x := (if_neg h).symm
theorem normPath_yes {x : Str} (h : ((Txt.join (Str.ofString "/") (normF (Txt.split x (Str.ofString "/")))).length : Int) = 0) : Str.ofString "." = normPath x := (if_pos h).symm
theorem t_norm (w : World) {mean : ExcName → Option Value} {mg mb : Str → Option Value} {loose : List Str} {A : Around} {s : Shared} {Q E : Value → Shared → Prop} (x : Str) (t : Tok)
    (G : Gd (hd.heap_1 w.params) topProg loose mean mg mb A s.heap 20 400) (hx : x.length < 10000) (hx0 : ((x.length : Nat) : Int) ≠ 0) (hp : (Txt.slice x none (some 1) != Str.ofString "/") = true)
    (hsz : ∀ i, (normF ((Txt.split x (Str.ofString "/")).take i)).length < 1000) (hjo : ((normF (Txt.split x (Str.ofString "/"))).map (·.length)).sum + (normF (Txt.split x (Str.ofString "/"))).length * (Str.ofString "/").length ≤ 16777216) (hjl : (Txt.join (Str.ofString "/") (normF (Txt.split x (Str.ofString "/")))).length < 10000)
    (ret : ∀ y h' tk' t', Kp s.heap h' → y = normPath x → Q (.str y t') { s with heap := h', toks := tk' }) :
    wpAny (model PySem.Challenge.rw_ij0168_01.row.prog w) A (call (.ref 172) [.str x t]) Q E s := by
  obtain ⟨hd9, dp9, fr9, gs9, un9⟩ := A; obtain rfl : hd9 = none := G.hh
  revert G; k_fill; intro G
  (have mX := Gd.K G); (have mT := Gd.T G); (have mH := Gd.hh G); (have mU := Gd.uni G); (have mD := Gd.dep G)
  refine' enter (binds := [(Str.ofString "path", .str x t)]) G ?o_21 ?c_21 ?b_21 ?l_21 ?_ ?c2_21 ?c3_21 ?c4_21 ?c5_21
  (case o_21 => refine fnK mX ?_; k_dflt k_is)
  (case c_21 => refine codeK mX ?_; k_dflt k_is); (case b_21 => first | exact BindsTo.of_eq rfl | exact binds_K mX rfl (by k_is) rfl rfl rfl); (case l_21 => exact locs rfl); (case c2_21 => exact rfl); (case c3_21 => exact rfl); (case c4_21 => exact rfl); (case c5_21 => decide)
  intro L' h' F' N'; (try dsimp only); (try k_fold)
  k_steps
  all_goals (first | (exfalso; omega) | skip)
  (with_reducible rename Fr _ _ _ _ => lF); (with_reducible rename News _ _ _ _ => lN); (with_reducible rename StrsAre _ _ => hS); (with_reducible rename List.map _ _ = Txt.split _ _ => hM)
  (with_reducible rename _ ∧ _ => l1)
  have hlt : (_ : Nat) < _ := l1.1
  rw [hM] at hS
  (rename List (Str × Tok) => lst)
  have lN2 := newsTake (q := (_, listOf (List.toArray []) 0)) lN (.head _) (newsTake (q := (_, listOf (List.toArray (strValues lst)) 0)) lN (.tail _ (.head _)) News.nil)
  refine forL (lo := listOf (List.toArray (strValues lst)) 0) (NormJ _ _ _ (Txt.split x (Str.ofString "/"))) rfl rfl rfl (.inr ?mem) lF lN2 ⟨[], 0, _, _, _, _, rfl, .nil, rfl, rfl, rfl, rfl, rfl⟩ ?turn ?done
  case mem =>
    rintro i m news ⟨ws, n, t1, t2, t3, t4, rfl, _⟩
    exact .tail _ (.head _)
  case turn =>
    rintro i v m₁ news₁ I oI h tk hi hv ⟨ws, n, t1, t2, t3, t4, rfl, hws, hr1, hr2, hr3, hr4, hr5⟩ hnI F N
    obtain ⟨c, tc, rfl, hc⟩ := hS.item i v (by simpa using hv)
    have hcl : c.length < 10000 := Nat.lt_of_le_of_lt (by (with_reducible rename (∀ a, a ∈ _ → _ ≤ _) => hle); exact hle c (by rw [hM]; exact List.mem_of_getElem? hc)) hx
    have hrI := neN (hnI _ (.head _))
    have hcI := neN (hnI _ (.tail _ (.head _)))
    have hst := normF_take hc
    have hszi := hsz i
    obtain ⟨u, rfl⟩ := read5 hr1 hr2 hr3 hr4 hr5
    clear lF lN lN2 hr1 hr2 hr3 hr4 hr5 hnI
    replace F : Fr s.heap L' h _ := F
    replace N : News s.heap L' h _ := N
    generalize normF ((Txt.split x (Str.ofString "/")).take i) = row at *
    try k_fold
    k_steps
    all_goals (
      refine NormJ.turn (by first | exact .inl rfl | exact .inr rfl) (by with_reducible assumption) (by with_reducible assumption) (by k_mem) (by k_mem) (by k_mem) hrI hcI (by exact rfl) (by exact rfl) (by exact rfl) (by exact rfl) (by exact rfl)
        (by rw [hst]; first
          | (rw [normStep_keep (by first | exact .inl (by assumption) | exact .inr (by assumption))]; assumption)
          | (rw [normStep_app (by assumption) (by assumption) (by first | exact .inl (by assumption) | exact .inr (.inl (by assumption)) | exact .inr (.inr (by assumption)))]; assumption)
          | (rw [normStep_pop (by assumption) (by assumption) (by assumption) (by assumption) (by assumption)]; assumption)))
  case done =>
    rintro m₁ news₁ h tk ⟨ws, n, t1, t2, t3, t4, rfl, hws, hr1, hr2, hr3, hr4, hr5⟩ F N
    obtain ⟨u, rfl⟩ := read5 hr1 hr2 hr3 hr4 hr5
    clear lF lN lN2 hr1 hr2 hr3 hr4 hr5
    replace F : Fr s.heap L' h _ := F
    replace N : News s.heap L' h _ := N
    rw [show (strValues lst).toArray.size = (Txt.split x (Str.ofString "/")).length by rw [List.size_toArray, hS.length], List.take_length] at hws
    k_steps
    all_goals (with_reducible rename Fr _ _ _ _ => lF)
    · exact ret _ _ _ _ lF.keep (normPath_no (by assumption))
    · exact ret _ _ _ _ lF.keep (normPath_yes (by assumption))

end
section
theorem fresh8 : True := by
  w_top off
  exact trivial
inductive NamesOf : Str → List Str → Prop
  | stop {x : Str} (h : (x != Str.ofString "") = false ∨ (x != Str.ofString ".") = false) : NamesOf x []
  | step {x : Str} {ns : List Str} (h1 : (x != Str.ofString "") = true) (h2 : (x != Str.ofString ".") = true) (hl : x.length < 10000) (t : NamesOf (splitHead x) ns) : NamesOf x (ns ++ [splitTail x])
def NamesJ (all : List Str) (n : Nat) (m : Str → Option Value) (news : List (Addr × Obj)) : Prop :=
  ∃ cur pre acc r ws c t, news = [(r, listOf (List.toArray ws) c)] ∧ StrsAre ws acc ∧ NamesOf cur pre ∧ pre ++ acc = all ∧ n = pre.length ∧ m (Str.ofString "path") = some (.str cur t) ∧ m (Str.ofString "names") = some (.ref r)
theorem NamesJ.turn {h₀ h' : Heap} {L : Addr} {s₁ : Shared} {Q : Flow → Shared → Prop} {m' : Str → Option Value} {news : List (Addr × Obj)} {tk n c : Nat} {r : Addr} {ws : List Value} {all acc pre : List Str} {cur : Str} {t : Tok}
    (F : Fr h₀ L h' m') (h1 : m' (Str.ofString "path") = some (.str cur t)) (h2 : m' (Str.ofString "names") = some (.ref r)) (N : News h₀ L h' news) (hm : (r, listOf ws.toArray c) ∈ news) (hS : StrsAre ws acc) (hp : NamesOf cur pre) (ha : pre ++ acc = all) (hn : pre.length < n) :
    WhileStep2 h₀ L s₁ (NamesJ all) Q n .next { s₁ with heap := h', toks := tk } :=
  ⟨h', tk, m', [(r, listOf ws.toArray c)], pre.length, rfl, F, newsTake N hm News.nil, hn, cur, pre, acc, r, ws, c, t, rfl, hS, hp, ha, rfl, h1, h2⟩
local macro_rules | `(tactic| walk_at "call ref") => `(tactic| (k_here; k_dflt (refine' t_split _ _ _ ?G ?x ?_; (case G => walk_at "mine gd"); (case x => assumption); k_whole); intro T' h' tk' ta' tb' hk' hg' hn'; walk_at "mine new"; (try dsimp only)))
local macro_rules | `(tactic| walk_at "binaryOp Add ref ref") => `(tactic| (k_here; (with_reducible show wpAny _ _ (binaryOp Operator.Add (Value.ref _) (Value.ref _)) _ _ _); k_dflt (refine' add_strs ?F ?N ?k1 ?k2 ?k3 ?k4 ?k5 ?_; (case F => k_asm); (case N => k_asm); (case k1 => exact memL (vs := [_]) (by k_asm) (by k_mem)); (case k2 => exact StrsAre.cons _ _ StrsAre.nil); (case k3 => exact memL (by k_asm) (by first | assumption | k_mem)); (case k4 => assumption); (case k5 => (rw [sizeLine_eq, List.length_singleton]; omega)); k_whole); intro D' ws' h' F' N' l1 hS'; (try k_lt l1)))
local macro_rules | `(tactic| walk_at "exec While") => `(tactic| (k_here; refine hold ?_))
local macro_rules | `(tactic| walk_at "exec While BoolOp") => `(tactic| (k_here; refine hold ?_))
local macro_rules | `(tactic| walk_at "exec While BoolOp cons nil") => `(tactic| (k_here; refine hold ?_))
theorem t_names (w : World) {mean : ExcName → Option Value} {mg mb : Str → Option Value} {loose : List Str} {A : Around} {s : Shared} {Q E : Value → Shared → Prop} (x : Str) (t : Tok) (ns : List Str)
    (G : Gd (hd.heap_1 w.params) topProg loose mean mg mb A s.heap 20 400) (hns : NamesOf x ns) (hsz : ns.length < 1000)
    (ret : ∀ r ws n h' tk', Kp s.heap h' → h'.get? r = some (listOf (List.toArray ws) n) → s.heap.get? r = none → StrsAre ws ns → Q (.ref r) { s with heap := h', toks := tk' }) :
    wpAny (model PySem.Challenge.rw_ij0168_01.row.prog w) A (call (.ref 189) [.str x t]) Q E s := by
  obtain ⟨hd9, dp9, fr9, gs9, un9⟩ := A; obtain rfl : hd9 = none := G.hh
  revert G; k_fill; intro G
  (have mX := Gd.K G); (have mT := Gd.T G); (have mH := Gd.hh G); (have mU := Gd.uni G); (have mD := Gd.dep G)
  refine' enter (binds := [(Str.ofString "path", .str x t)]) G ?o_24 ?c_24 ?b_24 ?l_24 ?_ ?c2_24 ?c3_24 ?c4_24 ?c5_24
  (case o_24 => refine fnK mX ?_; k_dflt k_is)
  (case c_24 => refine codeK mX ?_; k_dflt k_is); (case b_24 => first | exact BindsTo.of_eq rfl | exact binds_K mX rfl (by k_is) rfl rfl rfl); (case l_24 => exact locs rfl); (case c2_24 => exact rfl); (case c3_24 => exact rfl); (case c4_24 => exact rfl); (case c5_24 => decide)
  intro L' h' F' N'; (try dsimp only); (try k_fold)
  k_steps
  unfold Hold
  (with_reducible rename Fr _ _ _ _ => lF); (with_reducible rename News _ _ _ _ => lN)
  refine While_inv2 (NamesJ ns) lF lN ⟨x, ns, [], _, [], 0, t, rfl, .nil, hns, by simp, rfl, rfl, rfl⟩ ?_
  rintro n m₁ news₁ h₁ tk₁ F N ⟨cur, pre, acc, r, ws, c, t, rfl, hS, hp, ha, rfl, hm1, hm2⟩
  obtain ⟨u, rfl⟩ := read2 hm1 hm2
  clear lF lN hm1 hm2
  have hlen : pre.length + acc.length = ns.length := by rw [← ha, List.length_append]
  cases hp with
  | stop hs =>
    simp only [List.nil_append] at ha
    subst ha
    rcases hs with hs | hs
    all_goals (
      k_steps
      all_goals (
        (with_reducible rename Fr _ _ _ _ => lF); (with_reducible rename News _ _ _ _ => lN)
        exact ret _ _ _ _ _ lF.keep (lN _ (.head _)).1 (lN _ (.head _)).2.2 hS))
  | @step _ pre' h1 h2 hl tt =>
    rw [List.length_append, List.length_singleton] at hlen
    k_steps
    all_goals (exact NamesJ.turn (by with_reducible assumption) (by exact rfl) (by exact rfl) (by with_reducible assumption) (by k_mem) (by with_reducible assumption) tt (by simpa using ha) (by simp))

end
theorem fresh9 : True := by
  w_top off
  exact trivial
section
/-! a comprehension by an invariant over its items so far and the ledger -/
def BlockNs (C : Addr) (oC : Obj) (m : Str → Option Value) : Prop := ∀ h : Heap, h.get? C = some oC → h.Ns C m
def CompEnd (h₀ : Heap) (L : Addr) (m : Str → Option Value) (s : Shared) (led : List (Addr × Obj)) (C I D : Addr) (Jn : List Value → List (Addr × Obj) → Prop) (acc : List Value) (s' : Shared) : Prop :=
  ∃ h' tk' news₂, s' = { s with heap := h', toks := tk' } ∧ Fr h₀ L h' m ∧ News h₀ L h' (led ++ news₂) ∧ (∀ q ∈ news₂, q.1 ≠ C ∧ q.1 ≠ I ∧ q.1 ≠ D) ∧ Jn acc news₂
def CompAtR (prog : Program) (w : World) (A : Around) (h₀ : Heap) (L : Addr) (env : Env) (scope : Scope) (cl : List (Str × Addr)) (x : Str) (ifs : List PySem.Expr) (elt : PySem.Expr) (done : (Str → Option Value) → Addr → List Value → List (Addr × Obj) → Addr → Nat → Heap → Nat → Shared → Prop) (it : Value) (s₂ : Shared) : Prop :=
  ∃ (I : Addr) (fp : List Addr) (n : Nat) (P : Nat → Value → Prop) (St : Nat → Heap → Prop) (m : Str → Option Value) (news : List (Addr × Obj)) (J : Nat → List Value → List (Addr × Obj) → Prop),
    it = .ref I ∧ Walks prog w A I fp [I] n P St ∧ n ≤ sizeLine ∧ St 0 s₂.heap ∧ (∀ b ∈ fp, b < s₂.heap.objs.size) ∧ h₀.get? I = none ∧ I ≠ L ∧ (∀ i h, St i h → ∃ o, h.get? I = some o) ∧
    Fr h₀ L s₂.heap m ∧ News h₀ L s₂.heap news ∧ (∀ q ∈ news, q.1 ≠ I) ∧ J 0 [] news ∧
    (∀ b ∈ fp, b ≠ I → ∃ o, ∀ i acc news₁ h, J i acc news₁ → Fr h₀ L h m → News h₀ L h news₁ → h.get? b = some o) ∧
    (∀ i v acc news₁ C D oC oI oD m₃ h tk, i < n → P i v → J i acc news₁ → acc.length ≤ i → (∀ q ∈ news₁, q.1 ≠ C ∧ q.1 ≠ I ∧ q.1 ≠ D) → C ≠ I → C ≠ D → D ≠ I →
      Fr h₀ L h m → News h₀ L h ((C, oC) :: (I, oI) :: (D, oD) :: news₁) → BlockNs C oC m₃ → m₃ x = some v →
      wpAny (model prog w) A (forIn ifs true fun c r => if r = true then do let ok ← isTrue c (compEnvC scope cl C env) (eval c (compEnvC scope cl C env)); pure (ForInStep.yield ok) else pure (ForInStep.yield r))
        (fun ok s' => if ok = true then wpAny (model prog w) A (eval elt (compEnvC scope cl C env)) (fun y s'' => CompEnd h₀ L m s₂ [(C, oC), (I, oI), (D, oD)] C I D (J (i + 1)) (acc ++ [y]) s'') (fun _ _ => False) s'
          else CompEnd h₀ L m s₂ [(C, oC), (I, oI), (D, oD)] C I D (J (i + 1)) acc s') (fun _ _ => False) { s₂ with heap := h, toks := tk }) ∧
    (∀ acc news₁ C D c h tk m', J n acc news₁ → Fr h₀ L h m → News h₀ L h ((D, listOf (List.toArray acc) c) :: news₁) → (∀ q ∈ news₁, q.1 ≠ C ∧ q.1 ≠ D) → C ≠ D → C ≠ L → h₀.get? C = none → h.Ns C m' → done m C acc news₁ D c h tk s₂)
abbrev CompAt (prog : Program) (w : World) (A : Around) (h₀ : Heap) (L : Addr) (env : Env) (scope : Scope) (cl : List (Str × Addr)) (x : Str) (ifs : List PySem.Expr) (elt : PySem.Expr) (Q : Value → Shared → Prop) : Value → Shared → Prop :=
  CompAtR prog w A h₀ L env scope cl x ifs elt (fun m C acc news₁ D c h tk s₂ => ∀ h', Fr h₀ L h' m → News h₀ L h' ((D, listOf (List.toArray acc) c) :: news₁) → Q (.ref D) { s₂ with heap := h', toks := tk })
abbrev CompAtA (prog : Program) (w : World) (A : Around) (h₀ : Heap) (L : Addr) (env : Env) (scope : Scope) (cl : List (Str × Addr)) (x : Str) (ifs : List PySem.Expr) (elt : PySem.Expr) (y : Str) (Q : Flow → Shared → Prop) : Value → Shared → Prop :=
  CompAtR prog w A h₀ L env scope cl x ifs elt (fun m C acc news₁ D c h tk s₂ => ∀ h' tk', Fr h₀ L h' (fun z => if z = y then some (.ref D) else m z) → News h₀ L h' ((D, listOf (List.toArray acc) c) :: news₁) → Q .next { s₂ with heap := h', toks := tk' })

section
variable {prog : Program} {w : World} {A : Around} {E : Value → Shared → Prop} {env : Env} {h₀ : Heap} {L : Addr} {s : Shared}
theorem comp_blockG {elt iter : PySem.Expr} {x : Str} {px : Pos} {ifs : List PySem.Expr} {scope : Scope} {cl : List (Str × Addr)} {pos : Pos} {RR : Value → Addr → Result → Shared → Prop} {it : Value} {s₂ : Shared}
    {dn : (Str → Option Value) → Addr → List Value → List (Addr × Obj) → Addr → Nat → Heap → Nat → Shared → Prop}
    (hcell : ∀ y ∈ scope.names, y.2 ≠ .cell) (hkind : scope.kind = .function) (hx : scope.names.lookup x = some .local)
    (h₂ : CompAtR prog w A h₀ L env scope cl x ifs elt dn it s₂)
    (hRR : ∀ m acc news₁ C D c h tk m', dn m C acc news₁ D c h tk s₂ → Fr h₀ L h m → News h₀ L h ((D, listOf (List.toArray acc) c) :: news₁) → (∀ q ∈ news₁, q.1 ≠ C ∧ q.1 ≠ D) → C ≠ D → C ≠ L → h₀.get? C = none → h.Ns C m' → RR (.ref D) C (.ok .next) { s₂ with heap := h, toks := tk }) :
    wpAny (model prog w) A (newList []) (fun acc s₃ => wpAny (model prog w) A (newFunctionEnv scope env.globals cl [] env.qual none .none (some env)) (fun cenv s₄ =>
      codeAny (model prog w) A (.compStart (.ListComp elt [⟨.Name x px, iter, ifs, 0⟩] scope pos) 0 it acc { cenv with scope := relabel scope env }) (RR acc cenv.locals) s₄) E s₃) E s₂ := by
  obtain ⟨I, fp, n, P, St, m, news, J, rfl, W, hsz, hst, hfp, hI₀, hIL, hIo, F, N, hnI, hJ, hax, turn, done⟩ := h₂
  refine wpAny_newObj_type (wpAny_newFunctionEnv hcell (by intro y hy; simp at hy) (fun h₁ hns₁ hsb₁ => ?_) hkind)
  dsimp only at hns₁ hsb₁ ⊢
  generalize hH2 : s₂.heap.push { cls := .type "list", dict := none, data := .seq ([] : List Value).toArray } = H2 at hns₁ hsb₁ ⊢
  have hC : H2.objs.size = s₂.heap.objs.size + 1 := by rw [← hH2, Heap.size_push]
  have hDC : s₂.heap.objs.size ≠ H2.objs.size := by rw [hC]; exact Nat.ne_of_lt (Nat.lt_succ_self _)
  have below : ∀ b, b < s₂.heap.objs.size → b ≠ H2.objs.size ∧ b ≠ s₂.heap.objs.size := fun b hb => ⟨by rw [hC]; exact Nat.ne_of_lt (Nat.lt_succ_of_lt hb), Nat.ne_of_lt hb⟩
  have old : ∀ b o, s₂.heap.get? b = some o → h₁.get? b = some o := fun b o e => hsb₁.extBut b o (below b (Heap.lt_size e)).1 (Heap.get?_push_of_some _ (hH2 ▸ Heap.get?_push_of_some _ e))
  have hacc : h₁.get? s₂.heap.objs.size = some (listOf ([] : List Value).toArray 0) := hsb₁.extBut _ _ hDC (Heap.get?_push_of_some _ (hH2 ▸ Heap.get?_push_size _ rfl))
  have hst₁ : St 0 h₁ := W.frame _ _ _ hst fun b _ o e => old b o e
  obtain ⟨oI₀, hoI₀⟩ := hIo _ _ hst
  have hIlt : I < s₂.heap.objs.size := Heap.lt_size hoI₀
  have fresh : ∀ a, s₂.heap.objs.size ≤ a → h₀.get? a = none := fun a ha => by
    cases e : h₀.get? a with
    | none => rfl
    | some o' => exact absurd (Heap.lt_size (F.keep _ _ e)) (Nat.not_lt.mpr ha)
  have hLlt : L < s₂.heap.objs.size := F.ns.lt
  generalize hDD : s₂.heap.objs.size = D at *
  generalize hCC : H2.objs.size = C at *
  have hCle : D ≤ C := by rw [hC]; exact Nat.le_succ _
  have hCL : C ≠ L := fun e => by rw [e] at hCle; exact Nat.lt_irrefl _ (Nat.lt_of_lt_of_le hLlt hCle)
  have hDL : D ≠ L := fun e => by rw [← e] at hLlt; exact Nat.lt_irrefl _ hLlt
  have hCI : C ≠ I := fun e => by rw [e] at hCle; exact Nat.lt_irrefl _ (Nat.lt_of_lt_of_le hIlt hCle)
  have hDI : D ≠ I := fun e => by rw [← e] at hIlt; exact Nat.lt_irrefl _ hIlt
  have F₁ : Fr h₀ L h₁ m := F.keeps old
  have N₁ : News h₀ L h₁ ((D, listOf ([] : List Value).toArray 0) :: news) := fun q hq => by
    rcases List.mem_cons.mp hq with rfl | hq
    · exact ⟨hacc, hDL, fresh _ (Nat.le_refl _)⟩
    · exact N.grown old q hq
  have hlt : ∀ q ∈ news, q.1 < D := fun q hq => hDD ▸ Heap.lt_size (N q hq).1
  have loop : ∀ s₃ : Shared, s₃ = { s₂ with heap := h₁, toks := s₂.toks + ([] : List (Str × Value)).length } →
      codeAny (model prog w) A (.compLoop (.ListComp elt [⟨.Name x px, iter, ifs, 0⟩] scope pos) 0 (.ref I) (.ref D) (compEnvC scope cl C env))
        (RR (.ref D) C) s₃ := by
    rintro s₃ rfl
    refine codeAny_compLoop_tests (env := compEnvC scope cl C env)
      (fun k s' => ∃ h' tk m' acc news' i c, s' = { s₂ with heap := h', toks := tk } ∧ St i h' ∧ Fr h₀ L h' m ∧ News h₀ L h' ((D, listOf (List.toArray acc) c) :: news') ∧ h'.Ns C m' ∧
        (∀ q ∈ news', q.1 ≠ C ∧ q.1 ≠ I ∧ q.1 ≠ D) ∧ J i acc news' ∧ i ≤ n ∧ acc.length ≤ i ∧ k = n + 1 - i) ?_ (n + 1)
      ⟨h₁, _, _, [], news, 0, 0, rfl, hst₁, F₁, N₁, hns₁, (fun q hq => ⟨Nat.ne_of_lt (Nat.lt_of_lt_of_le (hlt q hq) hCle), hnI q hq, Nat.ne_of_lt (hlt q hq)⟩), hJ, Nat.zero_le _, Nat.le_refl _, rfl⟩
    rintro k s' ⟨h', tk, m', acc, news', i, c, rfl, hst', F', N', hn', hoff, hJ', hi, hal, rfl⟩
    have hbase : ∀ b o, h₀.get? b = some o → b ≠ I ∧ b ≠ C ∧ b ≠ D := fun b o e => ⟨(fun q => by rw [q, hI₀] at e; cases e), (fun q => by rw [q, fresh _ hCle] at e; cases e), (fun q => by rw [q, fresh _ (Nat.le_refl _)] at e; cases e)⟩
    by_cases hlt' : i < n
    · refine W.item i _ _ _ hlt' hst' fun v h₂ tk₂ hP hst₂ hk₂ => ?_
      have hk₂' : ∀ b o, b ≠ I → h'.get? b = some o → h₂.get? b = some o := fun b o hb e => hk₂ b o (fun q => hb (List.mem_singleton.mp q)) e
      have hnC : h₂.Ns C m' := hn'.at' fun o e => hk₂' _ o hCI e
      refine wpAny_assign_Name (wpAny_storeName_local (lookup_relabel_local hx) hnC (fun h₃ hn₃ hs₃ => ?_) (by simp [compEnvC, relabel, hkind]))
      have hs₃' : Heap.SameBut C h₂ h₃ := hs₃
      have up : ∀ b o, b ≠ I → b ≠ C → h'.get? b = some o → h₃.get? b = some o := fun b o hb hb2 e => hs₃'.extBut b o hb2 (hk₂' b o hb e)
      have hCfp : C ∉ fp := fun hm => by have := hfp _ hm; exact Nat.lt_irrefl _ (Nat.lt_of_lt_of_le this hCle)
      have hst₃ : St (i + 1) h₃ := W.frame _ _ _ hst₂ fun b hb o e => hs₃'.extBut b o (fun q => hCfp (q ▸ hb)) e
      obtain ⟨oI, hoI⟩ := hIo _ _ hst₃
      obtain ⟨oC, es, ep, hoC, rest⟩ := id hn₃
      have F₃ : Fr h₀ L h₃ m := ⟨F'.ns.at' fun o e => up _ o hIL.symm hCL.symm e, fun b o e => up b o (hbase b o e).1 (hbase b o e).2.1 (F'.keep b o e), F'.above⟩
      have N₃ : News h₀ L h₃ ((C, oC) :: (I, oI) :: (D, listOf acc.toArray c) :: news') := fun q hq => by
        rcases List.mem_cons.mp hq with rfl | hq
        · exact ⟨hoC, hCL, fresh _ hCle⟩
        · rcases List.mem_cons.mp hq with rfl | hq
          · exact ⟨hoI, hIL, hI₀⟩
          · have z := N' q hq
            rcases List.mem_cons.mp hq with rfl | hq
            · exact ⟨up _ _ hDI hDC z.1, z.2⟩
            · exact ⟨up _ _ (hoff q hq).2.1 (hoff q hq).1 z.1, z.2⟩
      have fin : ∀ (acc' : List Value) (s₅ : Shared), CompEnd h₀ L m s₂ [(C, oC), (I, oI), (D, listOf acc.toArray c)] C I D (J (i + 1)) acc' s₅ →
          ∃ h₅ tk₅ news₂, s₅ = { s₂ with heap := h₅, toks := tk₅ } ∧ St (i + 1) h₅ ∧ Fr h₀ L h₅ m ∧ News h₀ L h₅ ((D, listOf acc.toArray c) :: news₂) ∧ h₅.Ns C (fun y => if y = x then some v else m' y) ∧ (∀ q ∈ news₂, q.1 ≠ C ∧ q.1 ≠ I ∧ q.1 ≠ D) ∧ J (i + 1) acc' news₂ := by
        rintro acc' s₅ ⟨h₅, tk₅, news₂, rfl, F₅, N₅, ho₅, hJ₅⟩
        have e1 := (N₅ _ (.head _)).1
        have e2 := (N₅ _ (.tail _ (.head _))).1
        refine ⟨h₅, tk₅, news₂, rfl, W.frame _ _ _ hst₃ fun b hb o e => ?_, F₅, fun q hq => ?_, ⟨oC, es, ep, e1, rest⟩, ho₅, hJ₅⟩
        · by_cases hbI : b = I
          · rw [hbI] at e ⊢
            rw [hoI] at e
            rw [← e]; exact e2
          · obtain ⟨o', ho'⟩ := hax b hb hbI
            have z1 := ho' i acc news' h₃ hJ' F₃ (fun q hq => N₃ q (.tail _ (.tail _ (.tail _ hq))))
            have z2 := ho' (i + 1) acc' news₂ h₅ hJ₅ F₅ (fun q hq => N₅ q (.tail _ (.tail _ (.tail _ hq))))
            rw [e] at z1
            rw [z1]; exact z2
        · rcases List.mem_cons.mp hq with rfl | hq
          · exact N₅ _ (.tail _ (.tail _ (.head _)))
          · exact N₅ _ (.tail _ (.tail _ (.tail _ hq)))
      refine wpAny_mono (turn i v acc news' C D oC oI (listOf acc.toArray c) _ h₃ _ hlt' hP hJ' hal hoff hCI hDC.symm hDI F₃ N₃ (fun hh e => ⟨oC, es, ep, e, rest⟩) (if_pos rfl)) (fun ok s₄ h₄ => ?_) fun _ _ e => e.elim
      cases ok with
      | false =>
        simp only [Bool.false_eq_true, if_false] at h₄ ⊢
        obtain ⟨h₅, tk₅, news₂, rfl, hst₅, F₅, N₅, hn₅, ho₅, hJ₅⟩ := fin _ _ h₄
        exact ⟨n + 1 - (i + 1), by omega, h₅, tk₅, _, acc, news₂, i + 1, c, rfl, hst₅, F₅, N₅, hn₅, ho₅, hJ₅, hlt', Nat.le_succ_of_le hal, rfl⟩
      | true =>
        simp only [if_true] at h₄ ⊢
        refine wpAny_mono h₄ (fun y s₅ z₅ => ?_) fun _ _ e => e.elim
        obtain ⟨h₅, tk₅, news₂, rfl, hst₅, F₅, N₅, hn₅, ho₅, hJ₅⟩ := fin _ _ z₅
        refine wpAny_list_append_plain (hsz := by rw [List.size_toArray]; exact Nat.le_trans (Nat.le_trans hal hi) hsz) (⟨c, (N₅ _ (.head _)).1⟩ : h₅.PlainList D acc.toArray) fun h₆ hl₆ hs₆ => ?_
        have hs₆' : Heap.SameBut D h₅ h₆ := hs₆
        obtain ⟨c', hc'⟩ := hl₆
        rw [List.push_toArray] at hc'
        have up₆ : ∀ b o, b ≠ D → h₅.get? b = some o → h₆.get? b = some o := fun b o hb e => hs₆'.extBut b o hb e
        have hDfp : D ∉ fp := fun hm => by have := hfp _ hm; exact Nat.lt_irrefl _ this
        refine ⟨n + 1 - (i + 1), by omega, h₆, tk₅, _, acc ++ [y], news₂, i + 1, c', rfl, W.frame _ _ _ hst₅ fun b hb o e => up₆ b o (fun q => hDfp (q ▸ hb)) e,
          ⟨F₅.ns.at' fun o e => up₆ _ o hDL.symm e, fun b o e => up₆ b o (hbase b o e).2.2 (F₅.keep b o e), F₅.above⟩, fun q hq => ?_, hn₅.at' fun o e => up₆ _ o hDC.symm e, ho₅, hJ₅, hlt', by rw [List.length_append, List.length_singleton]; omega, rfl⟩
        have z := N₅
        rcases List.mem_cons.mp hq with rfl | hq
        · exact ⟨hc', (z _ (.head _)).2⟩
        · exact ⟨up₆ _ _ (ho₅ q hq).2.2 (z _ (.tail _ hq)).1, (z _ (.tail _ hq)).2⟩
    · have hin : i = n := by omega
      subst hin
      refine W.done _ _ _ hst' fun h₂ tk₂ hk₂ => ?_
      have hk₂' : ∀ b o, b ≠ I → h'.get? b = some o → h₂.get? b = some o := fun b o hb e => hk₂ b o (fun q => hb (List.mem_singleton.mp q)) e
      have F₂ : Fr h₀ L h₂ m := ⟨F'.ns.at' fun o e => hk₂' _ o hIL.symm e, fun b o e => hk₂' b o (hbase b o e).1 (F'.keep b o e), F'.above⟩
      have N₂ : News h₀ L h₂ ((D, listOf acc.toArray c) :: news') := fun q hq => by
        have z := N' q hq
        rcases List.mem_cons.mp hq with rfl | hq
        · exact ⟨hk₂' _ _ hDI z.1, z.2⟩
        · exact ⟨hk₂' _ _ (hoff q hq).2.1 z.1, z.2⟩
      have hn₂ : h₂.Ns C m' := hn'.at' fun o e => hk₂' _ o hCI e
      have ho₂ : ∀ q ∈ news', q.1 ≠ C ∧ q.1 ≠ D := fun q hq => ⟨(hoff q hq).1, (hoff q hq).2.2⟩
      exact hRR m acc news' C D c h₂ tk₂ m' (done acc news' C D c h₂ tk₂ m' hJ' F₂ N₂ ho₂ hDC.symm hCL (fresh _ hCle) hn₂) F₂ N₂ ho₂ hDC.symm hCL (fresh _ hCle) hn₂
  exact codeAny_compStart_list (loop _ rfl) (W.self 0 _ _ _ hst₁ (loop _ rfl))
theorem off_block {h h' : Heap} {L C D : Addr} {c : Nat} {m : Str → Option Value} {acc : List Value} {news₁ : List (Addr × Obj)} (hs : Heap.SameBut C h h') (F : Fr h₀ L h m) (N : News h₀ L h ((D, listOf acc.toArray c) :: news₁))
    (ho : ∀ q ∈ news₁, q.1 ≠ C ∧ q.1 ≠ D) (hCD : C ≠ D) (hCL : C ≠ L) (hC₀ : h₀.get? C = none) : Fr h₀ L h' m ∧ News h₀ L h' ((D, listOf acc.toArray c) :: news₁) := by
  refine ⟨⟨F.ns.at' fun o e => hs.extBut _ o hCL.symm e, fun b o e => hs.extBut b o (fun q => by rw [q, hC₀] at e; cases e) (F.keep b o e), F.above⟩, fun q hq => ?_⟩
  have z := N q hq
  rcases List.mem_cons.mp hq with rfl | hq
  · exact ⟨hs.extBut _ _ hCD.symm z.1, z.2⟩
  · exact ⟨hs.extBut _ _ (ho q hq).1 z.1, z.2⟩
theorem compG {elt iter : PySem.Expr} {x : Str} {px : Pos} {ifs : List PySem.Expr} {scope : Scope} {cl : List (Str × Addr)} {pos : Pos} {Q : Value → Shared → Prop}
    (hclos : closureFor scope env = pure cl) (hcell : ∀ y ∈ scope.names, y.2 ≠ .cell) (hkind : scope.kind = .function)
    (hnames : ∀ y ∈ scope.names, y.2 = .local → scope.names.lookup y.1 = some .local) (hx : scope.names.lookup x = some .local)
    (h : wpAny (model prog w) A (eval iter env) (fun xv s₁ => wpAny (model prog w) A (pyIter xv) (fun it s₂ => CompAt prog w A h₀ L env scope cl x ifs elt Q it s₂) E s₁) E s)
    (hs : ∀ x, foldedSetIterable iter env x = pure x := by intro _; rfl) :
    wpAny (model prog w) A (eval (.ListComp elt [⟨.Name x px, iter, ifs, 0⟩] scope pos) env) Q E s := by
  rw [eval_ListComp]
  refine wpAny_comprehension_free (use := none) rfl hs hclos hkind hnames (wpAny_mono h (fun xv s₁ h₁ => wpAny_mono h₁ (fun it s₂ h₂ => ?_) fun _ _ e => e) fun _ _ e => e)
  refine comp_blockG (RR := fun acc C => compPost (model prog w) A E none Q acc C) hcell hkind hx h₂ ?_
  intro m acc news₁ C D c h tk m' hQ F N ho hCD hCL hC₀ hn
  exact ⟨m', hn, fun h'' hs'' => let z := off_block hs'' F N ho hCD hCL hC₀; hQ h'' z.1 z.2⟩
theorem compGA {elt iter : PySem.Expr} {x y : Str} {px py : Pos} {ifs : List PySem.Expr} {scope : Scope} {cl : List (Str × Addr)} {pos spos : Pos} {Q : Flow → Shared → Prop}
    (hsw : swapsWith (.ListComp elt [⟨.Name x px, iter, ifs, 0⟩] scope pos) (some (.Name y py)) spos.line env = pure true)
    (hclos : closureFor scope env = pure cl) (hcell : ∀ y ∈ scope.names, y.2 ≠ .cell) (hkind : scope.kind = .function)
    (hnames : ∀ y ∈ scope.names, y.2 = .local → scope.names.lookup y.1 = some .local) (hx : scope.names.lookup x = some .local)
    (hy : env.kindOf y = some .local) (hp : (env.scope.kind == .class || (env.scope.kind == .module && env.locals != env.globals)) = false)
    (h : wpAny (model prog w) A (eval iter env) (fun xv s₁ => wpAny (model prog w) A (pyIter xv) (fun it s₂ => CompAtA prog w A h₀ env.locals env scope cl x ifs elt y Q it s₂) E s₁) E s)
    (hs : ∀ x, foldedSetIterable iter env x = pure x := by intro _; rfl) :
    wpAny (model prog w) A (exec (.Assign [.Name y py] (.ListComp elt [⟨.Name x px, iter, ifs, 0⟩] scope pos) spos) env) Q E s := by
  rw [exec_Assign_Name_used _ _ _ _ hsw]
  refine wpAny_bind (wpAny_standAt (wpAny_bind ?_))
  show wpAny _ A (do let _ ← comprehension (.ListComp elt [⟨.Name x px, iter, ifs, 0⟩] scope pos) scope env _ (newList []) false (eval iter env) (some (assign (.Name y py) env))) _ _ s
  refine wpAny_bind (wpAny_mono (wpAny_comprehension_free (use := some (assign (.Name y py) env)) (Q := fun _ s' => Q .next s') rfl hs hclos hkind hnames
    (wpAny_mono h (fun xv s₁ h₁ => wpAny_mono h₁ (fun it s₂ h₂ => ?_) fun _ _ e => e) fun _ _ e => e)) (fun _ _ q => wpAny_pure (wpAny_pure q)) fun _ _ e => e)
  refine comp_blockG (RR := fun acc C => compPost (model prog w) A E (some (assign (.Name y py) env)) (fun _ s' => Q .next s') acc C) hcell hkind hx h₂ ?_
  intro m acc news₁ C D c h tk m' hQ F N ho hCD hCL hC₀ hn
  show wpAny (model prog w) A (assign (.Name y py) env (.ref D)) _ E _
  refine wpAny_assign_Name (wpAny_storeName_local hy F.ns (fun h₃ hn₃ hs₃ => ?_) hp)
  have hs₃' : Heap.SameBut env.locals h h₃ := hs₃
  have F₃ := F.set hn₃ hs₃'
  have N₃ := N.set hs₃'
  refine ⟨m', hn.sameBut hs₃' hCL, fun h'' hs'' => ?_⟩
  have z := off_block hs'' F₃ N₃ ho hCD hCL hC₀
  exact hQ h'' _ z.1 z.2
end

end
theorem fresh10 : True := by
  w_top off
  exact trivial
section
/-! names within a comprehension's block; its sources -/
section
variable {M : Model} {A : Around} {E : Value → Shared → Prop} {s : Shared} {h₀ : Heap} {L : Addr} {m : Str → Option Value} {news : List (Addr × Obj)} {e : Env} {x : Str} {pos : Pos} {v : Value} {Q : Value → Shared → Prop}
theorem nameE_L {C : Addr} {oC : Obj} {m₃ : Str → Option Value} (N : News h₀ L s.heap news) (B : BlockNs C oC m₃) (hm : (C, oC) ∈ news) (he : e.locals = C) (hv : m₃ x = some v) (hk : e.scope.kind = .function) (hl : e.kindOf x = some .local) (hd : (x == ("__debug__" : Str)) = false) (h : Q v s) :
    wpAny M A (eval (.Name x pos) e) Q E s := wpAny_Name (wpAny_loadName_local hk hl (he ▸ B _ (N.get hm)) hv h) hd
theorem nameE_C {c : Addr} {o : Obj} (N : News h₀ L s.heap news) (hc : e.cells.lookup x = some c) (hm : (c, o) ∈ news) (hd : o.data = .cell (some v)) (hk : e.scope.kind = .function) (hx : e.kindOf x = some .cell) (hb : (x == ("__debug__" : Str)) = false) (h : Q v s) :
    wpAny M A (eval (.Name x pos) e) Q E s := wpAny_Name (wpAny_loadName_cell hk hx hc ⟨o, N.get hm, hd⟩ h) hb
theorem nameE_F {c : Addr} {o : Obj} (N : News h₀ L s.heap news) (hc : e.cells.lookup x = some c) (hm : (c, o) ∈ news) (hd : o.data = .cell (some v)) (hk : e.scope.kind = .function) (hx : e.kindOf x = some .free) (hb : (x == ("__debug__" : Str)) = false) (hn : (x == ("__classdict__" : Str)) = false) (h : Q v s) :
    wpAny M A (eval (.Name x pos) e) Q E s := wpAny_Name (wpAny_loadName_free hk hx hc ⟨o, N.get hm, hd⟩ h hn) hb
theorem nameE_F0 {c : Addr} {o : Obj} (F : Fr h₀ L s.heap m) (hc : e.cells.lookup x = some c) (ho : h₀.get? c = some o) (hd : o.data = .cell (some v)) (hk : e.scope.kind = .function) (hx : e.kindOf x = some .free) (hb : (x == ("__debug__" : Str)) = false) (hn : (x == ("__classdict__" : Str)) = false) (h : Q v s) :
    wpAny M A (eval (.Name x pos) e) Q E s := wpAny_Name (wpAny_loadName_free hk hx hc ⟨o, F.keep _ _ ho, hd⟩ h hn) hb
theorem nameE_G {K : Frag} {p : Program} {loose : List Str} {mg mb : Str → Option Value} (F : Fr h₀ L s.heap m) (X : K.In h₀) (T : TopRead p loose mg mb h₀) (hg : e.globals = mainGlobals) (hk : e.scope.kind = .function) (hx : e.kindOf x = some .globalImplicit) (hd : (x == ("__debug__" : Str)) = false)
    (en : nsIn K mainGlobals x = some (some v)) (h : Q v s) : wpAny M A (eval (.Name x pos) e) Q E s :=
  Name_function_global hk hx (loadGlobal_global (env := e) (by rw [hg]; exact T.g.keeps F.keep) (mg_of X T.g en) h) hd
theorem nameE_B {K : Frag} {p : Program} {loose : List Str} {mg mb : Str → Option Value} (F : Fr h₀ L s.heap m) (X : K.In h₀) (T : TopRead p loose mg mb h₀) (hg : e.globals = mainGlobals) (hbu : e.builtins = builtinsNs) (hk : e.scope.kind = .function) (hx : e.kindOf x = some .globalImplicit) (hd : (x == ("__debug__" : Str)) = false)
    (en : nsIn K mainGlobals x = some none) (hv : bootBuiltins x = some v) (hn : x ≠ "__name__") (h : Q v s) : wpAny M A (eval (.Name x pos) e) Q E s :=
  Name_function_global hk hx (loadGlobal_builtin (env := e) (by rw [hg]; exact T.g.keeps F.keep) (mg_none_of X T.g en) (by rw [hbu]; exact T.b.keeps F.keep) ((T.builtins x hn).trans hv) h) hd
end
theorem compEnd {h₀ h' : Heap} {L : Addr} {m : Str → Option Value} {s : Shared} {C I D : Addr} {oC oI oD : Obj} {Jn : List Value → List (Addr × Obj) → Prop} {acc : List Value} {news' news₂ : List (Addr × Obj)} {tk : Nat}
    (F : Fr h₀ L h' m) (N : News h₀ L h' news') (hC : (C, oC) ∈ news') (hI : (I, oI) ∈ news') (hD : (D, oD) ∈ news') (N₂ : News h₀ L h' news₂) (ho : ∀ q ∈ news₂, q.1 ≠ C ∧ q.1 ≠ I ∧ q.1 ≠ D) (hJ : Jn acc news₂) :
    CompEnd h₀ L m s [(C, oC), (I, oI), (D, oD)] C I D Jn acc { s with heap := h', toks := tk } :=
  ⟨h', tk, news₂, rfl, F, newsTake N hC (newsTake N hI (newsTake N hD N₂)), ho, hJ⟩

section
variable {prog : Program} {w : World} {A : Around} {E : Value → Shared → Prop} {env : Env} {h₀ : Heap} {L : Addr} {s : Shared} {elt : PySem.Expr} {x : Str} {ifs : List PySem.Expr} {scope : Scope} {cl : List (Str × Addr)}
    {dn : (Str → Option Value) → Addr → List Value → List (Addr × Obj) → Addr → Nat → Heap → Nat → Shared → Prop} {m : Str → Option Value} {news : List (Addr × Obj)}
/-- the turn of a comprehension, told once -/
abbrev CompTurn (prog : Program) (w : World) (A : Around) (h₀ : Heap) (L : Addr) (env : Env) (scope : Scope) (cl : List (Str × Addr)) (x : Str) (ifs : List PySem.Expr) (elt : PySem.Expr) (m : Str → Option Value) (s : Shared) (v : Value) (acc : List Value) (news₁ : List (Addr × Obj)) (Jn : List Value → List (Addr × Obj) → Prop) : Prop :=
  ∀ C D I oC oI oD m₃ h tk, (∀ q ∈ news₁, q.1 ≠ C ∧ q.1 ≠ I ∧ q.1 ≠ D) → C ≠ I → C ≠ D → D ≠ I →
      Fr h₀ L h m → News h₀ L h ((C, oC) :: (I, oI) :: (D, oD) :: news₁) → BlockNs C oC m₃ → m₃ x = some v →
      wpAny (model prog w) A (forIn ifs true fun c r => if r = true then do let ok ← isTrue c (compEnvC scope cl C env) (eval c (compEnvC scope cl C env)); pure (ForInStep.yield ok) else pure (ForInStep.yield r))
        (fun ok s' => if ok = true then wpAny (model prog w) A (eval elt (compEnvC scope cl C env)) (fun y s'' => CompEnd h₀ L m s [(C, oC), (I, oI), (D, oD)] C I D Jn (acc ++ [y]) s'') (fun _ _ => False) s'
          else CompEnd h₀ L m s [(C, oC), (I, oI), (D, oD)] C I D Jn acc s') (fun _ _ => False) { s with heap := h, toks := tk }
theorem compL {l : Addr} {lo : Obj} {vs : Array Value} {n : Nat} (J : Nat → List Value → List (Addr × Obj) → Prop)
    (hh : A.handled = none) (hc : lo.cls = .type "list") (hd : lo.data = .seq vs n) (hl : h₀.get? l = some lo ∨ ∀ i acc news, J i acc news → (l, lo) ∈ news) (hz : vs.size ≤ sizeLine)
    (F : Fr h₀ L s.heap m) (N : News h₀ L s.heap news) (hj : J 0 [] news)
    (turn : ∀ i v acc news₁, i < vs.size → vs[i]? = some v → J i acc news₁ → acc.length ≤ i → CompTurn prog w A h₀ L env scope cl x ifs elt m s v acc news₁ (J (i + 1)))
    (done : ∀ acc news₁ C D c h tk hx, J vs.size acc news₁ → Fr h₀ L h m → News h₀ L h ((D, listOf (List.toArray acc) c) :: news₁) → (∀ q ∈ news₁, q.1 ≠ D) → dn m C acc news₁ D c h tk { s with heap := hx }) :
    wpAny (model prog w) A (pyIter (.ref l)) (fun it s₂ => CompAtR prog w A h₀ L env scope cl x ifs elt dn it s₂) E s := by
  have at_ : ∀ {i acc news h}, J i acc news → Fr h₀ L h m → News h₀ L h news → h.get? l = some lo := fun hJ F N => hl.elim (fun e => F.keep _ _ e) fun k => (N _ (k _ _ _ hJ)).1
  have ho := at_ hj F N
  have hls : s.heap.IsList l vs := ⟨lo, ho, hc, n, hd⟩
  have hlt : l < s.heap.objs.size := Heap.lt_size ho
  have hne : l ≠ s.heap.objs.size := Nat.ne_of_lt hlt
  refine wpAny_pyIter_list hls ?_
  refine ⟨s.heap.objs.size, [s.heap.objs.size, l], vs.size, _, _, m, news, J, rfl, Walks.list (prog := prog) (w := w) hh s.heap.objs.size l hne vs, hz,
    ⟨⟨_, Heap.get?_push_size _ rfl, rfl, rfl⟩, hls.at fun o e => Heap.get?_push_of_some _ e⟩, ?_, next_is_new F, (fun e => absurd F.ns.lt (e ▸ Nat.lt_irrefl _)), (fun i h st => ⟨_, st.1.choose_spec.1⟩), F.push _,
    (fun q hq => ⟨Heap.get?_push_of_some _ (N q hq).1, (N q hq).2⟩), (fun q hq e => absurd (Heap.lt_size (N q hq).1) (e ▸ Nat.lt_irrefl _)), hj, ?_, ?_, ?_⟩
  · intro b hb
    rw [Heap.size_push]
    rcases List.mem_cons.mp hb with rfl | hb
    · exact Nat.lt_succ_self _
    · rw [List.mem_singleton.mp hb]; exact Nat.lt_succ_of_lt hlt
  · intro b hb hbI
    rcases List.mem_cons.mp hb with e | hb
    · exact absurd e hbI
    · rw [List.mem_singleton.mp hb]
      exact ⟨lo, fun i acc news₁ h hJ F N => at_ hJ F N⟩
  · intro i v acc news₁ C D oC oI oD m₃ h tk hi hP hJ hal hoff a b c F' N' B hv
    exact turn i v acc news₁ hi hP hJ hal C D _ oC oI oD m₃ h tk hoff a b c F' N' B hv
  · intro acc news₁ C D c h tk m' hJ F' N' hoff _ _ _ _
    exact done acc news₁ C D c h tk _ hJ F' N' fun q hq => (hoff q hq).2
theorem compR {r : Addr} {a b c₀ : Int} {t₀ u₀ v₀ : Tok} {n : Nat} (J : Nat → List Value → List (Addr × Obj) → Prop)
    (hh : A.handled = none) (hr : IsRange s.heap r a b c₀ t₀ u₀ v₀) (hs : Builtin.Range.small a b c₀ = true) (hn : Builtin.Range.rangeSize a b c₀ = (n : Int)) (hz : n ≤ sizeLine)
    (F : Fr h₀ L s.heap m) (N : News h₀ L s.heap news) (hj : J 0 [] news)
    (turn : ∀ (i : Nat) v acc news₁, i < n → (∃ t, v = .int (a + i * c₀) t) → J i acc news₁ → acc.length ≤ i → CompTurn prog w A h₀ L env scope cl x ifs elt m s v acc news₁ (J (i + 1)))
    (done : ∀ acc news₁ C D c h tk hx, J n acc news₁ → Fr h₀ L h m → News h₀ L h ((D, listOf (List.toArray acc) c) :: news₁) → (∀ q ∈ news₁, q.1 ≠ D) → dn m C acc news₁ D c h tk { s with heap := hx }) :
    wpAny (model prog w) A (pyIter (.ref r)) (fun it s₂ => CompAtR prog w A h₀ L env scope cl x ifs elt dn it s₂) E s := by
  refine wpAny_pyIter_range hr hs ?_
  refine ⟨s.heap.objs.size, [s.heap.objs.size], n, _, _, m, news, J, rfl, Walks.range (prog := prog) (w := w) hh s.heap.objs.size a c₀ n, hz,
    (by show IsRangeIter _ _ _ _ _; rw [hn]; simpa using Heap.get?_push_size _ rfl), ?_, next_is_new F, (fun e => absurd F.ns.lt (e ▸ Nat.lt_irrefl _)), (fun i h st => ⟨_, st⟩), F.push _,
    (fun q hq => ⟨Heap.get?_push_of_some _ (N q hq).1, (N q hq).2⟩), (fun q hq e => absurd (Heap.lt_size (N q hq).1) (e ▸ Nat.lt_irrefl _)), hj, ?_, ?_, ?_⟩
  · intro b hb
    rw [Heap.size_push, List.mem_singleton.mp hb]
    exact Nat.lt_succ_self _
  · intro b hb hbI
    exact absurd (List.mem_singleton.mp hb) hbI
  · intro i v acc news₁ C D oC oI oD m₃ h tk hi hP hJ hal hoff a b c F' N' B hv
    exact turn i v acc news₁ hi hP hJ hal C D _ oC oI oD m₃ h tk hoff a b c F' N' B hv
  · intro acc news₁ C D c h tk m' hJ F' N' hoff _ _ _ _
    exact done acc news₁ C D c h tk _ hJ F' N' fun q hq => (hoff q hq).2
end

end
theorem fresh11 : True := by
  w_top off
  exact trivial
section
/-! comprehensions under a fixed ledger, told by a filter -/
inductive Paired {α : Type} (R : α → Value → Prop) : List Value → List α → Prop
  | nil : Paired R [] []
  | cons {v : Value} {a : α} {vs : List Value} {as : List α} (h : R a v) (t : Paired R vs as) : Paired R (v :: vs) (a :: as)
theorem Paired.length {α : Type} {R : α → Value → Prop} {vs : List Value} {as : List α} (h : Paired R vs as) : vs.length = as.length := by
  induction h with | nil => rfl | cons _ _ ih => simp [ih]
theorem Paired.snoc {α : Type} {R : α → Value → Prop} {vs : List Value} {as : List α} {v : Value} {a : α} (h : Paired R vs as) (e : R a v) : Paired R (vs ++ [v]) (as ++ [a]) := by
  induction h with | nil => exact .cons e .nil | cons h _ ih => exact .cons h ih
theorem Paired.get {α : Type} {R : α → Value → Prop} {vs : List Value} {as : List α} (h : Paired R vs as) : ∀ {i : Nat} {v : Value}, vs[i]? = some v → ∃ a, as[i]? = some a ∧ R a v := by
  induction h with
  | nil => intro i v e; cases e
  | cons h _ ih =>
    intro i v e
    cases i with
    | zero => cases e; exact ⟨_, rfl, h⟩
    | succ i => exact ih (by simpa using e)
abbrev isInt1 (k : Int) (v : Value) : Prop := ∃ t, v = .int k t
abbrev isStr1 (x : Str) (v : Value) : Prop := ∃ t, v = .str x t
theorem Paired.ints {α : Type} {f : α → Int} {vs : List Value} {as : List α} (h : Paired (fun a v => isInt1 (f a) v) vs as) : IntsAre vs (as.map f) := by
  induction h with | nil => exact .nil | cons h _ ih => obtain ⟨t, rfl⟩ := h; exact .cons _ t ih
theorem Paired.strs {α : Type} {f : α → Str} {vs : List Value} {as : List α} (h : Paired (fun a v => isStr1 (f a) v) vs as) : StrsAre vs (as.map f) := by
  induction h with | nil => exact .nil | cons h _ ih => obtain ⟨t, rfl⟩ := h; exact .cons _ t ih
theorem pairedInts {vs : List Value} {ns : List Int} (h : IntsAre vs ns) : Paired isInt1 vs ns := by
  induction h with | nil => exact .nil | cons n t _ ih => exact .cons ⟨t, rfl⟩ ih
theorem pairedStrs {vs : List Value} {ns : List Str} (h : StrsAre vs ns) : Paired isStr1 vs ns := by
  induction h with | nil => exact .nil | cons n t _ ih => exact .cons ⟨t, rfl⟩ ih
def KTest (h₀ : Heap) (L : Addr) (m : Str → Option Value) (s : Shared) (led : List (Addr × Obj)) (b : Bool) (ok : Bool) (s' : Shared) : Prop := ok = b ∧ ∃ h' tk', s' = { s with heap := h', toks := tk' } ∧ Fr h₀ L h' m ∧ News h₀ L h' led
def KElt (h₀ : Heap) (L : Addr) (m : Str → Option Value) (s : Shared) (led : List (Addr × Obj)) (P : Value → Prop) (y : Value) (s' : Shared) : Prop := P y ∧ ∃ h' tk', s' = { s with heap := h', toks := tk' } ∧ Fr h₀ L h' m ∧ News h₀ L h' led
theorem KTest.mk {h₀ h' : Heap} {L : Addr} {m : Str → Option Value} {s : Shared} {led : List (Addr × Obj)} {b ok : Bool} {tk' : Nat} (F : Fr h₀ L h' m) (N : News h₀ L h' led) (e : ok = b) : KTest h₀ L m s led b ok { s with heap := h', toks := tk' } := ⟨e, _, _, rfl, F, N⟩
theorem KElt.mk {h₀ h' : Heap} {L : Addr} {m : Str → Option Value} {s : Shared} {led : List (Addr × Obj)} {P : Value → Prop} {y : Value} {tk' : Nat} (F : Fr h₀ L h' m) (N : News h₀ L h' led) (e : P y) : KElt h₀ L m s led P y { s with heap := h', toks := tk' } := ⟨e, _, _, rfl, F, N⟩
section
variable {α : Type} {prog : Program} {w : World} {A : Around} {E : Value → Shared → Prop} {env : Env} {h₀ : Heap} {L : Addr} {s : Shared} {elt : PySem.Expr} {x : Str} {ifs : List PySem.Expr} {scope : Scope} {cl : List (Str × Addr)}
    {m : Str → Option Value} {news : List (Addr × Obj)} {R₀ R : α → Value → Prop} {p : α → Bool}
abbrev KTurn (prog : Program) (w : World) (A : Around) (h₀ : Heap) (L : Addr) (env : Env) (scope : Scope) (cl : List (Str × Addr)) (x : Str) (ifs : List PySem.Expr) (elt : PySem.Expr) (m : Str → Option Value) (s : Shared) (news : List (Addr × Obj)) (R₀ R : α → Value → Prop) (p : α → Bool) (a : α) : Prop :=
  ∀ v C D I oC oI oD m₃ h tk, R₀ a v → (∀ q ∈ news, q.1 ≠ C ∧ q.1 ≠ I ∧ q.1 ≠ D) → C ≠ I → C ≠ D → D ≠ I →
      Fr h₀ L h m → News h₀ L h ((C, oC) :: (I, oI) :: (D, oD) :: news) → BlockNs C oC m₃ → m₃ x = some v →
      wpAny (model prog w) A (forIn ifs true fun c r => if r = true then do let ok ← isTrue c (compEnvC scope cl C env) (eval c (compEnvC scope cl C env)); pure (ForInStep.yield ok) else pure (ForInStep.yield r))
        (KTest h₀ L m s ((C, oC) :: (I, oI) :: (D, oD) :: news) (p a)) (fun _ _ => False) { s with heap := h, toks := tk } ∧
      (p a = true → wpAny (model prog w) A (eval elt (compEnvC scope cl C env)) (KElt h₀ L m s ((C, oC) :: (I, oI) :: (D, oD) :: news) (R a)) (fun _ _ => False) { s with heap := h, toks := tk })
abbrev KJ (news : List (Addr × Obj)) (R : α → Value → Prop) (p : α → Bool) (xs : List α) (i : Nat) (acc : List Value) (news₁ : List (Addr × Obj)) : Prop := news₁ = news ∧ Paired R acc ((xs.take i).filter p)
theorem kturn {xs : List α} {i : Nat} {v : Value} {a : α} {acc : List Value} {news₁ : List (Addr × Obj)} (turn : KTurn prog w A h₀ L env scope cl x ifs elt m s news R₀ R p a) (ha : xs[i]? = some a) (hv : R₀ a v) (hJ : KJ news R p xs i acc news₁) :
    CompTurn prog w A h₀ L env scope cl x ifs elt m s v acc news₁ (KJ news R p xs (i + 1)) := by
  obtain ⟨rfl, hP⟩ := hJ
  intro C D I oC oI oD m₃ h tk hoff h1 h2 h3 F N B hx
  have ht : xs.take (i + 1) = xs.take i ++ [a] := by rw [List.take_add_one, ha]; rfl
  refine wpAny_mono (turn v C D I oC oI oD m₃ h tk hv hoff h1 h2 h3 F N B hx).1 (fun ok s' z => ?_) fun _ _ e => e.elim
  obtain ⟨rfl, h', tk', rfl, F', N'⟩ := z
  cases hb : p a with
  | false =>
    simp only [Bool.false_eq_true, if_false]
    exact compEnd F' N' (.head _) (.tail _ (.head _)) (.tail _ (.tail _ (.head _))) (fun q hq => N' q (.tail _ (.tail _ (.tail _ hq)))) hoff ⟨rfl, by rw [ht, List.filter_append]; simpa [hb] using hP⟩
  | true =>
    simp only [if_true]
    refine wpAny_mono ((turn v C D I oC oI oD m₃ h' tk' hv hoff h1 h2 h3 F' N' B hx).2 hb) (fun y s' z => ?_) fun _ _ e => e.elim
    obtain ⟨hy, h'', tk'', rfl, F'', N''⟩ := z
    refine compEnd F'' N'' (.head _) (.tail _ (.head _)) (.tail _ (.tail _ (.head _))) (fun q hq => N'' q (.tail _ (.tail _ (.tail _ hq)))) hoff ⟨rfl, ?_⟩
    rw [ht, List.filter_append]
    have : List.filter p [a] = [a] := by simp [hb]
    rw [this]
    exact hP.snoc hy
theorem compKL {dn : (Str → Option Value) → Addr → List Value → List (Addr × Obj) → Addr → Nat → Heap → Nat → Shared → Prop} {l : Addr} {lo : Obj} {vs : Array Value} {n : Nat} (xs : List α) (R₀ R : α → Value → Prop) (p : α → Bool) 
    (hh : A.handled = none) (hc : lo.cls = .type "list") (hd : lo.data = .seq vs n) (hl : h₀.get? l = some lo ∨ (l, lo) ∈ news) (hP : Paired R₀ vs.toList xs) (hz : xs.length ≤ sizeLine)
    (F : Fr h₀ L s.heap m) (N : News h₀ L s.heap news)
    (turn : ∀ a ∈ xs, KTurn prog w A h₀ L env scope cl x ifs elt m s news R₀ R p a)
    (done : ∀ ws C D c h tk hx, Paired R ws (xs.filter p) → Fr h₀ L h m → News h₀ L h ((D, listOf (List.toArray ws) c) :: news) → (∀ q ∈ news, q.1 ≠ D) → dn m C ws news D c h tk { s with heap := hx }) :
    wpAny (model prog w) A (pyIter (.ref l)) (fun it s₂ => CompAtR prog w A h₀ L env scope cl x ifs elt dn it s₂) E s := by
  have hlen : vs.size = xs.length := by rw [← hP.length, Array.length_toList]
  refine compL (KJ news R p xs) hh hc hd (hl.elim .inl fun e => .inr fun i acc n hJ => hJ.1 ▸ e) (hlen ▸ hz) F N ⟨rfl, .nil⟩ ?_ ?_
  · intro i v acc news₁ hi hv hJ _
    obtain ⟨a, ha, hR⟩ := hP.get (by rw [Array.getElem?_toList]; exact hv)
    exact kturn (turn a (List.mem_of_getElem? ha)) ha hR hJ
  · rintro acc news₁ C D c h tk hx ⟨rfl, hJ⟩ F' N' hD
    rw [hlen, List.take_length] at hJ
    exact done acc C D c h tk hx hJ F' N' hD
theorem compKR {dn : (Str → Option Value) → Addr → List Value → List (Addr × Obj) → Addr → Nat → Heap → Nat → Shared → Prop} {r : Addr} {b : Int} {t₀ u₀ v₀ : Tok} (k : Nat) (R : Nat → Value → Prop) (p : Nat → Bool)
    (hr : IsRange s.heap r 0 b 1 t₀ u₀ v₀) (hh : A.handled = none) (hb : b = k) (hz : k < 100000)
    (F : Fr h₀ L s.heap m) (N : News h₀ L s.heap news)
    (turn : ∀ a < k, KTurn prog w A h₀ L env scope cl x ifs elt m s news (fun (i : Nat) v => isInt1 (i : Int) v) R p a)
    (done : ∀ ws C D c h tk hx, Paired R ws ((List.range k).filter p) → Fr h₀ L h m → News h₀ L h ((D, listOf (List.toArray ws) c) :: news) → (∀ q ∈ news, q.1 ≠ D) → dn m C ws news D c h tk { s with heap := hx }) :
    wpAny (model prog w) A (pyIter (.ref r)) (fun it s₂ => CompAtR prog w A h₀ L env scope cl x ifs elt dn it s₂) E s := by
  subst hb
  have hn : Builtin.Range.rangeSize 0 (k : Int) 1 = (k : Int) := by rw [rangeSize_nat]; omega
  have hsm : Builtin.Range.small 0 (k : Int) 1 = true := by
    unfold Builtin.Range.small Builtin.Range.rangeFitsLong
    rw [hn]
    simp
    omega
  refine compR (n := k) (KJ news R p (List.range k)) hh hr hsm hn (by rw [sizeLine_eq]; omega) F N ⟨rfl, .nil⟩ ?_ ?_
  · rintro i v acc news₁ hi ⟨t, rfl⟩ hJ _
    exact kturn (turn i hi) (by simp [hi]) (show isInt1 _ _ from ⟨t, by simp⟩) hJ
  · rintro acc news₁ C D c h tk hx ⟨rfl, hJ⟩ F' N' hD
    rw [List.take_of_length_le (by simp)] at hJ
    exact done acc C D c h tk hx hJ F' N' hD
end
theorem compGF {prog : Program} {w : World} {A : Around} {E : Value → Shared → Prop} {env : Env} {h₀ : Heap} {L : Addr} {s : Shared} {m : Str → Option Value} {elt iter : PySem.Expr} {x : Str} {px : Pos} {ifs : List PySem.Expr} {scope : Scope} {cl : List (Str × Addr)} {pos : Pos} {Q : Value → Shared → Prop}
    (_F : Fr h₀ L s.heap m) (hclos : closureFor scope env = pure cl) (hcell : ∀ y ∈ scope.names, y.2 ≠ .cell) (hkind : scope.kind = .function)
    (hnames : ∀ y ∈ scope.names, y.2 = .local → scope.names.lookup y.1 = some .local) (hx : scope.names.lookup x = some .local)
    (h : wpAny (model prog w) A (eval iter env) (fun xv s₁ => wpAny (model prog w) A (pyIter xv) (fun it s₂ => CompAt prog w A h₀ L env scope cl x ifs elt Q it s₂) E s₁) E s)
    (hs : ∀ x, foldedSetIterable iter env x = pure x := by intro _; rfl) :
    wpAny (model prog w) A (eval (.ListComp elt [⟨.Name x px, iter, ifs, 0⟩] scope pos) env) Q E s := compG hclos hcell hkind hnames hx h hs
theorem compGAF {prog : Program} {w : World} {A : Around} {E : Value → Shared → Prop} {env : Env} {h₀ : Heap} {s : Shared} {m : Str → Option Value} {elt iter : PySem.Expr} {x y : Str} {px py : Pos} {ifs : List PySem.Expr} {scope : Scope} {cl : List (Str × Addr)} {pos spos : Pos} {Q : Flow → Shared → Prop}
    (_F : Fr h₀ env.locals s.heap m) (hsw : swapsWith (.ListComp elt [⟨.Name x px, iter, ifs, 0⟩] scope pos) (some (.Name y py)) spos.line env = pure true)
    (hclos : closureFor scope env = pure cl) (hcell : ∀ y ∈ scope.names, y.2 ≠ .cell) (hkind : scope.kind = .function)
    (hnames : ∀ y ∈ scope.names, y.2 = .local → scope.names.lookup y.1 = some .local) (hx : scope.names.lookup x = some .local)
    (hy : env.kindOf y = some .local) (hp : (env.scope.kind == .class || (env.scope.kind == .module && env.locals != env.globals)) = false)
    (h : wpAny (model prog w) A (eval iter env) (fun xv s₁ => wpAny (model prog w) A (pyIter xv) (fun it s₂ => CompAtA prog w A h₀ env.locals env scope cl x ifs elt y Q it s₂) E s₁) E s)
    (hs : ∀ x, foldedSetIterable iter env x = pure x := by intro _; rfl) :
    wpAny (model prog w) A (exec (.Assign [.Name y py] (.ListComp elt [⟨.Name x px, iter, ifs, 0⟩] scope pos) spos) env) Q E s := compGA hsw hclos hcell hkind hnames hx hy hp h hs
theorem memH {h₀ h : Heap} {L l : Addr} {m : Str → Option Value} {vs : List Value} {n : Nat} (F : Fr h₀ L h m) (hl : h₀.get? l = some (listOf vs.toArray n)) : h.IsList l vs.toArray := ⟨_, F.keep _ _ hl, rfl, _, rfl⟩

end
theorem fresh12 : True := by
  w_top off
  exact trivial
section
/-! lists known by their values -/
section
variable {prog : Program} {w : World} {A : Around} {E : Value → Shared → Prop} {s : Shared} {h₀ : Heap} {L : Addr} {m : Str → Option Value} {news : List (Addr × Obj)} {a b : Addr} {v : Value} {vs : List Value} {Q : Value → Shared → Prop}
theorem eqNil (hl : s.heap.IsList a vs.toArray) (hb : s.heap.IsList b ([] : List Value).toArray) (hu : A.units < cLine) (h : Q (.bool vs.isEmpty) s) : wpAny (model prog w) A (compareOp .Eq (.ref a) (.ref b)) Q E s := by
  cases vs with
  | nil => exact PySem.SeqAt.eq_listAt (e := fun _ => true) hl hb rfl hu (by intro j h1; simp at h1) (by simpa using h)
  | cons v vs => exact PySem.SeqAt.eq_list_lengthsAt hl hb (by simp) hu h
theorem neNil (hl : s.heap.IsList a vs.toArray) (hb : s.heap.IsList b ([] : List Value).toArray) (hu : A.units < cLine) (h : Q (.bool (!vs.isEmpty)) s) : wpAny (model prog w) A (compareOp .NotEq (.ref a) (.ref b)) Q E s := by
  cases vs with
  | nil => exact PySem.SeqAt.RcNeAt.lists (e := fun _ => true) hl hb rfl hu (by intro j h1; simp at h1) prog w E Q (by simpa using h)
  | cons v vs => exact PySem.SeqAt.RcNeAt.lists_lengths hl hb (by simp) hu prog w E Q h
theorem headItem {value slice : PySem.Expr} {u : Tok} (hl : s.heap.IsList a (v :: vs).toArray) (h : Q v s)
    (hs : subscripted slice false (.ref a) (.int 0 u) = operate [.ref a, .int 0 u] (getItem (.ref a) (.int 0 u)) := by with_unfolding_all rfl) (hg : ∀ r, letTemporaryGo value (.ref a) r = pure () := by intro _; with_unfolding_all rfl) :
    wpAny (model prog w) A (subscriptTail value slice (.ref a) (.int 0 u)) Q E s := item_listL hl (by decide) (by decide) rfl h hs hg
theorem pick_from1 : (slicePick (v :: vs).toArray (some 1) none none) = vs.toArray := by
  have e : sliceBounds (some 1) none none (v :: vs).toArray.size = (((1 : Nat) : Int), ((vs.length + 1 : Nat) : Int), 1) := by
    simp only [sliceBounds, Option.getD_none, show (1 : Int) > 0 by decide, if_true, List.size_toArray, List.length_cons]
    congr 1
    · simp; omega
  rw [kmk_pick_nat _ e]
  simp
theorem tailSlice {value slice : PySem.Expr} {vl vu : Value} (F : Fr h₀ L s.heap m) (N : News h₀ L s.heap news) (hl : s.heap.IsList a (v :: vs).toArray) (pl : IsPart vl (some 1)) (pu : IsPart vu none)
    (h : ∀ D h', Fr h₀ L h' m → News h₀ L h' ((D, listOf vs.toArray 0) :: news) → (∀ p ∈ news, p.1 < D) → Q (.ref D) { s with heap := h' })
    (hs : subscripted slice false (.ref a) (.ref s.heap.objs.size) = operate [.ref s.heap.objs.size, .ref a] (getItem (.ref a) (.ref s.heap.objs.size))) (ht : ∀ r, letTemporaryGo value (.ref a) r = pure ()) (hz : vs.length + 1 ≤ sizeLine) :
    wpAny (model prog w) A (subscriptTail value slice (.ref a) (.ref s.heap.objs.size)) Q E { s with heap := s.heap.push { cls := .type "slice", data := .fields #[vl, vu, .none] } } := by
  refine kmk_slice F N hl pl pu (fun D h' F' N' l1 => h D h' F' ?_ l1) hs ht (by rw [List.size_toArray]; exact hz)
  rw [pick_from1] at N'; exact N'
theorem dropSlice {value slice : PySem.Expr} {vl vu : Value} {k : Nat} (F : Fr h₀ L s.heap m) (N : News h₀ L s.heap news) (hl : s.heap.IsList a vs.toArray) (pl : IsPart vl (some (k : Int))) (pu : IsPart vu none)
    (h : ∀ D h', Fr h₀ L h' m → News h₀ L h' ((D, listOf (vs.drop k).toArray 0) :: news) → (∀ p ∈ news, p.1 < D) → Q (.ref D) { s with heap := h' })
    (hs : subscripted slice false (.ref a) (.ref s.heap.objs.size) = operate [.ref s.heap.objs.size, .ref a] (getItem (.ref a) (.ref s.heap.objs.size))) (ht : ∀ r, letTemporaryGo value (.ref a) r = pure ()) (hz : vs.length ≤ sizeLine) :
    wpAny (model prog w) A (subscriptTail value slice (.ref a) (.ref s.heap.objs.size)) Q E { s with heap := s.heap.push { cls := .type "slice", data := .fields #[vl, vu, .none] } } := by
  refine kmk_slice F N hl pl pu (fun D h' F' N' l1 => h D h' F' ?_ l1) hs ht (by rw [List.size_toArray]; exact hz)
  rw [slicePick_from'] at N'
  simpa using N'
theorem eqListStr {y : Str} {u : Tok} (hl : s.heap.IsList a vs.toArray) (hu : A.units < cLine) (h : Q (.bool false) s) : wpAny (model prog w) A (compareOp .Eq (.ref a) (.str y u)) Q E s := PySem.SeqAt.RcAt.list_str y u hl hu prog w E Q h
theorem lenList (hl : s.heap.IsList a vs.toArray) (hfit : vs.length < 2 ^ 62) (h : Q (.int (vs.length : Nat) (s.toks + 1)) { s with toks := s.toks + 1 + 1 }) : wpAny (model prog w) A (call (.builtin "len") [.ref a]) Q E s := by
  refine Calls.call_len_list hl (by rw [List.size_toArray]; omega) ?_
  rw [List.size_toArray]; exact h
end
theorem natPaired {ws : List Value} : ∀ {R : List Nat}, IntsAre ws (R.map fun (k : Nat) => (k : Int)) → Paired (fun (k : Nat) v => isInt1 (k : Int) v) ws R := by
  intro R h
  induction R generalizing ws with
  | nil => cases h; exact .nil
  | cons k R ih => cases h with | cons _ t h => exact .cons ⟨t, rfl⟩ (ih h)

end
theorem fresh13 : True := by
  w_top off
  exact trivial
section
/-! a for over a list, any target -/
def TurnN (h₀ : Heap) (L : Addr) (Jn : (Str → Option Value) → List (Addr × Obj) → Prop) (I : Addr) (oI : Obj) (s₁ : Shared) (f : Flow) (s₂ : Shared) : Prop :=
  f = .next ∧ ∃ h' tk m' news', s₂ = { s₁ with heap := h', toks := tk } ∧ Fr h₀ L h' m' ∧ News h₀ L h' ((I, oI) :: news') ∧ (∀ p ∈ news', p.1 ≠ I) ∧ Jn m' news'
theorem TurnN.mk {h₀ h' : Heap} {L : Addr} {Jn : (Str → Option Value) → List (Addr × Obj) → Prop} {I : Addr} {oI : Obj} {s₁ : Shared} {m' : Str → Option Value} {news' : List (Addr × Obj)} {tk : Nat}
    (F : Fr h₀ L h' m') (N : News h₀ L h' ((I, oI) :: news')) (hn : ∀ p ∈ news', p.1 ≠ I) (hJ : Jn m' news') : TurnN h₀ L Jn I oI s₁ .next { s₁ with heap := h', toks := tk } := ⟨rfl, h', tk, m', news', rfl, F, N, hn, hJ⟩
section
variable {prog : Program} {w : World} {A : Around} {E : Value → Shared → Prop} {s : Shared} {env : Env} {h₀ : Heap} {target : PySem.Expr} {body : List Stmt} {Q : Flow → Shared → Prop}
theorem forT {l : Addr} {lo : Obj} {vs : Array Value} {n : Nat} {m₀ : Str → Option Value} {news : List (Addr × Obj)} (J : Nat → (Str → Option Value) → List (Addr × Obj) → Prop)
    (hh : A.handled = none) (hc : lo.cls = .type "list") (hd : lo.data = .seq vs n) (hl : h₀.get? l = some lo ∨ ∀ i m news, J i m news → (l, lo) ∈ news)
    (F : Fr h₀ env.locals s.heap m₀) (N : News h₀ env.locals s.heap news) (hj : J 0 m₀ news)
    (turn : ∀ i v m₁ news₁ I oI (s₁ : Shared), i < vs.size → vs[i]? = some v → J i m₁ news₁ → (∀ p ∈ news₁, p.1 ≠ I) → Fr h₀ env.locals s₁.heap m₁ → News h₀ env.locals s₁.heap ((I, oI) :: news₁) →
      wpAny (model prog w) A (assign target env v) (fun _ s₃ => wpAny (model prog w) A (execs body env) (TurnN h₀ env.locals (J (i + 1)) I oI s₁) E s₃) E s₁)
    (done : ∀ m₁ news₁ h tk, J vs.size m₁ news₁ → Fr h₀ env.locals h m₁ → News h₀ env.locals h news₁ → Q .next { s with heap := h, toks := tk }) :
    wpAny (model prog w) A (pyIter (.ref l)) (fun it s₂ => LoopAtT prog w A h₀ env target body Q E it s₂) E s := by
  have at_ : ∀ {i m news h}, J i m news → Fr h₀ env.locals h m → News h₀ env.locals h news → h.get? l = some lo := fun hJ F N => hl.elim (fun e => F.keep _ _ e) fun k => (N _ (k _ _ _ hJ)).1
  have ho := at_ hj F N
  have hls : s.heap.IsList l vs := ⟨lo, ho, hc, n, hd⟩
  have hlt : l < s.heap.objs.size := Heap.lt_size ho
  have hne : l ≠ s.heap.objs.size := Nat.ne_of_lt hlt
  have hlL : l ≠ env.locals := by
    rintro rfl
    obtain ⟨o, es, ep, e, hd', _⟩ := F.ns
    rw [ho] at e; cases e; rw [hd] at hd'; cases hd'
  refine wpAny_pyIter_list hls ?_
  have W := Walks.list (prog := prog) (w := w) hh s.heap.objs.size l hne vs
  refine ⟨_, _, _, vs.size, _, _, m₀, news, J, rfl, W, ?_, ?_, ?_, ⟨⟨_, Heap.get?_push_size _ rfl, rfl, rfl⟩, hls.at fun o e => Heap.get?_push_of_some _ e⟩, F.push _, (fun p hp => ⟨Heap.get?_push_of_some _ (N p hp).1, (N p hp).2⟩), (fun i s' v Q' st hq => letGo_listiter st.1 hq), hj, ?_, ?_⟩
  · intro hm
    rcases List.mem_cons.mp hm with e | hm
    · exact absurd F.ns.lt (e ▸ Nat.lt_irrefl _)
    · exact hlL (List.mem_singleton.mp hm).symm
  · intro b hb
    rw [List.mem_singleton.mp hb]
    exact next_is_new F
  · intro p hp hI
    exact absurd (Heap.lt_size (N p hp).1) ((List.mem_singleton.mp hI) ▸ Nat.lt_irrefl _)
  · intro i v m₁ news₁ s₁ own hin hP hJ hoff hown hat hthere hSt F₁ N₁
    obtain ⟨oI, hoI, _⟩ := hSt.1
    have hI₀ : h₀.get? s.heap.objs.size = none := next_is_new F
    have hmem : (s.heap.objs.size, oI) ∈ own := hthere _ (.head _) hI₀ _ hoI
    have N₂ : News h₀ env.locals s₁.heap ((s.heap.objs.size, oI) :: news₁) := fun p hp => (List.mem_cons.mp hp).elim (fun e => e ▸ N₁ _ (List.mem_append_left _ hmem)) fun h => N₁ _ (List.mem_append_right _ h)
    have hnl : ∀ p ∈ news₁, p.1 ≠ s.heap.objs.size := fun p hp q => hoff p hp (by rw [q]; exact .head _)
    refine wpAny_mono (turn i v m₁ news₁ _ oI s₁ hin hP hJ hnl F₁ N₂) (fun _ s₃ z => wpAny_mono z (fun f s₂ p => ?_) fun _ _ e => e) fun _ _ e => e
    obtain ⟨rfl, h', tk, m', news', e, F', N', hn, hJ'⟩ := p
    refine ⟨rfl, h', tk, m', news', e, F', fun p hp => ?_, fun p hp hq => hn p hp (List.mem_singleton.mp hq), hJ'⟩
    rcases List.mem_append.mp hp with hp | hp
    · refine ⟨?_, (N₁ p (List.mem_append_left _ hp)).2⟩
      rcases List.mem_cons.mp (hown p hp) with q | q
      · have h1 := (N' _ (.head _)).1
        have h2 := hat p hp
        rw [q] at h2 ⊢
        rw [hoI] at h2
        rw [← h2]; exact h1
      · have q := List.mem_singleton.mp q
        have h1 := at_ hJ' F' (fun p hp => N' p (.tail _ hp))
        have h2 := hat p hp
        have h3 : s₁.heap.get? l = some lo := hl.elim (fun e => F₁.keep _ _ e) fun k => (N₁ _ (List.mem_append_right _ (k _ _ _ hJ))).1
        rw [q] at h2 ⊢
        rw [h3] at h2
        rw [← h2]; exact h1
    · exact N' p (.tail _ hp)
  · intro h' tk m' news' F' N' _ hJ
    exact done m' news' h' tk hJ F' N'
end
theorem setCell {h₀ h h' : Heap} {L c : Addr} {m : Str → Option Value} {news rest : List (Addr × Obj)} {o o' : Obj} (F : Fr h₀ L h m) (N : News h₀ L h news) (hs : Heap.SameBut c h h') (hm : (c, o) ∈ news) (e : h'.get? c = some o') (hr : ∀ q ∈ rest, q ∈ news ∧ q.1 ≠ c) :
    Fr h₀ L h' m ∧ News h₀ L h' ((c, o') :: rest) := by
  obtain ⟨hc, hcL, hc0⟩ := N _ hm
  refine ⟨⟨F.ns.at' fun o e => hs.extBut _ o (fun q => hcL q.symm) e, fun b o e => hs.extBut b o (fun q => by rw [q] at e; rw [e] at hc0; cases hc0) (F.keep b o e), F.above⟩, fun q hq => ?_⟩
  rcases List.mem_cons.mp hq with rfl | hq
  · exact ⟨e, hcL, hc0⟩
  · exact ⟨hs.extBut _ _ (hr q hq).2 (N q (hr q hq).1).1, (N q (hr q hq).1).2⟩
theorem newsCons {h₀ h : Heap} {L D : Addr} {o : Obj} {news : List (Addr × Obj)} (N : News h₀ L h news) (e : h.get? D = some o) (hL : D ≠ L) (h0 : h₀.get? D = none) : News h₀ L h ((D, o) :: news) := fun q hq => by
  rcases List.mem_cons.mp hq with rfl | hq
  · exact ⟨e, hL, h0⟩
  · exact N q hq

end
theorem fresh14 : True := by
  w_top off
  exact trivial
section
def itO (l : Addr) : Obj := { cls := .type "list_iterator", data := .fields #[.ref l, .int 0 0] }
section
variable {prog : Program} {w : World} {A : Around} {E : Value → Shared → Prop} {s : Shared} {h₀ : Heap} {L l : Addr} {m : Str → Option Value} {news : List (Addr × Obj)}
theorem iterList {vs : Array Value} {Q : Value → Shared → Prop} (F : Fr h₀ L s.heap m) (N : News h₀ L s.heap news) (hl : s.heap.IsList l vs)
    (h : ∀ (I : Addr) h', Fr h₀ L h' m → News h₀ L h' ((I, itO l) :: news) → (∀ p ∈ news, p.1 < I) → Q (.ref I) { s with heap := h' }) :
    wpAny (model prog w) A (call (.builtin "iter") [.ref l]) Q E s := by
  refine call_function_entry (by decide +kernel) (by decide +kernel) kdk_entry_iter (kdk_args_iter _) ?_
  unfold Builtin.«iter»
  refine wpAny_bind (m := someArgs "iter" 1 2 _) (wpAny_of_eq (a := [Value.ref l]) (by first | rfl | kernel_rfl!) ?_)
  show wpAny _ _ (pyIter (.ref l) >>= _) _ _ _
  refine wpAny_bind (wpAny_pyIter_list hl ?_)
  exact wpAny_pure ⟨_, rfl, h _ _ (F.push _) (News.push F N _ rfl) (fun q hq => Heap.lt_size (N q hq).1)⟩
end
section
variable {prog : Program} {w : World} {A : Around} {E : Value → Shared → Prop} {s : Shared} {env : Env} {h₀ : Heap} {x : Str} {body : List Stmt} {Q : Flow → Shared → Prop}

theorem forIt {I₀ l : Addr} {lo : Obj} {vs : Array Value} {n : Nat} {m₀ : Str → Option Value} {news : List (Addr × Obj)} (J : Nat → (Str → Option Value) → List (Addr × Obj) → Prop)
    (hh : A.handled = none) (hc : lo.cls = .type "list") (hd : lo.data = .seq vs n) (hl : h₀.get? l = some lo ∨ ∀ i m news, J i m news → (l, lo) ∈ news)
    (hit : s.heap.IsListIter I₀ l 0) (hI₀ : h₀.get? I₀ = none) (hIn : ∀ p ∈ news, p.1 ≠ I₀) (F : Fr h₀ env.locals s.heap m₀) (N : News h₀ env.locals s.heap news) (hj : J 0 m₀ news)
    (turn : ∀ i v m₁ news₁ I oI h tk, i < vs.size → vs[i]? = some v → J i m₁ news₁ → (∀ p ∈ news₁, p.1 ≠ I) → Fr h₀ env.locals h (fun y => if y = x then some v else m₁ y) → News h₀ env.locals h ((I, oI) :: news₁) →
      wpAny (model prog w) A (execs body env) (TurnPost h₀ env.locals (J (i + 1)) I oI { s with heap := h, toks := tk } Q) E { s with heap := h, toks := tk })
    (done : ∀ m₁ news₁ h tk, J vs.size m₁ news₁ → Fr h₀ env.locals h m₁ → News h₀ env.locals h news₁ → Q .next { s with heap := h, toks := tk }) :
    wpAny (model prog w) A (pyIter (.ref I₀)) (fun it s₂ => LoopAtV prog w A h₀ env x body Q E it s₂) E s := by
  have at_ : ∀ {i m news h}, J i m news → Fr h₀ env.locals h m → News h₀ env.locals h news → h.get? l = some lo := fun hJ F N => hl.elim (fun e => F.keep _ _ e) fun k => (N _ (k _ _ _ hJ)).1
  have ho := at_ hj F N
  have hls : s.heap.IsList l vs := ⟨lo, ho, hc, n, hd⟩
  have hne : l ≠ I₀ := by
    rintro rfl
    obtain ⟨o, e, hcI, _⟩ := hit
    rw [ho] at e; cases e; rw [hc] at hcI; exact absurd hcI (by decide)
  have hlL : l ≠ env.locals := by
    rintro rfl
    obtain ⟨o, es, ep, e, hd', _⟩ := F.ns
    rw [ho] at e; cases e; rw [hd] at hd'; cases hd'
  have hIL : I₀ ≠ env.locals := by
    rintro rfl
    obtain ⟨o, es, ep, e, hd', _⟩ := F.ns
    obtain ⟨o', e', _, hd''⟩ := hit
    rw [e'] at e; cases e; rw [hd''] at hd'; cases hd'
  have W := Walks.list (prog := prog) (w := w) hh I₀ l hne vs
  refine W.self 0 _ _ _ ⟨hit, hls⟩ ?_
  refine ⟨_, _, _, vs.size, _, _, m₀, news, J, rfl, W, ?_, ?_, ?_, ⟨hit, hls⟩, F, N, hj, ?_, ?_⟩
  · intro hm
    rcases List.mem_cons.mp hm with e | hm
    · exact hIL e.symm
    · exact hlL (List.mem_singleton.mp hm).symm
  · intro b hb
    rw [List.mem_singleton.mp hb]
    exact hI₀
  · intro p hp hI
    exact hIn p hp (List.mem_singleton.mp hI)
  · rintro i v m₁ news₁ s₁ own ⟨hh', tk', rfl⟩ hin hP hJ hoff hown hat hthere hSt F₁ N₁
    obtain ⟨oI, hoI, _⟩ := hSt.1
    have hmem : (I₀, oI) ∈ own := hthere _ (.head _) hI₀ _ hoI
    have N₂ : News h₀ env.locals hh' ((I₀, oI) :: news₁) := fun p hp => (List.mem_cons.mp hp).elim (fun e => e ▸ N₁ _ (List.mem_append_left _ hmem)) fun h => N₁ _ (List.mem_append_right _ h)
    have hnl : ∀ p ∈ news₁, p.1 ≠ I₀ := fun p hp q => hoff p hp (by rw [q]; exact .head _)
    refine wpAny_mono (turn i v m₁ news₁ _ oI hh' tk' hin hP hJ hnl F₁ N₂) (fun f s₂ p => ?_) fun _ _ e => e
    have fin : (∃ h' tk m' news', s₂ = { ({ s with heap := hh', toks := tk' } : Shared) with heap := h', toks := tk } ∧ Fr h₀ env.locals h' m' ∧ News h₀ env.locals h' ((I₀, oI) :: news') ∧ (∀ p ∈ news', p.1 ≠ I₀) ∧ J (i + 1) m' news') →
        LoopStepU h₀ env.locals [I₀] own (J (i + 1)) { s with heap := hh', toks := tk' } .next s₂ := by
      rintro ⟨h', tk, m', news', e, F', N', hn, hJ'⟩
      refine ⟨rfl, h', tk, m', news', e, F', fun p hp => ?_, fun p hp hq => hn p hp (List.mem_singleton.mp hq), hJ'⟩
      rcases List.mem_append.mp hp with hp | hp
      · refine ⟨?_, (N₁ p (List.mem_append_left _ hp)).2⟩
        rcases List.mem_cons.mp (hown p hp) with q | q
        · have h1 := (N' _ (.head _)).1
          have h2 := hat p hp
          rw [q] at h2 ⊢
          rw [show ({ s with heap := hh', toks := tk' } : Shared).heap.get? I₀ = some oI from hoI] at h2
          rw [← h2]; exact h1
        · have q := List.mem_singleton.mp q
          have h1 := at_ hJ' F' (fun p hp => N' p (.tail _ hp))
          have h2 := hat p hp
          have h3 : hh'.get? l = some lo := hl.elim (fun e => F₁.keep _ _ e) fun k => (N₁ _ (List.mem_append_right _ (k _ _ _ hJ))).1
          rw [q] at h2 ⊢
          rw [show ({ s with heap := hh', toks := tk' } : Shared).heap.get? l = some lo from h3] at h2
          rw [← h2]; exact h1
      · exact N' p (.tail _ hp)
    cases f with
    | ret v => exact .ret p
    | brk => exact .brk p
    | next => exact .next (fin p)
    | cont => exact .cont (fin p)
  · rintro h' tk m' news' F' N' _ hJ
    exact done m' news' h' tk hJ F' N'
end

end
theorem fresh15 : True := by
  w_top off
  exact trivial
inductive PK | star | q | nota | ch (b : Bool)
def PK.str : PK → Str
  | .star => Str.ofString "*"
  | .q => Str.ofString "?"
  | .nota => Str.ofString "[^a]"
  | .ch false => Str.ofString "a"
  | .ch true => Str.ofString "b"
def takesStep (x : Str) (R : List Nat) : PK → List Nat
  | .star => match R with | [] => [] | r :: _ => (List.range (x.length + 1 - r)).map (r + ·)
  | .q => (R.filter fun j => decide (j < x.length)).map (· + 1)
  | .nota => (R.filter fun (j : Nat) => decide (j < x.length) && (Builtin.Str.occurrences (Txt.slice (Str.ofString "[^a]") (some 2) (some (-1))) (Txt.item x (j : Int)) 0 (Txt.slice (Str.ofString "[^a]") (some 2) (some (-1))).length 1).isEmpty).map (· + 1)
  | .ch b => (R.filter fun (j : Nat) => (Txt.slice x (some (j : Int)) (some ((j : Int) + 1)) == (PK.ch b).str)).map (· + 1)
theorem takes_len1 (x : Str) (R : List Nat) (p : PK) (h : R.length ≤ x.length + 1) : (takesStep x R p).length ≤ x.length + 1 := by
  cases p <;> simp only [takesStep]
  · cases R with
    | nil => simp
    | cons r R => simp
  all_goals (rw [List.length_map]; exact Nat.le_trans (List.length_filter_le _ _) h)
theorem takes_len (x : Str) (ps : List PK) : ∀ R : List Nat, R.length ≤ x.length + 1 → (ps.foldl (takesStep x) R).length ≤ x.length + 1 := by
  induction ps with
  | nil => intro R h; exact h
  | cons p ps ih => intro R h; exact ih _ (takes_len1 x R p h)
theorem takes_le1 (x : Str) (R : List Nat) (p : PK) (B : Nat) (hB : x.length ≤ B) (h : ∀ r ∈ R, r ≤ B) : ∀ r ∈ takesStep x R p, r ≤ B + 1 := by
  intro r hr
  cases p <;> simp only [takesStep] at hr
  · cases R with
    | nil => cases hr
    | cons k R =>
      obtain ⟨j, hj, rfl⟩ := List.mem_map.mp hr
      have := List.mem_range.mp hj
      omega
  all_goals (
    obtain ⟨j, hj, rfl⟩ := List.mem_map.mp hr
    have := h j (List.mem_filter.mp hj).1
    omega)
theorem takes_le (x : Str) (ps : List PK) : ∀ (R : List Nat) (B : Nat), x.length ≤ B → (∀ r ∈ R, r ≤ B) → ∀ r ∈ ps.foldl (takesStep x) R, r ≤ B + ps.length := by
  induction ps with
  | nil => intro R B _ h; exact h
  | cons p ps ih =>
    intro R B hB h r hr
    have := ih _ (B + 1) (by omega) (takes_le1 x R p B hB h) r hr
    simp only [List.length_cons]; omega
def natInts (R : List Nat) : List Int := R.map fun (k : Nat) => (k : Int)
theorem natInts_filter (R : List Nat) (p : Nat → Bool) : (R.filter p).map (fun (j : Nat) => (j : Int) + 1) = natInts ((R.filter p).map (· + 1)) := by
  simp [natInts, List.map_map, Function.comp_def]
theorem natInts_any (R : List Nat) (n : Nat) : ((natInts R).any fun y => y == (n : Int)) = R.any (· == n) := by
  unfold natInts
  rw [List.any_map]
  congr 1
  funext k
  show ((k : Int) == (n : Int)) = (k == n)
  by_cases h : k = n
  · subst h; simp
  · have h' : (k : Int) ≠ (n : Int) := fun q => h (by omega)
    rw [beq_false_of_ne h, beq_false_of_ne h']
def TakesJ (L : Addr) (oN : Obj) (x : Str) (parts : List PK) (i : Nat) (m : Str → Option Value) (news : List (Addr × Obj)) : Prop :=
  ∃ r ws c oP, news = [(r, listOf (List.toArray ws) c), (L + 1 + 1, oP), (L + 1, oN)] ∧ (r ≠ L + 1 + 1 ∧ r ≠ L + 1) ∧ (∃ v, oP.data = .cell v) ∧ IntsAre ws (natInts ((parts.take i).foldl (takesStep x) [0])) ∧ m (Str.ofString "reach") = some (.ref r)

theorem fresh16 : True := by
  w_top off
  exact trivial
section
/-! entries: a caller's base and ledger kept; a closure with one cell of its own -/
section
variable {K : Frag} {p : Program} {loose : List Str} {mean : ExcName → Option Value} {mg mb : Str → Option Value} {A : Around} {d u : Nat}
theorem enterB {prog : Program} {w : World} {s : Shared} {E Q : Value → Shared → Prop} {h₀ : Heap} {L₀ : Addr} {m₀ : Str → Option Value} {news : List (Addr × Obj)} {oL : Obj} {name qual : Str} {params : Arguments} {body : List Stmt} {scope : Scope} {dV kV doc pm cdv ct oc : Value} {an od : Option Addr} {osl : Array (Option Value)} {f : Addr} {args : List Value} {binds : List (Str × Value)}
    (G : Gd K p loose mean mg mb A s.heap d u) (F₀ : Fr h₀ L₀ s.heap m₀) (N₀ : News h₀ L₀ s.heap news) (hL : s.heap.get? L₀ = some oL) (hL0 : h₀.get? L₀ = none)
    (ho : s.heap.get? f = some ⟨oc, od, .func (fnX name qual params body scope [] dV kV doc pm an cdv ct), osl⟩) (hcd : s.heap.CodeRec cdv qual)
    (hbind : BindsTo s (fnX name qual params body scope [] dV kV doc pm an cdv ct) ⟨args, []⟩ binds)
    (hkind : (binds.all fun y => scope.names.lookup y.1 == some .local || scope.names.lookup y.1 == some .cell) = true) (hnd : ((cellsFrom 0 scope.names []).map (·.1)).Nodup)
    (h : ∀ L h₁ tk cells, s.heap.objs.size ≤ L → Fr h₀ L h₁ (bindL (envOfC qual scope L f cdv).kindOf binds fun _ => none) → News h₀ L h₁ (cells ++ (L₀, oL) :: news) →
      CellsAre (bindC (envOfC qual scope L f cdv).kindOf binds fun _ => none) (cellsFrom (L + 1) scope.names []) cells →
      wpAny (model prog w) (A.deeper (envOfC qual scope L f cdv)) (execs body (envOfC qual scope L f cdv))
        (fun fl s' => Q (match fl with | .ret v => v | _ => .none) s') (fun _ _ => False) { s with heap := h₁, toks := tk })
    (hco : scope.isCoroutine = false) (hgen : scope.isGenerator = false) (hk : scope.kind = .function) : wpAny (model prog w) A (call (.ref f) args) Q E s := by
  refine enterC G ho hcd hbind hkind hnd (fun L h₁ tk cells F N Y => h L h₁ tk cells F.above ⟨F.ns, fun b o e => F.keep _ _ (F₀.keep _ _ e), Nat.le_trans (Nat.le_of_lt (Nat.lt_of_le_of_lt F₀.above (Heap.lt_size hL))) F.above⟩ ?_ Y) hco hgen hk
  have hlt : ∀ b o, s.heap.get? b = some o → b ≠ L := fun b o e q => by
    have := Heap.lt_size e; rw [q] at this; exact Nat.lt_irrefl _ (Nat.lt_of_lt_of_le this F.above)
  have no : ∀ b, s.heap.get? b = none → h₀.get? b = none := fun b e => by
    cases q : h₀.get? b with
    | none => rfl
    | some o => rw [F₀.keep _ _ q] at e; cases e
  intro q hq
  rcases List.mem_append.mp hq with hq | hq
  · exact ⟨(N q hq).1, (N q hq).2.1, no _ (N q hq).2.2⟩
  rcases List.mem_cons.mp hq with rfl | hq
  · exact ⟨F.keep _ _ hL, hlt _ _ hL, hL0⟩
  · exact ⟨F.keep _ _ (N₀ q hq).1, hlt _ _ (N₀ q hq).1, (N₀ q hq).2.2⟩
theorem backFr {h₀ h h' : Heap} {L₀ L : Addr} {m₀ m : Str → Option Value} {news : List (Addr × Obj)} {oL : Obj} (F₀ : Fr h₀ L₀ h m₀) (hL : h.get? L₀ = some oL) (F : Fr h₀ L h' m) (N : News h₀ L h' news) (hm : (L₀, oL) ∈ news) : Fr h₀ L₀ h' m₀ :=
  ⟨F₀.ns.at' fun o e => by rw [hL] at e; cases e; exact (N _ hm).1, F.keep, F₀.above⟩
theorem wpFor2 {M : Model} {E : Value → Shared → Prop} {s : Shared} {a b : Str × Value} {f : Str × Value → PUnit → Sem (ForInStep PUnit)} {env : Env} {Q : PUnit → Shared → Prop} (hf : ∀ n v u, f (n, v) u = (do storeName env n v; pure (.yield ⟨⟩)))
    (h : wpAny M A (storeName env a.1 a.2) (fun _ s₁ => wpAny M A (storeName env b.1 b.2) (fun _ s₂ => Q ⟨⟩ s₂) E s₁) E s) : wpAny M A (forIn [a, b] ⟨⟩ f) Q E s := by
  rw [List.forIn_cons, hf]
  refine wpAny_bind (wpAny_bind (wpAny_mono h (fun _ s₁ h₁ => wpAny_pure ?_) fun _ _ e => e))
  show wpAny M A (forIn [b] ⟨⟩ f) Q E s₁
  rw [List.forIn_cons, hf]
  refine wpAny_bind (wpAny_bind (wpAny_mono h₁ (fun _ s₂ h₂ => wpAny_pure ?_) fun _ _ e => e))
  show wpAny M A (forIn [] ⟨⟩ f) Q E s₂
  rw [List.forIn_nil]
  exact wpAny_pure h₂
theorem enterS {prog : Program} {w : World} {s : Shared} {E Q : Value → Shared → Prop} {name qual : Str} {params : Arguments} {body : List Stmt} {scope : Scope} {cl : List (Str × Addr)} {dV kV doc pm cdv ct oc : Value} {an od : Option Addr} {osl : Array (Option Value)} {f : Addr} {args : List Value} {a b : Str} {v₁ v₂ : Value}
    (G : Gd K p loose mean mg mb A s.heap d u)
    (ho : s.heap.get? f = some ⟨oc, od, .func (fnX name qual params body scope cl dV kV doc pm an cdv ct), osl⟩) (hcd : s.heap.CodeRec cdv qual)
    (hbind : BindsTo s (fnX name qual params body scope cl dV kV doc pm an cdv ct) ⟨args, []⟩ [(a, v₁), (b, v₂)])
    (ha : scope.names.lookup a = some .local) (hb : scope.names.lookup b = some .cell) (hab : a ≠ b)
    (hcf : ∀ n acc, cellsFrom n scope.names acc = (b, n) :: acc) (hpc : ∀ h, pushCells h scope.names = h.push { cls := .type "cell", data := .cell none })
    (h : ∀ L h₁ tk oC, Fr s.heap L h₁ (fun y => if y = a then some v₁ else none) → News s.heap L h₁ [(L + 1, oC)] → oC.data = .cell (some v₂) →
      wpAny (model prog w) (A.deeper (envX qual scope L f cdv ((b, L + 1) :: cl))) (execs body (envX qual scope L f cdv ((b, L + 1) :: cl)))
        (fun fl s' => Q (match fl with | .ret v => v | _ => .none) s') (fun _ _ => False) { s with heap := h₁, toks := tk })
    (hco : scope.isCoroutine = false) (hgen : scope.isGenerator = false) (hk : scope.kind = .function) : wpAny (model prog w) A (call (.ref f) args) Q E s := by
  refine wpAny_call (codeAny_call_function (fd := fnX name qual params body scope cl dV kV doc pm an cdv ct) (body := body) (Nat.lt_of_le_of_lt (Nat.le_add_right _ _) G.dep) ho rfl hco hgen rfl hcd (hbind _ _ _ _ ?_))
  simp only [newFunctionEnv, Option.isSome_none, Bool.false_eq_true, if_false]
  refine wpAny_bind (wpAny_alloc ?_)
  refine wpAny_bind (wpAny_layCells _ (fun name kind cells => by cases hkc : kind == NameKind.cell <;> simp [hkc]) _ _ _ _ ?_)
  rw [show ({ s with heap := s.heap.push { cls := .type "frame", data := .dict #[] } } : Shared).heap.objs.size = s.heap.objs.size + 1 from Heap.size_push ..]
  simp only [fnX] at *
  rw [hcf, hpc]
  generalize hL : s.heap.objs.size = L
  refine wpAny_bind (wpFor2 (env := envX qual scope L f cdv ((b, L + 1) :: cl)) (fun _ _ _ => rfl) ?_)
  have hns0 : ((s.heap.push { cls := .type "frame", data := .dict #[] }).push { cls := .type "cell", data := .cell none }).Ns L (fun _ => none) := by
    have := (Heap.Ns.new s.heap (.type "frame")).keeps (h' := (s.heap.push { cls := .type "frame", data := .dict #[] }).push { cls := .type "cell", data := .cell none }) (fun b o e => Heap.get?_push_of_some _ e)
    rw [hL] at this; exact this
  have hc0 : ((s.heap.push { cls := .type "frame", data := .dict #[] }).push { cls := .type "cell", data := .cell none }).IsCell (L + 1) none := by
    have e : (s.heap.push { cls := .type "frame", data := .dict #[] }).objs.size = L + 1 := by rw [Heap.size_push, hL]
    exact ⟨_, e ▸ Heap.get?_push_size _ rfl, rfl⟩
  have old : ∀ b o, s.heap.get? b = some o → ((s.heap.push { cls := .type "frame", data := .dict #[] }).push { cls := .type "cell", data := .cell none }).get? b = some o := fun b o e => Heap.get?_push_of_some _ (Heap.get?_push_of_some _ e)
  have lt : ∀ b o, s.heap.get? b = some o → b < L := fun b o e => hL ▸ Heap.lt_size e
  refine wpAny_storeName_local ha hns0 (fun h1 hn1 hs1 => ?_) (by show (scope.kind == ScopeKind.class || _) = false; rw [hk]; rfl)
  have hs1' : Heap.SameBut L _ h1 := hs1
  refine wpAny_storeName_cell (c := L + 1) (v₀ := none) hk hb (by show List.lookup b ((b, L + 1) :: cl) = _; simp) (hc0.sameBut hs1' (by show L + 1 ≠ L; exact Nat.succ_ne_self L)) (fun h2 hc2 hs2 => ?_)
  refine wpAny_pure ?_
  have keep : ∀ b o, s.heap.get? b = some o → h2.get? b = some o := fun b o e => hs2.extBut b o (Nat.ne_of_lt (Nat.lt_succ_of_lt (lt b o e))) (hs1'.extBut b o (Nat.ne_of_lt (lt b o e)) (old b o e))
  obtain ⟨oC, hoC, hdC⟩ := hc2
  refine ⟨G.T.nolimit.keeps keep, codeAny_func ?_⟩
  refine wpAny_mono (h L h2 _ oC ⟨hn1.sameBut hs2 (Nat.succ_ne_self L).symm, keep, Nat.le_of_eq hL⟩ (fun q hq => ?_) hdC) (fun fl s' hl => hl) fun _ _ x => x.elim
  rw [List.mem_singleton.mp hq]
  refine ⟨hoC, Nat.succ_ne_self L, ?_⟩
  cases q : s.heap.get? (L + 1) with
  | none => rfl
  | some o => exact absurd (lt _ _ q) (Nat.not_lt.mpr (Nat.le_succ L))
end
section
variable {prog : Program} {w : World} {A : Around} {E : Value → Shared → Prop} {s : Shared} {h₀ : Heap} {L : Addr} {m : Str → Option Value} {news : List (Addr × Obj)} {a b : Addr} {vs us : List Value} {Q : Value → Shared → Prop}
theorem addLists (F : Fr h₀ L s.heap m) (N : News h₀ L s.heap news) (hl : s.heap.IsList a vs.toArray) (hl' : s.heap.IsList b us.toArray) (hz : vs.length + us.length ≤ sizeLine)
    (h : ∀ D h', Fr h₀ L h' m → News h₀ L h' ((D, listOf (vs ++ us).toArray 0) :: news) → (∀ p ∈ news, p.1 < D) → Q (.ref D) { s with heap := h' }) :
    wpAny (model prog w) A (binaryOp .Add (.ref a) (.ref b)) Q E s :=
  add_arrays F N hl hl' (fun h' F' N' => h _ h' F' (by simpa using N') (fun p hp => Heap.lt_size (N p hp).1)) (by rw [List.size_toArray, List.size_toArray]; exact hz)
end

end
section
theorem fresh17 : True := by
  w_top off
  exact trivial
/-! a list's `append` as a value -/
def bndO (a : Addr) : Obj := { cls := .type "builtin_function_or_method", data := .fields #[.builtin "list.append", .ref a] }
local macro_rules | `(tactic| x_close) => `(tactic| ((with_reducible rename XRet _ => xr); (with_reducible rename X.Mem _ _ _ _ => dM); exact (XRet.out xr) _ _ _ (memKp dM) (dM.nw _ (.head _)).1 (dM.nw _ (.head _)).2))
theorem x_append (w : World) {s : Shared} {Q E : Value → Shared → Prop} (a : Addr) (t : Tok) (X : (hd.heap_1 w.params).In s.heap) (ho : s.heap.get? a = some { cls := Value.type "list", data := Data.seq #[] })
    (xret : XRet (∀ q h' tk', Kp s.heap h' → h'.get? q = some (bndO a) → s.heap.get? q = none → Q (.ref q) { s with heap := h', toks := tk' })) :
    wpAny (model PySem.Challenge.rw_ij0168_01.row.prog w) roomA (call (.builtin "list.__getattribute__") [.ref a, .str (Str.ofString "append") t]) Q E s := by
  revert X; k_fill; intro X
  x_run
theorem getAttr_append (w : World) {A : Around} {s : Shared} {Q E : Value → Shared → Prop} (a : Addr) (hh : A.handled = none) (hdp : A.depth ≤ 390) (hu : A.units ≤ 2900) (X : (hd.heap_1 w.params).In s.heap) (ho : s.heap.get? a = some { cls := Value.type "list", data := Data.seq #[] })
    (ret : ∀ q h' tk', Kp s.heap h' → h'.get? q = some (bndO a) → s.heap.get? q = none → ¬ @Eq Nat a q → Q (.ref q) { s with heap := h', toks := tk' }) :
    wpAny (model PySem.Challenge.rw_ij0168_01.row.prog w) A (getAttr (.ref a) (Str.ofString "append") true) Q E s := by
  obtain ⟨hp, g, d, tk, os⟩ := s
  have hT : ∀ tk', (⟨hp, g, d, tk', os⟩ : Shared).TypeIs (.ref a) "list" := fun _ => ⟨_, ho, rfl⟩
  have f3 := F.slot_list_getattribute.lookup
  have f4 := F.slot_list_getattribute.bind (.ref a)
  have f5 := am_list_getattr_none
  unfold getAttr getAttrBy
  repeat (any_goals (first | assumption | exact hT _ | ((with_reducible show wpAny _ _ (call (Value.builtin "list.__getattribute__") _ _) _ _ _); refine wpRoom hh (by omega) (by omega) (x_append w a _ X ho fun q h' tk' k1 k2 k3 => ?_)) | wp_step))
  exact ret _ _ _ (by assumption) (by assumption) (by assumption) (by rintro rfl; simp_all)

theorem fresh18 : True := by
  w_top off
  exact trivial
section
section
variable {M : Model} {A : Around} {E : Value → Shared → Prop} {s : Shared} {pos : Pos} {first : List Value} {env : Env} {Q : Value → Shared → Prop}
def BndAt (q a : Addr) (h : Heap) : Prop := h.get? q = some (bndO a)
theorem keepsB {q a : Addr} (h : Heap) (X : BndAt q a h) : ∃ k, (k = Keeper.frame ∨ k = Keeper.machine ∨ k = Keeper.boundFrame) ∧ Looks M h (keeperOf (.ref q)) k :=
  ⟨.machine, .inr (.inl rfl), (Looks.ld (part := none) (show h.get? q = _ from X)).andThen .now⟩
theorem callWith_B {q a : Addr} {h₀ : Heap} {L : Addr} {news : List (Addr × Obj)} {e : PySem.Expr} {rest : List PySem.Expr} (_N : News h₀ L s.heap news) (_q : (q, bndO a) ∈ news) (h : wpAny M A (spliced (backTo pos (starEach (e :: rest) env))) (fun vs s₁ => BndAt q a s₁.heap ∧ wpAny M A (call (.ref q) (first ++ vs)) Q E s₁) E s)
    (he : starEach (e :: rest) env = (false, eval e env) :: starEach rest env := by rfl) (hplain : (backTo pos (starEach rest env)).any (·.1) = false := by rfl) :
    wpAny M A (callWith pos (.ref q) first (backTo pos (starEach (e :: rest) env)) []) Q E s := by
  rw [he] at h ⊢
  exact callWith_of (by show ((false || (backTo pos (starEach rest env)).any (·.1)) || false) = false; rw [hplain]; rfl) keepsB (evalArgs_plain h)
end
theorem sigA_some : (Manifest.signature? "list.append").isSome = true := by decide +kernel
def sigA : Manifest.Signature := (Manifest.signature? "list.append").get sigA_some
theorem sigA_eq : Manifest.signature? "list.append" = some sigA := (Option.some_get sigA_some).symm
theorem kind_append : builtinKind "list.append" = some .method := by decide +kernel
theorem last_append : Bind.lastOf "list.append" = "append" := by decide +kernel
theorem last_list : Bind.lastOf "list" = "list" := by decide +kernel
theorem va_append : Manifest.varargsMethods.contains "list.append" = false := by decide +kernel
theorem ck_append {a : Addr} {v : Value} : Bind.checkArgs "list.append" { sigA with full := "list.append" } ⟨[.ref a, v], []⟩ = pure () := by kernel_rfl
theorem ifN {α : Type} {M : Model} {A : Around} {E : Value → Shared → Prop} {s : Shared} {c : Prop} [Decidable c] {x y : Sem α} {Q : α → Shared → Prop} (h : ¬ c) (k : wpAny M A y Q E s) : wpAny M A (if c then x else y) Q E s := by rw [if_neg h]; exact k
theorem isTypeN {M : Model} {A : Around} {E : Value → Shared → Prop} {s : Shared} {x : Addr} {ox : Obj} {Q : Bool → Shared → Prop} (hx : s.heap.get? x = some ox) (hnc : ∀ c, ox.data ≠ .cls c) (hq : Q false s) : wpAny M A (isType (.ref x)) Q E s := by
  obtain ⟨h, g, d, t, os⟩ := s
  exact ks_wpAny_isType_inst hx hnc hq
theorem check_append {M : Model} {A : Around} {s : Shared} {E : Value → Shared → Prop} {Q : Unit → Shared → Prop} {a : Addr} {v : Value} {o : Obj} (ho : s.heap.get? a = some o) (hc : o.cls = .type "list") (hnc : ∀ c, o.data ≠ .cls c) (h : Q () s) :
    wpAny M A (checkBoundCall "list.append" ⟨[.ref a, v], []⟩) Q E s := by
  have hT : s.TypeIs (.ref a) "list" := ⟨o, ho, hc⟩
  unfold checkBoundCall
  rw [sigA_eq, kind_append]
  dsimp only
  refine ifN (by decide) ?_
  refine wpAny_bind (wpAny_isInstance hT (b := false) (by kernel_rfl) ?_)
  rw [va_append]
  refine ifN (by decide) ?_
  refine wpAny_bind (isTypeN ho hnc ?_)
  refine ifN (by decide) ?_
  refine wpAny_bind (wpAny_typeOf hT ?_)
  show wpAny _ _ (Bind.checkArgs "list.append" { sigA with full := s!"{Bind.lastOf "list"}.{Bind.lastOf "list.append"}" } ⟨[.ref a, v], []⟩) _ _ _
  rw [last_append, last_list]
  exact wpAny_of_eq (a := ()) ck_append h
theorem quietA {args : Args} : (Code.builtin "list.append" args).quiet = true := Code.quiet_builtin _ (by decide +kernel)
theorem add_plain {prog : Program} {w : World} {A : Around} {s : Shared} {E Q : Value → Shared → Prop} {q l : Addr} {its : Array Value} {n : Nat} {x : Value} (ho : s.heap.get? q = some (bndO l)) (hl : s.heap.get? l = some { cls := .type "list", data := .seq its n })
    (hsz : its.size ≤ sizeLine) (hQ : ∀ h', h'.get? l = some { cls := .type "list", data := .seq (its.push x) (n + 1) } → Heap.SameBut l s.heap h' → Q .none { s with heap := h' }) :
    wpAny (model prog w) A (call (.ref q) [x]) Q E s := by
  refine wpAny_call (codeAny_of_tree ?_)
  show wpAny _ _ (callAny (.ref q) _) _ _ _
  unfold callAny
  dsimp only
  refine wpAny_bind (wpAny_load ho ?_)
  show wpAny _ _ (do checkBoundCall "list.append" ⟨[.ref l, x], []⟩; again (.builtin "list.append" ⟨[.ref l, x], []⟩)) _ _ _
  refine wpAny_bind (check_append hl rfl (by intro c e; cases e) ?_)
  refine wpAny_pure ⟨quietA, codeAny_builtin entry_list_append ?_⟩
  show wpAny _ _ (updateSeq l (·.push x) >>= fun _ => ret .none) _ _ s
  refine wpAny_bind ?_
  refine wpAny_updateSeq hl rfl (wpAny_pure (hQ _ ?_ (Heap.SameBut.update ..))) hsz
  rw [Heap.get?_update_self _ hl (by rw [Obj.mapSeq_push_plain]; rfl), Obj.mapSeq_push_plain]
theorem add_K {prog : Program} {w : World} {A : Around} {s : Shared} {E Q : Value → Shared → Prop} {h₀ : Heap} {L q D : Addr} {m : Str → Option Value} {news news' : List (Addr × Obj)} {its : Array Value} {n : Nat} {x : Value} (F : Fr h₀ L s.heap m) (N : News h₀ L s.heap news) (hsz : its.size ≤ sizeLine) (hq : (q, bndO D) ∈ news) (U : Upd D (listOf its n) (listOf (its.push x) (n + 1)) news news')
    (h : ∀ h', Fr h₀ L h' m → News h₀ L h' news' → Q .none { s with heap := h' }) : wpAny (model prog w) A (call (.ref q) [x]) Q E s := by
  have ho := N.get hq
  obtain ⟨pre, post, rfl, rfl, a, b⟩ := U.split
  have z := N (D, listOf its n) (List.mem_append.mpr (.inr (.head _)))
  exact add_plain ho z.1 hsz fun h' ho' hs => h h' (F.change hs z.2.1 z.2.2) (news_set N a b hs ho')

end
end
section
theorem fresh19 : True := by
  w_top off
  exact trivial
local macro_rules | `(tactic| x_close) => `(tactic| ((with_reducible rename XRet _ => xr); (with_reducible rename X.Mem _ _ _ _ => dM); exact (XRet.out xr) _ _ _ (memKp dM)))
theorem x_sub (w : World) {s : Shared} {Q E : Value → Shared → Prop} (f : Addr) (dt : Data) (sl : Array (Option Value)) (t : Tok) (X : (hd.heap_1 w.params).In s.heap) (ho : s.heap.get? f = some ⟨.type "function", none, dt, sl⟩)
    (xret : XRet (∀ h' tk' ta, Kp s.heap h' → Q (.str (Str.ofString "!a") ta) { s with heap := h', toks := tk' })) :
    wpAny (model PySem.Challenge.rw_ij0168_01.row.prog w) roomA (call (.builtin "re.Pattern.sub") [.ref 52, .ref f, .str (Str.ofString "!a") t]) Q E s := by
  revert X; k_fill; intro X
  x_run
theorem slot_sub : Slot "re.Pattern" "sub" "re.Pattern.sub" :=
  .of (owner := "re.Pattern") (n := "sub") (by rw [typeLookup_type, builtinLookup_eq_fast]; kernel_rfl) (by decide +kernel) (by decide +kernel) (by decide +kernel)
    (by first | exact .inl (by decide +kernel) | exact .inr (by decide +kernel)) (by rw [isSubtype_type]; kernel_rfl)
theorem type_sub : typeOf (.builtin "re.Pattern.sub") = pure (.type "method_descriptor") := by show builtinType _ = _; rw [builtinType_eq_fast]; kernel_rfl
theorem plainAttrs_pattern : PlainAttrs "re.Pattern" :=
  ⟨⟨"object.__getattribute__", by rw [typeLookup_type, builtinLookup_eq_fast]; kernel_rfl, by decide +kernel⟩, by rw [typeLookup_type, builtinLookup_eq_fast]; kernel_rfl⟩
theorem lk52 (P : Params) : ∃ dt, (hd.heap_1 P).lookup 52 = some ⟨.type "re.Pattern", none, dt, #[]⟩ := ⟨_, rfl⟩
theorem gm_sub {w : World} {M : Model} {A : Around} {E : Value → Shared → Prop} {s : Shared} {pl : Sem Bool} {Q : Value × List Value → Shared → Prop} (X : (hd.heap_1 w.params).In s.heap) (h : Q (.builtin "re.Pattern.sub", [.ref 52]) s) : wpAny M A (getMethod (.ref 52) "sub" pl) Q E s := by
  obtain ⟨dt, e⟩ := lk52 w.params
  have ho := X _ _ e
  refine getMethod_builtin (T := "re.Pattern") ⟨_, ho, rfl⟩ plainAttrs_pattern slot_sub type_sub (fun a q => ?_) h
  cases q
  exact ⟨_, ho, rfl⟩

end
theorem fresh20 : True := by
  w_top off
  exact trivial
section
/-- the tokens, bounded from below while the walk goes on -/
def TkGE (n X : Nat) : Prop := n ≤ X
section
variable {α : Type} {M : Model} {A : Around} {E : Value → Shared → Prop} {t0 a : Nat}
theorem genToks {T : Sem α} {Q : α → Shared → Prop} {h : Heap} {g : Array GenState} {d : Drawn} {X : Nat} {os : OsState} (m : TkGE t0 a) (hle : a ≤ X) (k : ∀ tk, TkGE t0 tk → wpAny M A T Q E ⟨h, g, d, tk, os⟩) : wpAny M A T Q E ⟨h, g, d, X, os⟩ := k X (Nat.le_trans m hle)
theorem tokCut {s : Shared} {t : Sem α} {Q : α → Shared → Prop} (m : TkGE t0 a) (hn : a ≤ s.toks) (h : wpAny M A t (fun a s' => TkGE t0 s'.toks → Q a s') (fun e s' => TkGE t0 s'.toks → E e s') s) : wpAny M A t Q E s := wpAny_with_toks (Nat.le_trans m hn) h
end
def OnceMark (_ : Nat) : Prop := True

end
theorem fresh21 : True := by
  w_top off
  exact trivial
section
/-! str.translate by the text's own table, of one sign that the table does not hold -/
noncomputable def es54 (P : Params) : Array DictEntry := match (hd.heap_1 P).lookup 54 with | some ⟨_, _, .dict es _, _⟩ => es | _ => #[]
theorem lk54 (P : Params) : (hd.heap_1 P).lookup 54 = some ⟨.type "dict", none, .dict (es54 P) 24, #[]⟩ := rfl
def keyOk (e : DictEntry) : Bool := match e.key with | .int k _ => e.hash == hashInt k | _ => false
theorem keysOk54 (P : Params) : (es54 P).toList.all keyOk = true := by kernel_rfl
theorem keys54 (prog : Program) (w : World) (P : Params) : KeysOf (intKind prog w) (es54 P) := fun e he => by
  have h := (List.all_eq_true.mp (keysOk54 P)) e (Array.mem_toList_iff.mpr he)
  unfold keyOk at h
  split at h
  · rename_i k t hk
    exact ⟨k, by rw [hk]; simp [intKind, Value.isInt], by simpa [intKind] using h⟩
  · cases h
theorem map54 {prog : Program} {w : World} {h : Heap} (X : (hd.heap_1 w.params).In h) : h.MapOf (intKind prog w) 54 (fun k => findBy Value.isInt (es54 w.params) k) :=
  ⟨_, _, _, X _ _ (lk54 _), ⟨rfl, rfl, rfl⟩, rfl, keys54 _ _ _, fun _ => rfl⟩
theorem none97 (P : Params) : findBy Value.isInt (es54 P) 97 = none := rfl
theorem none98 (P : Params) : findBy Value.isInt (es54 P) 98 = none := rfl
section
variable {w : World} {A : Around} {s : Shared} {E : Value → Shared → Prop}
theorem ifY {α : Type} {M : Model} {c : Prop} [Decidable c] {x y : Sem α} {Q : α → Shared → Prop} (h : c) (k : wpAny M A x Q E s) : wpAny M A (if c then x else y) Q E s := by rw [if_pos h]; exact k
theorem look54 {prog : Program} {c : Nat} {Q : Builtin.Str.Mapped → Shared → Prop} (hh : A.handled = none) (X : (hd.heap_1 w.params).In s.heap) (hc : findBy Value.isInt (es54 w.params) (c : Int) = none)
    (h : ∀ h' tk', Kp s.heap h' → s.toks ≤ tk' → Q .keep { s with heap := h', toks := tk' }) : wpAny (model prog w) A (Builtin.Str.tableLookup (.ref 54) c) Q E s := by
  unfold Builtin.Str.tableLookup
  refine wpAny_bind (wpAny_attempt (wpAny_bind (wpAny_mkInt ?_)))
  refine wpAny_getItem_missing_of (k := (c : Int)) (by simp [intKind, Value.isInt]) rfl hh (map54 X) hc fun h' e N => ?_
  obtain ⟨kk, hn, ob, t, he, hcl, hdt⟩ := N
  dsimp only
  refine wpAny_bind (wpAny_isInstance (T := "KeyError") (b := true) ⟨ob, he, hcl⟩ (by rw [isSubtype_type]; kernel_rfl) ?_)
  rw [if_pos rfl]
  exact wpAny_bind (wpAny_rule (wpAny_pure (h _ _ kk (by omega))))
theorem trl_one {prog : Program} {c : Nat} {t : Tok} {Q : Value → Shared → Prop} (hh : A.handled = none) (X : (hd.heap_1 w.params).In s.heap) (hc : findBy Value.isInt (es54 w.params) (c : Int) = none) (hlt : c < 128)
    (h : ∀ h' tk' ta, Kp s.heap h' → s.toks ≤ ta → ta ≤ tk' → Q (.str ⟨#[c]⟩ ta) { s with heap := h', toks := tk' }) : wpAny (model prog w) A (call (.builtin "str.translate") [.str ⟨#[c]⟩ t, .ref 54]) Q E s := by
  refine wpAny_call_entry F.slot_str_translate (typeIs_str _ _ _) F.entry_str_translate ?_ (F.args_str_translate_2 _ _)
  unfold Builtin.«str.translate»
  refine wpAny_bind (wpAny_of_eq (a := (Value.str ⟨#[c]⟩ t, (⟨#[c]⟩ : Str), Value.ref 54)) rfl ?_)
  dsimp only
  refine ifN (fun h => by cases h) ?_
  refine wpAny_bind ?_
  rw [← Array.forIn_toList]
  show wpAny _ _ (forIn [c] _ _) _ _ _
  rw [List.forIn_cons]
  refine wpAny_bind ?_
  refine ifN (fun h => by cases h) ?_
  refine ifY (by simp [hlt]) ?_
  dsimp only [List.lookup]
  refine wpAny_bind (look54 hh X hc fun h' tk' k' l' => ?_)
  dsimp only
  refine wpAny_bind (wpAny_pure ?_)
  dsimp only
  refine wpAny_pure ?_
  dsimp only
  rw [List.forIn_nil]
  refine wpAny_pure ?_
  dsimp only
  refine ifN (by decide) ?_
  unfold retStr
  refine wpAny_bind (wpAny_mkStr ?_ (by show 1 ≤ _; rw [sizeLine_eq]; decide))
  exact wpAny_pure ⟨_, rfl, h _ _ _ k' l' (Nat.le_succ _)⟩
end
theorem gm_translate {M : Model} {A : Around} {E : Value → Shared → Prop} {s : Shared} {x : Str} {t : Tok} {pl : Sem Bool} {Q : Value × List Value → Shared → Prop} (h : Q (.builtin "str.translate", [.str x t]) s) : wpAny M A (getMethod (.str x t) "translate" pl) Q E s := by
  with_reducible exact GM.of (.str x t) (typeIs_str _ _ _) F.slot_str_translate F.type_str_translate GM.noRef h
theorem esc_sign (b : Bool) (P : Params) : ∃ c : Nat, (PK.ch b).str = ⟨#[c]⟩ ∧ findBy Value.isInt (es54 P) (c : Int) = none ∧ c < 128 := by
  cases b
  · exact ⟨97, by decide +kernel, none97 P, by decide⟩
  · exact ⟨98, by decide +kernel, none98 P, by decide⟩

end
theorem fresh22 : True := by
  w_top off
  exact trivial
theorem isnot_str {M : Model} {A : Around} {E : Value → Shared → Prop} {s : Shared} {y z : Str} {u v : Tok} {Q : Value → Shared → Prop} (h0 : ¬ @Eq Nat u 0) (h1 : ¬ @Eq Nat v 0) (h2 : ¬ @Eq Nat u v) (hyz : (y == z) = false) (h : Q (.bool true) s) :
    wpAny M A (compareOp .IsNot (.str y u) (.str z v)) Q E s := by
  show wpAny M A (isSame (.str y u) (.str z v) >>= fun x => pure (Value.bool (!x))) Q E s
  rw [isSame_str_other y z u v (by simp [h0, h1]) (by simp [h2]) hyz]
  exact wpAny_bind (wpAny_pure (wpAny_pure h))

theorem fresh23 : True := by
  w_top off
  exact trivial
section
open Builtin Builtin.Str in
theorem replace_none {prog : Program} {w : World} {A : Around} {E : Value → Shared → Prop} {s : Shared} {x y z : Str} {t u v : Tok} {Q : Value → Shared → Prop} (hc : (occurrences x y 0 x.length (x.length + 1)).isEmpty = true) (h : Q (.str x t) s) :
    wpAny (model prog w) A (call (.builtin "str.replace") [.str x t, .str y u, .str z v]) Q E s := by
  refine wpAny_call_entry F.slot_str_replace (typeIs_str _ _ _) F.entry_str_replace ?_ (F.args_str_replace_3 _ _ _)
  show wpAny _ _ (if ((occurrences x y 0 x.length (x.length + 1)).isEmpty || (y.length == 0 && z.length == 0)) = true then (do rule "str.replace.nothing"; ret (.str x t)) else
          (do let same ← isSame (.str y u) (.str z v)
              if same = true then (do rule "str.replace.old-is-new"; ret (.str x t)) else
              if tooLong (x.length + (occurrences x y 0 x.length (x.length + 1)).length * z.length) = true then unsupported "str.replace:memory" else
              retStr (glued z (partsBetween x (occurrences x y 0 x.length (x.length + 1)) y.length)))) _ _ _
  rw [hc]
  refine ifY rfl ?_
  exact wpAny_bind (wpAny_rule (wpAny_pure ⟨_, rfl, h⟩))
def lamTab (c' : Addr) : Array Value := #[rawInt 75, rawInt 39, .ref c']
theorem neObj {h₀ h : Heap} {L a b : Addr} {o o' : Obj} {news : List (Addr × Obj)} (N : News h₀ L h news) (ha : (a, o) ∈ news) (hb : (b, o') ∈ news) (hc : o.cls ≠ o'.cls) : a ≠ b := fun e => by
  subst e
  have := (N.get ha).symm.trans (N.get hb)
  cases this
  exact hc rfl
theorem ltAll {D : Addr} : ∀ {rest : List (Addr × Obj)}, AllLt D rest → ∀ q ∈ rest, q.1 < D := by
  intro rest h
  induction rest with
  | nil => intro q hq; cases hq
  | cons p r ih =>
    intro q hq
    rcases List.mem_cons.mp hq with rfl | hq
    · exact h.1
    · exact ih h.2 q hq
theorem newsTake2 {h₀ h : Heap} {L P : Addr} {o : Obj} {news rest : List (Addr × Obj)} (N : News h₀ L h news) (hm : (P, o) ∈ news) (hr : ∀ q ∈ rest, q ∈ news) : ∀ q ∈ (P, o) :: rest, h.get? q.1 = some q.2 := fun q hq => by
  rcases List.mem_cons.mp hq with rfl | hq
  · exact N.get hm
  · exact (N q (hr q hq)).1
/-- back from the callee's ledger to the caller's -/
theorem newsBack {h₀ h h' : Heap} {L₀ P r : Addr} {o o' oR : Obj} {led rest : List (Addr × Obj)} (N₀ : News h₀ L₀ h led) (hP : (P, o) ∈ led) (hr : L₀ < r) (hs : ∀ q ∈ rest, q ∈ led) (hk : ∀ q ∈ (P, o') :: rest, h'.get? q.1 = some q.2) (hg : h'.get? r = some oR) (hn : h₀.get? r = none) : News h₀ L₀ h' ((r, oR) :: (P, o') :: rest) := fun q hq => by
  rcases List.mem_cons.mp hq with rfl | hq
  · exact ⟨hg, Nat.ne_of_gt hr, hn⟩
  refine ⟨hk q hq, ?_⟩
  rcases List.mem_cons.mp hq with rfl | hq
  · exact (N₀ _ hP).2
  · exact (N₀ _ (hs q hq)).2
theorem news66 {h₀ h : Heap} {L lD lQ lP L₀ : Addr} {T : Array Value} {oD oQ oP oL : Obj} {rest : List (Addr × Obj)} (N : News h₀ L h ((lD, oD) :: (lQ, oQ) :: (lP, oP) :: (L₀, oL) :: (66, tabObj T) :: rest)) (hD : oD.cls ≠ (tabObj T).cls) (hQ : oQ.cls ≠ (tabObj T).cls) (hP : oP.cls ≠ (tabObj T).cls) (hL : 66 ≠ L₀) (hr : ∀ q ∈ rest, q.1 ≠ 66) :
    News h₀ L h ((66, tabObj T) :: (lD, oD) :: (lQ, oQ) :: (lP, oP) :: (L₀, oL) :: rest) ∧ ∀ q ∈ ((lD, oD) :: (lQ, oQ) :: (lP, oP) :: (L₀, oL) :: rest), q.1 ≠ 66 := by
  refine ⟨newsTake N (.tail _ (.tail _ (.tail _ (.tail _ (.head _))))) (newsTake N (.head _) (newsTake N (.tail _ (.head _)) (newsTake N (.tail _ (.tail _ (.head _))) (newsTake N (.tail _ (.tail _ (.tail _ (.head _)))) fun q hq => N q (.tail _ (.tail _ (.tail _ (.tail _ (.tail _ hq))))))))), fun q hq => ?_⟩
  have h6 : (66, tabObj T) ∈ (lD, oD) :: (lQ, oQ) :: (lP, oP) :: (L₀, oL) :: (66, tabObj T) :: rest := .tail _ (.tail _ (.tail _ (.tail _ (.head _))))
  rcases List.mem_cons.mp hq with rfl | hq
  · exact neObj N (.head _) h6 hD
  rcases List.mem_cons.mp hq with rfl | hq
  · exact neObj N (.tail _ (.head _)) h6 hQ
  rcases List.mem_cons.mp hq with rfl | hq
  · exact neObj N (.tail _ (.tail _ (.head _))) h6 hP
  rcases List.mem_cons.mp hq with rfl | hq
  · exact hL.symm
  · exact hr q hq
theorem notIn_true {prog : Program} {w : World} {A : Around} {E : Value → Shared → Prop} {s : Shared} {x y : Str} {t u : Tok} {Q : Value → Shared → Prop} (hc : (Builtin.Str.occurrences x y 0 x.length 1).isEmpty = true) (h : Q (.bool true) s) : wpAny (model prog w) A (compareOp .NotIn (.str y u) (.str x t)) Q E s := by
  refine notIn_str ?_
  rw [hc]
  exact h
def OkTab (T : Array Value) : Prop := T = #[] ∨ ∃ c', T = lamTab c'
theorem OkTab.lam (c' : Addr) : OkTab (lamTab c') := .inr ⟨c', rfl⟩
theorem lam66 {M : Model} {A : Around} {E : Value → Shared → Prop} {s : Shared} {h₀ : Heap} {L a : Addr} {m mg mb : Str → Option Value} {cn : Str} {cs : Scope} {cl : List (Str × Addr)} {rest : List (Addr × Obj)} {p : Program} {loose : List Str} {mean : ExcName → Option Value} {name qual : Str} {params : Arguments} {body : PySem.Expr} {scope : Scope} {T : Array Value} {pos : Pos} {firstLine : Nat} {clos : List (Str × Addr)} {Q : Value → Shared → Prop}
    (F : Fr h₀ L s.heap m) (N : News h₀ L s.heap ((66, tabObj T) :: rest)) (hr : ∀ q ∈ rest, q.1 ≠ 66) (mT : Top p loose mean mg mb h₀) (hC : CodeHd h₀ 70 66) (hT : OkTab T) (hl : pos.line = 75) (hc : pos.col = 39)
    (hcl : closureFor scope (envX cn cs L a (.ref 70) cl) = pure clos)
    (h : ∀ f dt c' h' tk, Fr h₀ L h' m → News h₀ L h' ((f, (⟨.type "function", none, dt, #[]⟩ : Obj)) :: (66, tabObj (lamTab c')) :: rest) → (∀ q ∈ (66, tabObj T) :: rest, q.1 < f) → Q (.ref f) { s with heap := h', toks := tk }) :
    wpAny M A (makeFunction name qual params (.expr body) scope (envX cn cs L a (.ref 70) cl) [] [] [] pos firstLine) Q E s := by
  obtain ⟨l, c, l2, c2⟩ := pos
  dsimp only at hl hc
  subst hl hc
  rcases hT with rfl | ⟨c', rfl⟩
  · refine' kla_nest F N mT hC rfl (.head hr) ?t ?n hcl ?_
    (case t => kn_triples); (case n => kn_among)
    intro f' c' oc' vs' t' ct' h1 tk1 F1 N1 d1' d2' l1 l2
    exact h f' _ c' h1 tk1 F1 (fun q hq => by
      rcases List.mem_cons.mp hq with rfl | hq
      · exact N1 _ (.head _)
      · exact N1 q (.tail _ (.tail _ hq))) (fun q hq => Nat.lt_trans (l1 q hq) l2)
  · refine' kla_hit F N mT hC rfl (.head _) ?t ?n hcl ?_
    (case t => (unfold lamTab; kn_triples)); (case n => (unfold lamTab; kn_hit))
    intro f' ct' h1 tk1 F1 N1 l1
    exact h f' _ c' h1 tk1 F1 N1 l1
section
variable {K : Frag} {p : Program} {loose : List Str} {mean : ExcName → Option Value} {mg mb : Str → Option Value} {A : Around} {d u : Nat}
/-- the entry of a def without cells, over the caller's base; the tokens stay written -/
theorem enterB0 {prog : Program} {w : World} {s : Shared} {E Q : Value → Shared → Prop} {h₀ : Heap} {L₀ : Addr} {m₀ : Str → Option Value} {news : List (Addr × Obj)} {oL : Obj} {name qual : Str} {params : Arguments} {body : List Stmt} {scope : Scope} {cl : List (Str × Addr)} {dV kV doc pm cdv ct oc : Value} {an od : Option Addr} {osl : Array (Option Value)} {f : Addr} {args : List Value} {binds : List (Str × Value)}
    (G : Gd K p loose mean mg mb A s.heap d u) (F₀ : Fr h₀ L₀ s.heap m₀) (N₀ : News h₀ L₀ s.heap news) (hL : s.heap.get? L₀ = some oL) (hL0 : h₀.get? L₀ = none)
    (ho : s.heap.get? f = some ⟨oc, od, .func (fnX name qual params body scope cl dV kV doc pm an cdv ct), osl⟩) (hcd : s.heap.CodeRec cdv qual)
    (hbind : BindsTo s (fnX name qual params body scope cl dV kV doc pm an cdv ct) ⟨args, []⟩ binds) (hloc : ∀ y ∈ binds, scope.names.lookup y.1 = some .local)
    (h : ∀ L h₁, s.heap.objs.size ≤ L → Fr h₀ L h₁ (fun y => binds.reverse.lookup y) → News h₀ L h₁ ((L₀, oL) :: news) →
      wpAny (model prog w) (A.deeper (envX qual scope L f cdv cl)) (execs body (envX qual scope L f cdv cl))
        (fun fl s' => Q (match fl with | .ret v => v | _ => .none) s') (fun _ _ => False) { s with heap := h₁, toks := s.toks + binds.length })
    (hco : scope.isCoroutine = false) (hgen : scope.isGenerator = false) (hk : scope.kind = .function)
    (hcell : ∀ x ∈ scope.names, x.2 ≠ .cell) : wpAny (model prog w) A (call (.ref f) args) Q E s := by
  refine enter G ho hcd hbind hloc (fun L h₁ F N => h L h₁ F.above ⟨F.ns, fun b o e => F.keep _ _ (F₀.keep _ _ e), Nat.le_trans (Nat.le_of_lt (Nat.lt_of_le_of_lt F₀.above (Heap.lt_size hL))) F.above⟩ ?_) hco hgen hk hcell
  have hlt : ∀ b o, s.heap.get? b = some o → b ≠ L := fun b o e q => by
    have := Heap.lt_size e; rw [q] at this; exact Nat.lt_irrefl _ (Nat.lt_of_lt_of_le this F.above)
  intro q hq
  rcases List.mem_cons.mp hq with rfl | hq
  · exact ⟨F.keep _ _ hL, hlt _ _ hL, hL0⟩
  · exact ⟨F.keep _ _ (N₀ q hq).1, hlt _ _ (N₀ q hq).1, (N₀ q hq).2.2⟩
end

end
section
theorem fresh24 : True := by
  w_top off
  exact trivial
local macro_rules | `(tactic| walk_at "mine le") => `(tactic| (first | exact Nat.le_refl _ | exact Nat.le_add_right _ _ | (refine Nat.le_succ_of_le ?_; walk_at "mine le")))
local macro_rules | `(tactic| walk_at "execs cons") => `(tactic| (k_here; (with_reducible first | show wpAny _ _ _ _ _ (Shared.mk _ _ _ (_ + _) _) | show wpAny _ _ _ _ _ (Shared.mk _ _ _ (Shared.toks _) _)); (with_reducible rename TkGE _ _ => tM); refine' genToks tM ?le ?_; (case le => walk_at "mine le"); intro tk' ht'))
local macro_rules | `(tactic| walk_at "execs nil") => `(tactic| (k_here; (with_reducible first | show wpAny _ _ _ _ _ (Shared.mk _ _ _ (_ + _) _) | show wpAny _ _ _ _ _ (Shared.mk _ _ _ (Shared.toks _) _)); (with_reducible rename TkGE _ _ => tM); refine' genToks tM ?le ?_; (case le => walk_at "mine le"); intro tk' ht'))

section
local macro_rules | `(tactic| walk_at "pad pad pad") => `(tactic| fail "a row that only parts the tables of rows")
theorem fresh25 : True := by
  w_top off
  exact trivial
local macro_rules | `(tactic| walk_at "getMethod str") => `(tactic| (k_here; (with_reducible refine gm_translate ?_)))
local macro_rules | `(tactic| walk_at "call builtin:str.translate") => `(tactic| (k_here; refine hold ?_))
theorem t_esc (w : World) {mean : ExcName → Option Value} {mg mb : Str → Option Value} {loose : List Str} {A : Around} {s : Shared} {Q E : Value → Shared → Prop} (b : Bool) (t1 : Tok)
    (G : Gd (hd.heap_1 w.params) topProg loose mean mg mb A s.heap 10 200)
    (ret : ∀ h' tk' ta, Kp s.heap h' → s.toks ≤ ta → ta ≤ tk' → Q (.str (PK.ch b).str ta) { s with heap := h', toks := tk' }) :
    wpAny (model PySem.Challenge.rw_ij0168_01.row.prog w) A (call (.ref 64) [.str (PK.ch b).str t1]) Q E s := by
  obtain ⟨hd9, dp9, fr9, gs9, un9⟩ := A; obtain rfl : hd9 = none := G.hh
  revert G; k_fill; intro G
  (have mX := Gd.K G); (have mT := Gd.T G); (have mH := Gd.hh G); (have mU := Gd.uni G); (have mD := Gd.dep G)
  refine' enter (binds := [(Str.ofString "pattern", .str (PK.ch b).str t1)]) G ?o_28 ?c_28 ?b_28 ?l_28 ?_ ?c2_28 ?c3_28 ?c4_28 ?c5_28
  (case o_28 => refine fnK mX ?_; k_dflt k_is)
  (case c_28 => refine codeK mX ?_; k_dflt k_is); (case b_28 => first | exact BindsTo.of_eq rfl | exact binds_K mX rfl (by k_is) rfl rfl rfl); (case l_28 => exact locs rfl); (case c2_28 => exact rfl); (case c3_28 => exact rfl); (case c4_28 => exact rfl); (case c5_28 => decide)
  intro L' h' F' N'; (try dsimp only); (try k_fold)
  have tM : TkGE s.toks s.toks := Nat.le_refl _
  k_steps
  unfold Hold
  obtain ⟨c, e, hn, hl⟩ := esc_sign b w.params
  rw [e] at ret ⊢
  refine trl_one mH (Frag.In.keeps mX F'.keep) hn hl fun h2 tk2 ta k2 q1 q2 => ?_
  exact ret _ _ _ (fun b o z => k2 _ _ (F'.keep _ _ z)) (Nat.le_trans ‹TkGE s.toks _› q1) q2

end
section
theorem fresh26 : True := by
  w_top off
  exact trivial
local macro_rules | `(tactic| walk_at "getAttr ref") => `(tactic| (k_here; (with_reducible show wpAny _ _ (getAttr (Value.ref _) _ _) _ _ _); k_dflt (refine' getAttr_append _ _ ?hh ?hd ?hu ?X ?ho ?_; (case hh => exact rfl); (case hd => (show _ + 1 ≤ _; dsimp only at *; omega)); (case hu => (show _ + 3 ≤ _; dsimp only at *; omega)); (case X => (with_reducible rename Frag.In _ _ => lX); exact Frag.In.keeps lX (Fr.keep (by k_asm))); (case ho => (with_reducible rename News _ _ _ _ => lN); exact lN.get (by k_mem)); k_whole); intro q' h' tk' hk' hg' hn' hne'; walk_at "mine new"; (try dsimp only)))
local macro_rules | `(tactic| walk_at "callWith ref") => `(tactic| (k_here; k_dflt (refine' callWith_B ?k1 ?k2 ?_; (case k1 => k_asm); (case k2 => k_mem); k_whole); try dsimp only [List.nil_append, List.cons_append]))
local macro_rules | `(tactic| walk_at "And") => `(tactic| ((with_reducible show BndAt _ _ _ ∧ _); (with_reducible rename News _ _ _ _ => lN); k_dflt (refine ⟨lN.get (by k_mem), ?_⟩); (try dsimp only [List.nil_append, List.cons_append])))
local macro_rules | `(tactic| walk_at "call ref") => `(tactic| (k_here; (with_reducible show wpAny _ _ (call (Value.ref _) [_]) _ _ _); k_dflt (refine' add_K ?F ?N ?z ?q ?U ?_; (case F => k_asm); (case N => k_asm); (case q => k_mem); (case U => k_upd); (case z => (rw [sizeLine_eq]; simp)); k_whole); intro h' F' N'))
local macro_rules | `(tactic| walk_at "call ref") => `(tactic| (k_here; (with_reducible show wpAny _ _ (call (Value.ref 64) [Value.str (Str.ofString "b") _]) _ _ _); k_dflt (refine' t_esc _ true _ ?G ?_; (case G => walk_at "mine gd"); k_whole); intro h' tk' ta' hk' hta' htb'; (try dsimp only at hta'); walk_at "mine kept"; (try dsimp only)))
local macro_rules | `(tactic| walk_at "call ref") => `(tactic| (k_here; (with_reducible show wpAny _ _ (call (Value.ref 64) [Value.str (Str.ofString "a") _]) _ _ _); k_dflt (refine' t_esc _ false _ ?G ?_; (case G => walk_at "mine gd"); k_whole); intro h' tk' ta' hk' hta' htb'; (try dsimp only at hta'); walk_at "mine kept"; (try dsimp only)))

theorem fresh27 : True := by
  w_top off
  exact trivial
theorem t_trans1 (w : World) {mean : ExcName → Option Value} {mg mb : Str → Option Value} {loose : List Str} {A : Around} {s : Shared} {Q E : Value → Shared → Prop} (t1 t2 t3 : Tok)
    (G : Gd (hd.heap_1 w.params) topProg loose mean mg mb A s.heap 20 400) (hA : A.depth ≤ 380) (hB : A.units ≤ 2000)
    (ret : ∀ r vs c h' tk', Kp s.heap h' → h'.get? r = some (listOf (List.toArray vs) c) → s.heap.get? r = none → StrsAre vs (List.map PK.str [.star, .ch true]) → Q (.ref r) { s with heap := h', toks := tk' }) :
    wpAny (model PySem.Challenge.rw_ij0168_01.row.prog w) A (call (.ref 71) [.str (Str.ofString "*b") t1, .str (Str.ofString "*") t2, .str (Str.ofString "?") t3]) Q E s := by
  obtain ⟨hd9, dp9, fr9, gs9, un9⟩ := A; obtain rfl : hd9 = none := G.hh
  revert G; k_fill; intro G
  (have mX := Gd.K G); (have mT := Gd.T G); (have mH := Gd.hh G); (have mU := Gd.uni G); (have mD := Gd.dep G)
  refine' enter (binds := [(Str.ofString "pat", .str (Str.ofString "*b") t1), (Str.ofString "STAR", .str (Str.ofString "*") t2), (Str.ofString "QUESTION_MARK", .str (Str.ofString "?") t3)]) G ?o_37 ?c_37 ?b_37 ?l_37 ?_ ?c2_37 ?c3_37 ?c4_37 ?c5_37
  (case o_37 => refine fnK mX ?_; k_dflt k_is)
  (case c_37 => refine codeK mX ?_; k_dflt k_is); (case b_37 => first | exact BindsTo.of_eq rfl | exact binds_K mX rfl (by k_is) rfl rfl rfl); (case l_37 => exact locs rfl); (case c2_37 => exact rfl); (case c3_37 => exact rfl); (case c4_37 => exact rfl); (case c5_37 => decide)
  intro L' h' F' N'; (try dsimp only); (try k_fold)
  k_steps
  (with_reducible rename Fr _ _ _ _ => lF); (with_reducible rename News _ _ _ _ => lN)
  exact ret _ [_, _] _ _ _ lF.keep (lN.get (by k_mem)) (News.fresh lN (by k_mem)) (.cons _ _ (.cons _ _ .nil))
theorem t_trans2 (w : World) {mean : ExcName → Option Value} {mg mb : Str → Option Value} {loose : List Str} {A : Around} {s : Shared} {Q E : Value → Shared → Prop} (t1 t2 t3 : Tok)
    (G : Gd (hd.heap_1 w.params) topProg loose mean mg mb A s.heap 20 400) (hA : A.depth ≤ 380) (hB : A.units ≤ 2000)
    (ret : ∀ r vs c h' tk', Kp s.heap h' → h'.get? r = some (listOf (List.toArray vs) c) → s.heap.get? r = none → StrsAre vs (List.map PK.str [.q]) → Q (.ref r) { s with heap := h', toks := tk' }) :
    wpAny (model PySem.Challenge.rw_ij0168_01.row.prog w) A (call (.ref 71) [.str (Str.ofString "?") t1, .str (Str.ofString "*") t2, .str (Str.ofString "?") t3]) Q E s := by
  obtain ⟨hd9, dp9, fr9, gs9, un9⟩ := A; obtain rfl : hd9 = none := G.hh
  revert G; k_fill; intro G
  (have mX := Gd.K G); (have mT := Gd.T G); (have mH := Gd.hh G); (have mU := Gd.uni G); (have mD := Gd.dep G)
  refine' enter (binds := [(Str.ofString "pat", .str (Str.ofString "?") t1), (Str.ofString "STAR", .str (Str.ofString "*") t2), (Str.ofString "QUESTION_MARK", .str (Str.ofString "?") t3)]) G ?o_38 ?c_38 ?b_38 ?l_38 ?_ ?c2_38 ?c3_38 ?c4_38 ?c5_38
  (case o_38 => refine fnK mX ?_; k_dflt k_is)
  (case c_38 => refine codeK mX ?_; k_dflt k_is); (case b_38 => first | exact BindsTo.of_eq rfl | exact binds_K mX rfl (by k_is) rfl rfl rfl); (case l_38 => exact locs rfl); (case c2_38 => exact rfl); (case c3_38 => exact rfl); (case c4_38 => exact rfl); (case c5_38 => decide)
  intro L' h' F' N'; (try dsimp only); (try k_fold)
  k_steps
  (with_reducible rename Fr _ _ _ _ => lF); (with_reducible rename News _ _ _ _ => lN)
  exact ret _ [_] _ _ _ lF.keep (lN.get (by k_mem)) (News.fresh lN (by k_mem)) (.cons _ _ .nil)

theorem fresh28 : True := by
  w_top off
  exact trivial
local macro_rules | `(tactic| walk_at "call builtin:str.replace") => `(tactic| (k_here; (with_reducible show wpAny _ _ (call (Value.builtin "str.replace") [Value.str _ _, Value.str _ _, Value.str _ _]) _ _ _); k_dflt (refine' replace_none ?a ?_; (case a => decide +kernel); k_whole)))
local macro_rules | `(tactic| walk_at "compareOp NotIn str str") => `(tactic| (k_here; (with_reducible show wpAny _ _ (compareOp CmpOp.NotIn (Value.str (Str.ofString "-") _) (Value.str _ _)) _ _ _); k_dflt (refine' notIn_true ?a ?_; (case a => decide +kernel); k_whole)))
local macro_rules | `(tactic| walk_at "getMethod ref") => `(tactic| (k_here; (with_reducible show wpAny _ _ (getMethod (Value.ref 52) _ _) _ _ _); k_dflt (refine' gm_sub ?X ?_; (case X => (with_reducible rename Frag.In _ _ => lX); exact Frag.In.keeps lX (Fr.keep (by k_asm))); k_whole)))
local macro_rules | `(tactic| walk_at "call builtin:re.Pattern.sub") => `(tactic| (k_here; (with_reducible show wpAny _ _ (call (Value.builtin _) [Value.ref 52, Value.ref _, Value.str _ _]) _ _ _); k_dflt (refine' wpRoom ?h0 ?d0 ?u0 (x_sub _ _ _ _ _ ?X ?ho (fun h' tk' ta' hk' => ?_)); (case h0 => exact rfl); (case d0 => (show _ + 1 ≤ _; dsimp only at *; omega)); (case u0 => (show _ + 3 ≤ _; dsimp only at *; omega)); (case X => (with_reducible rename Frag.In _ _ => lX); exact Frag.In.keeps lX (Fr.keep (by k_asm))); (case ho => (with_reducible rename News _ _ _ _ => lN); exact lN.get (by k_mem)); k_whole); walk_at "mine kept"; (try dsimp only)))
local macro_rules | `(tactic| walk_at "eval Lambda") => `(tactic| (k_here; refine hold ?_))

theorem fresh29 : True := by
  w_top off
  exact trivial
local macro_rules | `(tactic| walk_at "getAttr ref") => `(tactic| (k_here; (with_reducible rename OnceMark 0 => oM); clear oM; (with_reducible rename TkGE _ _ => tM); refine' tokCut tM ?le ?_; (case le => walk_at "mine le")))
local macro_rules | `(tactic| walk_at "subscriptTail Name Slice str ref") => `(tactic| (k_here; (with_reducible rename OnceMark 1 => oM); clear oM; (with_reducible rename TkGE _ _ => tM); refine' tokCut tM ?le ?_; (case le => walk_at "mine le")))
local macro_rules | `(tactic| walk_at "subscriptTail Name Constant str int") => `(tactic| (k_here; (with_reducible rename OnceMark 2 => oM); clear oM; (with_reducible rename TkGE _ _ => tM); refine' tokCut tM ?le ?_; (case le => walk_at "mine le")))
local macro_rules | `(tactic| walk_at "binaryOp Add str str") => `(tactic| (k_here; (with_reducible rename OnceMark 3 => oM); clear oM; (with_reducible rename TkGE _ _ => tM); refine' tokCut tM ?le ?_; (case le => walk_at "mine le")))
local macro_rules | `(tactic| walk_at "truthy str") => `(tactic| (k_here; (with_reducible rename OnceMark 4 => oM); clear oM; (with_reducible rename TkGE _ _ => tM); refine' tokCut tM ?le ?_; (case le => walk_at "mine le")))
local macro_rules | `(tactic| walk_at "formatField str") => `(tactic| (k_here; (with_reducible rename OnceMark 5 => oM); clear oM; (with_reducible rename TkGE _ _ => tM); refine' tokCut tM ?le ?_; (case le => walk_at "mine le")))
local macro_rules | `(tactic| walk_at "call builtin:re.Pattern.sub") => `(tactic| (k_here; (with_reducible rename OnceMark 6 => oM); clear oM; (with_reducible rename TkGE _ _ => tM); refine' tokCut tM ?le ?_; (case le => walk_at "mine le")))
local macro_rules | `(tactic| walk_at "compareOp IsNot str str") => `(tactic| (k_here; (with_reducible show wpAny _ _ (compareOp CmpOp.IsNot (Value.str _ _) (Value.str _ _)) _ _ _); k_dflt (refine' isnot_str ?a ?b ?c ?d ?_; (case a => (simp only [TkGE] at *; omega)); (case b => omega); (case c => (simp only [TkGE] at *; omega)); (case d => decide +kernel); k_whole)))

theorem fresh30 : True := by
  w_top off
  exact trivial
theorem t_trans3 (w : World) {mean : ExcName → Option Value} {mg mb : Str → Option Value} {loose : List Str} {A : Around} {s : Shared} {Q E : Value → Shared → Prop} (t1 t2 t3 : Tok) (ht0 : ¬ @Eq Nat t2 0) (ht2 : @LT.lt Nat _ t2 s.toks)
    (G : Gd (hd.heap_1 w.params) topProg loose mean mg mb A s.heap 20 400) (hA : A.depth ≤ 380) (hB : A.units ≤ 2000)
    (ret : ∀ r vs c h' tk', Kp s.heap h' → h'.get? r = some (listOf (List.toArray vs) c) → s.heap.get? r = none → StrsAre vs (List.map PK.str [.ch false, .star]) → Q (.ref r) { s with heap := h', toks := tk' }) :
    wpAny (model PySem.Challenge.rw_ij0168_01.row.prog w) A (call (.ref 71) [.str (Str.ofString "a*") t1, .str (Str.ofString "*") t2, .str (Str.ofString "?") t3]) Q E s := by
  obtain ⟨hd9, dp9, fr9, gs9, un9⟩ := A; obtain rfl : hd9 = none := G.hh
  revert G; k_fill; intro G
  (have mX := Gd.K G); (have mT := Gd.T G); (have mH := Gd.hh G); (have mU := Gd.uni G); (have mD := Gd.dep G)
  refine' enter (binds := [(Str.ofString "pat", .str (Str.ofString "a*") t1), (Str.ofString "STAR", .str (Str.ofString "*") t2), (Str.ofString "QUESTION_MARK", .str (Str.ofString "?") t3)]) G ?o_39 ?c_39 ?b_39 ?l_39 ?_ ?c2_39 ?c3_39 ?c4_39 ?c5_39
  (case o_39 => refine fnK mX ?_; k_dflt k_is)
  (case c_39 => refine codeK mX ?_; k_dflt k_is); (case b_39 => first | exact BindsTo.of_eq rfl | exact binds_K mX rfl (by k_is) rfl rfl rfl); (case l_39 => exact locs rfl); (case c2_39 => exact rfl); (case c3_39 => exact rfl); (case c4_39 => exact rfl); (case c5_39 => decide)
  intro L' h' F' N'; (try dsimp only); (try k_fold)
  have tM : TkGE (t2 + 1) s.toks := ht2
  have oM : OnceMark 0 := trivial
  k_steps
  (with_reducible rename Fr _ _ _ _ => lF); (with_reducible rename News _ _ _ _ => lN)
  exact ret _ [_, _] _ _ _ lF.keep (lN.get (by k_mem)) (News.fresh lN (by k_mem)) (.cons _ _ (.cons _ _ .nil))

theorem fresh31 : True := by
  w_top off
  exact trivial
theorem t_trans4 (w : World) {mean : ExcName → Option Value} {mg mb : Str → Option Value} {loose : List Str} {A : Around} {s : Shared} {Q E : Value → Shared → Prop} {h₀ : Heap} {L₀ : Addr} {m₀ : Str → Option Value} {rest : List (Addr × Obj)} {oL : Obj} (T : Array Value) (hT : OkTab T) (t1 t2 t3 : Tok)
    (ht0 : ¬ @Eq Nat t2 0) (ht2 : @LT.lt Nat _ t2 s.toks)
    (G : Gd (hd.heap_1 w.params) topProg loose mean mg mb A h₀ 20 400) (hA : A.depth ≤ 380) (hB : A.units ≤ 2000) (hC : CodeHd h₀ 70 66) (F₀ : Fr h₀ L₀ s.heap m₀) (N₀ : News h₀ L₀ s.heap ((66, tabObj T) :: rest)) (hr : ∀ q ∈ rest, q.1 ≠ 66) (hL : s.heap.get? L₀ = some oL) (hL0 : h₀.get? L₀ = none)
    (ret : ∀ r vs c c' h' tk', Fr h₀ L₀ h' m₀ → News h₀ L₀ h' ((r, listOf (List.toArray vs) c) :: (66, tabObj (lamTab c')) :: rest) → L₀ < r → (∀ q ∈ rest, q.1 < r) → StrsAre vs (List.map PK.str [.nota, .star]) → Q (.ref r) { s with heap := h', toks := tk' }) :
    wpAny (model PySem.Challenge.rw_ij0168_01.row.prog w) A (call (.ref 71) [.str (Str.ofString "[!a]*") t1, .str (Str.ofString "*") t2, .str (Str.ofString "?") t3]) Q E s := by
  have h66 : 66 ≠ L₀ := (N₀ _ (.head _)).2.1
  have h66' := Heap.lt_size (N₀ _ (.head _)).1
  obtain ⟨hd9, dp9, fr9, gs9, un9⟩ := A; obtain rfl : hd9 = none := G.hh
  revert G; k_fill; intro G
  (have mX := Gd.K G); (have mT := Gd.T G); (have mH := Gd.hh G); (have mU := Gd.uni G); (have mD := Gd.dep G)
  have mX9 := (Gd.keeps G F₀.keep).K
  refine' enterB0 (binds := [(Str.ofString "pat", .str (Str.ofString "[!a]*") t1), (Str.ofString "STAR", .str (Str.ofString "*") t2), (Str.ofString "QUESTION_MARK", .str (Str.ofString "?") t3)]) (Gd.keeps G F₀.keep) F₀ N₀ hL hL0 ?o_40 ?c_40 ?b_40 ?l_40 ?_ ?c2_40 ?c3_40 ?c4_40 ?c5_40
  (case o_40 => refine fnK mX9 ?_; k_dflt k_is)
  (case c_40 => refine codeK mX9 ?_; k_dflt k_is); (case b_40 => first | exact BindsTo.of_eq rfl | exact binds_K mX9 rfl (by k_is) rfl rfl rfl); (case l_40 => exact locs rfl); (case c2_40 => exact rfl); (case c3_40 => exact rfl); (case c4_40 => exact rfl); (case c5_40 => decide)
  clear mX9; intro L' h' hLs F' N'; (try dsimp only); (try k_fold)
  have tM : TkGE (t2 + 1) s.toks := ht2
  have oM : OnceMark 0 := trivial
  have oM : OnceMark 1 := trivial
  k_steps
  unfold Hold
  refine' kla_eval ?d0_7 ?_
  (case d0_7 => exact rfl)
  (with_reducible rename TkGE _ _ => tM)
  refine' tokCut tM ?le_8 ?_
  (case le_8 => walk_at "mine le")
  (with_reducible rename Fr _ _ _ _ => lF); (with_reducible rename News _ _ _ _ => lN)
  obtain ⟨N2, hr2⟩ := news66 lN (by intro e; cases e) (by intro e; cases e) (by intro e; cases e) h66 hr
  refine' lam66 lF N2 hr2 mT hC hT rfl rfl ?cl_7 ?_
  (case cl_7 => exact rfl)
  intro f' dt' c' h1 tk1 F1 N1 l1 htk1
  clear lF lN N2
  try dsimp only at N1 htk1
  k_lt l1
  have oM : OnceMark 1 := trivial
  have oM : OnceMark 2 := trivial
  have oM : OnceMark 3 := trivial
  have oM : OnceMark 4 := trivial
  have oM : OnceMark 5 := trivial
  have oM : OnceMark 6 := trivial
  k_steps
  (with_reducible rename Fr _ _ _ _ => lF); (with_reducible rename News _ _ _ _ => lN)
  (with_reducible rename L₀ < _ ∧ 66 < _ ∧ AllLt _ rest => lR)
  refine ret _ [_, _] _ c' _ _ (backFr F₀ hL lF lN (by k_mem)) (newsBack N₀ (.head _) lR.1 (fun q hq => .tail _ hq) (newsTake2 lN (o := tabObj (lamTab c')) (by k_mem) (fun q hq => by repeat (first | exact hq | apply List.Mem.tail))) (lN.get (by k_mem)) (News.fresh lN (by k_mem))) lR.1 (ltAll lR.2.2) (.cons _ _ (.cons _ _ .nil))

end
end
section
theorem fresh32 : True := by
  w_top off
  exact trivial
local macro_rules | `(tactic| walk_at "eval Name") => `(tactic| (k_here; (with_reducible show wpAny _ _ (eval (PySem.Expr.Name _ _) (compEnvC _ _ _ _)) _ _ _); k_dflt (first
  | (refine' nameE_L ?N ?B ?m ?e ?v ?k ?l ?d ?_; (case l => rfl); (case e => rfl); (case k => rfl); (case B => assumption); (case N => k_asm); (case m => k_mem); (case v => assumption); (case d => decide); k_whole)
  | (refine' nameE_C ?N ?c ?m ?d ?k ?x ?b ?_; (case x => rfl); (case k => rfl); (case N => k_asm); (case c => rfl); (case m => k_mem); (case d => k_asm); (case b => decide); k_whole)
  | (refine' nameE_F ?N ?c ?m ?d ?k ?x ?b ?n ?_; (case x => rfl); (case k => rfl); (case N => k_asm); (case c => rfl); (case m => k_mem); (case d => k_asm); (case b => decide); (case n => decide); k_whole)
  | (refine' nameE_F0 ?F ?c ?o ?d ?k ?x ?b ?n ?_; (case x => rfl); (case k => rfl); (case F => k_asm); (case c => rfl); (case o => assumption); (case d => first | assumption | rfl); (case b => decide); (case n => decide); k_whole)
  | (refine' nameE_G ?F ?X ?T ?g ?k ?x ?d ?en ?_; (case x => rfl); (case g => rfl); (case k => rfl); (case F => k_asm); (case X => k_asm); (case T => k_asm); (case d => decide); (case en => k_is); k_whole)
  | (refine' nameE_B ?F ?X ?T ?g ?bu ?k ?x ?d ?en ?v ?n ?_; (case x => rfl); (case g => rfl); (case bu => rfl); (case k => rfl); (case F => k_asm); (case X => k_asm); (case T => k_asm); (case d => decide); (case en => k_is); (case v => boot_fast); (case n => decide); k_whole))))
local macro_rules | `(tactic| walk_at "eval ListComp") => `(tactic| (k_here; k_dflt (refine' compGF ?F ?clos ?cell ?kind ?names ?hx ?_; (case F => k_asm); (case clos => rfl); (case cell => decide); (case kind => rfl); (case names => decide); (case hx => rfl); k_whole)))
local macro_rules | `(tactic| walk_at "pyIter ref") => `(tactic| (k_here; (with_reducible show wpAny _ _ _ (fun it s₂ => CompAtR _ _ _ _ _ _ _ _ _ _ _ it s₂) _ _); refine hold ?_))
local macro_rules | `(tactic| walk_at "compareOp In int ref") => `(tactic| (k_here; (with_reducible show wpAny _ _ (compareOp CmpOp.In (Value.int _ _) (Value.ref _)) _ _ _); k_dflt (refine' in_list_ints ?k1 ?k2 ?_; (case k1 => first | exact memL (by k_asm) (by k_mem) | exact memH (by k_asm) (by assumption)); (case k2 => first | assumption | (exact IntsAre.cons _ _ (IntsAre.cons _ _ IntsAre.nil)) | (exact IntsAre.cons _ _ IntsAre.nil)); k_whole)))
local macro_rules | `(tactic| walk_at "compareOp Eq ref ref") => `(tactic| (k_here; (with_reducible show wpAny _ _ (compareOp CmpOp.Eq (Value.ref _) (Value.ref _)) _ _ _); k_dflt (refine' eqNil ?k1 ?k2 ?k3 ?_; (case k1 => first | exact memL (by k_asm) (by k_mem) | exact memH (by k_asm) (by assumption)); (case k2 => exact memL (vs := []) (by k_asm) (by k_mem)); (case k3 => (show _ + 3 < _; omega)); k_whole); (try simp only [List.isEmpty_nil, List.isEmpty_cons])))
local macro_rules | `(tactic| walk_at "compareOp NotEq ref ref") => `(tactic| (k_here; (with_reducible show wpAny _ _ (compareOp CmpOp.NotEq (Value.ref _) (Value.ref _)) _ _ _); k_dflt (refine' neNil ?k1 ?k2 ?k3 ?_; (case k1 => first | exact memL (by k_asm) (by k_mem) | exact memH (by k_asm) (by assumption)); (case k2 => exact memL (vs := []) (by k_asm) (by k_mem)); (case k3 => (show _ + 3 < _; omega)); k_whole); (try simp only [List.isEmpty_nil, List.isEmpty_cons, Bool.not_true, Bool.not_false])))
local macro_rules | `(tactic| walk_at "subscriptTail Name Constant ref int") => `(tactic| (k_here; (with_reducible show wpAny _ _ (subscriptTail _ _ (Value.ref _) (Value.int 0 _)) _ _ _); k_dflt (refine' headItem ?k1 ?_ ?k2 ?k3; (case k1 => first | exact memL (by k_asm) (by k_mem) | exact memH (by k_asm) (by assumption)); (case k2 => with_unfolding_all rfl); (case k3 => (intro _; with_unfolding_all rfl)); k_whole)))
local macro_rules | `(tactic| walk_at "subscriptTail Name Slice ref ref") => `(tactic| (k_here; (with_reducible show wpAny _ _ (subscriptTail _ (PySem.Expr.Slice _ _ none _) (Value.ref _) (Value.ref _)) _ _ _); k_dflt (refine' tailSlice ?F ?N ?l ?p ?q ?_ ?s ?t ?z; (case F => k_asm); (case N => k_asm); (case l => first | exact memL (by k_asm) (by k_mem) | exact memH (by k_asm) (by assumption)); (case p => kmk_part); (case q => kmk_part); (case s => with_unfolding_all rfl); (case t => kmk_pure); (case z => (rw [sizeLine_eq]; simp only [List.length_cons] at *; omega)); k_whole); intro D' h' F' N' l1; (try k_lt l1)))
local macro_rules | `(tactic| walk_at "compareOp Eq ref str") => `(tactic| (k_here; (with_reducible show wpAny _ _ (compareOp CmpOp.Eq (Value.ref _) (Value.str _ _)) _ _ _); k_dflt (refine' eqListStr ?k1 ?k3 ?_; (case k1 => first | exact memL (by k_asm) (by k_mem) | exact memH (by k_asm) (by assumption)); (case k3 => (show _ + 3 < _; omega)); k_whole)))
local macro_rules | `(tactic| walk_at "call builtin:len") => `(tactic| (k_here; (with_reducible show wpAny _ _ (call (Value.builtin "len") [Value.ref _]) _ _ _); k_dflt (refine' lenList ?k1 ?k3 ?_; (case k1 => first | exact memL (by k_asm) (by k_mem) | exact memH (by k_asm) (by assumption)); (case k3 => omega); k_whole)))
local macro_rules | `(tactic| walk_at "subscriptTail Name Slice ref ref") => `(tactic| (k_here; (with_reducible show wpAny _ _ (subscriptTail _ (PySem.Expr.Slice (some (PySem.Expr.Name _ _)) _ none _) (Value.ref _) (Value.ref _)) _ _ _); k_dflt (refine' dropSlice ?F ?N ?l ?p ?q ?_ ?s ?t ?z; (case F => k_asm); (case N => k_asm); (case l => first | exact memL (by k_asm) (by k_mem) | exact memH (by k_asm) (by assumption)); (case p => kmk_part); (case q => kmk_part); (case s => with_unfolding_all rfl); (case t => kmk_pure); (case z => (rw [sizeLine_eq]; omega)); k_whole); intro D' h' F' N' l1; (try k_lt l1)))
local macro_rules | `(tactic| walk_at "exec Assign cons ListComp") => `(tactic| (k_here; (with_reducible show wpAny _ _ (exec (Stmt.Assign [PySem.Expr.Name _ _] (PySem.Expr.ListComp _ _ _ _) _) _) _ _ _); k_dflt (refine' compGAF ?F ?sw ?clos ?cell ?kind ?names ?hx ?hy ?hp ?_; (case F => k_asm); (case sw => rfl); (case clos => rfl); (case cell => decide); (case kind => rfl); (case names => decide); (case hx => rfl); (case hy => rfl); (case hp => rfl); k_whole)))

theorem fresh33 : True := by
  w_top off
  exact trivial
def passedB (ps : List Int) (k : Nat) : Bool := ps.any (· == (k : Int)) || (([1, 3] : List Int).any (· == (k : Int)) && ps.any (· == (k : Int) - 1))
def passedF (ps : List Int) : List Int := ((List.range 5).filter (passedB ps)).map fun (k : Nat) => (k : Int)
theorem t_passed (w : World) {mean : ExcName → Option Value} {mg mb : Str → Option Value} {loose : List Str} {A : Around} {s : Shared} {Q E : Value → Shared → Prop} (l : Addr) (vs : List Value) (n : Nat) (ps : List Int) (t : Tok)
    (G : Gd (hd.heap_1 w.params) topProg loose mean mg mb A s.heap 20 400) (hl : s.heap.get? l = some (listOf vs.toArray n)) (hI : IntsAre vs ps)
    (ret : ∀ r ws c h' tk', Kp s.heap h' → h'.get? r = some (listOf (List.toArray ws) c) → s.heap.get? r = none → IntsAre ws (passedF ps) → Q (.ref r) { s with heap := h', toks := tk' }) :
    wpAny (model PySem.Challenge.rw_ij0168_01.row.prog w) A (call (.ref 194) [.ref l, .int 4 t]) Q E s := by
  obtain ⟨hd9, dp9, fr9, gs9, un9⟩ := A; obtain rfl : hd9 = none := G.hh
  revert G; k_fill; intro G
  (have mX := Gd.K G); (have mT := Gd.T G); (have mH := Gd.hh G); (have mU := Gd.uni G); (have mD := Gd.dep G)
  refine' enterC (binds := [(Str.ofString "places", .ref l), (Str.ofString "count", .int 4 t)]) G ?o_61 ?c_61 ?b_61 ?l_61 ?nd_61 ?_ ?c2_61 ?c3_61 ?c4_61
  (case o_61 => refine fnK mX ?_; k_dflt k_is)
  (case c_61 => refine codeK mX ?_; k_dflt k_is); (case b_61 => first | exact BindsTo.of_eq rfl | exact binds_K mX rfl (by k_is) rfl rfl rfl); (case l_61 => exact rfl); (case nd_61 => decide +kernel); (case c2_61 => exact rfl); (case c3_61 => exact rfl); (case c4_61 => exact rfl)
  intro L' h' tk' cells' F' N' Y'; k_cells Y'; (try dsimp only); (try k_fold)
  k_steps
  (with_reducible rename Fr _ _ _ _ => lF); (with_reducible rename News _ _ _ _ => lN)
  refine compKR 5 (fun (i : Nat) v => isInt1 (i : Int) v) (passedB ps) (by assumption) rfl (by rfl) (by decide) lF lN ?_ ?_
  · clear lF lN
    intro a ha v9 C9 D9 I9 oC9 oI9 oD9 m9 h9 tk9 hv9 ho9 hn9 hm9 hk9 F9 N9 B9 hx9
    obtain ⟨t9, rfl⟩ := hv9
    constructor
    · refine wpAny_tests_one ?_
      k_steps
      all_goals (
        (with_reducible rename Fr _ _ _ _ => lF); (with_reducible rename News _ _ _ _ => lN)
        refine KTest.mk lF (fun q hq => lN q (by first | exact hq | exact .tail _ hq | exact .tail _ (.tail _ hq))) ?_
        simp only [passedB, *]; rfl)
    · intro hp
      k_steps
      exact KElt.mk (by with_reducible assumption) (by with_reducible assumption) ⟨_, rfl⟩
  · intro ws C D c h tk hx hP F N hD h' F'' N''
    exact ret _ _ _ _ _ F''.keep (N'' _ (.head _)).1 (N'' _ (.head _)).2.2 hP.ints

theorem fresh34 : True := by
  w_top off
  exact trivial
def fitsF : List Str → Str → Bool
  | [], x => x == Str.ofString ""
  | y :: ys, x => if (y == Str.ofString "any") = true then !((List.range (x.length + 1)).filter fun (k : Nat) => fitsF ys (Txt.slice x (some (k : Int)) none)).isEmpty
     else (x != Str.ofString "") && !(Builtin.Str.occurrences y (Txt.item x 0) 0 y.length 1).isEmpty && fitsF ys (Txt.slice x (some 1) none)
theorem fits_any {y : Str} {ys : List Str} {x : Str} (h : (y == Str.ofString "any") = true) : fitsF (y :: ys) x = !((List.range (x.length + 1)).filter fun (k : Nat) => fitsF ys (Txt.slice x (some (k : Int)) none)).isEmpty := by simp only [fitsF, h, if_true]
theorem fits_e {y : Str} {ys : List Str} {x : Str} (h : (y == Str.ofString "any") = false) (h2 : (x != Str.ofString "") = false) : fitsF (y :: ys) x = (x != Str.ofString "") := by simp only [fitsF, h, h2, Bool.false_eq_true, if_false, Bool.false_and]
theorem fits_n {y : Str} {ys : List Str} {x : Str} (h : (y == Str.ofString "any") = false) (h2 : (x != Str.ofString "") = true) (h3 : (Builtin.Str.occurrences y (Txt.item x 0) 0 y.length 1).isEmpty = true) : fitsF (y :: ys) x = !(Builtin.Str.occurrences y (Txt.item x 0) 0 y.length 1).isEmpty := by simp only [fitsF, h, h2, h3, Bool.not_true, Bool.not_false, Bool.false_eq_true, if_false, Bool.true_and, Bool.false_and]
theorem fits_y {y : Str} {ys : List Str} {x : Str} (h : (y == Str.ofString "any") = false) (h2 : (x != Str.ofString "") = true) (h3 : (Builtin.Str.occurrences y (Txt.item x 0) 0 y.length 1).isEmpty = false) : fitsF (y :: ys) x = fitsF ys (Txt.slice x (some 1) none) := by simp only [fitsF, h, h2, h3, Bool.not_true, Bool.not_false, Bool.false_eq_true, if_false, Bool.true_and]
theorem Paired.isEmpty {α : Type} {R : α → Value → Prop} {vs : List Value} {as : List α} (h : Paired R vs as) : vs.isEmpty = as.isEmpty := by cases h <;> rfl
theorem t_fits (w : World) {mean : ExcName → Option Value} {mg mb : Str → Option Value} {loose : List Str} : ∀ (ys : List Str) {A : Around} {s : Shared} {Q E : Value → Shared → Prop} (l : Addr) (vs : List Value) (n : Nat) (x : Str) (t : Tok)
    (G : Gd (hd.heap_1 w.params) topProg loose mean mg mb A s.heap (20 + 10 * ys.length) (100 + 50 * ys.length)) (hl : s.heap.get? l = some (listOf vs.toArray n)) (hS : StrsAre vs ys) (hy : ys.length < 100) (hx : x.length < 1000)
    (ret : ∀ h' tk', Kp s.heap h' → Q (.bool (fitsF ys x)) { s with heap := h', toks := tk' }),
    wpAny (model PySem.Challenge.rw_ij0168_01.row.prog w) A (call (.ref 182) [.ref l, .str x t]) Q E s := by
  intro ys
  induction ys with
  | nil =>
    intro A s Q E l vs n x t G hl hS hy hx ret
    cases hS
    obtain ⟨hd9, dp9, fr9, gs9, un9⟩ := A; obtain rfl : hd9 = none := G.hh
    revert G; k_fill; intro G
    (have mX := Gd.K G); (have mT := Gd.T G); (have mH := Gd.hh G); (have mU := Gd.uni G); (have mD := Gd.dep G)
    refine' enterC (binds := [(Str.ofString "items", .ref l), (Str.ofString "name", .str x t)]) G ?o_62 ?c_62 ?b_62 ?l_62 ?nd_62 ?_ ?c2_62 ?c3_62 ?c4_62
    (case o_62 => refine fnK mX ?_; k_dflt k_is)
    (case c_62 => refine codeK mX ?_; k_dflt k_is); (case b_62 => first | exact BindsTo.of_eq rfl | exact binds_K mX rfl (by k_is) rfl rfl rfl); (case l_62 => exact rfl); (case nd_62 => decide +kernel); (case c2_62 => exact rfl); (case c3_62 => exact rfl); (case c4_62 => exact rfl)
    intro L' h' tk' cells' F' N' Y'; k_cells Y'; (try dsimp only); (try k_fold)
    k_steps
    all_goals (
      (with_reducible rename Fr _ _ _ _ => lF)
      exact ret _ _ lF.keep)
  | cons y ys ih =>
    intro A s Q E l vs n x t G hl hS hy hx ret
    cases hS with
    | cons _ t1 hS' =>
    have hlen := hS'.length
    have hy2 : ys.length + 1 < 100 := hy
    obtain ⟨hd9, dp9, fr9, gs9, un9⟩ := A; obtain rfl : hd9 = none := G.hh
    revert G; k_fill; intro G
    (have mX := Gd.K G); (have mT := Gd.T G); (have mH := Gd.hh G); (have mU := Gd.uni G); (have mD := Gd.dep G)
    refine' enterC (binds := [(Str.ofString "items", .ref l), (Str.ofString "name", .str x t)]) G ?o_63 ?c_63 ?b_63 ?l_63 ?nd_63 ?_ ?c2_63 ?c3_63 ?c4_63
    (case o_63 => refine fnK mX ?_; k_dflt k_is)
    (case c_63 => refine codeK mX ?_; k_dflt k_is); (case b_63 => first | exact BindsTo.of_eq rfl | exact binds_K mX rfl (by k_is) rfl rfl rfl); (case l_63 => exact rfl); (case nd_63 => decide +kernel); (case c2_63 => exact rfl); (case c3_63 => exact rfl); (case c4_63 => exact rfl)
    intro L' h' tk' cells' F' N' Y'; k_cells Y'; (try dsimp only); (try k_fold)
    k_steps
    · (with_reducible rename Fr _ _ _ _ => lF); (with_reducible rename News _ _ _ _ => lN)
      refine compKR (x.length + 1) (fun (i : Nat) v => isInt1 (i : Int) v) (fun k => fitsF ys (Txt.slice x (some (k : Int)) none)) (by assumption) rfl (by simp) (by omega) lF lN ?_ ?_
      · clear lF lN
        intro a ha v9 C9 D9 I9 oC9 oI9 oD9 m9 h9 tk9 hv9 ho9 hn9 hm9 hk9 F9 N9 B9 hx9
        obtain ⟨t9, rfl⟩ := hv9
        constructor
        · refine wpAny_tests_one ?_
          k_steps
          (with_reducible rename Fr _ _ _ _ => lF); (with_reducible rename News _ _ _ _ => lN)
          refine ih _ _ _ _ _ ?_ (lN.get (by k_mem)) hS' (by omega) (Nat.lt_of_le_of_lt (Txt.slice_le _ _ _) hx) ?_
          · exact Gd.keeps (Gd.deeper (Gd.less G (by simp only [List.length_cons]; omega) (by simp only [List.length_cons]; omega)) _) lF.keep
          · intro h'' tk'' hk''
            have F' := Fr.keeps lF hk''
            have N' := News.grown lN hk''
            clear lF lN
            k_steps
            exact KTest.mk F' (fun q hq => N' q (by first | exact hq | exact .tail _ hq | exact .tail _ (.tail _ hq))) rfl
        · intro hp
          k_steps
          exact KElt.mk (by with_reducible assumption) (by with_reducible assumption) ⟨_, rfl⟩
      · intro ws C D c h tk hx hP F N hD h' F'' N''
        clear lF lN F N
        k_steps
        (with_reducible rename Fr _ _ _ _ => lF)
        rw [fits_any (by assumption)] at ret
        rw [hP.isEmpty]
        exact ret _ _ lF.keep
    · (with_reducible rename Fr _ _ _ _ => lF)
      rw [fits_n (by assumption) (by assumption) (by assumption)] at ret
      exact ret _ _ lF.keep
    · (with_reducible rename Fr _ _ _ _ => lF); (with_reducible rename News _ _ _ _ => lN)
      rw [fits_y (by assumption) (by assumption) (by assumption)] at ret
      refine ih _ _ _ _ _ ?_ (lN.get (by k_mem)) hS' (by omega) (Nat.lt_of_le_of_lt (Txt.slice_le _ _ _) hx) ?_
      · exact Gd.keeps (Gd.deeper (Gd.less G (by simp only [List.length_cons]; omega) (by simp only [List.length_cons]; omega)) _) lF.keep
      · intro h'' tk'' hk''
        exact ret _ _ fun b o e => hk'' _ _ (lF.keep _ _ e)
    · (with_reducible rename Fr _ _ _ _ => lF)
      rw [fits_e (by assumption) (by assumption)] at ret
      exact ret _ _ lF.keep

theorem fresh35 : True := by
  w_top off
  exact trivial
inductive MIt (h : Heap) : List Value → List (Option (List Str)) → Prop
  | nil : MIt h [] []
  | deep (t : Tok) {vs : List Value} {is : List (Option (List Str))} (T : MIt h vs is) : MIt h (.str (Str.ofString "deep") t :: vs) (none :: is)
  | pat (la : Addr) (lv : List Value) (n : Nat) (ys : List Str) {vs : List Value} {is : List (Option (List Str))} (hp : h.get? la = some (listOf lv.toArray n)) (hS : StrsAre lv ys) (hy : ys.length < 4) (T : MIt h vs is) : MIt h (.ref la :: vs) (some ys :: is)
theorem MIt.keeps {h h' : Heap} {vs : List Value} {is : List (Option (List Str))} (M : MIt h vs is) (k : Kp h h') : MIt h' vs is := by
  induction M with
  | nil => exact .nil
  | deep t _ ih => exact .deep t ih
  | pat la lv n ys hp hS hy _ ih => exact .pat la lv n ys (k _ _ hp) hS hy ih
theorem MIt.length {h : Heap} {vs : List Value} {is : List (Option (List Str))} (M : MIt h vs is) : vs.length = is.length := by
  induction M with
  | nil => rfl
  | deep t _ ih => simp [ih]
  | pat la lv n ys hp hS hy _ ih => simp [ih]
def meetsF : List (Option (List Str)) → List Str → Bool
  | [], row => row.isEmpty
  | none :: is, row => !((List.range (row.length + 1)).filter fun (k : Nat) => meetsF is (row.drop k)).isEmpty
  | some _ :: _, [] => false
  | some ys :: is, r :: rs => fitsF ys r && meetsF is rs
theorem meets_n {ys : List Str} {is : List (Option (List Str))} {r : Str} {rs : List Str} (h : fitsF ys r = false) : meetsF (some ys :: is) (r :: rs) = fitsF ys r := by simp [meetsF, h]
theorem meets_y {ys : List Str} {is : List (Option (List Str))} {r : Str} {rs : List Str} (h : fitsF ys r = true) : meetsF (some ys :: is) (r :: rs) = meetsF is rs := by simp [meetsF, h]
theorem strsEmpty {vs : List Value} {ys : List Str} (h : StrsAre vs ys) : vs.isEmpty = ys.isEmpty := by cases h <;> rfl
theorem t_meets (w : World) {mean : ExcName → Option Value} {mg mb : Str → Option Value} {loose : List Str} : ∀ (is : List (Option (List Str))) {A : Around} {s : Shared} {Q E : Value → Shared → Prop} (l li : Addr) (rv vs : List Value) (n ni : Nat) (row : List Str)
    (G : Gd (hd.heap_1 w.params) topProg loose mean mg mb A s.heap (60 + 10 * is.length) (300 + 50 * is.length)) (hl : s.heap.get? l = some (listOf rv.toArray n)) (hS : StrsAre rv row) (hli : s.heap.get? li = some (listOf vs.toArray ni)) (M : MIt s.heap vs is) (hi : is.length < 100)
    (hr : row.length < 1000) (hx : ∀ x ∈ row, x.length < 1000)
    (ret : ∀ h' tk', Kp s.heap h' → Q (.bool (meetsF is row)) { s with heap := h', toks := tk' }),
    wpAny (model PySem.Challenge.rw_ij0168_01.row.prog w) A (call (.ref 213) [.ref l, .ref li]) Q E s := by
  intro is
  induction is with
  | nil =>
    intro A s Q E l li rv vs n ni row G hl hS hli M hi hr hx ret
    cases M
    obtain ⟨hd9, dp9, fr9, gs9, un9⟩ := A; obtain rfl : hd9 = none := G.hh
    revert G; k_fill; intro G
    (have mX := Gd.K G); (have mT := Gd.T G); (have mH := Gd.hh G); (have mU := Gd.uni G); (have mD := Gd.dep G)
    refine' enterC (binds := [(Str.ofString "row", .ref l), (Str.ofString "items", .ref li)]) G ?o_64 ?c_64 ?b_64 ?l_64 ?nd_64 ?_ ?c2_64 ?c3_64 ?c4_64
    (case o_64 => refine fnK mX ?_; k_dflt k_is)
    (case c_64 => refine codeK mX ?_; k_dflt k_is); (case b_64 => first | exact BindsTo.of_eq rfl | exact binds_K mX rfl (by k_is) rfl rfl rfl); (case l_64 => exact rfl); (case nd_64 => decide +kernel); (case c2_64 => exact rfl); (case c3_64 => exact rfl); (case c4_64 => exact rfl)
    intro L' h' tk' cells' F' N' Y'; k_cells Y'; (try dsimp only); (try k_fold)
    k_steps
    all_goals (
      (with_reducible rename Fr _ _ _ _ => lF)
      rw [strsEmpty hS]
      exact ret _ _ lF.keep)
  | cons i is ih =>
    intro A s Q E l li rv vs n ni row G hl hS hli M hi hr hx ret
    have hi2 : is.length + 1 < 100 := hi
    have hlen := M.length
    have hrl := hS.length
    cases M with
    | @deep t vs _ M' =>
      obtain ⟨hd9, dp9, fr9, gs9, un9⟩ := A; obtain rfl : hd9 = none := G.hh
      revert G; k_fill; intro G
      (have mX := Gd.K G); (have mT := Gd.T G); (have mH := Gd.hh G); (have mU := Gd.uni G); (have mD := Gd.dep G)
      refine' enterC (binds := [(Str.ofString "row", .ref l), (Str.ofString "items", .ref li)]) G ?o_65 ?c_65 ?b_65 ?l_65 ?nd_65 ?_ ?c2_65 ?c3_65 ?c4_65
      (case o_65 => refine fnK mX ?_; k_dflt k_is)
      (case c_65 => refine codeK mX ?_; k_dflt k_is); (case b_65 => first | exact BindsTo.of_eq rfl | exact binds_K mX rfl (by k_is) rfl rfl rfl); (case l_65 => exact rfl); (case nd_65 => decide +kernel); (case c2_65 => exact rfl); (case c3_65 => exact rfl); (case c4_65 => exact rfl)
      intro L' h' tk' cells' F' N' Y'; k_cells Y'; (try dsimp only); (try k_fold)
      k_steps
      · (with_reducible rename Fr _ _ _ _ => lF); (with_reducible rename News _ _ _ _ => lN)
        refine compKR (row.length + 1) (fun (i : Nat) v => isInt1 (i : Int) v) (fun k => meetsF is (row.drop k)) (by assumption) rfl (by simp [hrl]) (by omega) lF lN ?_ ?_
        · clear lF lN
          intro a ha v9 C9 D9 I9 oC9 oI9 oD9 m9 h9 tk9 hv9 ho9 hn9 hm9 hk9 F9 N9 B9 hx9
          obtain ⟨t9, rfl⟩ := hv9
          constructor
          · refine wpAny_tests_one ?_
            k_steps
            (with_reducible rename Fr _ _ _ _ => lF); (with_reducible rename News _ _ _ _ => lN)
            refine ih _ _ _ _ _ _ _ ?_ (lN.get (by k_mem)) (hS.drop' a) (lN.get (by k_mem)) (M'.keeps lF.keep) (by omega) (by rw [List.length_drop]; omega) (fun x h => hx x (List.mem_of_mem_drop h)) ?_
            · exact Gd.keeps (Gd.deeper (Gd.less G (by simp only [List.length_cons]; omega) (by simp only [List.length_cons]; omega)) _) lF.keep
            · intro h'' tk'' hk''
              have F' := Fr.keeps lF hk''
              have N' := News.grown lN hk''
              clear lF lN
              k_steps
              exact KTest.mk F' (fun q hq => N' q (by first | exact hq | exact .tail _ hq | exact .tail _ (.tail _ hq))) rfl
          · intro hp
            k_steps
            exact KElt.mk (by with_reducible assumption) (by with_reducible assumption) ⟨_, rfl⟩
        · intro ws C D c h tk hx hP F N hD h' F'' N''
          clear lF lN F N
          k_steps
          (with_reducible rename Fr _ _ _ _ => lF)
          rw [hP.isEmpty]
          exact ret _ _ lF.keep
    | @pat la lv np ys vs _ hp hSp hy M' =>
      cases hS with
      | nil =>
        obtain ⟨hd9, dp9, fr9, gs9, un9⟩ := A; obtain rfl : hd9 = none := G.hh
        revert G; k_fill; intro G
        (have mX := Gd.K G); (have mT := Gd.T G); (have mH := Gd.hh G); (have mU := Gd.uni G); (have mD := Gd.dep G)
        refine' enterC (binds := [(Str.ofString "row", .ref l), (Str.ofString "items", .ref li)]) G ?o_66 ?c_66 ?b_66 ?l_66 ?nd_66 ?_ ?c2_66 ?c3_66 ?c4_66
        (case o_66 => refine fnK mX ?_; k_dflt k_is)
        (case c_66 => refine codeK mX ?_; k_dflt k_is); (case b_66 => first | exact BindsTo.of_eq rfl | exact binds_K mX rfl (by k_is) rfl rfl rfl); (case l_66 => exact rfl); (case nd_66 => decide +kernel); (case c2_66 => exact rfl); (case c3_66 => exact rfl); (case c4_66 => exact rfl)
        intro L' h' tk' cells' F' N' Y'; k_cells Y'; (try dsimp only); (try k_fold)
        k_steps
        (with_reducible rename Fr _ _ _ _ => lF)
        exact ret _ _ lF.keep
      | @cons r t rv rs hS' =>
        have hlp := hSp.length
        have hrr : r.length < 1000 := hx r (.head _)
        simp only [List.length_cons] at hr hrl
        obtain ⟨hd9, dp9, fr9, gs9, un9⟩ := A; obtain rfl : hd9 = none := G.hh
        revert G; k_fill; intro G
        (have mX := Gd.K G); (have mT := Gd.T G); (have mH := Gd.hh G); (have mU := Gd.uni G); (have mD := Gd.dep G)
        refine' enterC (binds := [(Str.ofString "row", .ref l), (Str.ofString "items", .ref li)]) G ?o_67 ?c_67 ?b_67 ?l_67 ?nd_67 ?_ ?c2_67 ?c3_67 ?c4_67
        (case o_67 => refine fnK mX ?_; k_dflt k_is)
        (case c_67 => refine codeK mX ?_; k_dflt k_is); (case b_67 => first | exact BindsTo.of_eq rfl | exact binds_K mX rfl (by k_is) rfl rfl rfl); (case l_67 => exact rfl); (case nd_67 => decide +kernel); (case c2_67 => exact rfl); (case c3_67 => exact rfl); (case c4_67 => exact rfl)
        intro L' h' tk' cells' F' N' Y'; k_cells Y'; (try dsimp only); (try k_fold)
        k_steps
        (with_reducible rename Fr _ _ _ _ => lF); (with_reducible rename News _ _ _ _ => lN)
        refine t_fits w (mean := mean) (mg := mg) (mb := mb) (loose := loose) ys _ _ _ _ _ ?_ (lF.keep _ _ hp) hSp (by omega) hrr ?_
        · exact Gd.keeps (Gd.deeper (Gd.less G (by simp only [List.length_cons]; omega) (by simp only [List.length_cons]; omega)) _) lF.keep
        intro h'' tk'' hk''
        have F' := Fr.keeps lF hk''
        have N' := News.grown lN hk''
        clear lF lN
        cases hf : fitsF ys r with
        | false =>
          rw [meets_n hf, hf] at ret
          k_steps
          (with_reducible rename Fr _ _ _ _ => lF)
          exact ret _ _ lF.keep
        | true =>
          rw [meets_y hf] at ret
          k_steps
          (with_reducible rename Fr _ _ _ _ => lF); (with_reducible rename News _ _ _ _ => lN)
          refine ih _ _ _ _ _ _ _ ?_ (lN.get (by k_mem)) hS' (lN.get (by k_mem)) (M'.keeps lF.keep) (by omega) (by omega) (fun x h => hx x (.tail _ h)) ?_
          · exact Gd.keeps (Gd.deeper (Gd.less G (by simp only [List.length_cons]; omega) (by simp only [List.length_cons]; omega)) _) lF.keep
          · intro h'' tk'' hk''
            exact ret _ _ fun b o e => hk'' _ _ (lF.keep _ _ e)

theorem fresh36 : True := by
  w_top off
  exact trivial
theorem t_takes (w : World) {mean : ExcName → Option Value} {mg mb : Str → Option Value} {loose : List Str} {A : Around} {s : Shared} {Q E : Value → Shared → Prop} (l : Addr) (vs : List Value) (n : Nat) (parts : List PK) (x : Str) (t : Tok)
    (G : Gd (hd.heap_1 w.params) topProg loose mean mg mb A s.heap 20 400) (hl : s.heap.get? l = some (listOf vs.toArray n)) (hS : StrsAre vs (parts.map PK.str)) (hx : x.length < 100) (hpl : parts.length < 100)
    (ret : ∀ h' tk', Kp s.heap h' → Q (.bool ((parts.foldl (takesStep x) [0]).any (· == x.length))) { s with heap := h', toks := tk' }) :
    wpAny (model PySem.Challenge.rw_ij0168_01.row.prog w) A (call (.ref 177) [.ref l, .str x t]) Q E s := by
  obtain ⟨hd9, dp9, fr9, gs9, un9⟩ := A; obtain rfl : hd9 = none := G.hh
  revert G; k_fill; intro G
  (have mX := Gd.K G); (have mT := Gd.T G); (have mH := Gd.hh G); (have mU := Gd.uni G); (have mD := Gd.dep G)
  refine' enterC (binds := [(Str.ofString "parts", .ref l), (Str.ofString "name", .str x t)]) G ?o_68 ?c_68 ?b_68 ?l_68 ?nd_68 ?_ ?c2_68 ?c3_68 ?c4_68
  (case o_68 => refine fnK mX ?_; k_dflt k_is)
  (case c_68 => refine codeK mX ?_; k_dflt k_is); (case b_68 => first | exact BindsTo.of_eq rfl | exact binds_K mX rfl (by k_is) rfl rfl rfl); (case l_68 => exact rfl); (case nd_68 => decide +kernel); (case c2_68 => exact rfl); (case c3_68 => exact rfl); (case c4_68 => exact rfl)
  intro L' h' tk' cells' F' N' Y'; k_cells Y'; (try dsimp only); (try k_fold)
  k_steps
  (with_reducible rename Fr _ _ _ _ => lF); (with_reducible rename News _ _ _ _ => lN)
  refine For_invTF lF ?_ (by intro _; rfl)
  k_steps
  rename_i oP oN hoP hoN lr hh0 llt tk0 
  refine forT (TakesJ L' oN x parts) mH rfl rfl (.inl hl) lF lN ⟨_, [.int 0 tk'], _, oP, rfl, ⟨(Nat.ne_of_lt llt.1).symm, (Nat.ne_of_lt llt.2).symm⟩, ⟨_, hoP⟩, .cons 0 _ .nil, rfl⟩ ?_ ?_
  · intro i v m₁ news₁ I oI s₁ hi hv hJ hnI F N
    obtain ⟨r, ws, c, oP', rfl, hlt, ⟨vP, hvP⟩, hws, hr⟩ := hJ
    obtain ⟨y, ty, rfl, hy⟩ := hS.item i v (by simpa using hv)
    obtain ⟨u, rfl⟩ := read1 hr
    clear lF lN hr
    replace F : Fr s.heap L' s₁.heap _ := F
    replace N : News s.heap L' s₁.heap _ := N
    have n1 : r ≠ I := hnI _ (.head _)
    have n2 : L' + 1 + 1 ≠ I := hnI _ (.tail _ (.head _))
    have n3 : L' + 1 ≠ I := hnI _ (.tail _ (.tail _ (.head _)))
    obtain ⟨p, hp, rfl⟩ := List.getElem?_map .. ▸ hy |> Option.map_eq_some_iff.mp
    have hst : (parts.take (i + 1)).foldl (takesStep x) [0] = takesStep x ((parts.take i).foldl (takesStep x) [0]) p := by rw [List.take_add_one, hp]; simp
    have hRl := takes_len x (parts.take i) [0] (by simp)
    have hRb := takes_le x (parts.take i) [0] x.length (Nat.le_refl _) (by intro r hr; rw [List.mem_singleton.mp hr]; exact Nat.zero_le _)
    have hpt : (parts.take i).length < 100 := Nat.lt_of_le_of_lt (List.length_take_le' _ _) hpl
    generalize (parts.take i).length = pl at *
    generalize (parts.take i).foldl (takesStep x) [0] = R at *
    have hwl := hws.length
    refine wpAny_assign_Name (wpAny_storeName_cell rfl rfl rfl ⟨_, (N _ (.tail _ (.tail _ (.head _)))).1, hvP⟩ fun h₁ hc₁ hs₁ => ?_)
    obtain ⟨oP₁, e₁, d₁⟩ := hc₁
    obtain ⟨F₁, N₁⟩ := setCell (rest := [(I, oI), (r, listOf ws.toArray c), (L' + 1, oN)]) F N hs₁ (.tail _ (.tail _ (.head _))) e₁ (by
      intro q hq
      rcases List.mem_cons.mp hq with rfl | hq
      · exact ⟨.head _, n2.symm⟩
      rcases List.mem_cons.mp hq with rfl | hq
      · exact ⟨.tail _ (.head _), hlt.1⟩
      · rw [List.mem_singleton.mp hq]; exact ⟨.tail _ (.tail _ (.tail _ (.head _))), Nat.ne_of_lt (Nat.lt_succ_self _)⟩)
    clear F N hs₁ hvP e₁
    cases p
    · simp only [PK.str] at d₁
      cases R with
      | nil =>
        cases hws
        k_steps
        (with_reducible rename Fr _ _ _ _ => lF); (with_reducible rename News _ _ _ _ => lN)
        refine TurnN.mk (news' := [(_, listOf (List.toArray []) 0), (L' + 1 + 1, oP₁), (L' + 1, oN)]) lF (newsTake lN (by k_mem) (newsTake lN (by k_mem) (newsTake lN (by k_mem) (newsTake lN (by k_mem) News.nil)))) ?_ ⟨_, [], 0, oP₁, rfl, ⟨?_, ?_⟩, ⟨_, d₁⟩, by rw [hst]; exact .nil, rfl⟩
        · intro q hq
          rcases List.mem_cons.mp hq with rfl | hq
          · refine neN ?_; omega
          rcases List.mem_cons.mp hq with rfl | hq
          · exact n2
          · rw [List.mem_singleton.mp hq]; exact n3
        · refine neN ?_; omega
        · refine neN ?_; omega
      | cons k R =>
      cases hws with
      | cons _ tk0 hws =>
      k_steps
      (with_reducible rename Fr _ _ _ _ => lF); (with_reducible rename News _ _ _ _ => lN)
      refine list_rangeD (n := x.length + 1 - k) mH lF lN (by assumption) ?_ ?_ ?_ ?_
      · have hk := hRb k (.head _)
        unfold Builtin.Range.small Builtin.Range.rangeFitsLong
        rw [rangeSize_nat]
        simp
        omega
      · rw [rangeSize_nat]; omega
      · omega
      · intro h' tk ys F' N' kp hz hIL hNP hC
        have hDL := hNP.ne_locals F'
        obtain ⟨⟨c', hc'⟩, hne⟩ := hNP
        have N2 := newsCons N' hc' hDL hz
        clear lF lN N' hIL
        have hI2 := IntsAre.ofCarried hC
        k_steps
        (with_reducible rename Fr _ _ _ _ => lF); (with_reducible rename News _ _ _ _ => lN)
        refine TurnN.mk (news' := [(_, listOf (List.toArray ys) c'), (L' + 1 + 1, oP₁), (L' + 1, oN)]) lF (newsTake lN (by k_mem) (newsTake lN (by k_mem) (newsTake lN (by k_mem) (newsTake lN (by k_mem) News.nil)))) ?_ ⟨_, ys, c', oP₁, rfl, ⟨?_, ?_⟩, ⟨_, d₁⟩, ?_, rfl⟩
        · intro q hq
          rcases List.mem_cons.mp hq with rfl | hq
          · exact (hne (I, oI) (by k_mem)).symm
          rcases List.mem_cons.mp hq with rfl | hq
          · exact n2
          · rw [List.mem_singleton.mp hq]; exact n3
        · exact (hne (L' + 1 + 1, oP₁) (by k_mem)).symm
        · exact (hne (L' + 1, oN) (by k_mem)).symm
        · rw [hst]
          have e : natInts (takesStep x (k :: R) PK.star) = rangeInts (k : Int) 1 (x.length + 1 - k) := by simp [natInts, takesStep, rangeInts, List.map_map, Function.comp_def]
          rw [e]; exact hI2
    · simp only [PK.str] at d₁
      k_steps
      (with_reducible rename Fr _ _ _ _ => lF); (with_reducible rename News _ _ _ _ => lN)
      refine compKL R (fun (j : Nat) v => isInt1 (j : Int) v) (fun (j : Nat) v => isInt1 ((j : Int) + 1) v) (fun j => decide (j < x.length)) mH rfl rfl (.inr (by k_mem)) (natPaired hws) (by rw [sizeLine_eq]; omega) lF lN ?_ ?_
      · clear lF lN
        intro a ha v9 C9 D9 I9 oC9 oI9 oD9 m9 h9 tk9 hv9 ho9 hn9 hm9 hk9 F9 N9 B9 hx9
        obtain ⟨t9, rfl⟩ := hv9
        constructor
        · refine wpAny_tests_one ?_
          k_steps
          all_goals (
            (with_reducible rename Fr _ _ _ _ => lF); (with_reducible rename News _ _ _ _ => lN)
            refine KTest.mk lF (newsTake lN (by k_mem) (newsTake lN (by k_mem) (newsTake lN (by k_mem) (newsTake lN (by k_mem) (newsTake lN (by k_mem) (newsTake lN (by k_mem) (newsTake lN (by k_mem) News.nil))))))) ?_
            simp)
        · intro hp
          k_steps
          exact KElt.mk (by with_reducible assumption) (by with_reducible assumption) ⟨_, rfl⟩
      · intro ws' C D c' h tk hx hP F N hD h' tk' F'' N''
        clear lF lN F N
        k_steps
        (with_reducible rename Fr _ _ _ _ => lF); (with_reducible rename News _ _ _ _ => lN)
        refine TurnN.mk (news' := [(D, listOf (List.toArray ws') c'), (L' + 1 + 1, oP₁), (L' + 1, oN)]) lF (newsTake lN (by k_mem) (newsTake lN (by k_mem) (newsTake lN (by k_mem) (newsTake lN (by k_mem) News.nil)))) ?_ ⟨D, ws', c', oP₁, rfl, ⟨?_, ?_⟩, ⟨_, d₁⟩, ?_, rfl⟩
        · intro q hq
          rcases List.mem_cons.mp hq with rfl | hq
          · exact (hD _ (.tail _ (.head _))).symm
          rcases List.mem_cons.mp hq with rfl | hq
          · exact n2
          · rw [List.mem_singleton.mp hq]; exact n3
        · exact (hD _ (.head _)).symm
        · exact (hD _ (.tail _ (.tail _ (.tail _ (.head _))))).symm
        · rw [hst]
          have e := hP.ints (f := fun (j : Nat) => (j : Int) + 1)
          rw [natInts_filter] at e
          exact e
    · simp only [PK.str] at d₁
      k_steps
      (with_reducible rename Fr _ _ _ _ => lF); (with_reducible rename News _ _ _ _ => lN)
      refine compKL R (fun (j : Nat) v => isInt1 (j : Int) v) (fun (j : Nat) v => isInt1 ((j : Int) + 1) v) (fun (j : Nat) => decide (j < x.length) && (Builtin.Str.occurrences (Txt.slice (Str.ofString "[^a]") (some 2) (some (-1))) (Txt.item x (j : Int)) 0 (Txt.slice (Str.ofString "[^a]") (some 2) (some (-1))).length 1).isEmpty) mH rfl rfl (.inr (by k_mem)) (natPaired hws) (by rw [sizeLine_eq]; omega) lF lN ?_ ?_
      · clear lF lN
        intro a ha v9 C9 D9 I9 oC9 oI9 oD9 m9 h9 tk9 hv9 ho9 hn9 hm9 hk9 F9 N9 B9 hx9
        obtain ⟨t9, rfl⟩ := hv9
        constructor
        · refine wpAny_tests_one ?_
          k_steps
          all_goals (
            (with_reducible rename Fr _ _ _ _ => lF); (with_reducible rename News _ _ _ _ => lN)
            refine KTest.mk lF (newsTake lN (by k_mem) (newsTake lN (by k_mem) (newsTake lN (by k_mem) (newsTake lN (by k_mem) (newsTake lN (by k_mem) (newsTake lN (by k_mem) (newsTake lN (by k_mem) News.nil))))))) ?_
            first | (rw [show Txt.item (Str.ofString "a") (-1) = Str.ofString "a" by decide]; rfl) | (rw [show Txt.item (Str.ofString "b") (-1) = Str.ofString "b" by decide]; rfl) | (by_cases hax : a < x.length <;> first | (exfalso; omega) | (rw [decide_eq_true hax, Bool.true_and]; symm; assumption) | (rw [decide_eq_false hax, Bool.false_and])))
        · intro hp
          k_steps
          exact KElt.mk (by with_reducible assumption) (by with_reducible assumption) ⟨_, rfl⟩
      · intro ws' C D c' h tk hx hP F N hD h' tk' F'' N''
        clear lF lN F N
        k_steps
        (with_reducible rename Fr _ _ _ _ => lF); (with_reducible rename News _ _ _ _ => lN)
        refine TurnN.mk (news' := [(D, listOf (List.toArray ws') c'), (L' + 1 + 1, oP₁), (L' + 1, oN)]) lF (newsTake lN (by k_mem) (newsTake lN (by k_mem) (newsTake lN (by k_mem) (newsTake lN (by k_mem) News.nil)))) ?_ ⟨D, ws', c', oP₁, rfl, ⟨?_, ?_⟩, ⟨_, d₁⟩, ?_, rfl⟩
        · intro q hq
          rcases List.mem_cons.mp hq with rfl | hq
          · exact (hD _ (.tail _ (.head _))).symm
          rcases List.mem_cons.mp hq with rfl | hq
          · exact n2
          · rw [List.mem_singleton.mp hq]; exact n3
        · exact (hD _ (.head _)).symm
        · exact (hD _ (.tail _ (.tail _ (.tail _ (.head _))))).symm
        · rw [hst]
          have e := hP.ints (f := fun (j : Nat) => (j : Int) + 1)
          rw [natInts_filter] at e
          exact e
    · rename_i b
      cases b
      · simp only [PK.str] at d₁
        k_steps
        (with_reducible rename Fr _ _ _ _ => lF); (with_reducible rename News _ _ _ _ => lN)
        refine compKL R (fun (j : Nat) v => isInt1 (j : Int) v) (fun (j : Nat) v => isInt1 ((j : Int) + 1) v) (fun (j : Nat) => (Txt.slice x (some (j : Int)) (some ((j : Int) + 1)) == (PK.ch false).str)) mH rfl rfl (.inr (by k_mem)) (natPaired hws) (by rw [sizeLine_eq]; omega) lF lN ?_ ?_
        · clear lF lN
          intro a ha v9 C9 D9 I9 oC9 oI9 oD9 m9 h9 tk9 hv9 ho9 hn9 hm9 hk9 F9 N9 B9 hx9
          obtain ⟨t9, rfl⟩ := hv9
          constructor
          · refine wpAny_tests_one ?_
            k_steps
            all_goals (
              (with_reducible rename Fr _ _ _ _ => lF); (with_reducible rename News _ _ _ _ => lN)
              refine KTest.mk lF (newsTake lN (by k_mem) (newsTake lN (by k_mem) (newsTake lN (by k_mem) (newsTake lN (by k_mem) (newsTake lN (by k_mem) (newsTake lN (by k_mem) (newsTake lN (by k_mem) News.nil))))))) ?_
              first | (rw [show Txt.item (Str.ofString "a") (-1) = Str.ofString "a" by decide]; rfl) | (rw [show Txt.item (Str.ofString "b") (-1) = Str.ofString "b" by decide]; rfl) | (by_cases hax : a < x.length <;> first | (exfalso; omega) | (rw [decide_eq_true hax, Bool.true_and]; symm; assumption) | (rw [decide_eq_false hax, Bool.false_and])))
          · intro hp
            k_steps
            exact KElt.mk (by with_reducible assumption) (by with_reducible assumption) ⟨_, rfl⟩
        · intro ws' C D c' h tk hx hP F N hD h' tk' F'' N''
          clear lF lN F N
          k_steps
          (with_reducible rename Fr _ _ _ _ => lF); (with_reducible rename News _ _ _ _ => lN)
          refine TurnN.mk (news' := [(D, listOf (List.toArray ws') c'), (L' + 1 + 1, oP₁), (L' + 1, oN)]) lF (newsTake lN (by k_mem) (newsTake lN (by k_mem) (newsTake lN (by k_mem) (newsTake lN (by k_mem) News.nil)))) ?_ ⟨D, ws', c', oP₁, rfl, ⟨?_, ?_⟩, ⟨_, d₁⟩, ?_, rfl⟩
          · intro q hq
            rcases List.mem_cons.mp hq with rfl | hq
            · exact (hD _ (.tail _ (.head _))).symm
            rcases List.mem_cons.mp hq with rfl | hq
            · exact n2
            · rw [List.mem_singleton.mp hq]; exact n3
          · exact (hD _ (.head _)).symm
          · exact (hD _ (.tail _ (.tail _ (.tail _ (.head _))))).symm
          · rw [hst]
            have e := hP.ints (f := fun (j : Nat) => (j : Int) + 1)
            rw [natInts_filter] at e
            exact e
      · simp only [PK.str] at d₁
        k_steps
        (with_reducible rename Fr _ _ _ _ => lF); (with_reducible rename News _ _ _ _ => lN)
        refine compKL R (fun (j : Nat) v => isInt1 (j : Int) v) (fun (j : Nat) v => isInt1 ((j : Int) + 1) v) (fun (j : Nat) => (Txt.slice x (some (j : Int)) (some ((j : Int) + 1)) == (PK.ch true).str)) mH rfl rfl (.inr (by k_mem)) (natPaired hws) (by rw [sizeLine_eq]; omega) lF lN ?_ ?_
        · clear lF lN
          intro a ha v9 C9 D9 I9 oC9 oI9 oD9 m9 h9 tk9 hv9 ho9 hn9 hm9 hk9 F9 N9 B9 hx9
          obtain ⟨t9, rfl⟩ := hv9
          constructor
          · refine wpAny_tests_one ?_
            k_steps
            all_goals (
              (with_reducible rename Fr _ _ _ _ => lF); (with_reducible rename News _ _ _ _ => lN)
              refine KTest.mk lF (newsTake lN (by k_mem) (newsTake lN (by k_mem) (newsTake lN (by k_mem) (newsTake lN (by k_mem) (newsTake lN (by k_mem) (newsTake lN (by k_mem) (newsTake lN (by k_mem) News.nil))))))) ?_
              first | (rw [show Txt.item (Str.ofString "a") (-1) = Str.ofString "a" by decide]; rfl) | (rw [show Txt.item (Str.ofString "b") (-1) = Str.ofString "b" by decide]; rfl) | (by_cases hax : a < x.length <;> first | (exfalso; omega) | (rw [decide_eq_true hax, Bool.true_and]; symm; assumption) | (rw [decide_eq_false hax, Bool.false_and])))
          · intro hp
            k_steps
            exact KElt.mk (by with_reducible assumption) (by with_reducible assumption) ⟨_, rfl⟩
        · intro ws' C D c' h tk hx hP F N hD h' tk' F'' N''
          clear lF lN F N
          k_steps
          (with_reducible rename Fr _ _ _ _ => lF); (with_reducible rename News _ _ _ _ => lN)
          refine TurnN.mk (news' := [(D, listOf (List.toArray ws') c'), (L' + 1 + 1, oP₁), (L' + 1, oN)]) lF (newsTake lN (by k_mem) (newsTake lN (by k_mem) (newsTake lN (by k_mem) (newsTake lN (by k_mem) News.nil)))) ?_ ⟨D, ws', c', oP₁, rfl, ⟨?_, ?_⟩, ⟨_, d₁⟩, ?_, rfl⟩
          · intro q hq
            rcases List.mem_cons.mp hq with rfl | hq
            · exact (hD _ (.tail _ (.head _))).symm
            rcases List.mem_cons.mp hq with rfl | hq
            · exact n2
            · rw [List.mem_singleton.mp hq]; exact n3
          · exact (hD _ (.head _)).symm
          · exact (hD _ (.tail _ (.tail _ (.tail _ (.head _))))).symm
          · rw [hst]
            have e := hP.ints (f := fun (j : Nat) => (j : Int) + 1)
            rw [natInts_filter] at e
            exact e
  · rintro m₁ news₁ h tk ⟨r, ws, c, oP', rfl, hlt, ⟨vP, hvP⟩, hws, hr⟩ F N
    obtain ⟨u, rfl⟩ := read1 hr
    clear lF lN hr
    replace F : Fr s.heap L' h _ := F
    replace N : News s.heap L' h _ := N
    have : vs.toArray.size = parts.length := by rw [List.size_toArray, hS.length, List.length_map]
    rw [this, List.take_length] at hws
    k_steps
    (with_reducible rename Fr _ _ _ _ => lF)
    rw [natInts_any]
    exact ret _ _ lF.keep

section
theorem fresh37 : True := by
  w_top off
  exact trivial
def RedJ (h₀ : Heap) (fa : Addr) (names : List Str) (stepF : List Int → Str → List Int) (ps0 : List Int) (i : Nat) (m : Str → Option Value) (news : List (Addr × Obj)) : Prop :=
  ∃ r ws c, m (Str.ofString "value") = some (.ref r) ∧ m (Str.ofString "function") = some (.ref fa) ∧ IntsAre ws ((names.take i).foldl stepF ps0) ∧ ((news = [] ∧ h₀.get? r = some (listOf (List.toArray ws) c)) ∨ news = [(r, listOf (List.toArray ws) c)])
local macro_rules | `(tactic| walk_at "call builtin:iter") => `(tactic| (k_here; (with_reducible show wpAny _ _ (call (Value.builtin "iter") [Value.ref _]) _ _ _); k_dflt (refine' iterList ?F ?N ?l ?_; (case F => k_asm); (case N => k_asm); (case l => exact memH (by k_asm) (by assumption)); k_whole); intro I' h' F' N' l1; (try k_lt l1)))
local macro_rules | `(tactic| walk_at "exec For Name Name") => `(tactic| (k_here; refine hold ?_))
local macro_rules | `(tactic| walk_at "exec For Name Name cons nil") => `(tactic| (k_here; refine hold ?_))
theorem t_reduce (w : World) {mean : ExcName → Option Value} {mg mb : Str → Option Value} {loose : List Str} {A : Around} {s : Shared} {Q E : Value → Shared → Prop} (fa ln l0 : Addr) (nv v0 : List Value) (nn n0 : Nat) (names : List Str) (ps0 : List Int) (stepF : List Int → Str → List Int) (Inv : List Int → Prop) (du : Nat)
    (G : Gd (hd.heap_1 w.params) topProg loose mean mg mb A s.heap 60 1000) (hf : FnAt fa s.heap) (hln : s.heap.get? ln = some (listOf nv.toArray nn)) (hS : StrsAre nv names) (hl0 : s.heap.get? l0 = some (listOf v0.toArray n0)) (hI : IntsAre v0 ps0) (hInv : Inv ps0) (hst : ∀ ps x, Inv ps → x ∈ names → Inv (stepF ps x))
    (hstep : ∀ {A' : Around} {s' : Shared} {Q' E' : Value → Shared → Prop} (l : Addr) (vs : List Value) (n : Nat) (ps : List Int) (x : Str) (t : Tok), Gd (hd.heap_1 w.params) topProg loose mean mg mb A' s'.heap 50 800 → Kp s.heap s'.heap →
      s'.heap.get? l = some (listOf vs.toArray n) → IntsAre vs ps → Inv ps → x ∈ names → (∀ r ws c h' tk', Kp s'.heap h' → h'.get? r = some (listOf (List.toArray ws) c) → s'.heap.get? r = none → IntsAre ws (stepF ps x) → Q' (.ref r) { s' with heap := h', toks := tk' }) →
      wpAny (model PySem.Challenge.rw_ij0168_01.row.prog w) A' (call (.ref fa) [.ref l, .str x t]) Q' E' s')
    (ret : ∀ r ws c h' tk', Kp s.heap h' → h'.get? r = some (listOf (List.toArray ws) c) → IntsAre ws (names.foldl stepF ps0) → Q (.ref r) { s with heap := h', toks := tk' }) :
    wpAny (model PySem.Challenge.rw_ij0168_01.row.prog w) A (call (.ref 47) [.ref fa, .ref ln, .ref l0]) Q E s := by
  obtain ⟨hd9, dp9, fr9, gs9, un9⟩ := A; obtain rfl : hd9 = none := G.hh
  revert G; k_fill; intro G
  (have mX := Gd.K G); (have mT := Gd.T G); (have mH := Gd.hh G); (have mU := Gd.uni G); (have mD := Gd.dep G)
  refine' enter (binds := [(Str.ofString "function", .ref fa), (Str.ofString "sequence", .ref ln), (Str.ofString "initial", .ref l0)]) G ?o_71 ?c_71 ?b_71 ?l_71 ?_ ?c2_71 ?c3_71 ?c4_71 ?c5_71
  (case o_71 => refine fnK mX ?_; k_dflt k_is)
  (case c_71 => refine codeK mX ?_; k_dflt k_is); (case b_71 => first | exact BindsTo.of_eq rfl | exact binds_K mX rfl (by k_is) rfl rfl rfl); (case l_71 => exact locs rfl); (case c2_71 => exact rfl); (case c3_71 => exact rfl); (case c4_71 => exact rfl); (case c5_71 => decide)
  intro L' h' F' N'; (try dsimp only); (try k_fold)
  have h39 := fnK mX (f := 39) (by k_dflt k_is)
  have hne39 : l0 ≠ 39 := by
    rintro rfl
    rw [hl0] at h39
    exact absurd (show Value.type "list" = Value.type "object" from congrArg Obj.cls (Option.some.inj h39)) (by decide)
  k_steps
  (with_reducible rename Fr _ _ _ _ => lF)
  refine kto_is (lF.keep _ _ hl0) (lF.keep _ _ h39) hne39 (show Value.type "list" ≠ Value.type "tuple" by decide) ?_
  k_steps
  unfold Hold
  (with_reducible rename Fr _ _ _ _ => lF); (refine For_invVF lF (by rfl) (by rfl) ?_)
  k_steps
  (with_reducible rename Fr _ _ _ _ => lF); (with_reducible rename News _ _ _ _ => lN)
  have hIN := lN _ (.head _)
  refine forIt (RedJ s.heap fa names stepF ps0) mH rfl rfl (.inl hln) ⟨_, hIN.1, rfl, rfl⟩ hIN.2.2 (news := []) (fun p hp => by cases hp) lF News.nil ⟨l0, v0, n0, rfl, rfl, hI, .inl ⟨rfl, hl0⟩⟩ ?_ ?_
  · intro i v m₁ news₁ I oI h tk hi hv hJ hnI F N
    obtain ⟨r, ws, c, hm1, hm2, hws, hr⟩ := hJ
    obtain ⟨y, ty, rfl, hy⟩ := hS.item i v (by simpa using hv)
    have hg : h.get? r = some (listOf (List.toArray ws) c) := by
      rcases hr with ⟨_, e⟩ | rfl
      · exact F.keep _ _ e
      · exact (N _ (.tail _ (.head _))).1
    obtain ⟨u, rfl⟩ := read2 hm1 hm2
    have N2 : News s.heap L' h [(I, oI)] := newsTake N (.head _) News.nil
    clear lF lN hm1 hm2 N hr hIN
    replace F : Fr s.heap L' h _ := F
    k_steps
    have hfn : FnAt fa h := by
      obtain ⟨oc, od, fd, sl, e⟩ := hf
      exact ⟨oc, od, fd, sl, F.keep _ _ e⟩
    refine callWith_F hfn ?_
    have hym : y ∈ names := List.mem_of_getElem? hy
    have hInvi : ∀ j, Inv ((names.take j).foldl stepF ps0) := by
      intro j
      have hsub : ∀ x ∈ names.take j, x ∈ names := fun x hx => List.mem_of_mem_take hx
      revert hsub hInv
      generalize names.take j = l
      generalize ps0 = q
      intro hq hsub
      induction l generalizing q with
      | nil => exact hq
      | cons x l ih => exact ih _ (hst _ _ hq (hsub x (.head _))) fun z hz => hsub z (.tail _ hz)
    have hfs : (names.take (i + 1)).foldl stepF ps0 = stepF ((names.take i).foldl stepF ps0) y := by rw [List.take_add_one, hy]; simp
    k_steps
    · exact hfn
    (with_reducible rename Fr _ _ _ _ => lF); (with_reducible rename News _ _ _ _ => lN)
    refine hstep r ws c _ y ty ?_ lF.keep hg hws (hInvi i) hym ?_
    · exact Gd.keeps (Gd.deeper (Gd.less G (by decide) (by decide)) _) lF.keep
    intro r' ws' c' h'' tk'' hk hg' hn' hws'
    have F' := Fr.keeps lF hk
    have N' := newsK lF lN hk hg' hn'
    have hne := neK lN hn'
    clear lF lN
    k_steps
    (with_reducible rename Fr _ _ _ _ => lF); (with_reducible rename News _ _ _ _ => lN)
    refine TurnPost.next (news' := [(r', listOf (List.toArray ws') c')]) lF (newsTake lN (by k_mem) (newsTake lN (by k_mem) News.nil)) ?_ ⟨r', ws', c', rfl, rfl, by rw [hfs]; exact hws', .inr rfl⟩
    intro q hq
    rw [List.mem_singleton.mp hq]
    exact (hne _ (.head _)).symm
  · rintro m₁ news₁ h tk ⟨r, ws, c, hm1, hm2, hws, hr⟩ F N
    have hg : h.get? r = some (listOf (List.toArray ws) c) := by
      rcases hr with ⟨_, e⟩ | rfl
      · exact F.keep _ _ e
      · exact (N _ (.head _)).1
    obtain ⟨u, rfl⟩ := read2 hm1 hm2
    have N2 : News s.heap L' h [] := News.nil
    clear lF lN hm1 hm2 N hr hIN
    replace F : Fr s.heap L' h _ := F
    have : nv.toArray.size = names.length := by rw [List.size_toArray, hS.length]
    rw [this, List.take_length] at hws
    k_steps
    (with_reducible rename Fr _ _ _ _ => lF)
    exact ret _ _ _ _ _ lF.keep hg hws

end
theorem fresh38 : True := by
  w_top off
  exact trivial
structure PathOK (x : Str) (ns : List Str) : Prop where
  hx : x.length < 10000
  hx0 : ((x.length : Nat) : Int) ≠ 0
  hp : (Txt.slice x none (some 1) != Str.ofString "/") = true
  hsz : ∀ i, (normF ((Txt.split x (Str.ofString "/")).take i)).length < 1000
  hjo : ((normF (Txt.split x (Str.ofString "/"))).map (·.length)).sum + (normF (Txt.split x (Str.ofString "/"))).length * (Str.ofString "/").length ≤ 16777216
  hjl : (Txt.join (Str.ofString "/") (normF (Txt.split x (Str.ofString "/")))).length < 10000
  hns : NamesOf (normPath x) ns
  hnl : ns.length < 1000
  hnx : ∀ y ∈ ns, y.length < 100
def takesB (P : List PK) (x : Str) : Bool := (P.foldl (takesStep x) [0]).any (· == x.length)
def thereF (P1 P3 : List PK) (ps : List Int) (x : Str) : List Int :=
  ps.filter (fun k => ([0, 2] : List Int).any (· == k)) ++ (ps.filter fun k => ([1, 3] : List Int).any (· == k) && takesB (if k = 1 then P1 else P3) x).map (· + 1)
def stepPF (P1 P3 : List PK) (ps : List Int) (x : Str) : List Int := passedF (thereF P1 P3 ps x)
def Small5 (ps : List Int) : Prop := ps.length ≤ 5
def stepTab (c' : Addr) : Array Value := #[rawInt 223, rawInt 4, .ref c']
def stepQual : Str := Str.ofString "_law_reached.<locals>.step"
def reachedB (P1 P3 : List PK) (ns : List Str) : Bool := (ns.foldl (stepPF P1 P3) (passedF [0])).any fun x => x == 4
theorem passedF_len (ps : List Int) : (passedF ps).length ≤ 5 := by
  unfold passedF
  rw [List.length_map]
  exact Nat.le_trans (List.length_filter_le _ _) (by simp)
theorem tkA {P1 P3 : List PK} {y : Str} {b : Bool} (h : ((P1.foldl (takesStep y) [0]).any fun x => x == y.length) = b) : b = ((([1, 3] : List Int).any fun x => x == 1) && takesB (if (1 : Int) = 1 then P1 else P3) y) := by
  rw [if_pos rfl]; subst h; rfl
theorem tkB {P1 P3 : List PK} {y : Str} {b : Bool} (h : ((P3.foldl (takesStep y) [0]).any fun x => x == y.length) = b) : b = ((([1, 3] : List Int).any fun x => x == 3) && takesB (if (3 : Int) = 1 then P1 else P3) y) := by
  rw [if_neg (by decide)]; subst h; rfl
theorem any13 {k : Int} (h : (([1, 3] : List Int).any fun x => x == k) = true) : k = 1 ∨ k = 3 := by
  simp only [List.any_cons, List.any_nil, Bool.or_false, Bool.or_eq_true, beq_iff_eq] at h
  rcases h with h | h
  · exact .inl h.symm
  · exact .inr h.symm
theorem t_reached (w : World) {mean : ExcName → Option Value} {mg mb : Str → Option Value} {loose : List Str} {A : Around} {s : Shared} {Q E : Value → Shared → Prop} {h₀ : Heap} {L₀ : Addr} {m₀ : Str → Option Value} {rest : List (Addr × Obj)} {oL : Obj} 
    (x : Str) (t : Tok) (lp e0 p1 e2 p3 : Addr) (np n1 n3 : Nat) (v1 v3 : List Value) (P1 P3 : List PK) (ns : List Str)
    (G : Gd (hd.heap_1 w.params) topProg loose mean mg mb A h₀ 200 4000) (hC : CodeHd h₀ 200 196) (F₀ : Fr h₀ L₀ s.heap m₀) (N₀ : News h₀ L₀ s.heap ((196, tabObj #[]) :: rest)) (hr : ∀ q ∈ rest, q.1 ≠ 196) (hL : s.heap.get? L₀ = some oL) (hL0 : h₀.get? L₀ = none)
    (hlp : (lp, listOf ([.ref e0, .ref p1, .ref e2, .ref p3] : List Value).toArray np) ∈ rest) (hp1 : (p1, listOf v1.toArray n1) ∈ rest) (hS1 : StrsAre v1 (P1.map PK.str)) (hp3 : (p3, listOf v3.toArray n3) ∈ rest) (hS3 : StrsAre v3 (P3.map PK.str)) (hl1 : P1.length < 100) (hl3 : P3.length < 100)
    (hok : PathOK x ns)
    (ret : ∀ T c' oc' vs' t' ta h' tk', Fr h₀ L₀ h' m₀ → News h₀ L₀ h' ((T, tupO #[.bool (reachedB P1 P3 ns), .int ((ns.length : Nat) : Int) ta]) :: (196, tabObj (stepTab c')) :: (c', oc') :: rest) → oc'.data = .fields vs' → vs'[1]? = some (.str stepQual t') → s.heap.objs.size ≤ c' → c' < T → Q (.ref T) { s with heap := h', toks := tk' }) :
    wpAny (model PySem.Challenge.rw_ij0168_01.row.prog w) A (call (.ref 201) [.str x t, .ref lp]) Q E s := by
  have h196 : 196 ≠ L₀ := (N₀ _ (.head _)).2.1
  have h196' := Heap.lt_size (N₀ _ (.head _)).1
  obtain ⟨hd9, dp9, fr9, gs9, un9⟩ := A; obtain rfl : hd9 = none := G.hh
  revert G; k_fill; intro G
  (have mX := Gd.K G); (have mT := Gd.T G); (have mH := Gd.hh G); (have mU := Gd.uni G); (have mD := Gd.dep G)
  have mX9 := (Gd.keeps G F₀.keep).K
  refine' enterB (binds := [(Str.ofString "path", .str x t), (Str.ofString "parts", .ref lp)]) (Gd.keeps G F₀.keep) F₀ N₀ hL hL0 ?o_72 ?c_72 ?b_72 ?l_72 ?nd_72 ?_ ?c2_72 ?c3_72 ?c4_72
  (case o_72 => refine fnK mX9 ?_; k_dflt k_is)
  (case c_72 => refine codeK mX9 ?_; k_dflt k_is); (case b_72 => first | exact BindsTo.of_eq rfl | exact binds_K mX9 rfl (by k_is) rfl rfl rfl); (case l_72 => exact rfl); (case nd_72 => decide +kernel); (case c2_72 => exact rfl); (case c3_72 => exact rfl); (case c4_72 => exact rfl)
  clear mX9; intro L' h' tk' cells' hLs F' N' Y'; k_cells Y'; (try dsimp only); (try k_fold)
  rename_i oP hoP
  have hE : ∀ (n : Str) (sc : Scope) (c : Value) (cs : List (Str × Addr)), cellsFrom (L' + 1) sc.names [] = cs → envOfC n sc L' 201 c = envX n sc L' 201 c cs := by rintro _ _ _ _ rfl; rfl
  rw [hE _ _ _ [(Str.ofString "parts", L' + 1)]]
  rotate_left
  · exact rfl
  have N2 : News h₀ L' h' ((196, tabObj #[]) :: (L' + 1, oP) :: (L₀, oL) :: rest) := newsTake N' (.tail _ (.tail _ (.head _))) (newsTake N' (.head _) (newsTake N' (.tail _ (.head _)) (fun q hq => N' q (.tail _ (.tail _ (.tail _ hq))))))
  have hl6 : 196 < L' := Nat.lt_of_lt_of_le h196' hLs
  have hr' : ∀ q ∈ ((L' + 1, oP) :: (L₀, oL) :: rest), q.1 ≠ 196 := by
    intro q hq
    rcases List.mem_cons.mp hq with rfl | hq
    · exact Nat.ne_of_gt (Nat.lt_succ_of_lt hl6)
    rcases List.mem_cons.mp hq with rfl | hq
    · exact h196.symm
    · exact hr q hq
  clear N' hE
  k_steps
  (refine' nestDef_K ?d0 ?k0 ?a0 ?_; (case d0 => exact rfl); (case k0 => exact rfl); (case a0 => exact rfl))
  refine' nest_K F' N2 mT hC rfl (.head hr') ?tq ?nq ?clq ?_
  (case tq => kn_triples)
  (case nq => kn_among)
  (case clq => exact rfl)
  clear F' N2
  intro f' c' oc' vs' t' ct' dc' h' tk' F' N' d1' d2' l1 l2
  k_steps
  (with_reducible rename Fr _ _ _ _ => lF); (with_reducible rename News _ _ _ _ => lN)
  refine t_norm w (mean := mean) (mg := mg) (mb := mb) (loose := loose) x t ?_ hok.hx hok.hx0 hok.hp hok.hsz hok.hjo hok.hjl ?_
  · exact Gd.keeps (Gd.deeper (Gd.less G (by decide) (by decide)) _) lF.keep
  rintro _ h'' tk'' tt hk rfl
  have F1 := Fr.keeps lF hk
  have N1 := News.grown lN hk
  clear lF lN hk
  k_steps
  (with_reducible rename Fr _ _ _ _ => lF); (with_reducible rename News _ _ _ _ => lN)
  refine t_names w (mean := mean) (mg := mg) (mb := mb) (loose := loose) _ _ ns ?_ hok.hns hok.hnl ?_
  · exact Gd.keeps (Gd.deeper (Gd.less G (by decide) (by decide)) _) lF.keep
  intro rn wn cn h3 tk3 hk3 hg3 hn3 hS3n
  have F1 := Fr.keeps lF hk3
  have N1 := newsK lF lN hk3 hg3 hn3
  clear lF lN hk3 hg3 hn3
  k_steps
  (with_reducible rename Fr _ _ _ _ => lF); (with_reducible rename News _ _ _ _ => lN)
  refine t_passed w (mean := mean) (mg := mg) (mb := mb) (loose := loose) _ [.int 0 _] 0 [0] _ ?_ (lN.get (by k_mem)) (.cons _ _ .nil) ?_
  · exact Gd.keeps (Gd.deeper (Gd.less G (by decide) (by decide)) _) lF.keep
  intro r0 w0 c0 h4 tk4 hk4 hg4 hn4 hS4
  have F1 := Fr.keeps lF hk4
  have N1 := newsK lF lN hk4 hg4 hn4
  clear lF lN hk4 hg4 hn4
  k_steps
  (with_reducible rename Fr _ _ _ _ => lF); (with_reducible rename News _ _ _ _ => lN)
  have gf := lN.get (a := f') (by k_mem)
  have gc := lN.get (a := c') (by k_mem)
  have gP := lN.get (a := L' + 1) (by k_mem)
  have grest : ∀ q ∈ rest, Heap.get? _ q.1 = some q.2 := fun q hq => lN.get (by repeat (first | exact hq | apply List.Mem.tail))
  refine t_reduce w (mean := mean) (mg := mg) (mb := mb) (loose := loose) f' rn r0 wn w0 cn c0 ns (passedF [0]) (stepPF P1 P3) Small5 0 ?_ ⟨_, _, _, _, gf⟩ (lN.get (by k_mem)) hS3n (lN.get (by k_mem)) hS4 ?_ ?_ ?_ ?_
  · exact Gd.keeps (Gd.deeper (Gd.less G (by decide) (by decide)) _) lF.keep
  · show List.length _ ≤ 5; decide
  · intro ps y _ _; exact passedF_len _
  · clear lF lN
    have hoP2 : oP.data = .cell (some (.ref lp)) := hoP
    clear hoP
    intro A' s' Q' E' l vs n ps y ty G' kp hg hws hInv hy ret'
    replace gf := kp _ _ gf
    replace gc := kp _ _ gc
    replace gP := kp _ _ gP
    replace grest : ∀ q ∈ rest, s'.heap.get? q.1 = some q.2 := fun q hq => kp _ _ (grest q hq)
    obtain ⟨hd8, dp8, fr8, gs8, un8⟩ := A'
    obtain rfl : hd8 = none := G'.hh
    (have mX := Gd.K G'); (have mT := Gd.T G'); (have mH := Gd.hh G'); (have mU := Gd.uni G'); (have mD := Gd.dep G')
    refine enterS (a := Str.ofString "places") (b := Str.ofString "name") (v₁ := .ref l) (v₂ := .str y ty) G' gf ⟨_, _, _, _, rfl, gc, d1', d2'⟩ (BindsTo.of_eq rfl) rfl rfl (by decide) (by intros; rfl) (by intros; rfl) ?_ rfl rfl rfl
    intro L2 h5 tk5 oC F N hoC
    have hpz : ps.length ≤ sizeLine := by rw [sizeLine_eq]; exact Nat.le_trans hInv (by decide)
    have hwl := hws.length
    have hlp2 := grest _ hlp
    have hp12 := grest _ hp1
    have hp32 := grest _ hp3
    dsimp only at hlp2 hp12 hp32
    have hyl := hok.hnx y ‹_›
    k_steps
    (with_reducible rename Fr _ _ _ _ => lF); (with_reducible rename News _ _ _ _ => lN)
    refine compKL ps isInt1 isInt1 (fun k => ([0, 2] : List Int).any (· == k)) mH rfl rfl (.inl hg) (pairedInts hws) hpz lF lN ?_ ?_
    · clear lF lN
      intro k hk v9 C9 D9 I9 oC9 oI9 oD9 m9 h9 tk9 hv9 ho9 hn9 hm9 hk9 F9 N9 B9 hx9
      obtain ⟨t9, rfl⟩ := hv9
      constructor
      · refine wpAny_tests_one ?_
        k_steps
        all_goals (
          (with_reducible rename Fr _ _ _ _ => lF); (with_reducible rename News _ _ _ _ => lN)
          refine KTest.mk lF (fun q hq => lN q (by first | exact hq | exact .tail _ hq | exact .tail _ (.tail _ hq))) ?_
          simp only [*]; try rfl)
      · intro hp
        k_steps
        exact KElt.mk (by with_reducible assumption) (by with_reducible assumption) ⟨_, rfl⟩
    intro wa Ca Da ca ha tka hxa hPa Fa Na hDa h6 F6 N6
    clear lF lN Fa Na
    k_steps
    (with_reducible rename Fr _ _ _ _ => lF); (with_reducible rename News _ _ _ _ => lN)
    refine compKL ps isInt1 (fun k v => isInt1 (k + 1) v) (fun k => ([1, 3] : List Int).any (· == k) && takesB (if k = 1 then P1 else P3) y) mH rfl rfl (.inl hg) (pairedInts hws) hpz lF lN ?_ ?_
    · clear lF lN
      intro k hk v9 C9 D9 I9 oC9 oI9 oD9 m9 h9 tk9 hv9 ho9 hn9 hm9 hk9 F9 N9 B9 hx9
      obtain ⟨t9, rfl⟩ := hv9
      constructor
      · refine wpAny_tests_one ?_
        k_steps
        · have hk13 : k = 1 ∨ k = 3 := any13 ‹_›
          (with_reducible rename Fr _ _ _ _ => lF); (with_reducible rename News _ _ _ _ => lN)
          rcases hk13 with rfl | rfl
          · refine item_listL (memH lF hlp2) (by decide) (by decide) rfl ?_ (by with_unfolding_all rfl) (by intro _; with_unfolding_all rfl)
            k_steps
            (with_reducible rename Fr _ _ _ _ => lF); (with_reducible rename News _ _ _ _ => lN)
            refine t_takes w (mean := mean) (mg := mg) (mb := mb) (loose := loose) _ _ _ P1 y ty ?_ (lF.keep _ _ hp12) hS1 hyl hl1 ?_
            · exact Gd.keeps (Gd.deeper (Gd.less G' (by decide) (by decide)) _) lF.keep
            intro h'' tk'' hk''
            have F' := Fr.keeps lF hk''
            have N' := News.grown lN hk''
            clear lF lN
            k_steps
            all_goals exact KTest.mk F' (fun q hq => N' q (by first | exact hq | exact .tail _ hq | exact .tail _ (.tail _ hq))) (tkA (by assumption))
          · refine item_listL (memH lF hlp2) (by decide) (by decide) rfl ?_ (by with_unfolding_all rfl) (by intro _; with_unfolding_all rfl)
            k_steps
            (with_reducible rename Fr _ _ _ _ => lF); (with_reducible rename News _ _ _ _ => lN)
            refine t_takes w (mean := mean) (mg := mg) (mb := mb) (loose := loose) _ _ _ P3 y ty ?_ (lF.keep _ _ hp32) hS3 hyl hl3 ?_
            · exact Gd.keeps (Gd.deeper (Gd.less G' (by decide) (by decide)) _) lF.keep
            intro h'' tk'' hk''
            have F' := Fr.keeps lF hk''
            have N' := News.grown lN hk''
            clear lF lN
            k_steps
            all_goals exact KTest.mk F' (fun q hq => N' q (by first | exact hq | exact .tail _ hq | exact .tail _ (.tail _ hq))) (tkB (by assumption))
        · (with_reducible rename Fr _ _ _ _ => lF); (with_reducible rename News _ _ _ _ => lN)
          refine KTest.mk lF (fun q hq => lN q (by first | exact hq | exact .tail _ hq | exact .tail _ (.tail _ hq))) ?_
          simp only [*]; rfl
      · intro hp
        k_steps
        exact KElt.mk (by with_reducible assumption) (by with_reducible assumption) ⟨_, rfl⟩
    intro wb Cb Db cb hb tkb hxb hPb Fb Nb hDb h7 F7 N7
    clear lF lN Fb Nb
    k_steps
    (with_reducible rename Fr _ _ _ _ => lF); (with_reducible rename News _ _ _ _ => lN)
    have la : wa.length ≤ 5 := by rw [hPa.length]; exact Nat.le_trans (List.length_filter_le _ _) hInv
    have lb : wb.length ≤ 5 := by rw [hPb.length]; exact Nat.le_trans (List.length_filter_le _ _) hInv
    have hIa : IntsAre wa (ps.filter fun k => ([0, 2] : List Int).any (· == k)) := by
      have z := hPa.ints (f := fun k => k)
      simpa using z
    have hIb := hPb.ints (f := fun k => k + 1)
    refine addLists lF lN (memL lN (by k_mem)) (memL lN (by k_mem)) (by rw [sizeLine_eq]; omega) ?_
    intro D9 h8 F8 N8 l8
    clear lF lN
    k_steps
    (with_reducible rename Fr _ _ _ _ => lF); (with_reducible rename News _ _ _ _ => lN)
    refine t_passed w (mean := mean) (mg := mg) (mb := mb) (loose := loose) _ (wa ++ wb) 0 (thereF P1 P3 ps y) _ ?_ (lN.get (by k_mem)) (hIa.append hIb) ?_
    · exact Gd.keeps (Gd.deeper (Gd.less G' (by decide) (by decide)) _) lF.keep
    intro r9 w9 c9 h9 tk9 hk9 hg9 hn9 hS9
    have F' := Fr.keeps lF hk9
    have N' := newsK lF lN hk9 hg9 hn9
    clear lF lN
    k_steps
    (with_reducible rename Fr _ _ _ _ => lF)
    exact ret' _ _ _ _ _ lF.keep (N' _ (.head _)).1 (N' _ (.head _)).2.2 hS9
  · intro rz wz cz hz tkz hkz hgz hSz
    have F' := Fr.keeps lF hkz
    have N' := News.grown lN hkz
    clear lF lN
    have hwn := hS3n.length
    have hnl := hok.hnl
    refine in_list_ints (vs := wz) ⟨_, hgz, rfl, cz, rfl⟩ hSz ?_
    k_steps
    rename_i D9 h9 lF lN l9
    have lcD : c' < D9 := l9.2.2.2.2.1
    have lPc : L' + 1 < c' := l1 (L' + 1, oP) (.tail _ (.head _))
    have l0c : L₀ < c' := l1 (L₀, oL) (.tail _ (.tail _ (.head _)))
    have NN : News h₀ L' h9 ((D9, _) :: (196, tabObj (stepTab c')) :: (c', oc') :: rest) := newsTake lN (.head _) (newsTake lN (q := (196, tabObj (stepTab c'))) (by k_mem) (newsTake lN (q := (c', oc')) (by k_mem) (fun q hq => lN q (by repeat (first | exact hq | apply List.Mem.tail)))))
    rw [hwn] at NN
    refine ret _ c' oc' vs' t' _ _ _ (backFr F₀ hL lF lN (by repeat (first | exact .head _ | apply List.Mem.tail))) (fun q hq => ⟨(NN q hq).1, ?_, (NN q hq).2.2⟩) d1' d2' (by omega) lcD
    rcases List.mem_cons.mp hq with rfl | hq
    · exact Nat.ne_of_gt (Nat.lt_trans l0c lcD)
    rcases List.mem_cons.mp hq with rfl | hq
    · exact h196
    rcases List.mem_cons.mp hq with rfl | hq
    · exact Nat.ne_of_gt l0c
    · exact (N₀ q (.tail _ hq)).2.1

theorem fresh39 : True := by
  w_top off
  exact trivial
theorem t_reached2 (w : World) {mean : ExcName → Option Value} {mg mb : Str → Option Value} {loose : List Str} {A : Around} {s : Shared} {Q E : Value → Shared → Prop} {h₀ : Heap} {L₀ : Addr} {m₀ : Str → Option Value} {rest : List (Addr × Obj)} {oL oc' : Obj} {c' : Addr} {vs' : Array Value} {t' : Tok} (d1' : oc'.data = .fields vs') (d2' : vs'[1]? = some (.str stepQual t')) (hc' : (c', oc') ∈ rest)
    (x : Str) (t : Tok) (lp e0 p1 e2 p3 : Addr) (np n1 n3 : Nat) (v1 v3 : List Value) (P1 P3 : List PK) (ns : List Str)
    (G : Gd (hd.heap_1 w.params) topProg loose mean mg mb A h₀ 200 4000) (hC : CodeHd h₀ 200 196) (F₀ : Fr h₀ L₀ s.heap m₀) (N₀ : News h₀ L₀ s.heap ((196, tabObj (stepTab c')) :: rest)) (hr : ∀ q ∈ rest, q.1 ≠ 196) (hL : s.heap.get? L₀ = some oL) (hL0 : h₀.get? L₀ = none)
    (hlp : (lp, listOf ([.ref e0, .ref p1, .ref e2, .ref p3] : List Value).toArray np) ∈ rest) (hp1 : (p1, listOf v1.toArray n1) ∈ rest) (hS1 : StrsAre v1 (P1.map PK.str)) (hp3 : (p3, listOf v3.toArray n3) ∈ rest) (hS3 : StrsAre v3 (P3.map PK.str)) (hl1 : P1.length < 100) (hl3 : P3.length < 100)
    (hok : PathOK x ns)
    (ret : ∀ T ta h' tk', Fr h₀ L₀ h' m₀ → News h₀ L₀ h' ((T, tupO #[.bool (reachedB P1 P3 ns), .int ((ns.length : Nat) : Int) ta]) :: (196, tabObj (stepTab c')) :: rest) → s.heap.objs.size ≤ T → Q (.ref T) { s with heap := h', toks := tk' }) :
    wpAny (model PySem.Challenge.rw_ij0168_01.row.prog w) A (call (.ref 201) [.str x t, .ref lp]) Q E s := by
  have h196 : 196 ≠ L₀ := (N₀ _ (.head _)).2.1
  have h196' := Heap.lt_size (N₀ _ (.head _)).1
  obtain ⟨hd9, dp9, fr9, gs9, un9⟩ := A; obtain rfl : hd9 = none := G.hh
  revert G; k_fill; intro G
  (have mX := Gd.K G); (have mT := Gd.T G); (have mH := Gd.hh G); (have mU := Gd.uni G); (have mD := Gd.dep G)
  have mX9 := (Gd.keeps G F₀.keep).K
  refine' enterB (binds := [(Str.ofString "path", .str x t), (Str.ofString "parts", .ref lp)]) (Gd.keeps G F₀.keep) F₀ N₀ hL hL0 ?o_73 ?c_73 ?b_73 ?l_73 ?nd_73 ?_ ?c2_73 ?c3_73 ?c4_73
  (case o_73 => refine fnK mX9 ?_; k_dflt k_is)
  (case c_73 => refine codeK mX9 ?_; k_dflt k_is); (case b_73 => first | exact BindsTo.of_eq rfl | exact binds_K mX9 rfl (by k_is) rfl rfl rfl); (case l_73 => exact rfl); (case nd_73 => decide +kernel); (case c2_73 => exact rfl); (case c3_73 => exact rfl); (case c4_73 => exact rfl)
  clear mX9; intro L' h' tk' cells' hLs F' N' Y'; k_cells Y'; (try dsimp only); (try k_fold)
  rename_i oP hoP
  have hE : ∀ (n : Str) (sc : Scope) (c : Value) (cs : List (Str × Addr)), cellsFrom (L' + 1) sc.names [] = cs → envOfC n sc L' 201 c = envX n sc L' 201 c cs := by rintro _ _ _ _ rfl; rfl
  rw [hE _ _ _ [(Str.ofString "parts", L' + 1)]]
  rotate_left
  · exact rfl
  have N2 : News h₀ L' h' ((196, tabObj (stepTab c')) :: (L' + 1, oP) :: (L₀, oL) :: rest) := newsTake N' (.tail _ (.tail _ (.head _))) (newsTake N' (.head _) (newsTake N' (.tail _ (.head _)) (fun q hq => N' q (.tail _ (.tail _ (.tail _ hq))))))
  have hl6 : 196 < L' := Nat.lt_of_lt_of_le h196' hLs
  have hr' : ∀ q ∈ ((L' + 1, oP) :: (L₀, oL) :: rest), q.1 ≠ 196 := by
    intro q hq
    rcases List.mem_cons.mp hq with rfl | hq
    · exact Nat.ne_of_gt (Nat.lt_succ_of_lt hl6)
    rcases List.mem_cons.mp hq with rfl | hq
    · exact h196.symm
    · exact hr q hq
  have hC9 : XRet (CodeHd h₀ 200 196) := hC
  clear N' hE hC
  k_steps
  (refine' nestDef_K ?d0 ?k0 ?a0 ?_; (case d0 => exact rfl); (case k0 => exact rfl); (case a0 => exact rfl))
  refine' nestHit_K F' N2 mT (XRet.out hC9) rfl (.head _) ?tq ?nq ?clq ?_
  (case tq => (unfold stepTab; kn_triples))
  (case nq => (unfold stepTab; kn_hit))
  (case clq => exact rfl)
  clear F' N2
  intro f' ct' dc' h' tk' F' N' l1
  k_steps
  (with_reducible rename Fr _ _ _ _ => lF); (with_reducible rename News _ _ _ _ => lN)
  refine t_norm w (mean := mean) (mg := mg) (mb := mb) (loose := loose) x t ?_ hok.hx hok.hx0 hok.hp hok.hsz hok.hjo hok.hjl ?_
  · exact Gd.keeps (Gd.deeper (Gd.less G (by decide) (by decide)) _) lF.keep
  rintro _ h'' tk'' tt hk rfl
  have F1 := Fr.keeps lF hk
  have N1 := News.grown lN hk
  clear lF lN hk
  k_steps
  (with_reducible rename Fr _ _ _ _ => lF); (with_reducible rename News _ _ _ _ => lN)
  refine t_names w (mean := mean) (mg := mg) (mb := mb) (loose := loose) _ _ ns ?_ hok.hns hok.hnl ?_
  · exact Gd.keeps (Gd.deeper (Gd.less G (by decide) (by decide)) _) lF.keep
  intro rn wn cn h3 tk3 hk3 hg3 hn3 hS3n
  have F1 := Fr.keeps lF hk3
  have N1 := newsK lF lN hk3 hg3 hn3
  clear lF lN hk3 hg3 hn3
  k_steps
  (with_reducible rename Fr _ _ _ _ => lF); (with_reducible rename News _ _ _ _ => lN)
  refine t_passed w (mean := mean) (mg := mg) (mb := mb) (loose := loose) _ [.int 0 _] 0 [0] _ ?_ (lN.get (by k_mem)) (.cons _ _ .nil) ?_
  · exact Gd.keeps (Gd.deeper (Gd.less G (by decide) (by decide)) _) lF.keep
  intro r0 w0 c0 h4 tk4 hk4 hg4 hn4 hS4
  have F1 := Fr.keeps lF hk4
  have N1 := newsK lF lN hk4 hg4 hn4
  clear lF lN hk4 hg4 hn4
  k_steps
  (with_reducible rename Fr _ _ _ _ => lF); (with_reducible rename News _ _ _ _ => lN)
  have gf := lN.get (a := f') (by k_mem)
  have gc := lN.get (a := c') (o := oc') (by repeat (first | exact hc' | apply List.Mem.tail))
  have gP := lN.get (a := L' + 1) (by k_mem)
  have grest : ∀ q ∈ rest, Heap.get? _ q.1 = some q.2 := fun q hq => lN.get (by repeat (first | exact hq | apply List.Mem.tail))
  refine t_reduce w (mean := mean) (mg := mg) (mb := mb) (loose := loose) f' rn r0 wn w0 cn c0 ns (passedF [0]) (stepPF P1 P3) Small5 0 ?_ ⟨_, _, _, _, gf⟩ (lN.get (by k_mem)) hS3n (lN.get (by k_mem)) hS4 ?_ ?_ ?_ ?_
  · exact Gd.keeps (Gd.deeper (Gd.less G (by decide) (by decide)) _) lF.keep
  · show List.length _ ≤ 5; decide
  · intro ps y _ _; exact passedF_len _
  · clear lF lN
    have hoP2 : oP.data = .cell (some (.ref lp)) := hoP
    clear hoP
    intro A' s' Q' E' l vs n ps y ty G' kp hg hws hInv hy ret'
    replace gf := kp _ _ gf
    replace gc := kp _ _ gc
    replace gP := kp _ _ gP
    replace grest : ∀ q ∈ rest, s'.heap.get? q.1 = some q.2 := fun q hq => kp _ _ (grest q hq)
    obtain ⟨hd8, dp8, fr8, gs8, un8⟩ := A'
    obtain rfl : hd8 = none := G'.hh
    (have mX := Gd.K G'); (have mT := Gd.T G'); (have mH := Gd.hh G'); (have mU := Gd.uni G'); (have mD := Gd.dep G')
    refine enterS (a := Str.ofString "places") (b := Str.ofString "name") (v₁ := .ref l) (v₂ := .str y ty) G' gf ⟨_, _, _, _, rfl, gc, d1', d2'⟩ (BindsTo.of_eq rfl) rfl rfl (by decide) (by intros; rfl) (by intros; rfl) ?_ rfl rfl rfl
    intro L2 h5 tk5 oC F N hoC
    have hpz : ps.length ≤ sizeLine := by rw [sizeLine_eq]; exact Nat.le_trans hInv (by decide)
    have hwl := hws.length
    have hlp2 := grest _ hlp
    have hp12 := grest _ hp1
    have hp32 := grest _ hp3
    dsimp only at hlp2 hp12 hp32
    have hyl := hok.hnx y ‹_›
    k_steps
    (with_reducible rename Fr _ _ _ _ => lF); (with_reducible rename News _ _ _ _ => lN)
    refine compKL ps isInt1 isInt1 (fun k => ([0, 2] : List Int).any (· == k)) mH rfl rfl (.inl hg) (pairedInts hws) hpz lF lN ?_ ?_
    · clear lF lN
      intro k hk v9 C9 D9 I9 oC9 oI9 oD9 m9 h9 tk9 hv9 ho9 hn9 hm9 hk9 F9 N9 B9 hx9
      obtain ⟨t9, rfl⟩ := hv9
      constructor
      · refine wpAny_tests_one ?_
        k_steps
        all_goals (
          (with_reducible rename Fr _ _ _ _ => lF); (with_reducible rename News _ _ _ _ => lN)
          refine KTest.mk lF (fun q hq => lN q (by first | exact hq | exact .tail _ hq | exact .tail _ (.tail _ hq))) ?_
          simp only [*]; try rfl)
      · intro hp
        k_steps
        exact KElt.mk (by with_reducible assumption) (by with_reducible assumption) ⟨_, rfl⟩
    intro wa Ca Da ca ha tka hxa hPa Fa Na hDa h6 F6 N6
    clear lF lN Fa Na
    k_steps
    (with_reducible rename Fr _ _ _ _ => lF); (with_reducible rename News _ _ _ _ => lN)
    refine compKL ps isInt1 (fun k v => isInt1 (k + 1) v) (fun k => ([1, 3] : List Int).any (· == k) && takesB (if k = 1 then P1 else P3) y) mH rfl rfl (.inl hg) (pairedInts hws) hpz lF lN ?_ ?_
    · clear lF lN
      intro k hk v9 C9 D9 I9 oC9 oI9 oD9 m9 h9 tk9 hv9 ho9 hn9 hm9 hk9 F9 N9 B9 hx9
      obtain ⟨t9, rfl⟩ := hv9
      constructor
      · refine wpAny_tests_one ?_
        k_steps
        · have hk13 : k = 1 ∨ k = 3 := any13 ‹_›
          (with_reducible rename Fr _ _ _ _ => lF); (with_reducible rename News _ _ _ _ => lN)
          rcases hk13 with rfl | rfl
          · refine item_listL (memH lF hlp2) (by decide) (by decide) rfl ?_ (by with_unfolding_all rfl) (by intro _; with_unfolding_all rfl)
            k_steps
            (with_reducible rename Fr _ _ _ _ => lF); (with_reducible rename News _ _ _ _ => lN)
            refine t_takes w (mean := mean) (mg := mg) (mb := mb) (loose := loose) _ _ _ P1 y ty ?_ (lF.keep _ _ hp12) hS1 hyl hl1 ?_
            · exact Gd.keeps (Gd.deeper (Gd.less G' (by decide) (by decide)) _) lF.keep
            intro h'' tk'' hk''
            have F' := Fr.keeps lF hk''
            have N' := News.grown lN hk''
            clear lF lN
            k_steps
            all_goals exact KTest.mk F' (fun q hq => N' q (by first | exact hq | exact .tail _ hq | exact .tail _ (.tail _ hq))) (tkA (by assumption))
          · refine item_listL (memH lF hlp2) (by decide) (by decide) rfl ?_ (by with_unfolding_all rfl) (by intro _; with_unfolding_all rfl)
            k_steps
            (with_reducible rename Fr _ _ _ _ => lF); (with_reducible rename News _ _ _ _ => lN)
            refine t_takes w (mean := mean) (mg := mg) (mb := mb) (loose := loose) _ _ _ P3 y ty ?_ (lF.keep _ _ hp32) hS3 hyl hl3 ?_
            · exact Gd.keeps (Gd.deeper (Gd.less G' (by decide) (by decide)) _) lF.keep
            intro h'' tk'' hk''
            have F' := Fr.keeps lF hk''
            have N' := News.grown lN hk''
            clear lF lN
            k_steps
            all_goals exact KTest.mk F' (fun q hq => N' q (by first | exact hq | exact .tail _ hq | exact .tail _ (.tail _ hq))) (tkB (by assumption))
        · (with_reducible rename Fr _ _ _ _ => lF); (with_reducible rename News _ _ _ _ => lN)
          refine KTest.mk lF (fun q hq => lN q (by first | exact hq | exact .tail _ hq | exact .tail _ (.tail _ hq))) ?_
          simp only [*]; rfl
      · intro hp
        k_steps
        exact KElt.mk (by with_reducible assumption) (by with_reducible assumption) ⟨_, rfl⟩
    intro wb Cb Db cb hb tkb hxb hPb Fb Nb hDb h7 F7 N7
    clear lF lN Fb Nb
    k_steps
    (with_reducible rename Fr _ _ _ _ => lF); (with_reducible rename News _ _ _ _ => lN)
    have la : wa.length ≤ 5 := by rw [hPa.length]; exact Nat.le_trans (List.length_filter_le _ _) hInv
    have lb : wb.length ≤ 5 := by rw [hPb.length]; exact Nat.le_trans (List.length_filter_le _ _) hInv
    have hIa : IntsAre wa (ps.filter fun k => ([0, 2] : List Int).any (· == k)) := by
      have z := hPa.ints (f := fun k => k)
      simpa using z
    have hIb := hPb.ints (f := fun k => k + 1)
    refine addLists lF lN (memL lN (by k_mem)) (memL lN (by k_mem)) (by rw [sizeLine_eq]; omega) ?_
    intro D9 h8 F8 N8 l8
    clear lF lN
    k_steps
    (with_reducible rename Fr _ _ _ _ => lF); (with_reducible rename News _ _ _ _ => lN)
    refine t_passed w (mean := mean) (mg := mg) (mb := mb) (loose := loose) _ (wa ++ wb) 0 (thereF P1 P3 ps y) _ ?_ (lN.get (by k_mem)) (hIa.append hIb) ?_
    · exact Gd.keeps (Gd.deeper (Gd.less G' (by decide) (by decide)) _) lF.keep
    intro r9 w9 c9 h9 tk9 hk9 hg9 hn9 hS9
    have F' := Fr.keeps lF hk9
    have N' := newsK lF lN hk9 hg9 hn9
    clear lF lN
    k_steps
    (with_reducible rename Fr _ _ _ _ => lF)
    exact ret' _ _ _ _ _ lF.keep (N' _ (.head _)).1 (N' _ (.head _)).2.2 hS9
  · intro rz wz cz hz tkz hkz hgz hSz
    have F' := Fr.keeps lF hkz
    have N' := News.grown lN hkz
    clear lF lN
    have hwn := hS3n.length
    have hnl := hok.hnl
    refine in_list_ints (vs := wz) ⟨_, hgz, rfl, cz, rfl⟩ hSz ?_
    k_steps
    rename_i D9 h9 lF lN l9
    have lf : L' + 1 < f' := l1 (L' + 1, oP) (.tail _ (.head _))
    have l0f : L₀ < f' := l1 (L₀, oL) (.tail _ (.tail _ (.head _)))
    have lfD : f' < D9 := l9.2.2.2.1
    have NN : News h₀ L' h9 ((D9, _) :: (196, tabObj (stepTab c')) :: rest) := newsTake lN (.head _) (newsTake lN (q := (196, tabObj (stepTab c'))) (by k_mem) (fun q hq => lN q (by repeat (first | exact hq | apply List.Mem.tail))))
    rw [hwn] at NN
    refine ret _ _ _ _ (backFr F₀ hL lF lN (by repeat (first | exact .head _ | apply List.Mem.tail))) (fun q hq => ⟨(NN q hq).1, ?_, (NN q hq).2.2⟩) (by omega)
    rcases List.mem_cons.mp hq with rfl | hq
    · exact Nat.ne_of_gt (Nat.lt_trans l0f lfD)
    rcases List.mem_cons.mp hq with rfl | hq
    · exact h196
    · exact (N₀ q (.tail _ hq)).2.1

theorem fresh40 : True := by
  w_top off
  exact trivial
section
section
variable {prog : Program} {w : World} {A : Around} {E : Value → Shared → Prop} {s : Shared} {h₀ : Heap} {L : Addr} {m : Str → Option Value} {news : List (Addr × Obj)} {a : Addr} {vs : List Value} {Q : Value → Shared → Prop}
theorem stepSlice {value slice : PySem.Expr} {vl vu vst : Value} {lo hi st : Option Int} {ns : List Int} (F : Fr h₀ L s.heap m) (N : News h₀ L s.heap news) (hl : s.heap.IsList a vs.toArray) (hi' : IntsAre vs ns) (pl : IsPart vl lo) (pu : IsPart vu hi) (ps : IsPart vst st) (h0 : st ≠ some 0)
    (h : ∀ D ws h', Fr h₀ L h' m → News h₀ L h' ((D, listOf (List.toArray ws) 0) :: news) → (∀ p ∈ news, p.1 < D) → IntsAre ws (pickNums ns lo hi st) → Q (.ref D) { s with heap := h' })
    (hs : subscripted slice false (.ref a) (.ref s.heap.objs.size) = operate [.ref a, .ref s.heap.objs.size] (getItem (.ref a) (.ref s.heap.objs.size))) (ht : ∀ r, letTemporaryGo value (.ref a) r = pure ()) (hz : vs.length ≤ sizeLine) :
    wpAny (model prog w) A (subscriptTail value slice (.ref a) (.ref s.heap.objs.size)) Q E { s with heap := s.heap.push { cls := .type "slice", data := .fields #[vl, vu, vst] } } := by
  refine subscriptTail_ops (Heap.IsList.typeIs (s := { s with heap := s.heap.push { cls := .type "slice", data := .fields #[vl, vu, vst] } }) (hl.push _)) list_getitem_lookup
    (wpAny_getItem_list_slice (hl.push _) (Heap.IsSliceOf.new ..) pl pu ps h0 ?_ (by rw [List.size_toArray]; exact hz)) hs ht
  have N1 := News.push (F.push { cls := .type "slice", data := .fields #[vl, vu, vst] }) (N.grown fun _ _ e => Heap.get?_push_of_some _ e) { cls := .type "list", data := .seq (slicePick vs.toArray lo hi st) }
  rw [Heap.size_push] at N1
  show Q (.ref (s.heap.push _).objs.size) _
  rw [Heap.size_push]
  refine h _ (slicePick vs.toArray lo hi st).toList _ ((F.push _).push _) ?_ (fun p hp => Nat.lt_succ_of_lt (Heap.lt_size (N p hp).1)) (hi'.pick lo hi st)
  simpa using N1
end

end
section
theorem fresh41 : True := by
  w_top off
  exact trivial
def fixedF : Nat → List Str
  | 0 => [Str.ofString "a", Str.ofString ".", Str.ofString "ab", Str.ofString "..", Str.ofString "b"]
  | 1 => [Str.ofString "ab", Str.ofString "ab", Str.ofString "..", Str.ofString "..", Str.ofString ".."]
  | _ => [Str.ofString "ab", Str.ofString "", Str.ofString "ab"]
def pieceL : List Str := [Str.ofString "a", Str.ofString "ab", Str.ofString "b", Str.ofString ".", Str.ofString "..", Str.ofString ""]
def pieceF (n : Int) : Str := pieceL.getD (n.fmod 6).toNat (Str.ofString "")
theorem pieceF_of {n j : Int} (h : n.fmod 6 = j) : pieceF n = pieceL.getD j.toNat (Str.ofString "") := by subst h; rfl
def drawnF (ns : List Int) (j : Nat) : List Str := fixedF j ++ (pickNums ns (some (j : Int)) none (some 3)).map pieceF
def PathsJ (base : List (Addr × Obj)) (ns : List Int) (i : Nat) (acc : List Value) (news : List (Addr × Obj)) : Prop :=
  ∃ es : List (Addr × Obj), news = base ++ es ∧ es.length = i ∧ acc = es.map (fun e => Value.ref e.1) ∧ ∀ j e, es[j]? = some e → ∃ ws c, e.2 = listOf (List.toArray ws) c ∧ StrsAre ws (drawnF ns j)
theorem PathsJ.step {base es : List (Addr × Obj)} {ns : List Int} {i : Nat} {D : Addr} {ws : List Value} {c : Nat} (hlen : es.length = i) (hes : ∀ j e, es[j]? = some e → ∃ ws c, e.2 = listOf (List.toArray ws) c ∧ StrsAre ws (drawnF ns j)) (hS : StrsAre ws (drawnF ns i)) :
    PathsJ base ns (i + 1) (es.map (fun e => Value.ref e.1) ++ [.ref D]) (base ++ (es ++ [(D, listOf ws.toArray c)])) := by
  refine ⟨_, rfl, by rw [List.length_append, hlen]; rfl, by rw [List.map_append]; rfl, fun j e he => ?_⟩
  by_cases hj : j < es.length
  · rw [List.getElem?_append_left hj] at he; exact hes j e he
  · rw [List.getElem?_append_right (by omega)] at he
    have h0 : j - es.length = 0 := by
      cases q : j - es.length with
      | zero => rfl
      | succ k => rw [q] at he; simp at he
    rw [h0] at he
    cases he
    have : j = i := by omega
    exact ⟨ws, c, rfl, this ▸ hS⟩
theorem newsSnoc {h₀ h : Heap} {L D : Addr} {o : Obj} {led base es : List (Addr × Obj)} (N : News h₀ L h led) (hs : ∀ q ∈ base ++ es, q ∈ led) (hm : (D, o) ∈ led) : News h₀ L h (base ++ (es ++ [(D, o)])) := fun q hq => by
  rw [← List.append_assoc] at hq
  rcases List.mem_append.mp hq with hq | hq
  · exact N q (hs q hq)
  · rw [List.mem_singleton.mp hq]; exact N _ hm
theorem offSnoc {C I D D' : Addr} {o : Obj} {base es : List (Addr × Obj)} (ho : ∀ q ∈ base ++ es, q.1 ≠ C ∧ q.1 ≠ I ∧ q.1 ≠ D) (h : D' ≠ C ∧ D' ≠ I ∧ D' ≠ D) : ∀ q ∈ base ++ (es ++ [(D', o)]), q.1 ≠ C ∧ q.1 ≠ I ∧ q.1 ≠ D := fun q hq => by
  rw [← List.append_assoc] at hq
  rcases List.mem_append.mp hq with hq | hq
  · exact ho q hq
  · rw [List.mem_singleton.mp hq]; exact h
local macro_rules | `(tactic| walk_at "subscriptTail Name Slice ref ref") => `(tactic| (k_here; (with_reducible show wpAny _ _ (subscriptTail _ (PySem.Expr.Slice _ _ (some _) _) (Value.ref _) (Value.ref _)) _ _ _); refine hold ?_))
theorem t_paths (w : World) {mean : ExcName → Option Value} {mg mb : Str → Option Value} {loose : List Str} {A : Around} {s : Shared} {Q E : Value → Shared → Prop} (l : Addr) (vs : List Value) (n : Nat) (ns : List Int)
    (G : Gd (hd.heap_1 w.params) topProg loose mean mg mb A s.heap 20 400) (hl : s.heap.get? l = some (listOf vs.toArray n)) (hI : IntsAre vs ns) (hz : ns.length ≤ 12)
    (ret : ∀ r (es : List (Addr × Obj)) c h' tk', Kp s.heap h' → h'.get? r = some (listOf (List.toArray (es.map fun (e : Addr × Obj) => Value.ref e.1)) c) → s.heap.get? r = none → es.length = 3 → (∀ e ∈ es, h'.get? e.1 = some e.2 ∧ s.heap.get? e.1 = none ∧ e.1 ≠ r) →
      (∀ j e, es[j]? = some e → ∃ ws c, e.2 = listOf (List.toArray ws) c ∧ StrsAre ws (drawnF ns j)) → Q (.ref r) { s with heap := h', toks := tk' }) :
    wpAny (model PySem.Challenge.rw_ij0168_01.row.prog w) A (call (.ref 218) [.ref l]) Q E s := by
  have hvl := hI.length
  obtain ⟨hd9, dp9, fr9, gs9, un9⟩ := A; obtain rfl : hd9 = none := G.hh
  revert G; k_fill; intro G
  (have mX := Gd.K G); (have mT := Gd.T G); (have mH := Gd.hh G); (have mU := Gd.uni G); (have mD := Gd.dep G)
  refine' enterC (binds := [(Str.ofString "script", .ref l)]) G ?o_76 ?c_76 ?b_76 ?l_76 ?nd_76 ?_ ?c2_76 ?c3_76 ?c4_76
  (case o_76 => refine fnK mX ?_; k_dflt k_is)
  (case c_76 => refine codeK mX ?_; k_dflt k_is); (case b_76 => first | exact BindsTo.of_eq rfl | exact binds_K mX rfl (by k_is) rfl rfl rfl); (case l_76 => exact rfl); (case nd_76 => decide +kernel); (case c2_76 => exact rfl); (case c3_76 => exact rfl); (case c4_76 => exact rfl)
  intro L' h' tk' cells' F' N' Y'; k_cells Y'; (try dsimp only); (try k_fold)
  k_steps
  (with_reducible rename Fr _ _ _ _ => lF); (with_reducible rename News _ _ _ _ => lN)
  refine compR (n := 3) (PathsJ _ ns) mH (by assumption) (by decide) (by decide) (by decide) lF lN ⟨[], (List.append_nil _).symm, rfl, rfl, fun j e h => by simp at h⟩ ?_ ?_
  · clear lF lN
    intro i v acc news₁ hi hv hJ hal C D I oC oI oD m₃ h tk ho c1 c2 c3 F N B hx
    obtain ⟨tv, rfl⟩ := hv
    obtain ⟨es, rfl, hlen, rfl, hes⟩ := hJ
    refine wpAny_tests_nil ?_
    rw [if_pos rfl]
    dsimp only [List.cons_append, List.nil_append] at N ho
    have hi3 : i = 0 ∨ i = 1 ∨ i = 2 := by omega
    rcases hi3 with rfl | rfl | rfl
    all_goals (
      first
        | (have hx' : m₃ (Str.ofString "k") = some (.int 0 tv) := hx)
        | (have hx' : m₃ (Str.ofString "k") = some (.int 1 tv) := hx)
        | (have hx' : m₃ (Str.ofString "k") = some (.int 2 tv) := hx)
      clear hx
      k_steps
      unfold Hold
      refine' stepSlice ?F_9 ?N_9 ?l_9 ?i_9 ?p_9 ?q_9 ?st_9 ?h0_9 ?_ ?s_9 ?t_9 ?z_9
      (case F_9 => k_asm)
      (case N_9 => k_asm)
      (case l_9 => first | exact memL (by k_asm) (by k_mem) | exact memH (by k_asm) (by assumption))
      (case i_9 => assumption)
      (case p_9 => kmk_part)
      (case q_9 => kmk_part)
      (case st_9 => kmk_part)
      (case h0_9 => decide)
      (case s_9 => with_unfolding_all rfl)
      (case t_9 => kmk_pure)
      (case z_9 => (rw [sizeLine_eq]; omega))
      intro D7 w7 h7 F7 N7 l7 hI7
      have hp7 : ∀ lo, (pickNums ns lo none (some 3)).length ≤ 12 := fun lo => Nat.le_trans (length_pickNums_le hI _ _ _) hz
      refine compKL _ isInt1 (fun n v => isStr1 (pieceF n) v) (fun _ => true) mH rfl rfl (.inr (by k_mem)) (pairedInts hI7) (by rw [sizeLine_eq]; exact Nat.le_trans (hp7 _) (by decide)) F7 N7 ?_ ?_
      · clear F N F7 N7
        intro k hk v9 C9 D9 I9 oC9 oI9 oD9 m9 h9 tk9 hv9 ho9 hn9 hm9 hk9 F9 N9 B9 hx9
        obtain ⟨t9, rfl⟩ := hv9
        constructor
        · refine wpAny_tests_nil ?_
          exact KTest.mk F9 N9 rfl
        · intro hp
          k_steps
          all_goals exact KElt.mk (by with_reducible assumption) (by with_reducible assumption) ⟨_, by rw [pieceF_of (by assumption)]; rfl⟩
      · intro wa Ca Da ca ha tka hxa hPa Fa Na hDa h6 F6 N6
        clear F N F7 N7 Fa Na
        k_steps
        (with_reducible rename Fr _ _ _ _ => lF); (with_reducible rename News _ _ _ _ => lN)
        have hla : wa.length ≤ 12 := by rw [hPa.length]; exact Nat.le_trans (List.length_filter_le _ _) (hp7 _)
        refine addLists lF lN ((by first | exact memL (vs := [_, _, _, _, _]) lN (by k_mem) | exact memL (vs := [_, _, _]) lN (by k_mem))) (memL lN (by k_mem)) (by rw [sizeLine_eq]; simp only [List.length_cons, List.length_nil]; omega) ?_
        intro D8 h8 F8 N8 l8
        have hIa := hPa.strs (f := pieceF)
        have lC : C < D8 := l8 (C, oC) (by k_mem)
        have lI : I < D8 := l8 (I, oI) (by k_mem)
        have lD : D < D8 := l8 (D, oD) (by k_mem)
        refine compEnd (hJ := PathsJ.step (c := 0) hlen hes ?_) F8 (N₂ := newsSnoc N8 (fun q hq => by repeat (first | exact hq | apply List.Mem.tail)) (by k_mem)) N8 (by k_mem) (by k_mem) (by k_mem) (offSnoc ho ⟨Nat.ne_of_gt lC, Nat.ne_of_gt lI, Nat.ne_of_gt lD⟩)
        have e7 : ∀ xs : List Int, xs.filter (fun _ => true) = xs := fun xs => List.filter_eq_self.mpr fun _ _ => rfl
        rw [e7] at hIa
        exact StrsAre.append' (by repeat (first | exact StrsAre.nil | refine StrsAre.cons _ _ ?_)) hIa)
  · rintro acc news₁ C D c h tk hx ⟨es, rfl, hlen, rfl, hes⟩ F N hD h' F'' N''
    clear lF lN F N
    k_steps
    refine ret D es c h' _ F''.keep (N'' _ (.head _)).1 (N'' _ (.head _)).2.2 hlen (fun e he => ?_) hes
    have hm := N'' e (by repeat (first | exact he | apply List.Mem.tail))
    exact ⟨hm.1, hm.2.2, hD e (by repeat (first | exact he | apply List.Mem.tail))⟩

end
theorem fresh42 : True := by
  w_top off
  exact trivial
def NeA (a b : Nat) : Prop := a ≠ b
theorem NeA.out {a b : Nat} (h : NeA a b) : a ≠ b := h
theorem neK1 {h₀ h : Heap} {L a l : Addr} {o : Obj} {news : List (Addr × Obj)} (N : News h₀ L h news) (hm : (a, o) ∈ news) (hl : h.get? l = none) : NeA a l := neK N hl _ hm
theorem three {α : Type} {l : List α} (h : l.length = 3) : ∃ a b c, l = [a, b, c] := by
  match l, h with
  | [a, b, c], _ => exact ⟨a, b, c, rfl⟩
def patOf : Nat → Str
  | 0 => Str.ofString "*b"
  | 1 => Str.ofString "?"
  | 2 => Str.ofString "a*"
  | _ => Str.ofString "[!a]*"
def itemsOf : Nat → List Str
  | 0 => [Str.ofString "any", Str.ofString "b"]
  | 1 => [Str.ofString "ab."]
  | 2 => [Str.ofString "a", Str.ofString "any"]
  | _ => [Str.ofString "b.", Str.ofString "any"]
def pksOf : Nat → List PK
  | 0 => [.star, .ch true]
  | 1 => [.q]
  | 2 => [.ch false, .star]
  | _ => [.nota, .star]
theorem neO {h₀ h : Heap} {L a b : Addr} {o o' : Obj} {news : List (Addr × Obj)} (N : News h₀ L h news) (ha : (a, o) ∈ news) (hb : (b, o') ∈ news) (hc : o.data ≠ o'.data) : ¬ @Eq Nat a b := fun e => by
  subst e
  have := (N.get ha).symm.trans (N.get hb)
  cases this
  exact hc rfl
theorem neCell {h₀ h : Heap} {L a b : Addr} {o o' : Obj} {v : Option Value} {news : List (Addr × Obj)} (N : News h₀ L h news) (ha : (a, o) ∈ news) (hc : o.data = .cell v) (hb : (b, o') ∈ news) (hs : ∀ v, o'.data ≠ .cell v) : NeA a b := neO N ha hb fun e => hs v (e.symm.trans hc)
def MenuE (led : List (Addr × Obj)) (tab : List Value) (k : Nat) : Prop :=
  ∃ D l t ws n, tab[k]? = some (.ref D) ∧ (D, tupO #[.str (patOf k) t, .ref l]) ∈ led ∧ (l, listOf (List.toArray ws) n) ∈ led ∧ StrsAre ws (itemsOf k)
theorem menuM {h₀ h : Heap} {L : Addr} {led : List (Addr × Obj)} {D0 D1 D2 D3 l0 l1 l2 l3 : Addr} {t0 t1 t2 t3 u0 u1 u2 u3 u4 u5 u6 : Tok} {n0 n1 n2 n3 : Nat}
    (_N : News h₀ L h led) (m0 : (D0, tupO #[.str (Str.ofString "*b") t0, .ref l0]) ∈ led) (k0 : (l0, listOf #[.str (Str.ofString "any") u0, .str (Str.ofString "b") u1] n0) ∈ led)
    (m1 : (D1, tupO #[.str (Str.ofString "?") t1, .ref l1]) ∈ led) (k1 : (l1, listOf #[.str (Str.ofString "ab.") u2] n1) ∈ led)
    (m2 : (D2, tupO #[.str (Str.ofString "a*") t2, .ref l2]) ∈ led) (k2 : (l2, listOf #[.str (Str.ofString "a") u3, .str (Str.ofString "any") u4] n2) ∈ led)
    (m3 : (D3, tupO #[.str (Str.ofString "[!a]*") t3, .ref l3]) ∈ led) (k3 : (l3, listOf #[.str (Str.ofString "b.") u5, .str (Str.ofString "any") u6] n3) ∈ led) :
    ∀ k < 4, MenuE led [.ref D0, .ref D1, .ref D2, .ref D3] k := by
  intro k hk
  have h4 : k = 0 ∨ k = 1 ∨ k = 2 ∨ k = 3 := by omega
  rcases h4 with rfl | rfl | rfl | rfl
  · exact ⟨D0, l0, t0, [_, _], n0, rfl, m0, k0, .cons _ _ (.cons _ _ .nil)⟩
  · exact ⟨D1, l1, t1, [_], n1, rfl, m1, k1, .cons _ _ .nil⟩
  · exact ⟨D2, l2, t2, [_, _], n2, rfl, m2, k2, .cons _ _ (.cons _ _ .nil)⟩
  · exact ⟨D3, l3, t3, [_, _], n3, rfl, m3, k3, .cons _ _ (.cons _ _ .nil)⟩
theorem mod4 (n : Nat) : ((n : Int).fmod 4).toNat = n % 4 := by
  rw [Int.fmod_eq_emod_of_nonneg _ (by decide)]
  omega
theorem div4 (n : Nat) : (((n : Int).fdiv 4).fmod 4).toNat = n / 4 % 4 := by
  rw [Int.fdiv_eq_ediv_of_nonneg _ (by decide), Int.fmod_eq_emod_of_nonneg _ (by decide)]
  omega
theorem itemsOf_len (k : Nat) : (itemsOf k).length < 4 := by unfold itemsOf; split <;> decide
def dueF (y1 y2 : List Str) (ns : List Int) (j : Nat) : Bool × Nat := (meetsF [none, some y1, none, some y2] (rowF (drawnF ns j)), (rowF (drawnF ns j)).length)
def TupsJ (base : List (Addr × Obj)) (f : Nat → Bool × Nat) (i : Nat) (acc : List Value) (news : List (Addr × Obj)) : Prop :=
  ∃ es : List (Addr × Obj), news = base ++ es ∧ es.length = i ∧ acc = es.map (fun e => Value.ref e.1) ∧ ∀ j e, es[j]? = some e → ∃ t, e.2 = tupO #[.bool (f j).1, .int (((f j).2 : Nat) : Int) t]
theorem tupsSnoc {es : List (Addr × Obj)} {f : Nat → Bool × Nat} {i : Nat} {D : Addr} {t : Tok} (hlen : es.length = i) (hes : ∀ j e, es[j]? = some e → ∃ t, e.2 = tupO #[.bool (f j).1, .int (((f j).2 : Nat) : Int) t]) :
    ∀ j e, (es ++ [(D, tupO #[.bool (f i).1, .int (((f i).2 : Nat) : Int) t])])[j]? = some e → ∃ t, e.2 = tupO #[.bool (f j).1, .int (((f j).2 : Nat) : Int) t] := fun j e he => by
  by_cases hj : j < es.length
  · rw [List.getElem?_append_left hj] at he; exact hes j e he
  · rw [List.getElem?_append_right (by omega)] at he
    have h0 : j - es.length = 0 := by
      cases q : j - es.length with
      | zero => rfl
      | succ k => rw [q] at he; simp at he
    rw [h0] at he
    cases he
    have : j = i := by omega
    exact ⟨t, by rw [this]⟩
theorem TupsJ.step {base es : List (Addr × Obj)} {f : Nat → Bool × Nat} {i : Nat} {D : Addr} {t : Tok} (hlen : es.length = i) (hes : ∀ j e, es[j]? = some e → ∃ t, e.2 = tupO #[.bool (f j).1, .int (((f j).2 : Nat) : Int) t]) :
    TupsJ base f (i + 1) (es.map (fun e => Value.ref e.1) ++ [.ref D]) (base ++ (es ++ [(D, tupO #[.bool (f i).1, .int (((f i).2 : Nat) : Int) t])])) :=
  ⟨_, rfl, by rw [List.length_append, hlen]; rfl, by rw [List.map_append]; rfl, tupsSnoc hlen hes⟩
theorem TupsJ.step' {base es : List (Addr × Obj)} {f : Nat → Bool × Nat} {i : Nat} {D : Addr} {t : Tok} {b : Bool} {n : Int} (hlen : es.length = i) (hes : ∀ j e, es[j]? = some e → ∃ t, e.2 = tupO #[.bool (f j).1, .int (((f j).2 : Nat) : Int) t]) (hb : b = (f i).1) (hn : n = (((f i).2 : Nat) : Int)) :
    TupsJ base f (i + 1) (es.map (fun e => Value.ref e.1) ++ [.ref D]) (base ++ (es ++ [(D, tupO #[.bool b, .int n t])])) := by
  subst hb hn
  exact TupsJ.step hlen hes
structure DrawnOK (xs : List Str) : Prop where
  ok : ∀ i, Okk (rowF (xs.take i))
  sz : ∀ i, (rowF (xs.take i)).length < 1000
  szf : (rowF xs).length < 1000
  xl : ∀ x ∈ rowF xs, x.length < 1000
  jo : (xs.map (·.length)).sum + xs.length * (Str.ofString "/").length ≤ 16777216
  path : PathOK (Txt.join (Str.ofString "/") xs) (rowF xs)
def reF (P1 P3 : List PK) (ns : List Int) (j : Nat) : Bool × Nat := (reachedB P1 P3 (rowF (drawnF ns j)), (rowF (drawnF ns j)).length)
def StepOk (c' : Addr) (oc' : Obj) : Prop := (∃ vs' t', oc'.data = .fields vs' ∧ vs'[1]? = some (.str stepQual t')) ∧ c' ≠ 196
def ReJ (base : List (Addr × Obj)) (f : Nat → Bool × Nat) (i : Nat) (acc : List Value) (news : List (Addr × Obj)) : Prop :=
  ∃ (T : Array Value) (X es : List (Addr × Obj)), news = (196, tabObj T) :: (base ++ (X ++ es)) ∧ ((T = #[] ∧ X = [] ∧ es = []) ∨ ∃ c' oc', T = stepTab c' ∧ X = [(c', oc')] ∧ StepOk c' oc') ∧
    es.length = i ∧ acc = es.map (fun e => Value.ref e.1) ∧ ∀ j e, es[j]? = some e → ∃ t, e.2 = tupO #[.bool (f j).1, .int (((f j).2 : Nat) : Int) t]
theorem pksOf_len (k : Nat) : (pksOf k).length < 100 := by unfold pksOf; split <;> decide
def d3 (g : Nat → Bool × Nat) : PyData := .list [.tuple [.bool (g 0).1, .int (((g 0).2 : Nat) : Int)], .tuple [.bool (g 1).1, .int (((g 1).2 : Nat) : Int)], .tuple [.bool (g 2).1, .int (((g 2).2 : Nat) : Int)]]
theorem shaped_d3 (g : Nat → Bool × Nat) : SeqAt.shaped (d3 g) = true := by
  show (PyData.canLay0 _ && decide (PyData.depth _ ≤ 64)) = true
  simp [d3, PyData.canLay0, PyData.canLayAll0, PyData.depth, PyData.depthAll]
theorem eqv_d3 (g : Nat → Bool × Nat) : PyData.eqv (d3 g) (d3 g) = true := by
  simp [d3, PyData.eqv, PyData.eqvAll]
theorem reads_d3 {h : Heap} {a x0 x1 x2 : Addr} {n : Nat} {g : Nat → Bool × Nat} {t0 t1 t2 : Tok} (ha : h.get? a = some (listOf #[.ref x0, .ref x1, .ref x2] n)) (h0 : h.get? x0 = some (tupO #[.bool (g 0).1, .int (((g 0).2 : Nat) : Int) t0]))
    (h1 : h.get? x1 = some (tupO #[.bool (g 1).1, .int (((g 1).2 : Nat) : Int) t1])) (h2 : h.get? x2 = some (tupO #[.bool (g 2).1, .int (((g 2).2 : Nat) : Int) t2])) : ∃ as, Reads h (.ref a) (d3 g) as :=
  ⟨_, .list ha rfl rfl (.cons (.tuple h0 rfl rfl (.cons (.bool _) (.cons (.int _ _) .nil))) (.cons (.tuple h1 rfl rfl (.cons (.bool _) (.cons (.int _ _) .nil))) (.cons (.tuple h2 rfl rfl (.cons (.bool _) (.cons (.int _ _) .nil))) .nil)))⟩
theorem eq_three {prog : Program} {w : World} {A : Around} {E : Value → Shared → Prop} {s : Shared} {a b x0 x1 x2 y0 y1 y2 : Addr} {n m : Nat} {g f : Nat → Bool × Nat} {t0 t1 t2 u0 u1 u2 : Tok} {Q : Value → Shared → Prop}
    (ha : s.heap.get? a = some (listOf #[.ref x0, .ref x1, .ref x2] n)) (h0 : s.heap.get? x0 = some (tupO #[.bool (g 0).1, .int (((g 0).2 : Nat) : Int) t0]))
    (h1 : s.heap.get? x1 = some (tupO #[.bool (g 1).1, .int (((g 1).2 : Nat) : Int) t1])) (h2 : s.heap.get? x2 = some (tupO #[.bool (g 2).1, .int (((g 2).2 : Nat) : Int) t2]))
    (hb : s.heap.get? b = some (listOf #[.ref y0, .ref y1, .ref y2] m)) (k0 : s.heap.get? y0 = some (tupO #[.bool (f 0).1, .int (((f 0).2 : Nat) : Int) u0]))
    (k1 : s.heap.get? y1 = some (tupO #[.bool (f 1).1, .int (((f 1).2 : Nat) : Int) u1])) (k2 : s.heap.get? y2 = some (tupO #[.bool (f 2).1, .int (((f 2).2 : Nat) : Int) u2]))
    (hfg : ∀ j, g j = f j) (hu : A.units + 64 < cLine) (h : Q (.bool true) s) : wpAny (model prog w) A (compareOp .Eq (.ref a) (.ref b)) Q E s := by
  obtain rfl : g = f := funext hfg
  obtain ⟨as, ra⟩ := reads_d3 ha h0 h1 h2
  obtain ⟨bs, rb⟩ := reads_d3 hb k0 k1 k2
  exact eq_dataH ra rb (shaped_d3 g) (shaped_d3 g) hu (by rw [eqv_d3]; exact h)

theorem fresh43 : True := by
  w_top off
  exact trivial
theorem nsGetL {h₀ h : Heap} {L : Addr} {m : Str → Option Value} (F : Fr h₀ L h m) : ∃ oL, h.get? L = some oL := by
  obtain ⟨o, _, _, e, _⟩ := F.ns
  exact ⟨o, e⟩
theorem noneL {h₀ h : Heap} {L : Addr} {m : Str → Option Value} (F : Fr h₀ L h m) : h₀.get? L = none := Heap.get?_none_of_le F.above
theorem t_translate (w : World) {mean : ExcName → Option Value} {mg mb : Str → Option Value} {loose : List Str} {A : Around} {s : Shared} {Q E : Value → Shared → Prop} {h₀ : Heap} {L₀ : Addr} {m₀ : Str → Option Value} {rest : List (Addr × Obj)} (k : Nat) (hk : k < 4) (p : Str) (hp : patOf k = p) (T : Array Value) (hT : OkTab T) (t1 t2 t3 : Tok)
    (ht0 : ¬ @Eq Nat t2 0) (ht2 : @LT.lt Nat _ t2 s.toks)
    (G : Gd (hd.heap_1 w.params) topProg loose mean mg mb A h₀ 20 400) (hA : A.depth ≤ 380) (hB : A.units ≤ 2000) (hC : CodeHd h₀ 70 66) (F₀ : Fr h₀ L₀ s.heap m₀) (N₀ : News h₀ L₀ s.heap ((66, tabObj T) :: rest)) (hr : ∀ q ∈ rest, q.1 ≠ 66)
    (ret : ∀ r vs c T' h' tk', OkTab T' → Fr h₀ L₀ h' m₀ → News h₀ L₀ h' ((r, listOf (List.toArray vs) c) :: (66, tabObj T') :: rest) → (∀ q ∈ rest, ¬ @Eq Nat q.1 r) → StrsAre vs (List.map PK.str (pksOf k)) → Q (.ref r) { s with heap := h', toks := tk' }) :
    wpAny (model PySem.Challenge.rw_ij0168_01.row.prog w) A (call (.ref 71) [.str p t1, .str (Str.ofString "*") t2, .str (Str.ofString "?") t3]) Q E s := by
  subst hp
  have fin : ∀ r vs c h' tk', Kp s.heap h' → h'.get? r = some (listOf (List.toArray vs) c) → s.heap.get? r = none → StrsAre vs (List.map PK.str (pksOf k)) → Q (.ref r) { s with heap := h', toks := tk' } := fun r vs c h' tk' hk hg hn hS =>
    ret r vs c T h' tk' hT (F₀.keeps hk) (newsK F₀ N₀ hk hg hn) (fun q hq => neK N₀ hn q (.tail _ hq)) hS
  have Gs := Gd.keeps G F₀.keep
  have h4 : k = 0 ∨ k = 1 ∨ k = 2 ∨ k = 3 := by omega
  rcases h4 with rfl | rfl | rfl | rfl
  · exact t_trans1 w t1 t2 t3 Gs hA hB fin
  · exact t_trans2 w t1 t2 t3 Gs hA hB fin
  · exact t_trans3 w t1 t2 t3 ht0 ht2 Gs hA hB fin
  · obtain ⟨oL, hL⟩ := nsGetL F₀
    exact t_trans4 w T hT t1 t2 t3 ht0 ht2 G hA hB hC F₀ N₀ hr hL (noneL F₀) fun r vs c c' h' tk' F' N' _ l hS => ret r vs c _ h' tk' (.lam c') F' N' (fun q hq => Nat.ne_of_lt (l q hq)) hS
theorem rotOut {h₀ h : Heap} {L P : Addr} {o : Obj} {led : List (Addr × Obj)} (N : News h₀ L h led) (hm : (P, o) ∈ led) : News h₀ L h ((P, o) :: led.dropLast) := newsTake N hm fun q hq => N q (List.dropLast_subset _ hq)
theorem rotIn {h₀ h : Heap} {L : Addr} {q p : Addr × Obj} {rest : List (Addr × Obj)} (N : News h₀ L h (q :: p :: rest)) : News h₀ L h (q :: (rest ++ [p])) := newsTake N (.head _) fun x hx => by
  rcases List.mem_append.mp hx with hx | hx
  · exact N x (.tail _ (.tail _ hx))
  · rw [List.mem_singleton.mp hx]; exact N _ (.tail _ (.head _))
def OffT (P : Addr) : List (Addr × Obj) → Prop
  | [] => True
  | q :: r => ((∀ vs, q.2.data ≠ .fields vs) ∨ q.1 ≠ P) ∧ OffT P r
theorem offT {h₀ h : Heap} {L P : Addr} {ps : Array Value} : ∀ {rest : List (Addr × Obj)}, News h₀ L h ((P, tabObj ps) :: rest) → OffT P rest → ∀ q ∈ rest, q.1 ≠ P := by
  intro rest
  induction rest with
  | nil => intro _ _ q hq; cases hq
  | cons p r ih =>
    intro N hO q hq
    rcases List.mem_cons.mp hq with rfl | hq
    · rcases hO.1 with h | h
      · exact neO N (.tail _ (.head _)) (.head _) (h _)
      · exact h
    · exact ih (newsTake N (.head _) fun x hx => N x (.tail _ (.tail _ hx))) hO.2 q hq
theorem cellNoF {o : Obj} {v : Option Value} (h : o.data = .cell v) : ∀ vs, o.data ≠ .fields vs := fun vs e => by rw [h] at e; cases e
theorem seqNoF {o : Obj} {its : Array Value} {n : Nat} (h : o.data = .seq its n) : ∀ vs, o.data ≠ .fields vs := fun vs e => by rw [h] at e; cases e

theorem fresh44 : True := by
  w_top off
  exact trivial
/-- one turn of the law's last comprehension: the call of _law_reached -/
theorem re_turn (w : World) {mean : ExcName → Option Value} {mg mb : Str → Option Value} {loose : List Str} {A : Around} {E : Value → Shared → Prop} {h₀ : Heap} {L C I D lM x0 r1 x2 r2 : Addr} {m : Str → Option Value} {s₀ : Shared} {h : Heap} {tk : Nat} {oC oI oD : Obj} {base X es : List (Addr × Obj)} {T : Array Value}
    {i np n1 n3 : Nat} {f : Nat → Bool × Nat} {P1 P3 : List PK} {v1 v3 : List Value} {x : Str} {rw : List Str} {t : Tok}
    (G : Gd (hd.heap_1 w.params) topProg loose mean mg mb A h₀ 200 4000) (kC : CodeHd h₀ 200 196) (F : Fr h₀ L h m) (N : News h₀ L h ((196, tabObj T) :: (C, oC) :: (I, oI) :: (D, oD) :: (base ++ (X ++ es))))
    (hb : ∀ q ∈ base, q.1 ≠ 196) (ho : ∀ q ∈ (196, tabObj T) :: (base ++ (X ++ es)), q.1 ≠ C ∧ q.1 ≠ I ∧ q.1 ≠ D)
    (hTX : (T = #[] ∧ X = [] ∧ es = []) ∨ ∃ c' oc', T = stepTab c' ∧ X = [(c', oc')] ∧ StepOk c' oc') (hlen : es.length = i) (hes : ∀ j e, es[j]? = some e → ∃ t, e.2 = tupO #[.bool (f j).1, .int (((f j).2 : Nat) : Int) t])
    (hlp : (lM, listOf ([.ref x0, .ref r1, .ref x2, .ref r2] : List Value).toArray np) ∈ base) (hp1 : (r1, listOf v1.toArray n1) ∈ base) (hS1 : StrsAre v1 (P1.map PK.str)) (hp3 : (r2, listOf v3.toArray n3) ∈ base) (hS3 : StrsAre v3 (P3.map PK.str)) (hl1 : P1.length < 100) (hl3 : P3.length < 100)
    (hok : PathOK x rw) (hf : f i = (reachedB P1 P3 rw, rw.length)) :
    wpAny (model PySem.Challenge.rw_ij0168_01.row.prog w) A (call (.ref 201) [.str x t, .ref lM]) (fun y s' => CompEnd h₀ L m s₀ [(C, oC), (I, oI), (D, oD)] C I D (ReJ base f (i + 1)) (es.map (fun e => Value.ref e.1) ++ [y]) s') E { s₀ with heap := h, toks := tk } := by
  obtain ⟨oL, hL⟩ := nsGetL F
  have inb : ∀ {q}, q ∈ base → q ∈ (C, oC) :: (I, oI) :: (D, oD) :: (base ++ (X ++ es)) := fun hq => .tail _ (.tail _ (.tail _ (List.mem_append_left _ hq)))
  have hr : ∀ q ∈ ((C, oC) :: (I, oI) :: (D, oD) :: (base ++ (X ++ es))), q.1 ≠ 196 := by
    intro q hq
    rcases List.mem_cons.mp hq with rfl | hq
    · exact fun e => (ho _ (.head _)).1 e.symm
    rcases List.mem_cons.mp hq with rfl | hq
    · exact fun e => (ho _ (.head _)).2.1 e.symm
    rcases List.mem_cons.mp hq with rfl | hq
    · exact fun e => (ho _ (.head _)).2.2 e.symm
    rcases List.mem_append.mp hq with hq | hq
    · exact hb q hq
    rcases List.mem_append.mp hq with hq | hq
    · rcases hTX with ⟨_, rfl, _⟩ | ⟨c', oc', _, rfl, hSt⟩
      · cases hq
      · rw [List.mem_singleton.mp hq]; exact hSt.2
    · obtain ⟨j, hj⟩ := List.mem_iff_getElem?.mp hq
      obtain ⟨t', ht'⟩ := hes j q hj
      exact neO N (.tail _ (.tail _ (.tail _ (.tail _ (List.mem_append_right _ (List.mem_append_right _ hq)))))) (.head _) (by rw [ht']; intro e; cases e)
  have sC := Heap.lt_size (N (C, oC) (.tail _ (.head _))).1
  have sI := Heap.lt_size (N (I, oI) (.tail _ (.tail _ (.head _)))).1
  have sD := Heap.lt_size (N (D, oD) (.tail _ (.tail _ (.tail _ (.head _))))).1
  have s6 := Heap.lt_size (N _ (.head _)).1
  dsimp only at sC sI sD s6
  have oB : ∀ q ∈ base, q.1 ≠ C ∧ q.1 ≠ I ∧ q.1 ≠ D := fun q hq => ho q (.tail _ (List.mem_append_left _ hq))
  have o6 := ho _ (.head _)
  have oE : ∀ q ∈ es, q.1 ≠ C ∧ q.1 ≠ I ∧ q.1 ≠ D := fun q hq => ho q (.tail _ (List.mem_append_right _ (List.mem_append_right _ hq)))
  have big : ∀ {a : Addr}, h.objs.size ≤ a → a ≠ C ∧ a ≠ I ∧ a ≠ D := fun ha => ⟨Nat.ne_of_gt (Nat.lt_of_lt_of_le sC ha), Nat.ne_of_gt (Nat.lt_of_lt_of_le sI ha), Nat.ne_of_gt (Nat.lt_of_lt_of_le sD ha)⟩
  have J : ∀ {R c' : Addr} {oc' : Obj} {ta : Tok}, StepOk c' oc' → ReJ base f (i + 1) (es.map (fun e => Value.ref e.1) ++ [.ref R]) ((196, tabObj (stepTab c')) :: (base ++ ([(c', oc')] ++ (es ++ [(R, tupO #[.bool (reachedB P1 P3 rw), .int ((rw.length : Nat) : Int) ta])])))) := by
    intro R c' oc' ta hSt
    refine ⟨_, _, _, rfl, .inr ⟨c', oc', rfl, rfl, hSt⟩, by rw [List.length_append, hlen]; rfl, by rw [List.map_append]; rfl, ?_⟩
    have z := tupsSnoc (D := R) (t := ta) hlen hes
    rw [hf] at z
    exact z
  have M : ∀ {R c' : Addr} {oR o' oc' : Obj} {led : List (Addr × Obj)} {h9 : Heap}, News h₀ L h9 led → (R, oR) ∈ led → (196, o') ∈ led → (c', oc') ∈ led → (∀ q ∈ base, q ∈ led) → (∀ q ∈ es, q ∈ led) → News h₀ L h9 ((196, o') :: (base ++ ([(c', oc')] ++ (es ++ [(R, oR)])))) := by
    intro R c' oR o' oc' led h9 N9 k1 k2 k3 k4 k5 q hq
    rcases List.mem_cons.mp hq with rfl | hq
    · exact N9 _ k2
    rcases List.mem_append.mp hq with hq | hq
    · exact N9 _ (k4 q hq)
    rcases List.mem_append.mp hq with hq | hq
    · rw [List.mem_singleton.mp hq]; exact N9 _ k3
    rcases List.mem_append.mp hq with hq | hq
    · exact N9 _ (k5 q hq)
    · rw [List.mem_singleton.mp hq]; exact N9 _ k1
  have O : ∀ {R c' : Addr} {oR o' oc' : Obj}, (R ≠ C ∧ R ≠ I ∧ R ≠ D) → (c' ≠ C ∧ c' ≠ I ∧ c' ≠ D) → ∀ q ∈ (196, o') :: (base ++ ([(c', oc')] ++ (es ++ [(R, oR)]))), q.1 ≠ C ∧ q.1 ≠ I ∧ q.1 ≠ D := by
    intro R c' oR o' oc' k1 k3 q hq
    rcases List.mem_cons.mp hq with rfl | hq
    · exact o6
    rcases List.mem_append.mp hq with hq | hq
    · exact oB q hq
    rcases List.mem_append.mp hq with hq | hq
    · rw [List.mem_singleton.mp hq]; exact k3
    rcases List.mem_append.mp hq with hq | hq
    · exact oE q hq
    · rw [List.mem_singleton.mp hq]; exact k1
  rcases hTX with ⟨rfl, rfl, rfl⟩ | ⟨c', oc', rfl, rfl, hSt⟩
  · refine t_reached w x t lM x0 r1 x2 r2 np n1 n3 v1 v3 P1 P3 rw G kC F N hr hL (noneL F) (inb hlp) (inb hp1) hS1 (inb hp3) hS3 hl1 hl3 hok ?_
    intro R c' oc' vs' t' ta h9 tk9 F9 N9 hd1 hd2 hc' hcR
    dsimp only at hc'
    have kR : h.objs.size ≤ R := Nat.le_of_lt (Nat.lt_of_le_of_lt hc' hcR)
    exact compEnd F9 N9 (.tail _ (.tail _ (.tail _ (.head _)))) (.tail _ (.tail _ (.tail _ (.tail _ (.head _))))) (.tail _ (.tail _ (.tail _ (.tail _ (.tail _ (.head _))))))
      (M N9 (.head _) (.tail _ (.head _)) (.tail _ (.tail _ (.head _))) (fun q hq => .tail _ (.tail _ (.tail _ (inb hq)))) (fun q hq => by cases hq))
      (O (big kR) (big hc')) (J ⟨⟨vs', t', hd1, hd2⟩, Nat.ne_of_gt (Nat.lt_of_lt_of_le s6 hc')⟩)
  · obtain ⟨⟨vs', t', d1, d2⟩, hc6⟩ := id hSt
    have inX : (c', oc') ∈ (C, oC) :: (I, oI) :: (D, oD) :: (base ++ ([(c', oc')] ++ es)) := .tail _ (.tail _ (.tail _ (List.mem_append_right _ (List.mem_append_left _ (.head _)))))
    refine t_reached2 w d1 d2 inX x t lM x0 r1 x2 r2 np n1 n3 v1 v3 P1 P3 rw G kC F N hr hL (noneL F) (inb hlp) (inb hp1) hS1 (inb hp3) hS3 hl1 hl3 hok ?_
    intro R ta h9 tk9 F9 N9 hR
    dsimp only at hR
    exact compEnd F9 N9 (.tail _ (.tail _ (.head _))) (.tail _ (.tail _ (.tail _ (.head _)))) (.tail _ (.tail _ (.tail _ (.tail _ (.head _)))))
      (M N9 (.head _) (.tail _ (.head _)) (.tail _ (.tail _ inX)) (fun q hq => .tail _ (.tail _ (inb hq))) (fun q hq => .tail _ (.tail _ (.tail _ (.tail _ (.tail _ (List.mem_append_right _ (List.mem_append_right _ hq))))))))
      (O (big hR) (ho (c', oc') (.tail _ (List.mem_append_right _ (List.mem_append_left _ (.head _)))))) (J hSt)
theorem packB {h₀ h : Heap} {L : Addr} {led : List (Addr × Obj)} {T : Array Value} (N : News h₀ L h led) (m6 : (196, tabObj T) ∈ led) : ∃ base, News h₀ L h ((196, tabObj T) :: base) ∧ (∀ q ∈ base, q.1 ≠ 196) ∧ (∀ a o, (a, o) ∈ led → (∀ vs, o.data ≠ .fields vs) → (a, o) ∈ base) ∧ ∀ o, (66, o) ∈ led → (66, o) ∈ base :=
  ⟨led.filter (fun q => q.1 != 196), newsTake N m6 (fun q hq => N q (List.mem_filter.mp hq).1), fun q hq => by simpa using (List.mem_filter.mp hq).2, fun a o hm hd => List.mem_filter.mpr ⟨hm, by simpa using neO N hm m6 (hd _)⟩, fun o hm => List.mem_filter.mpr ⟨hm, rfl⟩⟩

theorem fresh45 : True := by
  w_top off
  exact trivial
/-! the plain law: the run through the four places answers as the recursion does -/
def runF (p q : Str → Bool) : Bool → Bool → List Str → Bool
  | _, b4, [] => b4
  | b2, _, x :: r => runF p q (b2 || p x) (b2 && q x) r
def lastF (q : Str → Bool) : List Str → Bool
  | [] => false
  | [x] => q x
  | _ :: y :: r => lastF q (y :: r)
def pairF (p q : Str → Bool) : List Str → Bool
  | [] => false
  | x :: r => (p x && lastF q r) || pairF p q r
theorem runF_cons (p q : Str → Bool) : ∀ (l : List Str) (b2 b4 : Bool) (x : Str), runF p q b2 b4 (x :: l) = ((b2 && lastF q (x :: l)) || pairF p q (x :: l))
  | [], b2, b4, x => by simp [runF, lastF, pairF]
  | y :: l, b2, b4, x => by
    have ih := runF_cons p q l (b2 || p x) (b2 && q x) y
    show runF p q (b2 || p x) (b2 && q x) (y :: l) = _
    rw [ih]
    show _ = ((b2 && lastF q (y :: l)) || ((p x && lastF q (y :: l)) || pairF p q (y :: l)))
    cases b2 <;> cases p x <;> cases lastF q (y :: l) <;> simp
theorem runF_eq (p q : Str → Bool) : ∀ l : List Str, runF p q false false l = pairF p q l
  | [] => rfl
  | x :: l => by rw [runF_cons]; simp
/-- the states that are met: 0 and 1 always, 2 and 3 together, 4 -/
def stL (b2 b4 : Bool) : List Int := [0, 1] ++ ((if b2 then [2, 3] else []) ++ if b4 then [4] else [])
theorem stepL (P1 P3 : List PK) (x : Str) (b2 b4 : Bool) : stepPF P1 P3 (stL b2 b4) x = stL (b2 || takesB P1 x) (b2 && takesB P3 x) := by
  unfold stepPF thereF
  have e1 : ∀ k : Int, takesB (if k = 1 then P1 else P3) x = if k = 1 then takesB P1 x else takesB P3 x := fun k => by split <;> rfl
  simp only [e1]
  generalize takesB P1 x = u
  generalize takesB P3 x = v
  cases b2 <;> cases b4 <;> cases u <;> cases v <;> decide +kernel
theorem foldL (P1 P3 : List PK) : ∀ (l : List Str) (b2 b4 : Bool), (l.foldl (stepPF P1 P3) (stL b2 b4)).any (fun x => x == 4) = runF (takesB P1) (takesB P3) b2 b4 l
  | [], b2, b4 => by
    show (stL b2 b4).any (fun x => x == 4) = b4
    cases b2 <;> cases b4 <;> decide +kernel
  | x :: l, b2, b4 => by
    rw [List.foldl_cons, stepL]
    exact foldL P1 P3 l _ _
theorem reached_run (P1 P3 : List PK) (l : List Str) : reachedB P1 P3 l = pairF (takesB P1) (takesB P3) l := by
  have e : passedF [0] = stL false false := by decide +kernel
  unfold reachedB
  rw [e, foldL, runF_eq]
theorem meets_none (is : List (Option (List Str))) (row : List Str) : meetsF (none :: is) row = (List.range (row.length + 1)).any fun k => meetsF is (row.drop k) := by
  rw [meetsF]
  induction (List.range (row.length + 1)) with
  | nil => rfl
  | cons k l ih =>
    cases h : meetsF is (row.drop k)
    · simp [List.filter_cons, h] at ih ⊢; exact ih
    · simp [List.filter_cons, h]
theorem meets_none_nil (is : List (Option (List Str))) : meetsF (none :: is) [] = meetsF is [] := by
  rw [meets_none]; simp [List.range_succ]
theorem meets_none_cons (is : List (Option (List Str))) (x : Str) (r : List Str) : meetsF (none :: is) (x :: r) = (meetsF is (x :: r) || meetsF (none :: is) r) := by
  rw [meets_none, meets_none, List.length_cons, List.range_succ_eq_map, List.any_cons, List.any_map]
  rfl
theorem meets_last (y : List Str) : ∀ row : List Str, meetsF [none, some y] row = lastF (fitsF y) row
  | [] => by rw [meets_none_nil]; rfl
  | [x] => by
    rw [meets_none_cons, meets_none_nil]
    show ((fitsF y x && meetsF [] []) || meetsF [some y] []) = fitsF y x
    simp [meetsF]
  | x :: z :: r => by
    rw [meets_none_cons, meets_last y (z :: r)]
    show ((fitsF y x && meetsF [] (z :: r)) || _) = _
    simp [meetsF, lastF]
theorem meets_pair (y1 y3 : List Str) : ∀ row : List Str, meetsF [none, some y1, none, some y3] row = pairF (fitsF y1) (fitsF y3) row
  | [] => by rw [meets_none_nil]; rfl
  | x :: r => by
    rw [meets_none_cons, meets_pair y1 y3 r]
    show ((fitsF y1 x && meetsF [none, some y3] r) || _) = _
    rw [meets_last]
    rfl
theorem lastF_congr {q q' : Str → Bool} : ∀ {l : List Str}, (∀ x ∈ l, q x = q' x) → lastF q l = lastF q' l
  | [], _ => rfl
  | [x], h => h x (.head _)
  | _ :: y :: r, h => lastF_congr (l := y :: r) fun x hx => h x (.tail _ hx)
theorem pairF_congr {p p' q q' : Str → Bool} : ∀ {l : List Str}, (∀ x ∈ l, p x = p' x) → (∀ x ∈ l, q x = q' x) → pairF p q l = pairF p' q' l
  | [], _, _ => rfl
  | x :: r, h, k => by
    unfold pairF
    rw [h x (.head _), lastF_congr fun y hy => k y (.tail _ hy), pairF_congr (fun y hy => h y (.tail _ hy)) fun y hy => k y (.tail _ hy)]
def nameL : List Str := [Str.ofString "a", Str.ofString "ab", Str.ofString "b", Str.ofString ".."]
theorem takes_fits4 : ∀ k < 4, ∀ x ∈ nameL, takesB (pksOf k) x = fitsF (itemsOf k) x := by decide +kernel
theorem takes_fits (k : Nat) (x : Str) (hx : x ∈ nameL) : takesB (pksOf k) x = fitsF (itemsOf k) x := by
  by_cases h : k < 4
  · exact takes_fits4 k h x hx
  · have e1 : pksOf k = pksOf 3 := by
      match k, h with
      | k + 4, _ => rfl
      | 0, h | 1, h | 2, h | 3, h => exact absurd (by decide) h
    have e2 : itemsOf k = itemsOf 3 := by
      match k, h with
      | k + 4, _ => rfl
      | 0, h | 1, h | 2, h | 3, h => exact absurd (by decide) h
    rw [e1, e2]
    exact takes_fits4 3 (by decide) x hx
theorem reached_meets (k1 k3 : Nat) (l : List Str) (h : ∀ x ∈ l, x ∈ nameL) : reachedB (pksOf k1) (pksOf k3) l = meetsF [none, some (itemsOf k1), none, some (itemsOf k3)] l := by
  rw [reached_run, meets_pair]
  exact pairF_congr (fun x hx => takes_fits k1 x (h x hx)) fun x hx => takes_fits k3 x (h x hx)

theorem fresh46 : True := by
  w_top off
  exact trivial
section
/-! texts as lists of their signs -/
section
open PySem.Builtin PySem.Builtin.Str
abbrev tL (x : Str) : List Nat := x.cps.toList
abbrev tM (l : List Nat) : Str := ⟨l.toArray⟩
theorem tM_L (x : Str) : tM (tL x) = x := PySem.Str.ext' (by simp)
theorem tL_M (l : List Nat) : tL (tM l) = l := by simp
theorem tL_inj {x y : Str} (h : tL x = tL y) : x = y := by rw [← tM_L x, ← tM_L y, h]
theorem tLen (x : Str) : x.length = (tL x).length := by simp [PySem.Str.length]
theorem sepE : Str.ofString "/" = ⟨#[47]⟩ := by decide +kernel
def jl : List (List Nat) → List Nat
  | [] => []
  | [x] => x
  | x :: y :: r => x ++ 47 :: jl (y :: r)
theorem jl_str : ∀ xs : List Str, tL (PySem.Str.join ⟨#[47]⟩ xs) = jl (xs.map tL)
  | [] => rfl
  | [x] => rfl
  | x :: y :: r => by
    show tL (x ++ ⟨#[47]⟩ ++ PySem.Str.join ⟨#[47]⟩ (y :: r)) = tL x ++ 47 :: jl ((y :: r).map tL)
    rw [← jl_str (y :: r)]
    show (x ++ ⟨#[47]⟩ ++ PySem.Str.join ⟨#[47]⟩ (y :: r)).cps.toList = x.cps.toList ++ 47 :: (PySem.Str.join ⟨#[47]⟩ (y :: r)).cps.toList
    rw [PySem.Str.cps_append, PySem.Str.cps_append]
    simp
theorem jl_join (xs : List Str) : tL (Txt.join (Str.ofString "/") xs) = jl (xs.map tL) := by
  unfold Txt.join
  rw [StrLaws.glued_eq_join, sepE, jl_str]
def Free (p : List Nat) : Prop := 47 ∉ p
theorem cut_eq {x x' u v : List Nat} (hx : Free x) (hx' : Free x') (h : x ++ 47 :: u = x' ++ 47 :: v) : x = x' ∧ u = v := by
  induction x generalizing x' with
  | nil =>
    cases x' with
    | nil => exact ⟨rfl, by simpa using h⟩
    | cons a r =>
      simp at h
      exact absurd (h.1 ▸ List.mem_cons_self) hx'
  | cons a r ih =>
    cases x' with
    | nil =>
      simp at h
      exact absurd (h.1 ▸ List.mem_cons_self) hx
    | cons b s =>
      simp at h
      obtain ⟨e1, e2⟩ := ih (fun m => hx (List.mem_cons_of_mem _ m)) (fun m => hx' (List.mem_cons_of_mem _ m)) h.2
      exact ⟨by rw [h.1, e1], e2⟩
theorem jl_inj : ∀ xs ys : List (List Nat), (∀ p ∈ xs, Free p) → (∀ p ∈ ys, Free p) → xs ≠ [] → ys ≠ [] → jl xs = jl ys → xs = ys
  | [], _, _, _, h, _, _ => absurd rfl h
  | _, [], _, _, _, h, _ => absurd rfl h
  | [x], [y], _, _, _, _, h => by rw [show x = y from h]
  | [x], y :: z :: r, hx, _, _, _, h => by
    have : (47 : Nat) ∈ x := by rw [show x = y ++ 47 :: jl (z :: r) from h]; simp
    exact absurd this (hx x (.head _))
  | x :: z :: r, [y], _, hy, _, _, h => by
    have : (47 : Nat) ∈ y := by rw [show y = x ++ 47 :: jl (z :: r) from h.symm]; simp
    exact absurd this (hy y (.head _))
  | x :: z :: r, y :: w :: s, hx, hy, _, _, h => by
    obtain ⟨e1, e2⟩ := cut_eq (hx x (.head _)) (hy y (.head _)) h
    rw [e1, jl_inj (z :: r) (w :: s) (fun p hp => hx p (.tail _ hp)) (fun p hp => hy p (.tail _ hp)) (by simp) (by simp) e2]
theorem split_ne (x : Str) : Txt.split x ⟨#[47]⟩ ≠ [] := by
  unfold Txt.split
  split
  · simp
  · split
    · simp
    · unfold partsBetween
      intro h
      have h2 := congrArg List.length h
      simp at h2
theorem map_inj {xs ys : List Str} (h : xs.map tL = ys.map tL) : xs = ys := by
  induction xs generalizing ys with
  | nil => cases ys with | nil => rfl | cons _ _ => simp at h
  | cons x r ih =>
    cases ys with
    | nil => simp at h
    | cons y s =>
      simp only [List.map_cons, List.cons.injEq] at h
      rw [tL_inj h.1, ih h.2]
theorem split_join {xs : List Str} (hx : xs ≠ []) (hf : ∀ p ∈ xs, Free (tL p)) : Txt.split (Txt.join (Str.ofString "/") xs) (Str.ofString "/") = xs := by
  rw [sepE]
  have e : Txt.join (⟨#[47]⟩ : Str) xs = PySem.Str.join ⟨#[47]⟩ xs := by unfold Txt.join; rw [StrLaws.glued_eq_join]
  rw [e]
  have hj := StrLaws.join_split (PySem.Str.join ⟨#[47]⟩ xs) ⟨#[47]⟩
  refine map_inj (jl_inj _ _ ?_ ?_ ?_ ?_ ?_)
  · intro p hp
    obtain ⟨q, hq, rfl⟩ := List.mem_map.mp hp
    exact StrLaws.split_free _ 47 q hq
  · intro p hp
    obtain ⟨q, hq, rfl⟩ := List.mem_map.mp hp
    exact hf q hq
  · intro h; exact split_ne _ (List.map_eq_nil_iff.mp h)
  · intro h; exact hx (List.map_eq_nil_iff.mp h)
  · rw [← jl_str, ← jl_str, hj]
/-! the last cut -/
theorem at47 (x : Str) (i : Nat) : StrLaws.At x ⟨#[47]⟩ x.length i ↔ (tL x)[i]? = some 47 := StrLaws.subAt_one x 47 i
theorem rfind_cut {u v : List Nat} (hv : Free v) : Txt.rfind (tM (u ++ 47 :: v)) ⟨#[47]⟩ = (u.length : Int) := by
  have hu : StrLaws.At (tM (u ++ 47 :: v)) ⟨#[47]⟩ (tM (u ++ 47 :: v)).length u.length := (at47 _ _).mpr (by rw [tL_M]; simp)
  unfold Txt.rfind
  rcases StrLaws.last_spec (tM (u ++ 47 :: v)) ⟨#[47]⟩ with ⟨_, h⟩ | ⟨i, e, hi, hk⟩
  · exact absurd hu (h _)
  · rw [e]
    have h1 : ¬ i < u.length := fun hlt => hk _ hlt hu
    have h2 := (at47 _ _).mp hi
    rw [tL_M] at h2
    by_cases h3 : i = u.length
    · rw [h3]
    · rw [List.getElem?_append_right (by omega)] at h2
      obtain ⟨k, hk'⟩ : ∃ k, i - u.length = k + 1 := ⟨i - u.length - 1, by omega⟩
      rw [hk', List.getElem?_cons_succ] at h2
      exact absurd (List.mem_of_getElem? h2) hv
theorem rfind_no {v : List Nat} (hv : Free v) : Txt.rfind (tM v) ⟨#[47]⟩ = -1 := by
  unfold Txt.rfind
  rcases StrLaws.last_spec (tM v) ⟨#[47]⟩ with ⟨e, _⟩ | ⟨i, e, hi, _⟩
  · rw [e]
  · have h2 := (at47 _ _).mp hi
    rw [tL_M] at h2
    exact absurd (List.mem_of_getElem? h2) hv
theorem slice_to (x : Str) (n : Nat) (h : n ≤ (tL x).length) : Txt.slice x none (some (n : Int)) = tM ((tL x).take n) := by
  have z := StrLaws.sliceText_to (x := x) (j := (n : Int)) ⟨by omega, by simpa using h⟩
  show StrLaws.sliceText x none (some (n : Int)) = _
  rw [z]
  simp
theorem slice_from (x : Str) (n : Nat) (h : n ≤ (tL x).length) : Txt.slice x (some (n : Int)) none = tM ((tL x).drop n) := by
  have z := StrLaws.sliceText_from (x := x) (i := (n : Int)) ⟨by omega, by simpa using h⟩
  show StrLaws.sliceText x (some (n : Int)) none = _
  rw [z, List.take_of_length_le (by simp)]
  simp
theorem tail_cut {u v : List Nat} (hv : Free v) : splitTail (tM (u ++ 47 :: v)) = tM v := by
  unfold splitTail
  rw [sepE, rfind_cut hv, show (u.length : Int) + 1 = ((u.length + 1 : Nat) : Int) by omega, slice_from _ _ (by rw [tL_M]; simp), tL_M]
  congr 2
  rw [show u ++ 47 :: v = (u ++ [47]) ++ v by simp, show u.length + 1 = (u ++ [47]).length by simp, List.drop_left]
theorem head0_cut {u v : List Nat} (hv : Free v) : splitH0 (tM (u ++ 47 :: v)) = tM (u ++ [47]) := by
  unfold splitH0
  rw [sepE, rfind_cut hv, show (u.length : Int) + 1 = ((u.length + 1 : Nat) : Int) by omega, slice_to _ _ (by rw [tL_M]; simp), tL_M]
  congr 2
  rw [show u ++ 47 :: v = (u ++ [47]) ++ v by simp, show u.length + 1 = (u ++ [47]).length by simp, List.take_left]
theorem tail_no {v : List Nat} (hv : Free v) : splitTail (tM v) = tM v := by
  unfold splitTail
  rw [sepE, rfind_no hv, show (-1 : Int) + 1 = ((0 : Nat) : Int) by omega, slice_from _ _ (by omega), tL_M]
  rfl
theorem head0_no {v : List Nat} (hv : Free v) : splitH0 (tM v) = tM [] := by
  unfold splitH0
  rw [sepE, rfind_no hv, show (-1 : Int) + 1 = ((0 : Nat) : Int) by omega, slice_to _ _ (by omega), tL_M]
  rfl
theorem head_no {v : List Nat} (hv : Free v) : splitHead (tM v) = tM [] := by
  rw [splitHead_no, head0_no hv]
  rintro ⟨h, _⟩
  rw [head0_no hv] at h
  exact h rfl
end

end
theorem fresh47 : True := by
  w_top off
  exact trivial
section
section
open PySem.Builtin PySem.Builtin.Str
theorem mul_all (n : Int) : ∀ c ∈ tL (Txt.mul ⟨#[47]⟩ n), c = 47 := by
  unfold Txt.mul
  split
  · intro c hc; simp [PySem.Str.empty] at hc
  · split
    · intro c hc; simpa using hc
    · generalize n.toNat = k
      have key : ∀ (k : Nat) (acc : Array Nat), (∀ c ∈ acc.toList, c = 47) → ∀ c ∈ ((List.replicate k #[47]).foldl (· ++ ·) acc).toList, c = 47 := by
        intro k
        induction k with
        | zero => intro acc h; simpa using h
        | succ k ih =>
          intro acc h
          rw [List.replicate_succ, List.foldl_cons]
          refine ih _ fun c hc => ?_
          simp at hc
          rcases hc with hc | hc
          · exact h c (by simpa using hc)
          · exact hc
      exact key k #[] (by simp)
theorem strip_cut {u : List Nat} {z : Nat} (hz : z ≠ 47) : Txt.rstripChars (tM (u ++ [z] ++ [47])) ⟨#[47]⟩ = tM (u ++ [z]) := by
  have hz2 : (#[47] : Array Nat).contains z = false := by
    rw [Bool.eq_false_iff]
    intro h
    simp at h
    exact hz h
  unfold Txt.rstripChars
  rw [PyProof.Rows.stripBy_eq]
  have e : stripHi (#[47] : Array Nat).contains true (tM (u ++ [z] ++ [47])) (stripLo (#[47] : Array Nat).contains false (tM (u ++ [z] ++ [47]))) = (u ++ [z]).length := by
    simp only [stripHi, stripLo, if_true, Bool.false_eq_true, if_false]
    rw [List.drop_zero]
    have e1 : (tM (u ++ [z] ++ [47])).cps.toList.reverse = 47 :: z :: u.reverse := by simp
    rw [e1, List.takeWhile_cons, if_pos (by simp), List.takeWhile_cons, if_neg (by rw [hz2]; decide)]
    simp [PySem.Str.length]
  rw [e]
  apply tL_inj
  simp [strSub, stripLo, Array.toList_extract, List.extract_eq_take_drop]
theorem head_cut {u v : List Nat} {z : Nat} (hv : Free v) (hz : z ≠ 47) : splitHead (tM (u ++ [z] ++ 47 :: v)) = tM (u ++ [z]) := by
  have h0 := head0_cut (u := u ++ [z]) hv
  rw [splitHead_yes]
  · rw [h0, sepE]; exact strip_cut hz
  · rw [h0]; simp [PySem.Str.length]; omega
  · rw [h0, sepE, bne_iff_ne]
    intro h
    have h1 := mul_all (((tM (u ++ [z] ++ [47])).length : Nat) : Int) z
    rw [← h, tL_M] at h1
    exact hz (h1 (by simp))
theorem jl_snoc : ∀ (xs : List (List Nat)) (y : List Nat), xs ≠ [] → jl (xs ++ [y]) = jl xs ++ 47 :: y
  | [], _, h => absurd rfl h
  | [x], y, _ => rfl
  | x :: z :: r, y, _ => by
    show x ++ 47 :: jl ((z :: r) ++ [y]) = (x ++ 47 :: jl (z :: r)) ++ 47 :: y
    rw [jl_snoc (z :: r) y (by simp), List.append_assoc]
    rfl
theorem name_facts : ∀ y ∈ nameL, 47 ∉ tL y ∧ tL y ≠ [] ∧ tL y ≠ [46] ∧ (tL y).length ≤ 2 := by decide +kernel
theorem last_piece {y : List Nat} (hf : Free y) (hne : y ≠ []) : ∃ w z, y = w ++ [z] ∧ z ≠ 47 := by
  refine ⟨y.dropLast, y.getLast hne, (List.dropLast_concat_getLast hne).symm, fun h => hf ?_⟩
  rw [← h]; exact List.getLast_mem hne
theorem jl_last (xs : List (List Nat)) (hx : xs ≠ []) (h : ∀ p ∈ xs, Free p ∧ p ≠ []) : ∃ w z, jl xs = w ++ [z] ∧ z ≠ 47 := by
  have e := (List.dropLast_concat_getLast hx).symm
  obtain ⟨hf, hn⟩ := h _ (List.getLast_mem hx)
  obtain ⟨w, z, e2, hz⟩ := last_piece hf hn
  by_cases hd : xs.dropLast = []
  · rw [hd, List.nil_append] at e
    rw [e]
    exact ⟨w, z, e2, hz⟩
  · rw [e, jl_snoc _ _ hd, e2]
    exact ⟨jl xs.dropLast ++ 47 :: w, z, by simp, hz⟩
theorem jl_len : ∀ (xs : List (List Nat)) (B : Nat), (∀ p ∈ xs, p.length ≤ B) → (jl xs).length ≤ xs.length * (B + 1)
  | [], _, _ => by simp [jl]
  | [x], B, h => by
    have := h x (.head _)
    show x.length ≤ 1 * (B + 1)
    omega
  | x :: y :: r, B, h => by
    have h1 := h x (.head _)
    have h2 := jl_len (y :: r) B fun p hp => h p (.tail _ hp)
    show (x ++ 47 :: jl (y :: r)).length ≤ _
    rw [List.length_append, List.length_cons]
    have e : (x :: y :: r).length * (B + 1) = (y :: r).length * (B + 1) + (B + 1) := by rw [List.length_cons, Nat.succ_mul]
    rw [e]
    omega
theorem beq_bne_str {x y : Str} (h : x ≠ y) : (x != y) = true := bne_iff_ne.mpr h
theorem joinM (xs : List Str) : Txt.join (Str.ofString "/") xs = tM (jl (xs.map tL)) := tL_inj (by rw [jl_join, tL_M])
theorem names_rev : ∀ Q : List Str, (∀ y ∈ Q, y ∈ nameL) → Q ≠ [] → Q.length ≤ 1000 → NamesOf (Txt.join (Str.ofString "/") Q.reverse) Q.reverse
  | [], _, h, _ => absurd rfl h
  | y :: Q', hQ, _, hl => by
    obtain ⟨hf, hn, hd, hlen⟩ := name_facts y (hQ y (.head _))
    have ge : ∀ p ∈ (Q'.reverse.map tL), Free p ∧ p ≠ [] := by
      intro p hp
      obtain ⟨q, hq, rfl⟩ := List.mem_map.mp hp
      have := name_facts q (hQ q (.tail _ (List.mem_reverse.mp hq)))
      exact ⟨this.1, this.2.1⟩
    have jlen : (jl ((y :: Q').reverse.map tL)).length < 10000 := by
      have h1 := jl_len ((y :: Q').reverse.map tL) 2 (by
        intro p hp
        obtain ⟨q, hq, rfl⟩ := List.mem_map.mp hp
        exact (name_facts q (hQ q (List.mem_reverse.mp hq))).2.2.2)
      rw [List.length_map, List.length_reverse] at h1
      omega
    by_cases hq : Q' = []
    · subst hq
      have e : Txt.join (Str.ofString "/") [y] = y := by rw [joinM]; exact tM_L y
      show NamesOf (Txt.join (Str.ofString "/") [y]) [y]
      rw [e]
      have st : NamesOf y ([] ++ [splitTail y]) := by
        refine NamesOf.step (beq_bne_str ?_) (beq_bne_str ?_) ?_ ?_
        · intro h; exact hn (by rw [h]; decide +kernel)
        · intro h; exact hd (by rw [h]; decide +kernel)
        · rw [tLen]; omega
        · rw [← tM_L y, head_no hf]
          exact NamesOf.stop (.inl (by decide +kernel))
      rw [List.nil_append, ← tM_L y, tail_no hf, tM_L] at st
      exact st
    · have ih := names_rev Q' (fun z hz => hQ z (.tail _ hz)) hq (by simp at hl; omega)
      have hr : Q'.reverse.map tL ≠ [] := by simpa using hq
      have e : Txt.join (Str.ofString "/") (y :: Q').reverse = tM (jl (Q'.reverse.map tL) ++ 47 :: tL y) := by
        rw [joinM, List.reverse_cons, List.map_append]
        show tM (jl (Q'.reverse.map tL ++ [tL y])) = _
        rw [jl_snoc _ _ hr]
      obtain ⟨w, z, ew, hz⟩ := jl_last _ hr ge
      rw [e]
      have st : NamesOf (tM (jl (Q'.reverse.map tL) ++ 47 :: tL y)) (Q'.reverse ++ [splitTail (tM (jl (Q'.reverse.map tL) ++ 47 :: tL y))]) := by
        refine NamesOf.step (beq_bne_str ?_) (beq_bne_str ?_) ?_ ?_
        · intro h
          have h2 := congrArg tL h
          rw [tL_M, show tL (Str.ofString "") = [] by decide +kernel] at h2
          simp at h2
        · intro h
          have h2 := congrArg (fun s => 47 ∈ tL s) h
          simp only [tL_M] at h2
          have h3 : 47 ∈ tL (Str.ofString ".") := h2 ▸ (by simp)
          exact absurd h3 (by decide +kernel)
        · rw [← e, tLen, jl_join]; exact jlen
        · rw [ew, head_cut hf hz, ← ew, ← joinM]
          exact ih
      rw [tail_cut hf, tM_L] at st
      rw [List.reverse_cons]
      exact st
theorem names_join {R : List Str} (hR : ∀ y ∈ R, y ∈ nameL) (hne : R ≠ []) (hl : R.length ≤ 1000) : NamesOf (Txt.join (Str.ofString "/") R) R := by
  have z := names_rev R.reverse (fun y hy => hR y (List.mem_reverse.mp hy)) (by simpa using hne) (by simpa using hl)
  rwa [List.reverse_reverse] at z
end

end
theorem fresh48 : True := by
  w_top off
  exact trivial
section
section
open PySem.Builtin PySem.Builtin.Str
theorem piece_facts : ∀ y ∈ pieceL, 47 ∉ tL y ∧ (tL y).length ≤ 2 ∧ PyData.strOk y = true := by decide +kernel
theorem piece_name : ∀ y ∈ pieceL, y ≠ Str.ofString "" → y ≠ Str.ofString "." → y ∈ nameL := by decide +kernel
theorem name_piece : ∀ y ∈ nameL, y ∈ pieceL := by decide +kernel
theorem len0 (c : Str) : ((c.length : Nat) : Int) = 0 ↔ c = Str.ofString "" := by
  have e : Str.ofString "" = tM [] := by decide +kernel
  constructor
  · intro h
    rw [e]
    refine tL_inj ?_
    rw [tL_M]
    have h2 := tLen c
    have h3 : c.length = 0 := by omega
    exact List.eq_nil_of_length_eq_zero (by rw [← h2, h3])
  · rintro rfl
    decide +kernel
theorem norm_row (row : List Str) (c : Str) : normStep row c = rowStep row c := by
  unfold normStep rowStep
  by_cases h : c = Str.ofString ".."
  · subst h
    have a1 : ¬ (((Str.ofString "..").length : Nat) : Int) = 0 := by decide +kernel
    have a2 : (Str.ofString ".." == Str.ofString ".") = false := by decide +kernel
    have a3 : (Str.ofString ".." != Str.ofString "..") = false := by decide +kernel
    have a4 : (Str.ofString ".." != Str.ofString "") = true := by decide +kernel
    have a5 : (Str.ofString ".." != Str.ofString ".") = true := by decide +kernel
    have a6 : (Str.ofString ".." == Str.ofString "..") = true := by decide +kernel
    rw [if_neg (by rintro (q | q); exact a1 q; rw [a2] at q; cases q)]
    by_cases h2 : row = []
    · rw [if_pos (.inr (.inl h2)), if_neg (by rintro ⟨_, q, _⟩; simp [h2] at q), if_pos ⟨a4, a5⟩]
    · by_cases h3 : (row.getLast?.getD (Str.ofString "") == Str.ofString "..") = true
      · rw [if_pos (.inr (.inr h3)), if_neg (by rintro ⟨_, _, q⟩; rw [bne, h3] at q; cases q), if_pos ⟨a4, a5⟩]
      · rw [if_neg (by rintro (q | q | q); rw [a3] at q; cases q; exact h2 q; exact h3 q), if_pos ⟨a6, by simp [h2], by rw [bne]; simpa using h3⟩]
  · have b1 : (c == Str.ofString "..") = false := by simpa using h
    have b2 : (c != Str.ofString "..") = true := by rw [bne, b1]; rfl
    rw [if_neg (c := (c == Str.ofString "..") = true ∧ _) (by rintro ⟨q, _⟩; rw [b1] at q; cases q)]
    by_cases h0 : c = Str.ofString ""
    · rw [if_pos (.inl ((len0 c).mpr h0)), if_neg (by rintro ⟨q, _⟩; simp [h0] at q)]
    · by_cases h1 : c = Str.ofString "."
      · rw [if_pos (.inr (by simp [h1])), if_neg (by rintro ⟨_, q⟩; simp [h1] at q)]
      · rw [if_neg (by rintro (q | q); exact h0 ((len0 c).mp q); exact h1 (by simpa using q)), if_pos (.inl b2), if_pos ⟨by simpa using h0, by simpa using h1⟩]
theorem normF_row (xs : List Str) : normF xs = rowF xs := by
  unfold normF rowF
  rw [show normStep = rowStep from funext fun r => funext fun c => norm_row r c]
theorem row_names : ∀ (xs row : List Str), (∀ x ∈ xs, x ∈ pieceL) → (∀ y ∈ row, y ∈ nameL) → ∀ y ∈ xs.foldl rowStep row, y ∈ nameL
  | [], _, _, h => h
  | x :: xs, row, hx, h => by
    rw [List.foldl_cons]
    refine row_names xs _ (fun y hy => hx y (.tail _ hy)) fun y hy => ?_
    unfold rowStep at hy
    split at hy
    · exact h y (List.dropLast_subset _ hy)
    · split at hy
      · rename_i h2
        rcases List.mem_append.mp hy with hy | hy
        · exact h y hy
        · rw [List.mem_singleton.mp hy]
          exact piece_name x (hx x (.head _)) (bne_iff_ne.mp h2.1) (bne_iff_ne.mp h2.2)
      · exact h y hy
theorem row_len : ∀ (xs row : List Str), (xs.foldl rowStep row).length ≤ row.length + xs.length
  | [], _ => by simp
  | x :: xs, row => by
    rw [List.foldl_cons]
    have h1 := row_len xs (rowStep row x)
    have h2 : (rowStep row x).length ≤ row.length + 1 := by
      unfold rowStep
      split
      · rw [List.length_dropLast]; omega
      · split
        · simp
        · omega
    simp only [List.length_cons]
    omega
theorem sum_le : ∀ l : List Str, (∀ y ∈ l, (tL y).length ≤ 2) → (l.map (·.length)).sum ≤ 2 * l.length
  | [], _ => by simp
  | x :: l, h => by
    have h1 := sum_le l fun y hy => h y (.tail _ hy)
    have h2 := h x (.head _)
    rw [← tLen] at h2
    simp only [List.map_cons, List.sum_cons, List.length_cons]
    omega
theorem drawn_ok {xs : List Str} (hp : ∀ x ∈ xs, x ∈ pieceL) (hl : xs.length ≤ 100) (h0 : ∃ h t, xs = h :: t ∧ ∃ r, tL h = 97 :: r) : DrawnOK xs := by
  have hne : xs ≠ [] := by obtain ⟨h, t, rfl, _⟩ := h0; simp
  have hsep : (Str.ofString "/").length = 1 := by decide +kernel
  have names : ∀ i, ∀ y ∈ rowF (xs.take i), y ∈ nameL := fun i => row_names _ _ (fun x hx => hp x (List.mem_of_mem_take hx)) (fun y hy => by cases hy)
  have namesF : ∀ y ∈ rowF xs, y ∈ nameL := row_names _ _ hp (fun y hy => by cases hy)
  have lens : ∀ i, (rowF (xs.take i)).length ≤ 100 := fun i => by
    have h1 := row_len (xs.take i) []
    have h2 : (xs.take i).length ≤ xs.length := by simp; omega
    simp only [List.length_nil] at h1
    unfold rowF
    omega
  have lenF : (rowF xs).length ≤ 100 := by
    have h1 := row_len xs []
    simp only [List.length_nil] at h1
    unfold rowF
    omega
  have small : ∀ y ∈ rowF xs, (tL y).length ≤ 2 := fun y hy => (name_facts y (namesF y hy)).2.2.2
  have jlen : ∀ R : List Str, (∀ y ∈ R, (tL y).length ≤ 2) → R.length ≤ 100 → (Txt.join (Str.ofString "/") R).length < 10000 := by
    intro R hR hRl
    rw [tLen, jl_join]
    have h1 := jl_len (R.map tL) 2 (by
      intro p hp'
      obtain ⟨q, hq, rfl⟩ := List.mem_map.mp hp'
      exact hR q hq)
    rw [List.length_map] at h1
    omega
  have xsmall : ∀ y ∈ xs, (tL y).length ≤ 2 := fun y hy => (piece_facts y (hp y hy)).2.1
  have sp : Txt.split (Txt.join (Str.ofString "/") xs) (Str.ofString "/") = xs := split_join hne fun p hp' => (piece_facts p (hp p hp')).1
  have first : ∃ r, tL (Txt.join (Str.ofString "/") xs) = 97 :: r := by
    obtain ⟨h, t, rfl, r, hr⟩ := h0
    rw [jl_join]
    cases t with
    | nil => exact ⟨r, hr⟩
    | cons y t => exact ⟨r ++ 47 :: jl ((y :: t).map tL), by show tL h ++ _ = _; rw [hr]; rfl⟩
  obtain ⟨fr, hfr⟩ := first
  refine ⟨fun i y hy => ?_, fun i => Nat.lt_of_le_of_lt (lens i) (by decide), Nat.lt_of_le_of_lt lenF (by decide), fun y hy => ?_, ?_, ?_⟩
  · exact (piece_facts y (name_piece y (names i y hy))).2.2
  · rw [tLen]; exact Nat.lt_of_le_of_lt (small y hy) (by decide)
  · have := sum_le xs xsmall
    rw [hsep]
    omega
  · refine ⟨jlen xs xsmall hl, ?_, ?_, ?_, ?_, ?_, ?_, Nat.lt_of_le_of_lt lenF (by decide), fun y hy => ?_⟩
    · rw [tLen, hfr]; simp; omega
    · rw [show (some (1 : Int)) = some ((1 : Nat) : Int) from rfl, slice_to _ _ (by rw [hfr]; simp), hfr, bne_iff_ne]
      intro h
      have h2 := congrArg tL h
      rw [tL_M, sepE] at h2
      have h3 : (97 : Nat) = 47 := (List.cons.inj (show [97] = [47] from h2)).1
      exact absurd h3 (by decide)
    · intro i
      rw [sp, normF_row]
      exact Nat.lt_of_le_of_lt (lens i) (by decide)
    · rw [sp, normF_row, hsep]
      have := sum_le (rowF xs) small
      omega
    · rw [sp, normF_row]
      exact jlen _ small lenF
    · have ej : normJoin (Txt.join (Str.ofString "/") xs) = Txt.join (Str.ofString "/") (rowF xs) := by unfold normJoin; rw [sp, normF_row]
      unfold normPath
      rw [ej]
      by_cases hR : rowF xs = []
      · rw [hR, if_pos (by decide +kernel)]
        exact NamesOf.stop (.inr (by decide +kernel))
      · rw [if_neg]
        · exact names_join namesF hR (by omega)
        · intro h
          have h2 := (len0 _).mp h
          have h3 := congrArg tL h2
          rw [jl_join, show tL (Str.ofString "") = [] by decide +kernel] at h3
          obtain ⟨w, z, e, _⟩ := jl_last ((rowF xs).map tL) (by simpa using hR) (by
            intro p hp'
            obtain ⟨q, hq, rfl⟩ := List.mem_map.mp hp'
            have := name_facts q (namesF q hq)
            exact ⟨this.1, this.2.1⟩)
          rw [e] at h3
          simp at h3
    · rw [tLen]; exact Nat.lt_of_le_of_lt (small y hy) (by decide)
theorem pieceF_mem (n : Int) : pieceF n ∈ pieceL := by
  unfold pieceF
  rw [List.getD_eq_getElem?_getD]
  cases h : pieceL[(n.fmod 6).toNat]? with
  | none => show Str.ofString "" ∈ pieceL; decide +kernel
  | some y => exact List.mem_of_getElem? h
theorem ints_exist : ∀ ns : List Int, ∃ vs, IntsAre vs ns
  | [] => ⟨[], .nil⟩
  | n :: r => let ⟨vs, h⟩ := ints_exist r; ⟨.int n 0 :: vs, .cons n 0 h⟩
theorem fixedF_facts (j : Nat) : (∀ x ∈ fixedF j, x ∈ pieceL) ∧ (fixedF j).length ≤ 5 ∧ ∃ h t, fixedF j = h :: t ∧ ∃ r, tL h = 97 :: r := by
  unfold fixedF
  split
  · exact ⟨by decide +kernel, by decide, _, _, rfl, [], by decide +kernel⟩
  · exact ⟨by decide +kernel, by decide, _, _, rfl, [98], by decide +kernel⟩
  · exact ⟨by decide +kernel, by decide, _, _, rfl, [98], by decide +kernel⟩
theorem drawn_all (ns : List Int) (hn : ns.length ≤ 12) (j : Nat) : DrawnOK (drawnF ns j) := by
  obtain ⟨h1, h2, h, t, h3, h4⟩ := fixedF_facts j
  obtain ⟨vs, hI⟩ := ints_exist ns
  refine drawn_ok ?_ ?_ ?_
  · intro x hx
    rcases List.mem_append.mp hx with hx | hx
    · exact h1 x hx
    · obtain ⟨n, _, rfl⟩ := List.mem_map.mp hx
      exact pieceF_mem n
  · have := length_pickNums_le hI (some (j : Int)) none (some 3)
    unfold drawnF
    rw [List.length_append, List.length_map]
    omega
  · exact ⟨h, t ++ _, by unfold drawnF; rw [h3]; rfl, h4⟩
theorem law_same (ns : List Int) (hn : ns.length ≤ 12) (k1 k3 j : Nat) : reF (pksOf k1) (pksOf k3) ns j = dueF (itemsOf k1) (itemsOf k3) ns j := by
  unfold reF dueF
  rw [reached_meets]
  intro x hx
  obtain ⟨h1, _, _⟩ := fixedF_facts j
  refine row_names (drawnF ns j) [] (fun y hy => ?_) (fun y hy => by cases hy) x hx
  rcases List.mem_append.mp hy with hy | hy
  · exact h1 y hy
  · obtain ⟨n, _, rfl⟩ := List.mem_map.mp hy
    exact pieceF_mem n
end

end
section
local macro_rules | `(tactic| walk_at "pad pad pad") => `(tactic| fail "a row that only parts the tables of rows")
theorem fresh49 : True := by
  w_top off
  exact trivial
local macro_rules | `(tactic| walk_at "subscriptTail Name BinOp ref int") => `(tactic| (k_here; refine hold ?_))
local macro_rules | `(tactic| k_ne) => `(tactic| (refine neN ?_; (try dsimp only); first | exact NeA.out (by with_reducible assumption) | exact Ne.symm (NeA.out (by with_reducible assumption))))
local macro_rules | `(tactic| walk_at "call builtin:str.join") => `(tactic| (k_here; (with_reducible show wpAny _ _ (call (Value.builtin _) [Value.str _ _, Value.ref _]) _ _ _); k_dflt (refine' join_list ?a ?b ?c ?_; (case a => exact memL (by k_asm) (by k_mem)); (case b => assumption); (case c => assumption); k_whole); intro t' k'))
local macro_rules | `(tactic| walk_at "compareOp Eq ref ref") => `(tactic| (k_here; refine hold ?_))
theorem law0.tw10640730311697556760 : True := trivial
theorem law0.tw357486453476387696 : True := trivial
theorem law0.tw17867186260260354772 : True := trivial
theorem law0.tw12666896737911198247 : True := trivial
theorem law0.tw4834986446476583309 : True := trivial
theorem law0.tw11404662029544080895 : True := trivial
theorem law0.tw3060402356183273877 : True := trivial
theorem law0.tw15465206335192614112 : True := trivial
theorem law0.tw1560864682570406453 : True := trivial
theorem law0.tw9115198531744393517 : True := trivial
theorem law0.tw1466521111429940374 : True := trivial
theorem law0.tw30874132532780769 : True := trivial
theorem law0.tw10028408303901674360 : True := trivial
theorem law0.tw265437117368317418 : True := trivial
theorem law0.tw10410581274152920850 : True := trivial
theorem law0.tw11235163905024454578 : True := trivial
theorem law0.tw14754983695324302443 : True := trivial
theorem law0.tw406732618581100268 : True := trivial
theorem law0.tw17387989238798506629 : True := trivial
theorem law0.tw937520463590543270 : True := trivial
theorem law0.tw6071645819091719263 : True := trivial
theorem law0.tw1140421731826474158 : True := trivial
theorem law0.tw3326316516304273019 : True := trivial
theorem law0.tw6521327892170795074 : True := trivial
theorem law0.tw941832887711519615 : True := trivial
theorem law0.tw13963636438348786699 : True := trivial
theorem law0.tw8132111524018249781 : True := trivial
theorem law0.tw11768607861433844436 : True := trivial
theorem law0.tw12570585773123973062 : True := trivial
theorem law0.tw6385131295830114584 : True := trivial
theorem law0.tw1659798432566798892 : True := trivial
theorem law0.tw16968188877876828738 : True := trivial
theorem law0.tw6130985832315650006 : True := trivial
theorem law0.tw6045903549345957425 : True := trivial
theorem law0.tw16313790811512070340 : True := trivial
theorem law0.tw8581138001695752568 : True := trivial
theorem law0.tw13538943877853874382 : True := trivial
theorem law0.tw12121318249026566611 : True := trivial
theorem law0.tw14151614236255821887 : True := trivial
theorem law0.tw11244846509269613564 : True := trivial
theorem law0.tw11807491744446184378 : True := trivial
theorem law0.tw1511544562154037056 : True := trivial
theorem law0.tw8363347024729784745 : True := trivial
theorem law0.tw8310869196227379889 : True := trivial
theorem law0.tw17296415204380466621 : True := trivial
theorem law0.tw16808574446134438158 : True := trivial
theorem law0.tw9555923757770736567 : True := trivial
theorem law0.tw1612859565653257706 : True := trivial
theorem law0.tw1816006655830455449 : True := trivial
theorem law0.tw11184539905663124145 : True := trivial
theorem law0.tw18324102207052972509 : True := trivial
theorem law0.tw6815485432860835833 : True := trivial
theorem law0.tw6393542445638457130 : True := trivial
theorem law0.tw18423069317951216678 : True := trivial
theorem law0.tw10370449228678350469 : True := trivial
theorem law0.tw15209474424923665710 : True := trivial
theorem law0.tw3632705058415006534 : True := trivial
theorem law0.tw17441776116287734442 : True := trivial
theorem law0.tw728762544613829889 : True := trivial
theorem law0.tw6520547431633036078 : True := trivial
theorem law0.tw11786099356613170617 : True := trivial
theorem law0.tw8721598728829398577 : True := trivial
theorem law0.tw12754935808939265006 : True := trivial
theorem law0.tw7186975061929560226 : True := trivial
theorem law0.tw10632122141816074874 : True := trivial
theorem law0.tw7975160994723591189 : True := trivial
theorem law0.tw12187896493673951328 : True := trivial
theorem law0.tw242830475430967187 : True := trivial
theorem law0.tw334938984278594083 : True := trivial
theorem law0.tw15396018925762796838 : True := trivial
theorem law0.tw4874468746089163937 : True := trivial
theorem law0.tw11959361041871765522 : True := trivial
theorem law0.tw9957872472602079019 : True := trivial
theorem law0.tw4204731671227804059 : True := trivial
theorem law0.tw16843579158291322015 : True := trivial
theorem law0.tw3701953910418593409 : True := trivial
theorem law0.tw15644298317654728097 : True := trivial
theorem law0.tw18367183321457360210 : True := trivial
theorem law0.tw9095329318817840553 : True := trivial
theorem law0.tw6012819776628231351 : True := trivial
theorem law0.tw11229532538788414776 : True := trivial
theorem law0.tw1256541888418543775 : True := trivial
theorem law0.tw9018901224244890181 : True := trivial
theorem law0.tw16784668206222672687 : True := trivial
theorem law0.tw17114260528134926950 : True := trivial
theorem law0.tw11349390854862241673 : True := trivial
theorem law0.tw5477759606112286231 : True := trivial
theorem law0.tw16655196608270618420 : True := trivial
theorem law0.tw8386381093137330377 : True := trivial
theorem law0.tw18442684884925159045 : True := trivial
theorem law0.tw16219396794726393347 : True := trivial
theorem law0.tw10579325594000092617 : True := trivial
theorem law0.tw3221429205929893152 : True := trivial
theorem law0.tw18290348511987861789 : True := trivial
theorem law0.tw12167723308681969156 : True := trivial
theorem law0.tw6340828899037711153 : True := trivial
theorem law0.tw12683051546983803872 : True := trivial
theorem law0.tw17256165414976335950 : True := trivial
theorem law0.tw6050021630079543386 : True := trivial
theorem law0.tw1864709641088045351 : True := trivial
theorem law0.tw7594193784959163769 : True := trivial
theorem law0.tw1250230261030379670 : True := trivial
theorem law0.tw2825262767062204201 : True := trivial
theorem law0.tw4571592872686814216 : True := trivial
theorem law0.tw15925853844416230114 : True := trivial
theorem law0.tw2969279790835003084 : True := trivial
theorem law0.tw6548944034584603356 : True := trivial
theorem law0.tw13191535121604622858 : True := trivial
theorem law0.tw3290840721006632444 : True := trivial
theorem law0.tw11279332160713150011 : True := trivial
theorem law0.tw16504949119680917769 : True := trivial
theorem law0.tw7167304669271956453 : True := trivial
theorem law0.tw4878174255723778311 : True := trivial
theorem law0.tw18443407227104136653 : True := trivial
theorem law0.tw8180878580205191754 : True := trivial
theorem law0.tw15205234438939564417 : True := trivial
theorem law0.tw7029406129357418648 : True := trivial
theorem law0.tw6357754386109894475 : True := trivial
theorem law0.tw385648869156053653 : True := trivial
theorem law0.tw10916674137780620333 : True := trivial
theorem law0.tw12346181934254485148 : True := trivial
theorem law0.tw4777488686911143438 : True := trivial
theorem law0.tw17428989414929986597 : True := trivial
theorem law0.tw18094338034007330530 : True := trivial
theorem law0.tw17520565913379921954 : True := trivial
theorem law0.tw1148156948500624280 : True := trivial
theorem law0.tw4099739924307855782 : True := trivial
theorem law0.tw4350571009898500681 : True := trivial
theorem law0.tw12115355804274566541 : True := trivial
theorem law0.tw17032392217455283701 : True := trivial
theorem law0.tw3469058355537598690 : True := trivial
theorem law0.tw1750916937534900898 : True := trivial
theorem law0.tw5381826499560636667 : True := trivial
theorem law0.tw14491878814598685078 : True := trivial
theorem law0.tw17510720145201880253 : True := trivial
theorem law0.tw16482494306776878487 : True := trivial
theorem law0.tw10509397538588029826 : True := trivial
theorem law0.tw2744046844789289277 : True := trivial
theorem law0.tw3195556814979673680 : True := trivial
theorem law0.tw13854614608279854937 : True := trivial
theorem law0.tw13314271789912618767 : True := trivial
theorem law0.tw12903829019190351280 : True := trivial
theorem law0.tw9483185042822057348 : True := trivial
theorem law0.tw2475944077219576648 : True := trivial
theorem law0.tw3024438429085199546 : True := trivial
theorem law0.tw15559928143493665678 : True := trivial
theorem law0.tw2461455619559511823 : True := trivial
theorem law0.tw687201578280534312 : True := trivial
theorem law0.tw18073406225219371946 : True := trivial
theorem law0.tw11075808383779748141 : True := trivial
theorem law0.tw13548171665794747587 : True := trivial
theorem law0.tw14138812305841297094 : True := trivial
theorem law0.tw1671635544576667785 : True := trivial
theorem law0.tw10095480883494231459 : True := trivial
theorem law0.tw16737582776677827082 : True := trivial
theorem law0.tw15173081962000802729 : True := trivial
theorem law0.tw1808313271418205839 : True := trivial
theorem law0.tw14200610244241395743 : True := trivial
theorem law0.tw10146772343947262596 : True := trivial
theorem law0.tw4561561729034917768 : True := trivial
theorem law0.tw12917328017494065824 : True := trivial
theorem law0.tw11769744777727433914 : True := trivial
theorem law0.tw8619248468740512260 : True := trivial
theorem law0.tw17552607062676667121 : True := trivial
theorem law0.tw3925605507518493404 : True := trivial
theorem law0.tw3273024139611784903 : True := trivial
theorem law0.tw5415976762292680621 : True := trivial
theorem law0.tw10398291495982506635 : True := trivial
theorem law0.tw14236827040845717718 : True := trivial
theorem law0.tw11670579973658460868 : True := trivial
theorem law0.tw12696889155717716755 : True := trivial
theorem law0.tw441680971346139970 : True := trivial
theorem law0.tw13512747976566472252 : True := trivial
theorem law0.tw16373875780119690239 : True := trivial
theorem law0.tw2581106155807449607 : True := trivial
theorem law0.tw4975717993037137203 : True := trivial
theorem law0.tw14901411054664445431 : True := trivial
theorem law0.tw13964445680005164364 : True := trivial
theorem law0.tw11223263362418839858 : True := trivial
theorem law0.tw17381222127576093679 : True := trivial
theorem law0.tw565944594258984397 : True := trivial
theorem law0.tw1288741825940117759 : True := trivial
theorem law0.tw5756853278724639683 : True := trivial
theorem law0.tw9423096244356068456 : True := trivial
theorem law0.tw13765983299568313511 : True := trivial
theorem law0.tw1029867904371488340 : True := trivial
theorem law0.tw6349018997213617475 : True := trivial
theorem law0.tw1333287347765847669 : True := trivial
theorem law0.tw2727131649380120607 : True := trivial
theorem law0.tw7767183559601821968 : True := trivial
theorem law0.tw13298795663699361863 : True := trivial
theorem law0.tw6621023485179729782 : True := trivial
theorem law0.tw5440122548897807150 : True := trivial
theorem law0.tw5612557307416470968 : True := trivial
theorem law0.tw7639406124816373305 : True := trivial
theorem law0.tw15400320650452073477 : True := trivial
theorem law0.tw17131453603766426202 : True := trivial
theorem law0.tw11941072796341011789 : True := trivial
theorem law0.tw10184597460235263154 : True := trivial
theorem law0.tw8502409024445453311 : True := trivial
theorem law0.tw11781440929437947442 : True := trivial
theorem law0.tw4121826197934297101 : True := trivial
theorem law0.tw15867905304814998245 : True := trivial
theorem law0.tw16391677862512807954 : True := trivial
theorem law0.tw16255955146399468362 : True := trivial
theorem law0.tw1120601747542707154 : True := trivial
theorem law0.tw18369454740777806523 : True := trivial
theorem law0.tw3885626456019762236 : True := trivial
theorem law0.tw2400834441726409510 : True := trivial
theorem law0.tw6613000564315775730 : True := trivial
theorem law0.tw10630252192111998524 : True := trivial
theorem law0.tw6973953932337457085 : True := trivial
theorem law0.tw10364188477861408147 : True := trivial
theorem law0.tw1620366084565181 : True := trivial
theorem law0.tw6639347798800800660 : True := trivial
theorem law0.tw13845880746551851130 : True := trivial
theorem law0.tw13217344302191610192 : True := trivial
theorem law0.tw7787490541490617941 : True := trivial
theorem law0.tw13533414681999403918 : True := trivial
theorem law0.tw8564532653089736524 : True := trivial
theorem law0.tw18373021759013005462 : True := trivial
theorem law0.tw12518874940694051859 : True := trivial
theorem law0.tw8214790370004582593 : True := trivial
theorem law0.tw13037445154975419688 : True := trivial
theorem law0.tw17680962152315852927 : True := trivial
theorem law0.tw3665415368378398352 : True := trivial
theorem law0.tw11551539277455181065 : True := trivial
theorem law0.tw11880619284057773595 : True := trivial
theorem law0.tw1365545971563116970 : True := trivial
theorem law0.tw10408941951890389991 : True := trivial
theorem law0.tw14499254527334126155 : True := trivial
theorem law0.tw1971760986489661492 : True := trivial
theorem law0.tw12567413917277387327 : True := trivial
theorem law0.tw2345004794090384986 : True := trivial
theorem law0.tw7070538115585392904 : True := trivial
theorem law0.tw5296209186595731864 : True := trivial
theorem law0.tw4461244602327236999 : True := trivial
theorem law0.tw1113339125664489831 : True := trivial
theorem law0.tw4003093422367203626 : True := trivial
theorem law0.tw10032620121105566045 : True := trivial
theorem law0.tw16241405726368004253 : True := trivial
theorem law0.tw10638804470103758555 : True := trivial
theorem law0.tw10742491104101554282 : True := trivial
theorem law0.tw4962522757505427171 : True := trivial
theorem law0.tw9929530502672877220 : True := trivial
theorem law0.tw4057515594649406518 : True := trivial
theorem law0.tw17040400367079689262 : True := trivial
theorem law0.tw4663366627004655151 : True := trivial
theorem law0.tw7385239516411280475 : True := trivial
theorem law0.tw12329313315254369492 : True := trivial
theorem law0.tw6241515457476834934 : True := trivial
theorem law0.tw16271119650846240727 : True := trivial
theorem law0.tw9592931494124603938 : True := trivial
theorem law0.tw8993865214624504486 : True := trivial
theorem law0.tw10574968783111339845 : True := trivial
theorem law0.tw14384508155022082502 : True := trivial
theorem law0.tw9191664701150861271 : True := trivial
theorem law0.tw7173576350407658487 : True := trivial
theorem law0.tw14233094864384590596 : True := trivial
theorem law0.tw3339082071947028493 : True := trivial
theorem law0.tw14482511730175057139 : True := trivial
theorem law0.tw14502637881921623089 : True := trivial
theorem law0.tw97011327422333217 : True := trivial
theorem law0.tw8325049363055077699 : True := trivial
theorem law0.tw11036847710331240904 : True := trivial
theorem law0.tw2813293564394126413 : True := trivial
theorem law0.tw11279991195093317508 : True := trivial
theorem law0.tw18022042417508988978 : True := trivial
theorem law0.tw15701137439533193855 : True := trivial
theorem law0.tw4737207653721729026 : True := trivial
theorem law0.tw6934433870043238913 : True := trivial
theorem law0.tw3482451569368453523 : True := trivial
theorem law0.tw4275896889816186295 : True := trivial
theorem law0.tw7364017953067699090 : True := trivial
theorem law0.tw6082462370846908609 : True := trivial
theorem law0.tw18121475477714518631 : True := trivial
theorem law0.tw11233788132738268827 : True := trivial
theorem law0.tw3242409995362319327 : True := trivial
theorem law0.tw4186683680755608804 : True := trivial
theorem law0.tw3552052254073447335 : True := trivial
theorem law0.tw16264966986630423340 : True := trivial
theorem law0.tw10296725909595943339 : True := trivial
theorem law0.tw8051031949587765908 : True := trivial
theorem law0.tw8811285888202015372 : True := trivial
theorem law0.tw17487462031322022738 : True := trivial
theorem law0.tw6645942282702190240 : True := trivial
theorem law0.tw4954486353149770692 : True := trivial
theorem law0.tw1595745200948402552 : True := trivial
theorem law0.tw6256109457577637075 : True := trivial
theorem law0.tw1826558441015012861 : True := trivial
theorem law0.tw8655055279254721380 : True := trivial
theorem law0.tw5114199050186101605 : True := trivial
theorem law0.tw13668072922049362273 : True := trivial
theorem law0.tw14768403720961908982 : True := trivial
theorem law0.tw3821402484137310781 : True := trivial
theorem law0.tw12445363386462770490 : True := trivial
theorem law0.tw4568735621749491602 : True := trivial
theorem law0.tw13887094470469057045 : True := trivial
theorem law0.tw1648573743134891248 : True := trivial
theorem law0.tw8356385577724382480 : True := trivial
theorem law0.tw15581958874973260358 : True := trivial
theorem law0.tw916933664783632141 : True := trivial
theorem law0.tw3395613344678616342 : True := trivial
theorem law0.tw1090360207944554471 : True := trivial
theorem law0.tw12760033617824366741 : True := trivial
theorem law0.tw5518365810387356747 : True := trivial
theorem law0.tw6507899236002629847 : True := trivial
theorem law0.tw5848207159276898234 : True := trivial
theorem law0.tw8560515718193637092 : True := trivial
theorem law0.tw8810814624881557703 : True := trivial
theorem law0.tw6511098520777711806 : True := trivial
theorem law0.tw15674937678839129268 : True := trivial
theorem law0.tw1014089360491510555 : True := trivial
theorem law0.tw10917286036579721307 : True := trivial
theorem law0.tw9095731128961565082 : True := trivial
theorem law0.tw11294410451544581352 : True := trivial
set_option maxHeartbeats 16000000 in
set_option Elab.async true in
theorem law0 : PySem.Challenge.rw_ij0168_01.Holds := by
  w_on
  o_law
  o_head (kmHook hd.heap_1 [nat_lit 2, nat_lit 3, nat_lit 32, nat_lit 34, nat_lit 35, nat_lit 37, nat_lit 38, nat_lit 39, nat_lit 40, nat_lit 41, nat_lit 43, nat_lit 44, nat_lit 46, nat_lit 47, nat_lit 51, nat_lit 52, nat_lit 54, nat_lit 58, nat_lit 60, nat_lit 61,
    nat_lit 63, nat_lit 64, nat_lit 65, nat_lit 67, nat_lit 68, nat_lit 70, nat_lit 71, nat_lit 72, nat_lit 74, nat_lit 75, nat_lit 77, nat_lit 78, nat_lit 79, nat_lit 81, nat_lit 82, nat_lit 84, nat_lit 85, nat_lit 86, nat_lit 93, nat_lit 95,
    nat_lit 96, nat_lit 98, nat_lit 99, nat_lit 100, nat_lit 101, nat_lit 102, nat_lit 105, nat_lit 112, nat_lit 114, nat_lit 115, nat_lit 117, nat_lit 118, nat_lit 119, nat_lit 121, nat_lit 122, nat_lit 124, nat_lit 125, nat_lit 126, nat_lit 128, nat_lit 129,
    nat_lit 131, nat_lit 132, nat_lit 133, nat_lit 134, nat_lit 135, nat_lit 138, nat_lit 140, nat_lit 141, nat_lit 143, nat_lit 144, nat_lit 145, nat_lit 147, nat_lit 148, nat_lit 150, nat_lit 151, nat_lit 152, nat_lit 154, nat_lit 155, nat_lit 157, nat_lit 158,
    nat_lit 159, nat_lit 161, nat_lit 162, nat_lit 164, nat_lit 165, nat_lit 166, nat_lit 168, nat_lit 169, nat_lit 171, nat_lit 172, nat_lit 173, nat_lit 176, nat_lit 177, nat_lit 178, nat_lit 181, nat_lit 182, nat_lit 183, nat_lit 185, nat_lit 186, nat_lit 188,
    nat_lit 189, nat_lit 190, nat_lit 193, nat_lit 194, nat_lit 195, nat_lit 197, nat_lit 198, nat_lit 200, nat_lit 201, nat_lit 202, nat_lit 204, nat_lit 205, nat_lit 207, nat_lit 208, nat_lit 209, nat_lit 212, nat_lit 213, nat_lit 214, nat_lit 217, nat_lit 218,
    nat_lit 219, nat_lit 222, nat_lit 223] (fun _ => by kernel_rfl) [196, 66])
  (case hw => w_witness2)
  k_go0
  all_goals (try k_fold)
  rename_i w s₀ s₁ mg mb lG lY fa oF pm cd doc lho lhcd lhg lX lV lT lB lTE lTW ns lhs _ _ _ _ vs1 vs2 la vs _ lL lra lw1 lr0 lI lhr lz _ lhD h₁ tk₁ o3 o2 o1 c3 c2 c1 x0 kX kT kB kF kC kN kl
  clear kB x0 lhD lG lY lhcd lX lV lT lB lTE lTW hT8 hT9 lho lra lw1 lr0 lhr lL
  replace c1 : o1.data = .cell none := c1
  replace c2 : o2.data = .cell none := c2
  replace c3 : o3.data = .cell none := c3
  replace kC : CodeHd _ 200 196 := kC
  have kC2 : CodeHd _ 70 66 := codeHd
  clear codeHd
  generalize ghostOf s₁.heap [(200, 196), (70, 66)] = h₀ at *
  generalize s₁.heap.objs.size = L at *
  have lI2 := lI
  have hlen := lI.length
  have hln : ns.length ≤ 63 := by omega
  replace kF : Fr h₀ L h₁ (fun y => if y = Str.ofString "script" then some (.ref la) else none) := kF
  dsimp only
  k_steps
  (with_reducible rename Fr _ _ _ _ => lF); (with_reducible rename News _ _ _ _ => lN)
  have G0 : Gd (hd.heap_1 w.params) topProg _ _ _ _ callerA h₀ 300 5000 := ⟨rfl, by decide, by decide +kernel, kX, kT⟩
  refine t_paths w _ _ 0 (ns.take 12) (Gd.keeps (Gd.deeper (Gd.less G0 (by decide) (by decide)) _) lF.keep) (lN.get (by k_mem)) (by assumption) (by rw [List.length_take]; omega) ?_
  intro r es c h2 tk2 hk2 hg2 hn2 he2 hm2 hS2
  obtain ⟨⟨a0, b0⟩, ⟨a1, b1⟩, ⟨a2, b2⟩, rfl⟩ := three he2
  obtain ⟨w0, k0, e0, S0⟩ := hS2 0 (a0, b0) rfl
  obtain ⟨w1, k1, e1, S1⟩ := hS2 1 (a1, b1) rfl
  obtain ⟨w2, k2, e2, S2⟩ := hS2 2 (a2, b2) rfl
  dsimp only at e0 e1 e2
  subst e0 e1 e2
  obtain ⟨g0, n0, d0⟩ := hm2 (a0, _) (.head _)
  obtain ⟨g1, n1, d1⟩ := hm2 (a1, _) (.tail _ (.head _))
  obtain ⟨g2, n2, d2⟩ := hm2 (a2, _) (.tail _ (.tail _ (.head _)))
  dsimp only [List.map] at hk2 hg2 hn2 g0 g1 g2 n0 n1 n2 d0 d1 d2
  have F1 := Fr.keeps lF hk2
  have A0 := newsK lF lN hk2 g0 n0
  have A1 := newsK lF lN hk2 g1 n1
  have A2 := newsK lF lN hk2 g2 n2
  have AR := newsK lF lN hk2 hg2 hn2
  have N1 := newsTake AR (.head _) (newsTake A0 (.head _) (newsTake A1 (.head _) (newsTake A2 (.head _) (News.grown lN hk2))))
  have q1 := neK1 lN (a := L + 1) (by k_mem) hn2
  have q2 := neK1 lN (a := L + 1 + 1) (by k_mem) hn2
  have q3 := neK1 lN (a := L + 1 + 1 + 1) (by k_mem) hn2
  have q4 := neK1 lN (a := L + 1) (by k_mem) n0
  have q5 := neK1 lN (a := L + 1 + 1) (by k_mem) n0
  have q6 := neK1 lN (a := L + 1 + 1 + 1) (by k_mem) n0
  have q7 := neK1 lN (a := L + 1) (by k_mem) n1
  have q8 := neK1 lN (a := L + 1 + 1) (by k_mem) n1
  have q9 := neK1 lN (a := L + 1 + 1 + 1) (by k_mem) n1
  have qa := neK1 lN (a := L + 1) (by k_mem) n2
  have qb := neK1 lN (a := L + 1 + 1) (by k_mem) n2
  have qc := neK1 lN (a := L + 1 + 1 + 1) (by k_mem) n2
  clear lF lN A0 A1 A2 AR hk2 hg2 hn2 g0 g1 g2 n0 n1 n2 hm2 hS2 he2
  k_steps
  unfold Hold
  (with_reducible rename Fr _ _ _ _ => lF); (with_reducible rename News _ _ _ _ => lN)
  have M := menuM lN (by k_mem) (by k_mem) (by k_mem) (by k_mem) (by k_mem) (by k_mem) (by k_mem) (by k_mem)
  obtain ⟨D1, l1, t1, ws1, m1, hx1, hD1, hl1, hs1⟩ := M (ns.length % 4) (by omega)
  obtain ⟨D2, l2, t2, ws2, m2, hx2, hD2, hl2, hs2⟩ := M (ns.length / 4 % 4) (by omega)
  clear M
  have z1 := neCell lN (a := L + 1) (by k_mem) c1 hD1 (by intro v e; cases e)
  have z2 := neCell lN (a := L + 1) (by k_mem) c1 hl1 (by intro v e; cases e)
  have z3 := neCell lN (a := L + 1) (by k_mem) c1 hD2 (by intro v e; cases e)
  have z4 := neCell lN (a := L + 1) (by k_mem) c1 hl2 (by intro v e; cases e)
  have z5 := neCell lN (a := L + 1 + 1) (by k_mem) c2 hD1 (by intro v e; cases e)
  have z6 := neCell lN (a := L + 1 + 1) (by k_mem) c2 hl1 (by intro v e; cases e)
  have z7 := neCell lN (a := L + 1 + 1) (by k_mem) c2 hD2 (by intro v e; cases e)
  have z8 := neCell lN (a := L + 1 + 1) (by k_mem) c2 hl2 (by intro v e; cases e)
  have z9 := neCell lN (a := L + 1 + 1 + 1) (by k_mem) c3 hD1 (by intro v e; cases e)
  have za := neCell lN (a := L + 1 + 1 + 1) (by k_mem) c3 hl1 (by intro v e; cases e)
  have zb := neCell lN (a := L + 1 + 1 + 1) (by k_mem) c3 hD2 (by intro v e; cases e)
  have zc := neCell lN (a := L + 1 + 1 + 1) (by k_mem) c3 hl2 (by intro v e; cases e)
  have zt1 := neCell lN (a := L + 1) (by k_mem) c1 (.head _) (by intro v e; cases e)
  have zt2 := neCell lN (a := L + 1 + 1) (by k_mem) c2 (.head _) (by intro v e; cases e)
  have zt3 := neCell lN (a := L + 1 + 1 + 1) (by k_mem) c3 (.head _) (by intro v e; cases e)
  have N2 := newsTake lN (.head _) (newsTake lN hD1 (newsTake lN hl1 (newsTake lN hD2 (newsTake lN hl2 (newsTake lN (q := (r, listOf [.ref a0, .ref a1, .ref a2].toArray c)) (by k_mem) (newsTake lN (q := (a0, listOf w0.toArray k0)) (by k_mem) (newsTake lN (q := (a1, listOf w1.toArray k1)) (by k_mem) (newsTake lN (q := (a2, listOf w2.toArray k2)) (by k_mem)
    (newsTake lN (q := (L + 1 + 1 + 1, o3)) (by k_mem) (newsTake lN (q := (L + 1 + 1, o2)) (by k_mem) (newsTake lN (q := (L + 1, o1)) (by k_mem) (newsTake lN (q := (196, tabObj #[])) (by k_mem) (newsTake lN (q := (66, tabObj #[])) (by k_mem) News.nil)))))))))))))
  clear lN hD1 hl1 hD2 hl2
  repeat ((with_reducible rename _ < _ ∧ _ < _ ∧ _ => lC); clear lC)
  have kl2 : 66 < L := kl.2
  have kl6 : 196 < L := kl.1
  generalize hpk1 : patOf (ns.length % 4) = p1 at N2
  generalize hpk2 : patOf (ns.length / 4 % 4) = p2 at N2
  refine item_listL (memL N2 (by k_mem)) (Int.fmod_nonneg (by omega) (by decide)) (by have := Int.fmod_lt_of_pos (ns.length : Int) (b := 4) (by decide); omega) (by rw [mod4]; exact hx1) ?_ (by with_unfolding_all rfl) (by intro _; with_unfolding_all rfl)
  k_steps
  unfold Hold
  (with_reducible rename Fr _ _ _ _ => lF); (with_reducible rename News _ _ _ _ => lN)
  refine item_listL (memL lN (by k_mem)) (Int.fmod_nonneg (by rw [Int.fdiv_eq_ediv_of_nonneg _ (by decide)]; omega) (by decide)) (by have := Int.fmod_lt_of_pos ((ns.length : Int).fdiv 4) (b := 4) (by decide); omega) (by rw [div4]; exact hx2) ?_ (by with_unfolding_all rfl) (by intro _; with_unfolding_all rfl)
  k_steps
  rename_i lE1 _ _ _ _
  (with_reducible rename Fr _ _ _ _ => lF); (with_reducible rename News _ _ _ _ => lN)
  have NR := rotOut lN (P := 66) (o := tabObj #[]) (by k_mem)
  dsimp only [List.dropLast] at NR
  have hr6 := offT NR (by repeat (first | exact trivial | refine And.intro (Or.inl (seqNoF rfl)) ?_ | refine And.intro (Or.inl (cellNoF (by assumption))) ?_ | refine And.intro (Or.inr (Nat.ne_of_beq_eq_false rfl)) ?_))
  refine t_translate w (ns.length % 4) (by omega) _ hpk1 #[] (.inl rfl) t1 _ _ (by (try dsimp only); omega) (by (try dsimp only); omega) (Gd.deeper (Gd.less G0 (by decide) (by decide)) _) (by show 1 + claimMargin + 1 ≤ 380; decide) (by show 4 + 3 ≤ 2000; decide) kC2 lF NR hr6 ?_
  intro r1 v1 n1 T1 h3 tk3 hT1 F3 N3 ne3 hS3
  have N4 := rotIn N3
  dsimp only [List.append, HAppend.hAppend, Append.append] at N4
  have y1 : NeA _ _ := ne3 (L + 1, _) (by k_mem)
  have y2 : NeA _ _ := ne3 (L + 1 + 1, _) (by k_mem)
  have y3 : NeA _ _ := ne3 (L + 1 + 1 + 1, _) (by k_mem)
  dsimp only at y1 y2 y3
  clear lF lN NR hr6 N3 ne3
  k_steps
  rename_i lE2 _ _ _ _
  (with_reducible rename Fr _ _ _ _ => lF); (with_reducible rename News _ _ _ _ => lN)
  have NR := rotOut lN (P := 66) (o := tabObj T1) (by k_mem)
  dsimp only [List.dropLast] at NR
  have hr6 := offT NR (by repeat (first | exact trivial | refine And.intro (Or.inl (seqNoF rfl)) ?_ | refine And.intro (Or.inl (cellNoF (by assumption))) ?_ | refine And.intro (Or.inr (Nat.ne_of_beq_eq_false rfl)) ?_))
  refine t_translate w (ns.length / 4 % 4) (by omega) _ hpk2 T1 hT1 t2 _ _ (by (try dsimp only); omega) (by (try dsimp only); omega) (Gd.deeper (Gd.less G0 (by decide) (by decide)) _) (by show 1 + claimMargin + 1 ≤ 380; decide) (by show 4 + 3 ≤ 2000; decide) kC2 lF NR hr6 ?_
  intro r2 v2 n2 T2 h4 tk4 hT2 F4 N4 ne4 hS4
  have N5 := rotIn N4
  dsimp only [List.append, HAppend.hAppend, Append.append] at N5
  have x1 : NeA _ _ := ne4 (L + 1, _) (by k_mem)
  have x2 : NeA _ _ := ne4 (L + 1 + 1, _) (by k_mem)
  have x3 : NeA _ _ := ne4 (L + 1 + 1 + 1, _) (by k_mem)
  dsimp only at x1 x2 x3
  clear lF lN NR hr6 N4 ne4
  k_steps
  rename_i lM _ _ _ oM _ _ dM
  (with_reducible rename Fr _ _ _ _ => lF); (with_reducible rename News _ _ _ _ => lN)
  have hLaw : ∀ k1 k2 j, reF (pksOf k1) (pksOf k2) (ns.take 12) j = dueF (itemsOf k1) (itemsOf k2) (ns.take 12) j := fun k1 k2 j => law_same _ (by rw [List.length_take]; omega) k1 k2 j
  have hOK : ∀ j, DrawnOK (drawnF (ns.take 12) j) := fun j => drawn_all _ (by rw [List.length_take]; omega) j
  refine compL (lo := listOf #[Value.ref a0, Value.ref a1, Value.ref a2] c) (vs := #[Value.ref a0, Value.ref a1, Value.ref a2]) (TupsJ _ (dueF (itemsOf (ns.length % 4)) (itemsOf (ns.length / 4 % 4)) (ns.take 12))) rfl rfl rfl (.inr ?hlm) (by rw [sizeLine_eq]; show 3 ≤ 16777216; decide) lF lN ⟨[], (List.append_nil _).symm, rfl, rfl, fun j e h => by simp at h⟩ ?_ ?_
  · rintro _ _ _ ⟨es, rfl, _⟩
    exact List.mem_append_left _ (by k_mem)
  · clear lF lN
    intro i v acc news₁ hi hv hJ hal C D I oC oI oD m₃ h tk ho b1 b2 b3 F N B hx
    obtain ⟨es, rfl, hlen3, rfl, hes⟩ := hJ
    refine wpAny_tests_nil ?_
    rw [if_pos rfl]
    dsimp only [List.cons_append, List.nil_append] at N ho
    have hv2 : ∃ x wx kx, v = .ref x ∧ News h₀ L h [(x, listOf (List.toArray wx) kx)] ∧ StrsAre wx (drawnF (ns.take 12) i) := by
      have hi' : i < 3 := hi
      have hi3 : i = 0 ∨ i = 1 ∨ i = 2 := by omega
      rcases hi3 with rfl | rfl | rfl
      · cases hv; exact ⟨a0, w0, k0, rfl, newsTake N (by k_mem) News.nil, S0⟩
      · cases hv; exact ⟨a1, w1, k1, rfl, newsTake N (by k_mem) News.nil, S1⟩
      · cases hv; exact ⟨a2, w2, k2, rfl, newsTake N (by k_mem) News.nil, S2⟩
    obtain ⟨x, wx, kx, rfl, NX, SX⟩ := hv2
    have N0 := newsTake N (.head _) (newsTake N (.tail _ (.head _)) (newsTake N (.tail _ (.tail _ (.head _))) (newsTake NX (.head _) (fun q hq => N q (.tail _ (.tail _ (.tail _ hq)))))))
    clear N NX
    have hO := hOK i
    generalize hxs : drawnF (ns.take 12) i = xs at *
    k_steps
    (with_reducible rename Fr _ _ _ _ => lF); (with_reducible rename News _ _ _ _ => lN)
    refine t_row w x wx xs kx (Gd.keeps (Gd.deeper (Gd.less G0 (by decide) (by decide)) _) lF.keep) (lN.get (by k_mem)) SX hO.ok hO.sz ?_
    intro rr wr cr h6 tk6 hk6 hg6 hn6 hS6
    have F6 := Fr.keeps lF hk6
    have N6 := newsK lF lN hk6 hg6 hn6
    clear lF lN hk6 hg6 hn6
    k_steps
    (with_reducible rename Fr _ _ _ _ => lF); (with_reducible rename News _ _ _ _ => lN)
    refine t_meets w [none, some (itemsOf (ns.length % 4)), none, some (itemsOf (ns.length / 4 % 4))] rr _ wr [_, _, _, _] cr 0 (rowF xs) (Gd.keeps (Gd.deeper (Gd.less G0 (by show 60 + 10 * 4 + 1 ≤ 300; decide) (by show 300 + 50 * 4 + 3 ≤ 5000; decide)) _) lF.keep) (lN.get (by k_mem)) hS6 (lN.get (by k_mem)) (.deep _ (.pat l1 ws1 m1 _ (lN.get (by k_mem)) hs1 (itemsOf_len _) (.deep _ (.pat l2 ws2 m2 _ (lN.get (by k_mem)) hs2 (itemsOf_len _) .nil)))) (by show 4 < 100; decide) hO.szf hO.xl ?_
    intro h7 tk7 hk7
    have F7 := Fr.keeps lF hk7
    have N7 := News.grown lN hk7
    clear lF lN hk7
    k_steps
    (with_reducible rename Fr _ _ _ _ => lF); (with_reducible rename News _ _ _ _ => lN)
    refine t_row w x wx xs kx (Gd.keeps (Gd.deeper (Gd.less G0 (by decide) (by decide)) _) lF.keep) (lN.get (by k_mem)) SX hO.ok hO.sz ?_
    intro ry wy cy h8 tk8 hk8 hg8 hn8 hS8
    have F8 := Fr.keeps lF hk8
    have N8 := newsK lF lN hk8 hg8 hn8
    clear lF lN hk8 hg8 hn8
    have hly := hS8.length
    have hlz := hO.szf
    k_steps
    (with_reducible rename Fr _ _ _ _ => lF); (with_reducible rename News _ _ _ _ => lN)
    refine compEnd (hJ := TupsJ.step' hlen3 hes (by rw [← hxs]; rfl) (by rw [hly, ← hxs]; rfl)) lF (N₂ := newsSnoc lN (fun q hq => by repeat (first | exact hq | apply List.Mem.tail)) (by k_mem)) lN (by k_mem) (by k_mem) (by k_mem) (offSnoc ho ⟨Nat.ne_of_gt (by omega), Nat.ne_of_gt (by omega), Nat.ne_of_gt (by omega)⟩)
  · clear lF lN
    rintro acc news₁ C D c9 h tk hx ⟨es, rfl, hlen3, rfl, hes⟩ F N hD h' tk' F'' N''
    clear F N hD
    replace F'' : Fr h₀ L h' _ := F''
    replace N'' : News h₀ L h' _ := N''
    obtain ⟨⟨e0, b0⟩, ⟨e1, b1⟩, ⟨e2, b2⟩, rfl⟩ := three hlen3
    obtain ⟨u0, q0⟩ := hes 0 _ rfl
    obtain ⟨u1, q1⟩ := hes 1 _ rfl
    obtain ⟨u2, q2⟩ := hes 2 _ rfl
    dsimp only at q0 q1 q2
    subst q0 q1 q2
    clear hes hlen3
    dsimp only [List.append, HAppend.hAppend, Append.append, List.map] at N''
    generalize hdue : dueF (itemsOf (ns.length % 4)) (itemsOf (ns.length / 4 % 4)) (ns.take 12) = fD at N''
    obtain ⟨base, N9, hb6, hin, hin6⟩ := packB N'' (T := #[]) (by k_mem)
    have bM := hin lM (listOf #[.ref lE1, .ref r1, .ref lE2, .ref r2] 0) (by k_mem) (seqNoF rfl)
    have bR1 := hin r1 (listOf v1.toArray n1) (by k_mem) (seqNoF rfl)
    have bR2 := hin r2 (listOf v2.toArray n2) (by k_mem) (seqNoF rfl)
    have bR := hin r (listOf #[.ref a0, .ref a1, .ref a2] c) (by k_mem) (seqNoF rfl)
    have bA0 := hin a0 (listOf w0.toArray k0) (by k_mem) (seqNoF rfl)
    have bA1 := hin a1 (listOf w1.toArray k1) (by k_mem) (seqNoF rfl)
    have bA2 := hin a2 (listOf w2.toArray k2) (by k_mem) (seqNoF rfl)
    have bC := hin (L + 1 + 1 + 1) oM (by k_mem) (cellNoF dM)
    have bD := hin D (listOf #[.ref e0, .ref e1, .ref e2] c9) (by k_mem) (seqNoF rfl)
    have bE0 := hin e0 (tupO #[.bool (fD 0).1, .int (((fD 0).2 : Nat) : Int) u0]) (by k_mem) (seqNoF rfl)
    have bE1 := hin e1 (tupO #[.bool (fD 1).1, .int (((fD 1).2 : Nat) : Int) u1]) (by k_mem) (seqNoF rfl)
    have bE2 := hin e2 (tupO #[.bool (fD 2).1, .int (((fD 2).2 : Nat) : Int) u2]) (by k_mem) (seqNoF rfl)
    have b66 := hin6 (tabObj T2) (by k_mem)
    clear hin hin6
    clear N''
    k_steps
    (with_reducible rename Fr _ _ _ _ => lF); (with_reducible rename News _ _ _ _ => lN)
    refine compL (lo := listOf #[Value.ref a0, Value.ref a1, Value.ref a2] c) (vs := #[Value.ref a0, Value.ref a1, Value.ref a2]) (ReJ base (reF (pksOf (ns.length % 4)) (pksOf (ns.length / 4 % 4)) (ns.take 12))) rfl rfl rfl (.inr ?hl2) (by rw [sizeLine_eq]; show 3 ≤ 16777216; decide) lF lN ⟨#[], [], [], congrArg (List.cons _) (List.append_nil _).symm, .inl ⟨rfl, rfl, rfl⟩, rfl, rfl, fun j e h => by simp at h⟩ ?_ ?_
    · rintro _ _ _ ⟨T, X, es, rfl, _⟩
      exact .tail _ (List.mem_append_left _ bR)
    · clear lF lN
      intro i v acc news₁ hi hv hJ hal C D9 I oC oI oD m₃ h tk ho b1 b2 b3 F N B hx
      obtain ⟨T, X, es, rfl, hTX, hlen3, rfl, hes⟩ := hJ
      refine wpAny_tests_nil ?_
      rw [if_pos rfl]
      have hv2 : ∃ x wx kx, v = .ref x ∧ (x, listOf (List.toArray wx) kx) ∈ base ∧ StrsAre wx (drawnF (ns.take 12) i) := by
        have hi' : i < 3 := hi
        have hi3 : i = 0 ∨ i = 1 ∨ i = 2 := by omega
        rcases hi3 with rfl | rfl | rfl
        · cases hv; exact ⟨a0, w0, k0, rfl, bA0, S0⟩
        · cases hv; exact ⟨a1, w1, k1, rfl, bA1, S1⟩
        · cases hv; exact ⟨a2, w2, k2, rfl, bA2, S2⟩
      obtain ⟨x, wx, kx, rfl, bX, SX⟩ := hv2
      have inb : ∀ {q}, q ∈ base → q ∈ (C, oC) :: (I, oI) :: (D9, oD) :: (196, tabObj T) :: (base ++ (X ++ es)) := fun hq => .tail _ (.tail _ (.tail _ (.tail _ (List.mem_append_left _ hq))))
      have N0 := newsTake N (.tail _ (.tail _ (.tail _ (.head _)))) (newsTake N (.head _) (newsTake N (.tail _ (.head _)) (newsTake N (.tail _ (.tail _ (.head _))) (newsTake N (inb bX) (newsTake N (inb bM) (newsTake N (inb bC) (fun q hq => N q (.tail _ (.tail _ (.tail _ (.tail _ hq)))))))))))
      clear N
      have hO := hOK i
      generalize hxs : drawnF (ns.take 12) i = xs at *
      have hjo := hO.jo
      k_steps
      (with_reducible rename Fr _ _ _ _ => lF); (with_reducible rename News _ _ _ _ => lN)
      have NT : News h₀ L _ ((196, tabObj T) :: (C, oC) :: (I, oI) :: (D9, oD) :: (base ++ (X ++ es))) := newsTake lN (.head _) (newsTake lN (.tail _ (.head _)) (newsTake lN (.tail _ (.tail _ (.head _))) (newsTake lN (.tail _ (.tail _ (.tail _ (.head _)))) (fun q hq => lN q (by repeat (first | exact hq | apply List.Mem.tail))))))
      exact re_turn w (Gd.deeper (Gd.less G0 (by decide) (by decide)) _) kC lF NT hb6 ho hTX hlen3 hes bM bR1 hS3 bR2 hS4 (pksOf_len _) (pksOf_len _) hO.path (by rw [← hxs]; rfl)
    · clear lF lN
      rintro acc news₁ C D9 cR h tk hx ⟨T, X, es, rfl, hTX, hlen3, rfl, hes⟩ F N hD h' F2 N2
      clear F N hD
      obtain ⟨⟨f0, b0⟩, ⟨f1, b1⟩, ⟨f2, b2⟩, rfl⟩ := three hlen3
      obtain ⟨x0, q0⟩ := hes 0 _ rfl
      obtain ⟨x1, q1⟩ := hes 1 _ rfl
      obtain ⟨x2, q2⟩ := hes 2 _ rfl
      dsimp only at q0 q1 q2
      subst q0 q1 q2
      clear hes hlen3
      k_steps
      unfold Hold
      (with_reducible rename Fr _ _ _ _ => lF); (with_reducible rename News _ _ _ _ => lN)
      have hEq : ∀ j, reF (pksOf (ns.length % 4)) (pksOf (ns.length / 4 % 4)) (ns.take 12) j = fD j := by
        intro j
        rw [← hdue]
        exact hLaw _ _ j
      refine eq_three (lN.get (.head _)) (lN.get (.tail _ (.tail _ (List.mem_append_right _ (List.mem_append_right _ (.head _)))))) (lN.get (.tail _ (.tail _ (List.mem_append_right _ (List.mem_append_right _ (.tail _ (.head _))))))) (lN.get (.tail _ (.tail _ (List.mem_append_right _ (List.mem_append_right _ (.tail _ (.tail _ (.head _)))))))) (lN.get (.tail _ (.tail _ (List.mem_append_left _ bD)))) (lN.get (.tail _ (.tail _ (List.mem_append_left _ bE0)))) (lN.get (.tail _ (.tail _ (List.mem_append_left _ bE1)))) (lN.get (.tail _ (.tail _ (List.mem_append_left _ bE2)))) hEq (by show 4 + 3 + 64 < cLine; decide +kernel) ?_
      refine And.intro ?_ (And.intro (GrownAt.of lN (.tail _ (.head _))) (And.intro (GrownAt.of lN (.tail _ (.tail _ (List.mem_append_left _ b66)))) trivial))
      clear hEq hTX
      k_steps

end
end
end
end Mine
set_option maxRecDepth 100000 in
set_option maxHeartbeats 8000000 in
theorem PySem.Challenge.cw_ij0168_01_holds : PySem.Challenge.rw_ij0168_01.Holds := by
  exact Mine.law0
