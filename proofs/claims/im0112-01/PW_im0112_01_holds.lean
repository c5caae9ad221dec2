import PyProof.Rows.All
import Wide.All
import OpenK.AllK
import Wide.FinOn
import KE.BitLaws
import PySem.Challenge.RW_im0112_01
set_option Elab.async false
set_option rowWalk.seconds 0
set_option linter.all false
section
open PySem PySem.W PyProof.Rows
set_option maxRecDepth 100000
set_option maxHeartbeats 8000000
namespace Mine
open_top hd for PySem.Challenge.rw_im0112_01
end Mine
end
section
open PySem PySem.W PySem.Calls PyProof.Rows
set_option maxRecDepth 100000
namespace Mine

/-- a frame's map, written -/
def bindF : List (Str × Value) → (Str → Option Value) → Str → Option Value
  | [], m => m
  | (x, v) :: r, m => fun y => if y = x then some v else bindF r m y
theorem lookup_bindF : ∀ ps : List (Str × Value), (fun y => ps.lookup y) = bindF ps fun _ => none
  | [] => rfl
  | (x, v) :: r => by
    funext y
    show ((x, v) :: r).lookup y = if y = x then some v else bindF r (fun _ => none) y
    rw [List.lookup_cons, ← lookup_bindF r]
    by_cases e : y = x
    · simp [e]
    · have : (y == x) = false := by simpa using e
      rw [this, if_neg e]

/-- what a called body hands back: its value and its ledger, by a relation of the caller's -/
def Done (g : Heap) (s₀ : Shared) (R : Value → List (Addr × Obj) → Prop) (v : Value) (s' : Shared) : Prop :=
  ∃ L' h' tk m' rw', s' = { s₀ with heap := h', toks := tk } ∧ Fr g L' h' m' ∧ News g L' h' rw' ∧ R v rw'

theorem Done.intro {g : Heap} {s₀ : Shared} {R : Value → List (Addr × Obj) → Prop} {v : Value} {L' : Addr} {h' : Heap} {tk : Nat} {m' : Str → Option Value} {rw' : List (Addr × Obj)}
    (F : Fr g L' h' m') (N : News g L' h' rw') (hR : R v rw') : Done g s₀ R v { s₀ with heap := h', toks := tk } := ⟨L', h', tk, m', rw', rfl, F, N, hR⟩

section
variable {prog : Program} {w : World} {A₀ A : Around} {E : Value → Shared → Prop} {s : Shared} {base h₀ : Heap} {outer : List Env} {L : Addr} {m : Str → Option Value} {env : Env} {ro rw : List (Addr × Obj)}

theorem call_split {K : Frag} {p : Program} {loose : List Str} {mean : ExcName → Option Value} {mg mb : Str → Option Value} {Q : Value → Shared → Prop} {name qual : Str} {params : Arguments} {body : List Stmt} {scope : Scope} {dV kV doc pm cdv ct oc : Value} {an od : Option Addr} {osl : Array (Option Value)} {f : Addr} {args : List Value} {binds : List (Str × Value)}
    (R : Value → List (Addr × Obj) → Prop)
    (B : Below A₀ base outer h₀) (F : Fr h₀ L s.heap m) (X₀ : K.In h₀) (N : News h₀ L s.heap (rw ++ ro)) (hd : ∀ p ∈ ro, p.1 ∉ rw.map (·.1)) (T : Top p loose mean mg mb h₀) (hA : A.frames = some (env :: outer)) (hf : env.frame = some L) (hke : env.scope.kind = .function)
    (ho : K.lookup f = some ⟨oc, od, .func (fnOf name qual params body scope dV kV doc pm an cdv ct), osl⟩) (hcd : codeIn K cdv qual = true) (hroom : A.depth < recursionLimit)
    (hbind : BindsTo s (fnOf name qual params body scope dV kV doc pm an cdv ct) ⟨args, []⟩ binds) (hloc : ∀ y ∈ binds, scope.names.lookup y.1 = some .local)
    (h : ∀ g L' h₁, Fr g L' h₁ (bindF binds.reverse fun _ => none) → News g L' h₁ rw → (∀ p ∈ ro, g.get? p.1 = some p.2) → h₀.StaysIn g → Below A base (env :: outer) g → K.In g → Top p loose mean mg mb g →
      wpAny (model prog w) (A.deeper (envOf qual scope L' f cdv)) (execs body (envOf qual scope L' f cdv))
        (fun fl s' => Done g s R (match fl with | .ret v => v | _ => .none) s') (fun _ _ => False)
        { s with heap := h₁, toks := s.toks + binds.length })
    (ret : ∀ v h' tk rw', R v rw' → Fr h₀ L h' m → News h₀ L h' (rw' ++ ro) → (∀ p ∈ rw', ∀ q ∈ ro, p.1 ≠ q.1) → Q v { s with heap := h', toks := tk })
    (hco : scope.isCoroutine = false) (hgen : scope.isGenerator = false) (hk : scope.kind = .function)
    (hcell : ∀ x ∈ scope.names, x.2 ≠ .cell) : wpAny (model prog w) A (call (.ref f) args) Q E s := by
  refine wpAny_call ?_
  have Nw : News h₀ L s.heap rw := fun p hp => N p (List.mem_append.mpr (.inl hp))
  have No : News h₀ L s.heap ro := fun p hp => N p (List.mem_append.mpr (.inr hp))
  refine code_defG B F X₀ Nw T hA hf hke ho hcd hroom hbind hloc (fun g L' h₁ FG F' N' B' X' T' G => ?_) hco hgen hk hcell
  have hro : ∀ p ∈ ro, g.get? p.1 = some p.2 := fun p hp => G _ _ (No p hp).1 (hd p hp)
  have hst : h₀.StaysIn g := FG.keep
  refine wpAny_mono (h g L' h₁ (lookup_bindF binds.reverse ▸ F') N' hro hst B' X' T') (fun fl s' hd' => ?_) fun _ _ x => x.elim
  obtain ⟨L₂, h', tk, m', rw', rfl, F₂, N₂, hR⟩ := hd'
  refine ⟨L₂, m', rw', F₂, N₂, fun Fb Nb => ?_⟩
  refine ret _ h' tk rw' hR Fb (fun p hp => ?_) (fun p hp q hq e => ?_)
  · rcases List.mem_append.mp hp with hp | hp
    · exact Nb p hp
    · exact ⟨F₂.keep _ _ (hro p hp), (No p hp).2⟩
  · have h1 := (N₂ p hp).2.2
    rw [e, hro q hq] at h1
    cases h1
end
end Mine
end
section
open PySem PySem.W PySem.Calls PyProof.Rows PyProof.V PySem.Spec
set_option maxRecDepth 100000
namespace Mine
section
variable {prog : Program} {w : World} {A : Around} {E : Value → Shared → Prop} {s : Shared} {env : Env} {h₀ : Heap} {x : Str} {body : List Stmt} {Q : Flow → Shared → Prop}

/-- a loop over whatever is walked, its ledger free to grow -/
theorem loop_grow {I : Addr} {fp wr : List Addr} {n : Nat} {P : Nat → Value → Prop} {St : Nat → Heap → Prop} {m₀ : Str → Option Value} {news : List (Addr × Obj)} (J : Nat → (Str → Option Value) → List (Addr × Obj) → Prop)
    (W : Walks prog w A I fp wr n P St) (hLf : env.locals ∉ fp) (hwr : ∀ b ∈ wr, h₀.get? b = none) (hwf : ∀ b ∈ wr, b ∈ fp) (hlive : ∀ i h, St i h → ∀ b ∈ wr, ∃ o, h.get? b = some o) (hnf : ∀ b ∈ fp, b ∉ wr → ∃ o, h₀.get? b = some o) (hnw : ∀ p ∈ news, p.1 ∉ wr) (hst : St 0 s.heap) (F : Fr h₀ env.locals s.heap m₀) (N : News h₀ env.locals s.heap news) (hj : J 0 m₀ news)
    (turn : ∀ i v m₁ nx h tk own, i < n → P i v → OwnOff own (nx.map (·.1)) → J i m₁ nx → Fr h₀ env.locals h (fun y => if y = x then some v else m₁ y) → News h₀ env.locals h (nx ++ own) →
      wpAny (model prog w) A (execs body env) (InvPostG h₀ env.locals (J (i + 1)) own { s with heap := h, toks := tk } Q) E { s with heap := h, toks := tk })
    (done : ∀ m₁ nx h tk, J n m₁ nx → Fr h₀ env.locals h m₁ → News h₀ env.locals h nx → Q .next { s with heap := h, toks := tk }) :
    LoopAtV prog w A h₀ env x body Q E (.ref I) s := by
  refine ⟨I, fp, wr, n, P, St, m₀, news, J, rfl, W, hLf, hwr, hnw, hst, F, N, hj, ?_, ?_⟩
  · rintro i v m₁ nx s₁ own ⟨hh', tk', rfl⟩ hin hP hJ hoff hown _ hfp hst' F₁ N₁
    have hsep : OwnOff own (nx.map (·.1)) := by
      intro p hp b hb e
      obtain ⟨q, hq, rfl⟩ := List.mem_map.mp hb
      by_cases hw : p.1 ∈ wr
      · exact hoff q hq (e ▸ hw)
      · obtain ⟨o, ho⟩ := hnf _ (hown p hp) hw
        have h3 := (N₁ q (List.mem_append.mpr (.inr hq))).2.2
        rw [← e, ho] at h3
        cases h3
    have N₂ : News h₀ env.locals hh' (nx ++ own) := fun p hp => N₁ p ((List.mem_append.mp hp).elim (fun h => List.mem_append.mpr (.inr h)) fun h => List.mem_append.mpr (.inl h))
    refine wpAny_mono (turn i v m₁ nx hh' tk' own hin hP hsep hJ F₁ N₂) (fun f s₂ p => ?_) fun _ _ e => e
    have fin : InvEndG h₀ env.locals (J (i + 1)) own { s with heap := hh', toks := tk' } s₂ → LoopStepU h₀ env.locals wr own (J (i + 1)) { s with heap := hh', toks := tk' } .next s₂ := by
      rintro ⟨h', tk, m', news', nx', e, F', N', hn, ho, ha, hm⟩
      refine ⟨rfl, h', tk, m', nx', e, F', fun p hp => N' p ((List.mem_append.mp hp).elim (ho p) (hn p)), fun p hp hq => ?_, hm⟩
      obtain ⟨o, hlo⟩ := hlive _ _ hst' _ hq
      have hIown := hfp _ (hwf _ hq) (hwr _ hq) o hlo
      exact ha _ hIown p.1 (List.mem_map.mpr ⟨p, hp, rfl⟩) rfl
    cases f with
    | ret v => exact .ret p
    | brk => exact .brk p
    | next => exact .next (fin p)
    | cont => exact .cont (fin p)
  · rintro h' tk m' news' F' N' _ hJ
    exact done m' news' h' tk hJ F' N'

theorem range_loop {r : Addr} {a₀ b₀ c₀ : Int} {t₀ u₀ v₀ : Tok} {n : Nat} {m₀ : Str → Option Value} {news : List (Addr × Obj)} (J : Nat → (Str → Option Value) → List (Addr × Obj) → Prop)
    (hh : A.handled = none) (hr : IsRange s.heap r a₀ b₀ c₀ t₀ u₀ v₀) (hsmall : Builtin.Range.small a₀ b₀ c₀ = true) (hn : Builtin.Range.rangeSize a₀ b₀ c₀ = (n : Int)) (F : Fr h₀ env.locals s.heap m₀) (N : News h₀ env.locals s.heap news) (hj : J 0 m₀ news)
    (turn : ∀ (i : Nat) t m₁ nx h tk own, i < n → OwnOff own (nx.map (·.1)) → J i m₁ nx → Fr h₀ env.locals h (fun y => if y = x then some (.int (a₀ + i * c₀) t) else m₁ y) → News h₀ env.locals h (nx ++ own) →
      wpAny (model prog w) A (execs body env) (InvPostG h₀ env.locals (J (i + 1)) own { s with heap := h, toks := tk } Q) E { s with heap := h, toks := tk })
    (done : ∀ m₁ nx h tk, J n m₁ nx → Fr h₀ env.locals h m₁ → News h₀ env.locals h nx → Q .next { s with heap := h, toks := tk }) :
    wpAny (model prog w) A (pyIter (.ref r)) (fun it s₂ => LoopAtV prog w A h₀ env x body Q E it s₂) E s := by
  refine wpAny_pyIter_range hr hsmall ?_
  have W : Walks prog w A s.heap.objs.size [s.heap.objs.size] [s.heap.objs.size] n (fun i v => i < n ∧ ∃ t, v = .int (a₀ + i * c₀) t)
      (fun i h => IsRangeIter h s.heap.objs.size (a₀ + (i : Nat) * c₀) ((n : Int) - (i : Nat)) c₀) := (Walks.range hh _ a₀ c₀ n).bound
  refine loop_grow (s := { s with heap := s.heap.push _ }) J W ?_ ?_ (fun b hb => hb) (fun i h st b hb => ?_) (fun b hb hn' => absurd hb hn') ?_ (by show IsRangeIter _ _ _ _ _; rw [hn]; simpa using Heap.get?_push_size _ rfl) (F.push _) (fun p hp => ⟨Heap.get?_push_of_some _ (N p hp).1, (N p hp).2⟩) hj ?_ ?_
  · intro hm
    exact absurd F.ns.lt ((List.mem_singleton.mp hm) ▸ Nat.lt_irrefl _)
  · intro b hb
    rw [List.mem_singleton.mp hb]
    exact next_is_new F
  · rw [List.mem_singleton.mp hb]; exact ⟨_, st⟩
  · intro p hp hI
    exact absurd (Heap.lt_size (N p hp).1) ((List.mem_singleton.mp hI) ▸ Nat.lt_irrefl _)
  · rintro i v m₁ nx h tk own hi ⟨_, t, rfl⟩ ho hJ F' N'
    exact turn i t m₁ nx h tk own hi ho hJ F' N'
  · intro m₁ nx h tk hJ F' N'
    exact done m₁ nx h tk hJ F' N'

theorem list_loop {l : Addr} {vs : List Value} {m₀ : Str → Option Value} {news : List (Addr × Obj)} (J : Nat → (Str → Option Value) → List (Addr × Obj) → Prop)
    (hh : A.handled = none) (hl : h₀.IsList l vs.toArray) (F : Fr h₀ env.locals s.heap m₀) (N : News h₀ env.locals s.heap news) (hj : J 0 m₀ news)
    (turn : ∀ (i : Nat) v m₁ nx h tk own, vs[i]? = some v → OwnOff own (nx.map (·.1)) → J i m₁ nx → Fr h₀ env.locals h (fun y => if y = x then some v else m₁ y) → News h₀ env.locals h (nx ++ own) →
      wpAny (model prog w) A (execs body env) (InvPostG h₀ env.locals (J (i + 1)) own { s with heap := h, toks := tk } Q) E { s with heap := h, toks := tk })
    (done : ∀ m₁ nx h tk, J vs.length m₁ nx → Fr h₀ env.locals h m₁ → News h₀ env.locals h nx → Q .next { s with heap := h, toks := tk }) :
    wpAny (model prog w) A (pyIter (.ref l)) (fun it s₂ => LoopAtV prog w A h₀ env x body Q E it s₂) E s := by
  have hls : s.heap.IsList l vs.toArray := hl.at fun o e => F.keep l o e
  obtain ⟨ol, hol, _⟩ := id hl
  have hlt : l < h₀.objs.size := Heap.lt_size hol
  have hne : l ≠ s.heap.objs.size := Nat.ne_of_lt (Nat.lt_trans (Nat.lt_of_lt_of_le hlt F.above) F.ns.lt)
  refine wpAny_pyIter_list hls ?_
  have W := Walks.list (prog := prog) (w := w) hh s.heap.objs.size l hne vs.toArray
  have hlen : vs.toArray.size = vs.length := by simp
  rw [hlen] at W
  refine loop_grow (s := { s with heap := s.heap.push _ }) J W ?_ ?_ (fun b hb => ?_) (fun i h st b hb => ?_) (fun b hb hn' => ?_) ?_ ⟨⟨_, Heap.get?_push_size _ rfl, rfl, rfl⟩, hls.at fun o e => Heap.get?_push_of_some _ e⟩ (F.push _) (fun p hp => ⟨Heap.get?_push_of_some _ (N p hp).1, (N p hp).2⟩) hj ?_ ?_
  · intro hm
    rcases List.mem_cons.mp hm with e | hm
    · exact absurd F.ns.lt (e ▸ Nat.lt_irrefl _)
    · exact absurd (Nat.lt_of_lt_of_le hlt F.above) ((List.mem_singleton.mp hm) ▸ Nat.lt_irrefl _)
  · intro b hb
    rw [List.mem_singleton.mp hb]
    exact next_is_new F
  · rw [List.mem_singleton.mp hb]; exact .head _
  · rw [List.mem_singleton.mp hb]
    obtain ⟨⟨oI, hoI, _⟩, _⟩ := id st
    exact ⟨_, hoI⟩
  · rcases List.mem_cons.mp hb with e | hm
    · exact absurd (List.mem_singleton.mpr e) hn'
    · rw [List.mem_singleton.mp hm]; exact ⟨_, hol⟩
  · intro p hp hI
    exact absurd (Heap.lt_size (N p hp).1) ((List.mem_singleton.mp hI) ▸ Nat.lt_irrefl _)
  · intro i v m₁ nx h tk own hi hP ho hJ F' N'
    exact turn i v m₁ nx h tk own (by simpa using hP) ho hJ F' N'
  · intro m₁ nx h tk hJ F' N'
    exact done m₁ nx h tk hJ F' N'
end
end Mine
end
section
open PySem PySem.W PySem.Calls PyProof.Rows PyProof.V PySem.Spec
set_option maxRecDepth 100000
namespace Mine

/-! ## a ledger with one entry turned -/
def setL (a : Addr) (o : Obj) (l : List (Addr × Obj)) : List (Addr × Obj) := l.map fun q => if q.1 = a then (a, o) else q
theorem setL_adr (a : Addr) (o : Obj) (l : List (Addr × Obj)) : (setL a o l).map (·.1) = l.map (·.1) := by
  unfold setL
  rw [List.map_map]
  apply List.map_congr_left
  intro q _
  show (if q.1 = a then (a, o) else q).1 = q.1
  split
  · rename_i h; exact h.symm
  · rfl
theorem mem_setL_same {a : Addr} {o o' : Obj} {l : List (Addr × Obj)} (h : (a, o') ∈ l) : (a, o) ∈ setL a o l :=
  List.mem_map.mpr ⟨_, h, by simp⟩
theorem mem_setL_other {a : Addr} {o : Obj} {q : Addr × Obj} {l : List (Addr × Obj)} (h : q ∈ l) (hn : q.1 ≠ a) : q ∈ setL a o l :=
  List.mem_map.mpr ⟨_, h, by simp [hn]⟩
theorem news_setL {h₀ h h' : Heap} {L a : Addr} {o : Obj} {news : List (Addr × Obj)} (N : News h₀ L h news) (hs : Heap.SameBut a h h') (ho : h'.get? a = some o) : News h₀ L h' (setL a o news) := by
  intro p hp
  obtain ⟨q, hq, rfl⟩ := List.mem_map.mp hp
  have z := N q hq
  by_cases e : q.1 = a
  · simp only [e, if_true]
    exact ⟨ho, by rw [← e]; exact z.2.1, by rw [← e]; exact z.2.2⟩
  · simp only [e, if_false]
    exact ⟨(hs.2 _ e).trans z.1, z.2⟩

/-! ## a list object -/
def LObj (o : Obj) (its : List Value) : Prop := o.cls = .type "list" ∧ ∃ n, o.data = .seq its.toArray n
theorem LObj.list (its : List Value) (n : Nat) : LObj (listOf its.toArray n) its := ⟨rfl, n, rfl⟩
theorem LObj.isList {o : Obj} {its : List Value} (h : LObj o its) {hp : Heap} {a : Addr} (ha : hp.get? a = some o) : hp.IsList a its.toArray := ⟨o, ha, h.1, h.2⟩

section
variable {prog : Program} {w : World} {A : Around} {E : Value → Shared → Prop} {s : Shared}

theorem setItem_neg {l : Addr} {items : Array Value} {k : Int} {t : Tok} {v : Value} {Q : Unit → Shared → Prop} (hl : s.heap.IsList l items)
    (h0 : k < 0) (h1 : -(items.size : Int) ≤ k) (hfit : -(2 ^ 63) ≤ k)
    (hQ : ∀ h', h'.IsList l (items.setIfInBounds (k + items.size).toNat v) → Heap.SameBut l s.heap h' → Q () { s with heap := h' }) :
    wpAny (model prog w) A (setItem (.ref l) (.int k t) v) Q E s := by
  obtain ⟨o, ho, hc, ne, hd⟩ := id hl
  unfold setItem
  try with_reducible refine wpAny_holding ?_
  first | refine wpAny_bind (wpAny_pure ?_) | skip
  refine wpAny_bind (wpAny_sequenceKey hl.typeIs (by decide) ?_)
  refine wpAny_bind (wpAny_callSpecial?_slot (name := Str.ofString "__setitem__") hl.typeIs slot_list_setitem
    (wpAny_call_entry slot_list_setitem hl.typeIs entry_list_setitem ?_ (args_list_setitem _ _ _)))
  show wpAny _ _ (Builtin.List.listSubscript? (.int k t) >>= _) _ _ s
  refine wpAny_bind (wpAny_listSubscript_int (fitsIndex_neg h0 hfit) ?_)
  clear hfit
  have hidx := seqIndex_neg h0 h1
  have hlt : (k + items.size).toNat < items.size := by omega
  have hx' : items[(k + items.size).toNat]? = some items[(k + items.size).toNat] := Array.getElem?_eq_getElem hlt
  have hfin : ∀ j, j = (k + items.size).toNat → (s.heap.update l (Obj.mapSeq (·.setIfInBounds j v))).IsList l (items.setIfInBounds (k + items.size).toNat v) := by
    rintro j rfl
    obtain ⟨n', hd'⟩ := Obj.data_mapSeq hd (·.setIfInBounds (k + items.size).toNat v)
    exact ⟨_, Heap.get?_update_self _ ho (Obj.isFreed_of_seq hd'), (Obj.cls_mapSeq ..).trans hc, n', hd'⟩
  obtain ⟨j, rfl⟩ : ∃ j : Nat, k = Int.negSucc j := by
    cases k with
    | ofNat n => exact absurd h0 (Int.not_lt.mpr (Int.ofNat_nonneg n))
    | negSucc n => exact ⟨n, rfl⟩
  show wpAny _ _ ((Builtin.List.listItems (.ref l) >>= fun xs => pure ((seqIndex? (Int.negSucc j) xs.size).bind fun i => xs[i]?.map (i, ·))) >>= _) _ _ s
  refine wpAny_bind (wpAny_bind ?_)
  show wpAny _ _ (seqItems? (.ref l) >>= _) _ _ s
  refine wpAny_bind (wpAny_seqItems ho hd (wpAny_pure (wpAny_pure ?_)))
  rw [hidx]
  simp only [Option.bind_some, hx', Option.map_some]
  show wpAny _ _ (setSeqItemAt l _ v >>= _) _ _ s
  refine wpAny_bind (wpAny_setSeqItemAt ho hd ?_)
  first
    | exact wpAny_bind (wpAny_pure (wpAny_pure ⟨.none, rfl, wpAny_pure (hQ _ (hfin _ rfl) (Heap.SameBut.update ..))⟩))
    | exact wpAny_pure ⟨.none, rfl, wpAny_pure (hQ _ (hfin _ rfl) (Heap.SameBut.update ..))⟩

/-- the place that an index means -/
def At (k : Int) (n j : Nat) : Prop := j < n ∧ ((0 ≤ k ∧ k = j ∧ k < 2 ^ 63) ∨ (k < 0 ∧ k + n = j ∧ -(2 ^ 63) ≤ k))

theorem setItem_at {l : Addr} {its : List Value} {k : Int} {t : Tok} {v : Value} {j : Nat} {Q : Unit → Shared → Prop} (hl : s.heap.IsList l its.toArray) (hk : At k its.length j)
    (hQ : ∀ h' o', h'.get? l = some o' → LObj o' (its.set j v) → Heap.SameBut l s.heap h' → Q () { s with heap := h' }) :
    wpAny (model prog w) A (setItem (.ref l) (.int k t) v) Q E s := by
  have e : ∀ i, its.toArray.setIfInBounds i v = (its.set i v).toArray := fun i => by
    apply Array.toList_inj.mp; simp
  have fin : ∀ i, i = j → ∀ h', h'.IsList l (its.toArray.setIfInBounds i v) → Heap.SameBut l s.heap h' → Q () { s with heap := h' } := by
    rintro i rfl h' ⟨o', ho', hc, n, hd⟩ hs
    exact hQ h' o' ho' ⟨hc, n, by rw [hd, e]⟩ hs
  obtain ⟨hj, h | h⟩ := hk
  · refine wpAny_setItem_list hl h.1 h.2.2 (by simp; omega) (fin _ (by omega))
  · refine setItem_neg hl h.1 (by simp; omega) h.2.2 (fin _ (by simp; omega))

theorem getItem_at {l : Addr} {its : List Value} {k : Int} {t : Tok} {v : Value} {j : Nat} {Q : Value → Shared → Prop} (hl : s.heap.IsList l its.toArray) (hk : At k its.length j) (hv : its[j]? = some v)
    (h : Q v s) : wpAny (model prog w) A (getItem (.ref l) (.int k t)) Q E s := by
  obtain ⟨hj, h' | h'⟩ := hk
  · exact wpAny_getItem_list hl h'.1 h'.2.2 (by rw [show k.toNat = j by omega]; simpa using hv) h
  · exact wpAny_getItem_list_neg hl h'.1 (by simp; omega) h'.2.2 (by rw [show (k + its.toArray.size).toNat = j by simp; omega]; simpa using hv) h

theorem sub_at {value slice : Expr} {l : Addr} {its : List Value} {k : Int} {t : Tok} {v : Value} {j : Nat} {Q : Value → Shared → Prop} (hl : s.heap.IsList l its.toArray) (hk : At k its.length j) (hv : its[j]? = some v)
    (h : Q v s) (hs : subscripted slice false (.ref l) (.int k t) = operate [.ref l, .int k t] (getItem (.ref l) (.int k t)) := by with_unfolding_all rfl) :
    wpAny (model prog w) A (subscriptTail value slice (.ref l) (.int k t)) Q E s :=
  tail_any hl.typeIs slot_list_getitem.lookup (getItem_at hl hk hv h) hs
end

/-! ## the picture: a list of rows of one width -/
def gset (g : Nat → Nat → Int) (i j : Nat) (x : Int) : Nat → Nat → Int := fun a b => if a = i ∧ b = j then x else g a b

/-- row items -/
def RowIs (vs : List Value) (n : Nat) (f : Nat → Int) : Prop := vs.length = n ∧ ∀ j, j < n → ∃ t, vs[j]? = some (.int (f j) t)

structure Pic (news : List (Addr × Obj)) (p : Addr) (n : Nat) (as : Nat → Addr) (g : Nat → Nat → Int) : Prop where
  top : ∃ o, (p, o) ∈ news ∧ LObj o ((List.range n).map fun i => Value.ref (as i))
  row : ∀ i, i < n → ∃ o vs, (as i, o) ∈ news ∧ LObj o vs ∧ RowIs vs n (g i)
  inj : ∀ i j, i < n → j < n → as i = as j → i = j
  off : ∀ i, i < n → as i ≠ p

theorem Pic.mono {news news' : List (Addr × Obj)} {p : Addr} {n : Nat} {as : Nat → Addr} {g : Nat → Nat → Int} (h : Pic news p n as g) (hs : ∀ q ∈ news, q ∈ news') : Pic news' p n as g :=
  ⟨by obtain ⟨o, a, b⟩ := h.top; exact ⟨o, hs _ a, b⟩, fun i hi => by obtain ⟨o, vs, a, b⟩ := h.row i hi; exact ⟨o, vs, hs _ a, b⟩, h.inj, h.off⟩

theorem RowIs.set {vs : List Value} {n j : Nat} {f : Nat → Int} {x : Int} {t : Tok} (h : RowIs vs n f) : RowIs (vs.set j (.int x t)) n (fun b => if b = j then x else f b) := by
  refine ⟨by rw [List.length_set]; exact h.1, fun b hb => ?_⟩
  by_cases e : b = j
  · subst e
    refine ⟨t, ?_⟩
    rw [List.getElem?_set]
    simp [h.1, hb]
  · obtain ⟨t', ht'⟩ := h.2 b hb
    refine ⟨t', ?_⟩
    rw [List.getElem?_set]
    simp only [e, if_false]
    rw [if_neg (fun q => e q.symm)]
    exact ht'

theorem Pic.turn {news : List (Addr × Obj)} {p : Addr} {n : Nat} {as : Nat → Addr} {g : Nat → Nat → Int} (h : Pic news p n as g) {i j : Nat} (hi : i < n) {o o' : Obj} {vs : List Value} {x : Int} {t : Tok}
    (hm : (as i, o) ∈ news) (hr : RowIs vs n (g i)) (ho' : LObj o' (vs.set j (.int x t))) : Pic (setL (as i) o' news) p n as (gset g i j x) := by
  refine ⟨?_, fun a ha => ?_, h.inj, h.off⟩
  · obtain ⟨op, a, b⟩ := h.top
    exact ⟨op, mem_setL_other a (fun e => h.off i hi e.symm), b⟩
  · by_cases e : a = i
    · subst e
      refine ⟨o', _, mem_setL_same hm, ho', ?_⟩
      have := hr.set (j := j) (x := x) (t := t)
      have e2 : gset g a j x a = fun b => if b = j then x else g a b := by
        funext b; simp [gset]
      rw [e2]; exact this
    · obtain ⟨oa, va, c1, c2, c3⟩ := h.row a ha
      refine ⟨oa, va, mem_setL_other c1 (fun q => e (h.inj a i ha hi q)), c2, ?_⟩
      have e2 : gset g i j x a = g a := by
        funext b; simp [gset, e]
      rw [e2]; exact c3

section
variable {prog : Program} {w : World} {A : Around} {E : Value → Shared → Prop} {s : Shared} {h₀ : Heap} {L : Addr} {m : Str → Option Value} {news : List (Addr × Obj)} {p : Addr} {n : Nat} {as : Nat → Addr} {g : Nat → Nat → Int}

/-- picture[k] -/
theorem pic_row {value slice : Expr} {k : Int} {t : Tok} {i : Nat} {Q : Value → Shared → Prop} (N : News h₀ L s.heap news) (P : Pic news p n as g) (hk : At k n i) (h : Q (.ref (as i)) s)
    (hs : subscripted slice false (.ref p) (.int k t) = operate [.ref p, .int k t] (getItem (.ref p) (.int k t)) := by with_unfolding_all rfl) :
    wpAny (model prog w) A (subscriptTail value slice (.ref p) (.int k t)) Q E s := by
  obtain ⟨o, hm, hl⟩ := P.top
  exact sub_at (hl.isList (N _ hm).1) (by simpa using hk) (by simp [hk.1]) h hs

/-- picture[i][k], read -/
theorem pic_cell {value slice : Expr} {k : Int} {t : Tok} {i j : Nat} {Q : Value → Shared → Prop} (N : News h₀ L s.heap news) (P : Pic news p n as g) (hi : i < n) (hk : At k n j) (h : ∀ t', Q (.int (g i j) t') s)
    (hs : subscripted slice false (.ref (as i)) (.int k t) = operate [.ref (as i), .int k t] (getItem (.ref (as i)) (.int k t)) := by with_unfolding_all rfl) :
    wpAny (model prog w) A (subscriptTail value slice (.ref (as i)) (.int k t)) Q E s := by
  obtain ⟨o, vs, hm, hl, hr⟩ := P.row i hi
  obtain ⟨t', ht'⟩ := hr.2 j hk.1
  exact sub_at (hl.isList (N _ hm).1) (by rw [hr.1]; exact hk) ht' (h t') hs

/-- picture[i][k] = x; the ledger's part behind it stands -/
theorem pic_set {own : List (Addr × Obj)} {k x : Int} {t u : Tok} {i j : Nat} {Q : Unit → Shared → Prop} (F : Fr h₀ L s.heap m) (N : News h₀ L s.heap (news ++ own)) (O : OwnOff own (news.map (·.1))) (P : Pic news p n as g) (hi : i < n) (hk : At k n j)
    (h : ∀ h' news', Fr h₀ L h' m → News h₀ L h' (news' ++ own) → OwnOff own (news'.map (·.1)) → news'.map (·.1) = news.map (·.1) → Pic news' p n as (gset g i j x) → (∀ q ∈ news, (∀ b, b < n → q.1 ≠ as b) → q ∈ news') → Q () { s with heap := h' }) :
    wpAny (model prog w) A (setItem (.ref (as i)) (.int k t) (.int x u)) Q E s := by
  obtain ⟨o, vs, hm, hl, hr⟩ := P.row i hi
  have z := N _ (List.mem_append.mpr (.inl hm))
  refine setItem_at (hl.isList z.1) (by rw [hr.1]; exact hk) fun h' o' ho' hl' hs => ?_
  have e : setL (as i) o' own = own := by
    unfold setL
    conv => rhs; rw [← List.map_id own]
    apply List.map_congr_left
    intro q hq
    have := O q hq (as i) (List.mem_map.mpr ⟨_, hm, rfl⟩)
    simp [this]
  refine h h' (setL (as i) o' news) (F.change hs z.2.1 z.2.2) ?_ ?_ (setL_adr ..) (P.turn hi hm hr hl') fun q hq hb => mem_setL_other hq (hb i hi)
  · have := news_setL N hs ho'
    unfold setL at this e ⊢
    rw [List.map_append, e] at this
    exact this
  · rw [setL_adr]; exact O
end
section
variable {prog : Program} {w : World} {A : Around} {E : Value → Shared → Prop} {s : Shared} {h₀ : Heap} {L : Addr} {m : Str → Option Value} {news own : List (Addr × Obj)} {p : Addr} {n : Nat} {as : Nat → Addr} {g : Nat → Nat → Int}
theorem at_pos {k : Int} {n : Nat} (h0 : 0 ≤ k) (h1 : k < n) (h2 : n ≤ 1000) : At k n k.toNat := ⟨by omega, .inl ⟨h0, by omega, by omega⟩⟩
theorem at_neg {k : Int} {n : Nat} (h0 : k < 0) (h1 : -(n : Int) ≤ k) (h2 : n ≤ 1000) : At k n (k + n).toNat := ⟨by omega, .inr ⟨h0, by omega, by omega⟩⟩
theorem pic_rowO {value slice : Expr} {k : Int} {t : Tok} {i : Nat} {Q : Value → Shared → Prop} (N : News h₀ L s.heap (news ++ own)) (P : Pic news p n as g) (hk : At k n i) (h : Q (.ref (as i)) s)
    (hs : subscripted slice false (.ref p) (.int k t) = operate [.ref p, .int k t] (getItem (.ref p) (.int k t)) := by with_unfolding_all rfl) :
    wpAny (model prog w) A (subscriptTail value slice (.ref p) (.int k t)) Q E s := pic_row (fun p hp => N p (List.mem_append_left _ hp)) P hk h hs
theorem pic_cellO {value slice : Expr} {k : Int} {t : Tok} {i j : Nat} {Q : Value → Shared → Prop} (N : News h₀ L s.heap (news ++ own)) (P : Pic news p n as g) (hi : i < n) (hk : At k n j) (h : ∀ t', Q (.int (g i j) t') s)
    (hs : subscripted slice false (.ref (as i)) (.int k t) = operate [.ref (as i), .int k t] (getItem (.ref (as i)) (.int k t)) := by with_unfolding_all rfl) :
    wpAny (model prog w) A (subscriptTail value slice (.ref (as i)) (.int k t)) Q E s := pic_cell (fun p hp => N p (List.mem_append_left _ hp)) P hi hk h hs
end
end Mine
end
section
open PySem PySem.W PySem.Calls PyProof.Rows
set_option maxRecDepth 100000
namespace Mine
/-! ## what is known of a frame -/
def Knows (m : Str → Option Value) (ps : List (Str × Value)) : Prop := ∀ p ∈ ps, m p.1 = some p.2
theorem bindF_eq {m : Str → Option Value} : ∀ {ps : List (Str × Value)}, Knows m ps → bindF ps m = m
  | [], _ => rfl
  | (x, v) :: r, h => by
    funext y
    show (if y = x then some v else bindF r m y) = m y
    by_cases e : y = x
    · rw [if_pos e, e]; exact (h _ (.head _)).symm
    · rw [if_neg e, bindF_eq fun p hp => h p (.tail _ hp)]
theorem Knows.fr {h₀ h : Heap} {L : Addr} {x : Str} {v : Value} {m : Str → Option Value} {ps : List (Str × Value)} (F : Fr h₀ L h (fun y => if y = x then some v else m y)) (k : Knows m ps) : Fr h₀ L h (fun y => if y = x then some v else bindF ps m y) := by
  rw [bindF_eq k]; exact F
theorem Knows.fr0 {h₀ h : Heap} {L : Addr} {m : Str → Option Value} {ps : List (Str × Value)} (F : Fr h₀ L h m) (k : Knows m ps) : Fr h₀ L h (bindF ps m) := by
  rw [bindF_eq k]; exact F
theorem Knows.nil {m : Str → Option Value} : Knows m [] := fun _ h => nomatch h
theorem Knows.cons {m : Str → Option Value} {x : Str} {v : Value} {r : List (Str × Value)} (h : m x = some v) (k : Knows m r) : Knows m ((x, v) :: r) := fun p hp => by
  rcases List.mem_cons.mp hp with rfl | hp
  · exact h
  · exact k p hp
end Mine
end
section
open PySem PySem.W PySem.Calls PyProof.Rows
set_option maxRecDepth 100000
namespace Mine
/-! ## the number of ones -/
def pc (n : Nat) : Nat := if h : n = 0 then 0 else n % 2 + pc (n / 2)
decreasing_by omega
theorem pc_zero : pc 0 = 0 := by rw [pc]; simp
theorem pc_step (n : Nat) : pc n = n % 2 + pc (n / 2) := by
  by_cases h : n = 0
  · subst h; simp [pc_zero]
  · rw [pc]; simp [h]
theorem pc_pos {n : Nat} (h : 0 < n) : 0 < pc n := by
  induction n using Nat.strongRecOn with
  | ind n ih =>
    rw [pc_step]
    by_cases e : n % 2 = 1
    · omega
    · have := ih (n / 2) (by omega) (by omega)
      omega
theorem pc_drop {n : Nat} (h : 0 < n) : pc (n &&& (n - 1)) + 1 = pc n := by
  induction n using Nat.strongRecOn with
  | ind n ih =>
    have h1 : (n &&& (n - 1)) / 2 = n / 2 &&& (n - 1) / 2 := Nat.and_div_two
    have h2 := @Nat.and_mod_two_eq_one n (n - 1)
    rw [pc_step (n &&& (n - 1)), pc_step n, h1]
    by_cases e : n % 2 = 1
    · have e3 : (n - 1) / 2 = n / 2 := by omega
      have e4 : (n &&& (n - 1)) % 2 = 0 := by
        have : ¬ (n - 1) % 2 = 1 := by omega
        have := mt h2.mp (fun q => this q.2)
        omega
      rw [e3, Nat.and_self, e4, e]
      omega
    · have e3 : (n - 1) / 2 = n / 2 - 1 := by omega
      have e4 : (n &&& (n - 1)) % 2 = 0 := by
        have := mt h2.mp (fun q => e q.1)
        omega
      have := ih (n / 2) (by omega) (by omega)
      rw [e3, e4]
      omega
theorem pc_xor (a b : Nat) : pc (a ^^^ b) ≤ pc a + pc b := by
  induction a using Nat.strongRecOn generalizing b with
  | ind a ih =>
    by_cases h : a = 0
    · subst h; simp [pc_zero]
    · have h1 : (a ^^^ b) / 2 = a / 2 ^^^ b / 2 := Nat.xor_div_two
      have h2 : (a ^^^ b) % 2 = (a % 2 + b % 2) % 2 := by
        have := @Nat.xor_mod_two_eq_one a b
        omega
      rw [pc_step (a ^^^ b), pc_step a, pc_step b, h1]
      have := ih (a / 2) (by omega) (b / 2)
      omega
theorem pc_tri (a b c : Nat) : pc (a ^^^ c) ≤ pc (a ^^^ b) + pc (b ^^^ c) := by
  have h := pc_xor (a ^^^ b) (b ^^^ c)
  have e : (a ^^^ b) ^^^ (b ^^^ c) = a ^^^ c := by
    rw [Nat.xor_assoc, ← Nat.xor_assoc b b c, Nat.xor_self, Nat.zero_xor]
  rw [e] at h
  exact h
/-! ## ints that are naturals -/
theorem xor_and_nat (a : Nat) : ∀ b : Nat, (a ^^^ b) + 2 * (a &&& b) = a + b := by
  induction a using Nat.strongRecOn with
  | ind a ih =>
    intro b
    by_cases h : a = 0
    · subst h; simp
    · have h1 : (a ^^^ b) / 2 = a / 2 ^^^ b / 2 := Nat.xor_div_two
      have h2 := @Nat.xor_mod_two_eq_one a b
      have h3 : (a &&& b) / 2 = a / 2 &&& b / 2 := Nat.and_div_two
      have h4 := @Nat.and_mod_two_eq_one a b
      have := ih (a / 2) (by omega) (b / 2)
      omega
theorem bitXor_nat (a b : Nat) : Builtin.bitXor (a : Int) (b : Int) = ((a ^^^ b : Nat) : Int) := by
  rw [bitXor_and, bitAnd_pp (Int.natCast_nonneg a) (Int.natCast_nonneg b)]
  have := xor_and_nat a b
  simp only [Int.toNat_natCast]
  omega
theorem bitAnd_nat (a b : Nat) : Builtin.bitAnd (a : Int) (b : Int) = ((a &&& b : Nat) : Int) := by
  rw [bitAnd_pp (Int.natCast_nonneg a) (Int.natCast_nonneg b)]
  simp only [Int.toNat_natCast]
theorem bitAnd_drop {x : Int} (h : 0 < x) : 0 ≤ Builtin.bitAnd x (x - 1) ∧ pc (Builtin.bitAnd x (x - 1)).toNat + 1 = pc x.toNat := by
  obtain ⟨n, rfl⟩ := Int.eq_ofNat_of_zero_le (Int.le_of_lt h)
  have e : ((n : Int) - 1) = ((n - 1 : Nat) : Int) := by omega
  rw [e, bitAnd_nat]
  refine ⟨Int.natCast_nonneg _, ?_⟩
  simp only [Int.toNat_natCast]
  exact pc_drop (by omega)
end Mine
end
section
open PySem PySem.W PySem.Calls PyProof.Rows
set_option maxRecDepth 100000
set_option maxHeartbeats 8000000
namespace Mine
theorem fill : (fun (_ : OpenLaw) (_ : Params → Frag) => True) PySem.Challenge.rw_im0112_01 hd.heap_39 := by
  w_top off
  k_fill
  trivial
abbrev A1 (cn : Str) (cs : Scope) (L a : Addr) (ccd : Value) (cl : List (Str × Addr)) : Around := callerA.deeper (envX cn cs L a ccd cl)
def natInts (ws : List Nat) : List Int := ws.map fun (k : Nat) => (k : Int)
theorem intsAre_push : ∀ {vs : List Value} {ns : List Int}, IntsAre vs ns → ∀ (k : Int) (u : Tok), IntsAre (vs ++ [.int k u]) (ns ++ [k])
  | _, _, .nil, k, u => .cons k u .nil
  | _, _, .cons i t h, k, u => .cons i t (intsAre_push h k u)
end Mine
end
section
open PySem PySem.W PySem.Calls PyProof.Rows
set_option maxRecDepth 100000
set_option maxHeartbeats 8000000
namespace Mine
theorem fillN : (fun (_ : OpenLaw) (_ : Params → Frag) => True) PySem.Challenge.rw_im0112_01 hd.heap_39 := by
  w_top off
  k_fill
  trivial
local macro_rules | `(tactic| walk_at "kstep") => `(tactic| first | (k_unfold; (try dsimp only)) | (k_end; wrow_close) | walk1 | (dsimp only; walk1) | (leave1; walk_say "STEP leave1"; try dsimp only))
local macro_rules | `(tactic| walk_at "to iter") => `(tactic| repeat ((fail_if_success (with_reducible show wpAny _ _ (pyIter _) _ _ _)); walk_at "kstep"))
local macro_rules | `(tactic| walk_at "to while") => `(tactic| repeat ((fail_if_success (with_reducible show wpAny _ _ (exec (Stmt.While _ _ _ _) _) _ _ _)); walk_at "kstep"))
local macro_rules | `(tactic| walk_at "to newList") => `(tactic| repeat ((fail_if_success (with_reducible show wpAny _ _ (newList _) _ _ _)); walk_at "kstep"))
def isNear (seen : Nat) (ws : List Nat) (k : Nat) : Bool := decide (pc (seen ^^^ ws.getD k 0) < 4)
def nearOf (seen : Nat) (ws : List Nat) (n : Nat) : List Int := natInts ((List.range n).filter (isNear seen ws))
theorem nearOf_no {seen : Nat} {ws : List Nat} {i : Nat} (h : 4 ≤ pc (seen ^^^ ws.getD i 0)) : nearOf seen ws (i + 1) = nearOf seen ws i := by
  unfold nearOf
  rw [List.range_succ, List.filter_append]
  have : isNear seen ws i = false := by simp only [isNear, decide_eq_false_iff_not]; omega
  simp [List.filter_cons, this]
theorem nearOf_yes {seen : Nat} {ws : List Nat} {i : Nat} (h : pc (seen ^^^ ws.getD i 0) < 4) : nearOf seen ws (i + 1) = nearOf seen ws i ++ [(i : Int)] := by
  unfold nearOf
  rw [List.range_succ, List.filter_append]
  have : isNear seen ws i = true := by simp only [isNear, decide_eq_true_eq]; omega
  simp [List.filter_cons, this, natInts]
theorem nearOf_len (seen : Nat) (ws : List Nat) (i : Nat) : (nearOf seen ws i).length ≤ i := by
  unfold nearOf natInts
  rw [List.length_map]
  exact Nat.le_trans (List.length_filter_le ..) (by simp)
theorem near_call {w : World} {base h₀ : Heap} {L : Addr} {m : Str → Option Value} {s : Shared} {cn : Str} {cs : Scope} {a : Addr} {ccd : Value} {cl : List (Str × Addr)} {loose : List Str} {mean : ExcName → Option Value} {mg mb : Str → Option Value} {Q E : Value → Shared → Prop}
    {ro : List (Addr × Obj)} {lw : Addr} {vsw : List Value} {nw : Nat} {ws : List Nat} {seen : Nat} {t : Tok}
    (B : Below callerA base [] h₀) (F : Fr h₀ L s.heap m) (X : (hd.heap_39 w.params).In h₀) (N : News h₀ L s.heap ro) (T : Top hd.view_39 loose mean mg mb h₀) (hk : cs.kind = .function)
    (hw : (lw, listOf vsw.toArray nw) ∈ ro) (hI : IntsAre vsw (natInts ws)) (hlen : ws.length ≤ 64)
    (ret : ∀ l vs n h' tk, IntsAre vs (nearOf seen ws ws.length) → Fr h₀ L h' m → News h₀ L h' ((l, listOf vs.toArray n) :: ro) → (∀ q ∈ ro, l ≠ q.1) → Q (.ref l) { s with heap := h', toks := tk }) :
    wpAny (model PySem.Challenge.rw_im0112_01.row.prog w) (A1 cn cs L a ccd cl) (call (.ref 62) [.int seen t, .ref lw]) Q E s := by
  refine call_split (rw := []) (ro := ro) (K := hd.heap_39 w.params) (env := envX cn cs L a ccd cl) (A₀ := callerA) (binds := [(Str.ofString "seen", .int seen t), (Str.ofString "words", .ref lw)]) (fun v rw' => ∃ l vs n, v = .ref l ∧ rw' = [(l, listOf vs.toArray n)] ∧ IntsAre vs (nearOf seen ws ws.length)) B F X N (fun _ _ h => nomatch h) T rfl rfl hk (by k_is) (by k_is) (by k_room) (BindsTo.of_eq rfl) (locs rfl) ?body ?ret rfl rfl rfl (by decide)
  case ret =>
    rintro v h' tk rw' ⟨l, vs, n, rfl, rfl, hI'⟩ F' N' hd'
    exact ret l vs n h' tk hI' F' N' fun q hq => hd' _ (.head _) q hq
  case body =>
    intro g L' h₁ F' N' hro hst B' X' T'
    dsimp only [List.reverse, List.reverseAux, bindF] at F'
    try dsimp only
    k_fold
    clear ret F N B X T hst
    have hl : g.IsList lw vsw.toArray := ⟨_, hro _ hw, rfl, _, rfl⟩
    have hL1 : (natInts ws).length = ws.length := by simp [natInts]
    have hL : (natInts ws).length < 2 ^ 62 := by omega
    clear hro
    walk_at "to newList"
    refine newList_K (by assumption) (by assumption) ?_
    intro l0 h2 F2 N2 _
    walk_at "to iter"
    rename Fr _ _ _ _ => F1
    rename News _ _ _ _ => N1
    rename IsRange _ _ _ _ _ _ _ _ => R1
    rename (∀ b o, _ → _) => K1
    refine range_loop (n := ws.length) (fun i m nx => (∃ vs n, nx = [(l0, listOf vs.toArray n)] ∧ IntsAre vs (nearOf seen ws i)) ∧ Knows m [(Str.ofString "seen", .int seen t), (Str.ofString "words", .ref lw), (Str.ofString "near", .ref l0)]) rfl R1 ?small ?n F1 N1 ?j0 ?turn ?done
    case small => rw [hL1]; exact small_one (by omega) (by omega) (by omega) (by omega)
    case n => rw [hL1]; unfold Builtin.Range.rangeSize; simp only [Int.reduceLT, gt_iff_lt, if_true, Int.zero_lt_one]; split <;> omega
    case j0 => exact ⟨⟨[], 0, rfl, by unfold nearOf; exact .nil⟩, .cons (by rfl) (.cons (by rfl) (.cons (by rfl) .nil))⟩
    case done => 
      rintro m₁ nx h tk ⟨⟨vs, n, rfl, hI'⟩, hK⟩ F2 N2
      replace F2 := hK.fr0 F2
      dsimp only [bindF] at F2
      dsimp only
      repeat' (walk_at "kstep")
      refine Done.intro F2 N2 ?_
      exact ⟨l0, vs, n, rfl, rfl, hI'⟩
    case turn =>
      rintro i ti m₁ nx h tk own hi ho ⟨⟨vs, n, rfl, hI'⟩, hK⟩ F2 N2
      replace F2 := hK.fr F2
      clear R1 F1 N1 K1
      rw [show (0 : Int) + (i : Int) * 1 = i by omega] at F2
      dsimp only [bindF] at F2
      k_unmd
      k_fold
      dsimp only [List.cons_append, List.nil_append] at N2
      simp only [List.map_cons, List.map_nil] at ho
      have hx : Builtin.bitXor (seen : Int) ((natInts ws).getD ((i : Int)).toNat 0) = ((seen ^^^ ws.getD i 0 : Nat) : Int) := by
        rw [← bitXor_nat]
        congr 1
        simp [natInts, hi]
      walk_at "to while"
      rename Fr _ _ _ _ => F3
      rename News _ _ _ _ => N3
      rw [hx] at F3
      refine While_inv2 (n₀ := 4) (fun k m nx => nx = (l0, listOf vs.toArray n) :: own ∧ ∃ (x c : Int) (tx tc : Tok), Knows m [(Str.ofString "seen", .int seen t), (Str.ofString "words", .ref lw), (Str.ofString "near", .ref l0), (Str.ofString "number", .int i ti), (Str.ofString "apart", .int x tx), (Str.ofString "count", .int c tc)] ∧ 0 ≤ x ∧ 0 ≤ c ∧ c ≤ 4 ∧ pc x.toNat + c.toNat = pc (seen ^^^ ws.getD i 0) ∧ (k : Int) = 4 - c) F3 N3 ?_ ?_
      · exact ⟨rfl, _, _, _, _, .cons (by rfl) (.cons (by rfl) (.cons (by rfl) (.cons (by rfl) (.cons (by rfl) (.cons (by rfl) .nil))))), Int.natCast_nonneg _, by omega, by omega, by simp, by omega⟩
      clear F3 N3
      rintro k m₂ nx h₂ tk₂ F2 N2 ⟨rfl, x, c, tx, tc, hK, hx0, hc0, hc4, hpc, hk⟩
      replace F2 := hK.fr0 F2
      dsimp only [bindF] at F2
      k_unmd
      k_fold
      repeat' (walk_at "kstep")
      · have hp : 0 < x := by assumption
        have hc : c < 4 := by assumption
        have hd := bitAnd_drop hp
        refine ⟨_, _, _, _, k - 1, rfl, by assumption, by assumption, by omega, rfl, _, _, _, _, .cons (by rfl) (.cons (by rfl) (.cons (by rfl) (.cons (by rfl) (.cons (by rfl) (.cons (by rfl) .nil))))), hd.1, by omega, by omega, by omega, by omega⟩
      · have hc : ¬ c < 4 := by assumption
        have h4 : 4 ≤ pc (seen ^^^ ws.getD i 0) := by omega
        refine InvEndG.intro F2 N2 ⟨⟨vs, n, rfl, by rw [nearOf_no h4]; exact hI'⟩, .cons (by rfl) (.cons (by rfl) (.cons (by rfl) .nil))⟩ ho (fun p hp => List.mem_append.mpr (.inl hp)) (fun p hp => List.mem_cons_of_mem _ hp)
      · have hc : c < 4 := by assumption
        have hp : ¬ 0 < x := by assumption
        have hx1 : x = 0 := by omega
        refine append_K F2 N2 (Upd.head (by k_all)) ?_ ?_
        · intro h3 F3 N3
          repeat' (walk_at "kstep")
          rw [show vs.toArray.push (Value.int (i : Int) ti) = (vs ++ [Value.int (i : Int) ti]).toArray by simp] at N3
          refine InvEndG.intro F3 N3 ⟨⟨vs ++ [Value.int (i : Int) ti], n + 1, rfl, ?_⟩, .cons (by rfl) (.cons (by rfl) (.cons (by rfl) .nil))⟩ ho (fun p hp => List.mem_append.mpr (.inl hp)) (fun p hp => List.mem_cons_of_mem _ hp)
          have h4 : pc (seen ^^^ ws.getD i 0) < 4 := by
            rw [hx1] at hpc
            simp only [Int.toNat_zero, pc_zero] at hpc
            omega
          rw [nearOf_yes h4]
          exact intsAre_push hI' _ _
        · have h1 := hI'.length
          have h2 := nearOf_len seen ws i
          simp only [List.size_toArray]
          rw [sizeLine_eq]
          omega
      · have hc : ¬ c < 4 := by assumption
        have h4 : 4 ≤ pc (seen ^^^ ws.getD i 0) := by omega
        refine InvEndG.intro F2 N2 ⟨⟨vs, n, rfl, by rw [nearOf_no h4]; exact hI'⟩, .cons (by rfl) (.cons (by rfl) (.cons (by rfl) .nil))⟩ ho (fun p hp => List.mem_append.mpr (.inl hp)) (fun p hp => List.mem_cons_of_mem _ hp)
end Mine
end
section
open PySem PySem.W PySem.Calls PyProof.Rows
set_option maxRecDepth 100000
namespace Mine
def DoneC (g : Heap) (s₀ : Shared) (ro : List (Addr × Obj)) (R : Value → List (Addr × Obj) → Prop) (v : Value) (s' : Shared) : Prop :=
  ∃ L' h' tk m' rw', s' = { s₀ with heap := h', toks := tk } ∧ Fr g L' h' m' ∧ News g L' h' (rw' ++ ro) ∧ R v rw'

theorem DoneC.intro {g : Heap} {s₀ : Shared} {R : Value → List (Addr × Obj) → Prop} {v : Value} {L' : Addr} {h' : Heap} {tk : Nat} {m' : Str → Option Value} {rw' ro : List (Addr × Obj)}
    (F : Fr g L' h' m') (N : News g L' h' (rw' ++ ro)) (hR : R v rw') : DoneC g s₀ ro R v { s₀ with heap := h', toks := tk } := ⟨L', h', tk, m', rw', rfl, F, N, hR⟩

section
variable {prog : Program} {w : World} {A₀ A : Around} {E : Value → Shared → Prop} {s : Shared} {base h₀ : Heap} {outer : List Env} {L : Addr} {m : Str → Option Value} {env : Env} {ro : List (Addr × Obj)}

theorem call_cells {K : Frag} {p : Program} {loose : List Str} {mean : ExcName → Option Value} {mg mb : Str → Option Value} {Q : Value → Shared → Prop} {name qual : Str} {params : Arguments} {body : List Stmt} {scope : Scope} {dV kV doc pm cdv ct oc : Value} {an od : Option Addr} {osl : Array (Option Value)} {f : Addr} {args : List Value} {binds : List (Str × Value)}
    (R : Value → List (Addr × Obj) → Prop)
    (B : Below A₀ base outer h₀) (F : Fr h₀ L s.heap m) (X₀ : K.In h₀) (N : News h₀ L s.heap ro) (T : Top p loose mean mg mb h₀) (hA : A.frames = some (env :: outer)) (hf : env.frame = some L) (hke : env.scope.kind = .function)
    (ho : K.lookup f = some ⟨oc, od, .func (fnOf name qual params body scope dV kV doc pm an cdv ct), osl⟩) (hcd : codeIn K cdv qual = true) (hroom : A.depth < recursionLimit)
    (hbind : BindsTo s (fnOf name qual params body scope dV kV doc pm an cdv ct) ⟨args, []⟩ binds) (hkind : (binds.all fun y => scope.names.lookup y.1 == some .local || scope.names.lookup y.1 == some .cell) = true)
    (hnd : ((cellsFrom 0 scope.names []).map (·.1)).Nodup)
    (h : ∀ g L' h₁ tk cells, Fr g L' h₁ (bindL (envOfC qual scope L' f cdv).kindOf binds fun _ => none) → News g L' h₁ (cells ++ ro) →
      CellsAre (bindC (envOfC qual scope L' f cdv).kindOf binds fun _ => none) (cellsFrom (L' + 1) scope.names []) cells → Below A base (env :: outer) g → K.In g → Top p loose mean mg mb g → (∀ p ∈ ro, p.1 < L') →
      wpAny (model prog w) (A.deeper (envOfC qual scope L' f cdv)) (execs body (envOfC qual scope L' f cdv))
        (fun fl s' => DoneC g s ro R (match fl with | .ret v => v | _ => .none) s') (fun _ _ => False)
        { s with heap := h₁, toks := tk })
    (ret : ∀ v h' tk rw', R v rw' → Fr h₀ L h' m → News h₀ L h' (rw' ++ ro) → Q v { s with heap := h', toks := tk })
    (hco : scope.isCoroutine = false) (hgen : scope.isGenerator = false) (hk : scope.kind = .function) : wpAny (model prog w) A (call (.ref f) args) Q E s := by
  refine wpAny_call ?_
  refine code_defC B F X₀ N T hA hf hke ho hcd hroom hbind hkind hnd (fun g L' h₁ tk cells FG F' N' Y B' X' T' lt => ?_) hco hgen hk
  refine wpAny_mono (h g L' h₁ tk cells F' N' Y B' X' T' lt) (fun fl s' hd' => ?_) fun _ _ x => x.elim
  obtain ⟨L₂, h', tk', m', rw', rfl, F₂, N₂, hR⟩ := hd'
  exact ⟨L₂, m', rw' ++ ro, F₂, N₂, fun Fb Nb => ret _ h' tk' rw' hR Fb Nb⟩
end
end Mine
end
section
open PySem PySem.W PySem.Calls PyProof.Rows PyProof.V PySem.Spec
set_option maxRecDepth 100000
namespace Mine
section
variable {prog : Program} {w : World} {A : Around} {E : Value → Shared → Prop} {s : Shared} {h₀ : Heap} {L : Addr} {m : Str → Option Value} {env : Env}
theorem compEnd_mono {s₁ s₂ : Shared} {I C D : Addr} {oI oC oD : Obj} {S : List (Addr × Obj) → Prop} {R R' : Value → List (Addr × Obj) → Prop} {y : Value} (h : LCg.CompEnd h₀ L m s₁ I oI C oC D oD S R y s₂) (hR : ∀ y news, R y news → R' y news) : LCg.CompEnd h₀ L m s₁ I oI C oC D oD S R' y s₂ := by
  obtain ⟨h', tk, news', e, F, N, off, hS, r⟩ := h
  exact ⟨h', tk, news', e, F, N, off, hS, hR _ _ r⟩
/-- a comprehension by what holds between its turns -/
theorem compRest_inv {elt : Expr} {x : Str} {scope : Scope} {cl : List (Str × Addr)} {S : List (Addr × Obj) → Prop} {P : Nat → Value → Prop} {Fin : List Value → List (Addr × Obj) → Prop} (n : Nat) (J : Nat → List Value → List (Addr × Obj) → Prop)
    (turn : ∀ i ys news v I oI C oC D m₂ h tk (E' : Value → Shared → Prop), i < n → J i ys news → P i v → LCg.NsObj oC m₂ → m₂ x = some v → Fr h₀ L h m → News h₀ L h ((I, oI) :: (C, oC) :: (D, LCg.lst ys) :: news) → LCg.Off3 I C D news → ((@Ne Nat I C) ∧ (@Ne Nat I D) ∧ (@Ne Nat C D)) →
      wpAny (model prog w) A (eval elt (compEnvC scope cl C env)) (LCg.CompEnd h₀ L m { s with heap := h, toks := tk } I oI C oC D (LCg.lst ys) S (fun y news' => J (i + 1) (ys ++ [y]) news')) E' { s with heap := h, toks := tk })
    (fin : ∀ ys news, J n ys news → Fin ys news) : ∀ (k i : Nat) (ys : List Value) (news : List (Addr × Obj)), i + k = n → J i ys news → LCg.CompRest prog w A h₀ L m env elt x scope cl s S P Fin k i ys news
  | 0, i, ys, news, e, hJ => fin ys news (by rw [← show i = n by omega]; exact hJ)
  | k + 1, i, ys, news, e, hJ => LCg.CompRest.succ fun v I oI C oC D m₂ h tk E' hP hN hx F N off ne =>
    wpAny_mono (turn i ys news v I oI C oC D m₂ h tk E' (by omega) hJ hP hN hx F N off ne) (fun y s₂ q => compEnd_mono q fun y' news' hJ' => compRest_inv n J turn fin k (i + 1) _ _ (by omega) hJ') fun _ _ x => x
end
end Mine
end
section
open PySem PySem.W PySem.Calls PyProof.Rows
set_option maxRecDepth 100000
set_option maxHeartbeats 8000000
namespace Mine
theorem fillC : (fun (_ : OpenLaw) (_ : Params → Frag) => True) PySem.Challenge.rw_im0112_01 hd.heap_39 := by
  w_top off
  k_fill
  trivial
local macro_rules | `(tactic| walk_at "kstep") => `(tactic| first | (k_unfold; (try dsimp only)) | (k_end; wrow_close) | walk1 | (dsimp only; walk1) | (leave1; walk_say "STEP leave1"; try dsimp only))
local macro_rules | `(tactic| walk_at "to iter") => `(tactic| repeat ((fail_if_success (with_reducible show wpAny _ _ (pyIter _) _ _ _)); walk_at "kstep"))
local macro_rules | `(tactic| walk_at "to while") => `(tactic| repeat ((fail_if_success (with_reducible show wpAny _ _ (exec (Stmt.While _ _ _ _) _) _ _ _)); walk_at "kstep"))
local macro_rules | `(tactic| walk_at "to newList") => `(tactic| repeat ((fail_if_success (with_reducible show wpAny _ _ (newList _) _ _ _)); walk_at "kstep"))

def inStep (D R w back : Nat) : Nat := if w / 2 ^ back % 2 = 1 then w ^^^ D * 2 ^ (back - R) else w
def inUp (D R p : Nat) : Nat → Nat
  | 0 => 2 ^ (p + R)
  | k + 1 => inStep D R (inUp D R p k) (p + R - k)
theorem inUp_succ (D R p k : Nat) : inUp D R p (k + 1) = inStep D R (inUp D R p k) (p + R - k) := rfl
def wordOf (D R p : Nat) : Nat := inUp D R p (p + 1) ^^^ 2 ^ (p + R)
def codeW (D R : Nat) : Nat → List Nat
  | 0 => [0]
  | p + 1 => codeW D R p ++ (codeW D R p).map fun o => wordOf D R p ^^^ o

theorem codeW_len (D R : Nat) : ∀ P, (codeW D R P).length = 2 ^ P
  | 0 => rfl
  | p + 1 => by
    show (codeW D R p ++ (codeW D R p).map fun o => wordOf D R p ^^^ o).length = 2 ^ (p + 1)
    rw [List.length_append, List.length_map, codeW_len D R p, Nat.pow_succ]
    omega
theorem cell_int {o : Obj} {x y : Int} {t : Tok} (h : o.data = .cell (some (.int x t))) (e : x = y) : o.data = .cell (some (.int y t)) := e ▸ h
theorem code_cond (x b : Nat) : ((x : Int).fdiv (2 ^ ((b : Nat) : Int).toNat)).fmod 2 = ((x / 2 ^ b % 2 : Nat) : Int) := by
  rw [Int.toNat_natCast, ← kbt_cast, Int.fdiv_eq_ediv_of_nonneg _ (Int.natCast_nonneg _), Int.fmod_eq_emod_of_nonneg _ (by decide), Int.natCast_emod, Int.natCast_ediv]
  rfl

theorem code_call {w : World} {base h₀ : Heap} {L : Addr} {m : Str → Option Value} {s : Shared} {cn : Str} {cs : Scope} {a : Addr} {ccd : Value} {cl : List (Str × Addr)} {loose : List Str} {mean : ExcName → Option Value} {mg mb : Str → Option Value} {Q E : Value → Shared → Prop}
    {ro : List (Addr × Obj)} {D R P : Nat} {t1 t2 t3 : Tok}
    (B : Below callerA base [] h₀) (F : Fr h₀ L s.heap m) (X : (hd.heap_39 w.params).In h₀) (N : News h₀ L s.heap ro) (T : Top hd.view_39 loose mean mg mb h₀) (hk : cs.kind = .function)
    (hD : D < 8192) (hR : R ≤ 12) (hP : P ≤ 6)
    (ret : ∀ l vs n h' tk, IntsAre vs (natInts (codeW D R P)) → Fr h₀ L h' m → News h₀ L h' ((l, listOf vs.toArray n) :: ro) → (∀ q ∈ ro, l ≠ q.1) → Q (.ref l) { s with heap := h', toks := tk }) :
    wpAny (model PySem.Challenge.rw_im0112_01.row.prog w) (A1 cn cs L a ccd cl) (call (.ref 55) [.int D t1, .int R t2, .int P t3]) Q E s := by
  refine call_cells (ro := ro) (K := hd.heap_39 w.params) (env := envX cn cs L a ccd cl) (A₀ := callerA) (binds := [(Str.ofString "divisor", .int D t1), (Str.ofString "rests", .int R t2), (Str.ofString "places", .int P t3)]) (fun v rw' => ∃ l vs n, v = .ref l ∧ rw' = [(l, listOf vs.toArray n)] ∧ IntsAre vs (natInts (codeW D R P)) ∧ (∀ q ∈ ro, l ≠ q.1)) B F X N T rfl rfl hk (by k_is) (by k_is) (by k_room) (BindsTo.of_eq rfl) (by rfl) (by decide) ?body ?ret rfl rfl rfl
  case ret =>
    rintro v h' tk rw' ⟨l, vs, n, rfl, rfl, hI', hd'⟩ F' N'
    exact ret l vs n h' tk hI' F' N' hd'
  case body =>
    intro g L' h₁ tk cells F' N' Y B' X' T' lt
    replace F' : Fr g L' h₁ (bindF [(Str.ofString "places", .int P t3), (Str.ofString "rests", .int R t2), (Str.ofString "divisor", .int D t1)] fun _ => none) := F'
    obtain ⟨o, rfl, hod⟩ := CellsAre.one Y
    clear Y
    replace hod : o.data = .cell none := hod
    dsimp only [bindF] at F'
    k_unmd
    k_fold
    clear ret F N B X T
    walk_at "to newList"
    refine newList_K (by assumption) (by assumption) ?_
    intro l0 h2 F2 N2 hl0
    walk_at "to iter"
    rename Fr _ _ _ _ => F1
    rename News _ _ _ _ => N1
    rename IsRange _ _ _ _ _ _ _ _ => R1
    rename (∀ b o, _ → _) => K1
    refine range_loop (n := P) (fun i m nx => ∃ lw vs n o, nx = (lw, listOf vs.toArray n) :: (L' + 1, o) :: ro ∧ (∃ v, o.data = .cell v) ∧ L' + 1 < lw ∧ (∀ q ∈ ro, lw ≠ q.1) ∧ IntsAre vs (natInts (codeW D R i)) ∧ Knows m [(Str.ofString "divisor", .int D t1), (Str.ofString "rests", .int R t2), (Str.ofString "words", .ref lw)]) rfl R1 ?small ?n F1 N1 ?j0 ?turn ?done
    case small => exact small_one (by omega) (by omega) (by omega) (by omega)
    case n => unfold Builtin.Range.rangeSize; simp only [gt_iff_lt, if_true, Int.zero_lt_one]; split <;> omega
    case j0 =>
      refine ⟨l0, _, _, o, rfl, ⟨_, hod⟩, hl0 _ (.head _), fun q hq => Nat.ne_of_gt (hl0 q (.tail _ hq)), ?_, .cons (by rfl) (.cons (by rfl) (.cons (by rfl) .nil))⟩
      exact .cons 0 _ .nil
    case done =>
      clear R1 F1 N1 K1
      rintro m₁ nx h tk ⟨lw, vs, n, o, rfl, _, hlw, hlr, hI', hK⟩ F2 N2
      replace F2 := hK.fr0 F2
      dsimp only [bindF] at F2
      dsimp only
      repeat (walk_at "kstep")
      have N3 : News g L' h ([(lw, listOf vs.toArray n)] ++ ro) := fun p hp => N2 p (by
        rcases List.mem_append.mp hp with hp | hp
        · rw [List.mem_singleton.mp hp]; exact .head _
        · exact .tail _ (.tail _ hp))
      refine DoneC.intro F2 N3 ?_
      exact ⟨lw, vs, n, rfl, rfl, hI', hlr⟩
    case turn =>
      rintro i ti m₁ nx h tk own hi ho ⟨lw, vs, n, o, rfl, ⟨ov, hod⟩, hlw, hlr, hI', hK⟩ F2 N2
      replace F2 := hK.fr F2
      clear R1 F1 N1 K1
      rw [show (0 : Int) + (i : Int) * 1 = i by omega] at F2
      dsimp only [bindF] at F2
      k_unmd
      k_fold
      obtain ⟨rest, hrest⟩ : ∃ rest, rest = ro ++ own := ⟨_, rfl⟩
      have hoff : OwnOff rest [lw, L' + 1] := by
        intro p hp b hb
        rw [hrest] at hp
        rcases List.mem_append.mp hp with hp | hp
        · rcases List.mem_cons.mp hb with rfl | hb
          · exact fun e => hlr p hp e.symm
          · rw [List.mem_singleton.mp hb]
            exact Nat.ne_of_lt (Nat.lt_succ_of_lt (lt p hp))
        · refine ho p hp b ?_
          simp only [List.map_cons]
          rcases List.mem_cons.mp hb with rfl | hb
          · exact .head _
          · rw [List.mem_singleton.mp hb]; exact .tail _ (.head _)
      simp only [List.cons_append, ← hrest] at N2
      replace hlw := ltN hlw
      walk_at "to iter"
      rename Fr _ _ _ _ => F1
      rename News _ _ _ _ => N1
      rename IsRange _ _ _ _ _ _ _ _ => R1
      rename (∀ b o, _ → _) => K1
      rename _ = Data.cell (some _) => d1
      refine range_loop (n := i + 1) (fun k m nx => ∃ o t, nx = (lw, listOf vs.toArray n) :: (L' + 1, o) :: rest ∧ o.data = .cell (some (.int (inUp D R i k : Nat) t)) ∧ Knows m [(Str.ofString "divisor", .int D t1), (Str.ofString "rests", .int R t2), (Str.ofString "words", .ref lw), (Str.ofString "place", .int i ti)]) rfl R1 ?small ?n F1 N1 ?j0 ?turn ?done
      case small => exact small_down (by omega) (by omega) (by omega) (by omega)
      case n => unfold Builtin.Range.rangeSize; rw [if_neg (by decide), if_pos (by omega), show (-(-1) : Int) = 1 from rfl, Int.ediv_one]; omega
      case j0 =>
        have e : (2 : Int) ^ ((i : Int) + (R : Int)).toNat = ((inUp D R i 0 : Nat) : Int) := by
          unfold inUp
          rw [kbt_cast]
          congr 1
        exact ⟨_, _, rfl, cell_int d1 e, .cons (by rfl) (.cons (by rfl) (.cons (by rfl) (.cons (by rfl) .nil)))⟩
      case done =>
        clear R1 F1 N1 K1 d1
        rintro m₂ nx h4 tk4 ⟨o4, t4, rfl, d4, hK4⟩ F2 N2
        replace F2 := hK4.fr0 F2
        dsimp only [bindF] at F2
        dsimp only
        repeat (walk_at "kstep")
        rename Fr _ _ _ _ => F5
        rename News _ _ _ _ => N5
        rename Obj => o5
        rename o5.data = _ => d5
        have e5 : Builtin.bitXor (inUp D R i (i + 1) : Int) (2 ^ ((i : Int) + (R : Int)).toNat) = ((wordOf D R i : Nat) : Int) := by
          unfold wordOf
          rw [← bitXor_nat, kbt_cast, show ((i : Int) + (R : Int)).toNat = i + R by omega]
        replace d5 := cell_int d5 e5
        have hsz : vs.toArray.size ≤ sizeLine := by
          have h64 : 2 ^ i ≤ 64 := Nat.pow_le_pow_right (n := 2) (by decide) (show i ≤ 6 by omega)
          rw [List.size_toArray, hI'.length, natInts, List.length_map, codeW_len, sizeLine_eq]
          omega
        refine LCg.CompSrc.ledger rfl F5 N5 (.head _) hsz ?_
        intro g5
        refine compRest_inv vs.toArray.size (fun i' ys news => news = (lw, listOf vs.toArray n) :: (L' + 1, o5) :: rest ∧ IntsAre ys (((natInts (codeW D R i)).take i').map fun o => Builtin.bitXor (wordOf D R i : Nat) o)) ?cturn ?cfin _ 0 [] _ (by omega) ⟨rfl, .nil⟩
        case cturn =>
          rintro i' ys news v I oI C oC D' m₆ h6 tk6 E6 hi6 ⟨rfl, hys⟩ hP hN6 hx6 F6 N6 off6 ne6
          have hi7 : i' < (codeW D R i).length := by
            have := hI'.length
            simp only [natInts, List.length_map] at this
            simpa [this] using hi6
          obtain ⟨tv, htv⟩ := hI'.get i' (((codeW D R i)[i'] : Nat) : Int) (by simp [natInts, hi7])
          have hv : v = .int (((codeW D R i)[i'] : Nat) : Int) tv := by
            have hP' : vs[i']? = some v := by simpa using hP
            rw [htv] at hP'; exact (Option.some.inj hP').symm
          subst hv
          repeat (walk_at "kstep")
          refine LCg.CompEnd.intro F6 N6 _ (fun _ hp => hp) off6 ?_ ⟨rfl, ?_⟩
          · exact .inr ⟨_, .head _, rfl, _, rfl⟩
          · have e7 : ((natInts (codeW D R i)).take (i' + 1)).map (fun o => Builtin.bitXor (wordOf D R i : Nat) o) = ((natInts (codeW D R i)).take i').map (fun o => Builtin.bitXor (wordOf D R i : Nat) o) ++ [Builtin.bitXor (wordOf D R i : Nat) (((codeW D R i)[i'] : Nat) : Int)] := by
              rw [List.take_add_one]
              simp [natInts, hi7]
            rw [e7]
            exact intsAre_push hys _ _
        case cfin =>
          rintro ys news ⟨rfl, hys⟩ D' h6 tk6 F6 N6 off6
          dsimp only
          repeat (walk_at "kstep")
          have hvl : vs.length = 2 ^ i := by rw [hI'.length, natInts, List.length_map, codeW_len]
          have h64 : 2 ^ i ≤ 64 := Nat.pow_le_pow_right (n := 2) (by decide) (show i ≤ 6 by omega)
          rw [List.size_toArray, hvl, List.take_of_length_le (by rw [natInts, List.length_map, codeW_len]; exact Nat.le_refl _)] at hys
          refine kmk_add_ints F6 N6 ⟨_, (N6 _ (.tail _ (.head _))).1, rfl, _, rfl⟩ ⟨_, (N6 _ (.head _)).1, rfl, _, rfl⟩ hI' hys ?_ ?_
          · intro D2 us h7 F7 N7 lt7 hI7
            repeat (walk_at "kstep")
            rename Fr _ _ _ _ => F8
            rename News _ _ _ _ => N8
            have e8 : natInts (codeW D R i) ++ (natInts (codeW D R i)).map (fun o => Builtin.bitXor (wordOf D R i : Nat) o) = natInts (codeW D R (i + 1)) := by
              show _ = natInts (codeW D R i ++ (codeW D R i).map fun o => wordOf D R i ^^^ o)
              unfold natInts
              rw [List.map_append, List.map_map, List.map_map]
              congr 1
              apply List.map_congr_left
              intro o _
              exact bitXor_nat _ _
            rw [e8] at hI7
            refine InvEndG.intro (nx := (D2, listOf us.toArray 0) :: (L' + 1, o5) :: ro) F8 N8 ⟨D2, us, 0, o5, rfl, ⟨_, d5⟩, lt7 _ (.tail _ (.tail _ (.head _))), fun q hq => Nat.ne_of_gt (lt7 q (.tail _ (.tail _ (.tail _ (hrest ▸ List.mem_append_left _ hq))))), hI7, .cons (by rfl) (.cons (by rfl) (.cons (by rfl) .nil))⟩ ?_ ?_ ?_
            · intro p hp b hb
              rcases List.mem_cons.mp hb with rfl | hb
              · exact Nat.ne_of_lt (lt7 p (.tail _ (.tail _ (.tail _ (hrest ▸ List.mem_append_right _ hp)))))
              · exact ho p hp b (.tail _ hb)
            · intro p hp
              rcases List.mem_cons.mp hp with rfl | hp
              · exact .head _
              rcases List.mem_cons.mp hp with rfl | hp
              · exact .tail _ (.tail _ (.tail _ (.head _)))
              · exact .tail _ (.tail _ (.tail _ (.tail _ (hrest ▸ List.mem_append_left _ hp))))
            · intro p hp
              exact .tail _ (.tail _ (.tail _ (.tail _ (hrest ▸ List.mem_append_right _ hp))))
          · rw [natInts, List.length_map, List.length_map, List.length_map, codeW_len, sizeLine_eq]
            omega
      case turn =>
        clear R1 F1 N1 K1 d1
        rintro k tk1 m₂ nx h4 tk4 own2 hk4 ho2 ⟨o4, t4, rfl, d4, hK4⟩ F2 N2
        replace F2 := hK4.fr F2
        have eb : ((i : Int) + (R : Int)) + (k : Int) * (-1) = ((i + R - k : Nat) : Int) := by omega
        rw [eb] at F2
        dsimp only [bindF] at F2
        k_unmd
        k_fold
        obtain ⟨rest2, hrest2⟩ : ∃ rest2, rest2 = rest ++ own2 := ⟨_, rfl⟩
        have hoff2 : OwnOff rest2 [lw, L' + 1] := by
          intro p hp b hb
          rw [hrest2] at hp
          rcases List.mem_append.mp hp with hp | hp
          · exact hoff p hp b hb
          · refine ho2 p hp b ?_
            simp only [List.map_cons]
            rcases List.mem_cons.mp hb with rfl | hb
            · exact .head _
            · rw [List.mem_singleton.mp hb]; exact .tail _ (.head _)
        simp only [List.cons_append, ← hrest2] at N2
        repeat' (walk_at "kstep")
        · rename _ = (1 : Int) => hc
          rename Fr _ _ _ _ => F5
          rename News _ _ _ _ => N5
          rename Obj => o5
          rename o5.data = _ => d5
          refine InvEndG.intro (nx := (lw, listOf vs.toArray n) :: (L' + 1, o5) :: rest) F5 N5 ⟨o5, _, rfl, cell_int d5 ?_, .cons (by rfl) (.cons (by rfl) (.cons (by rfl) (.cons (by rfl) .nil)))⟩ ho2 ?_ ?_
          · rw [code_cond] at hc
            have hc' : inUp D R i k / 2 ^ (i + R - k) % 2 = 1 := by omega
            rw [inUp_succ]
            unfold inStep
            rw [if_pos hc', ← bitXor_nat, Int.natCast_mul, kbt_cast, show (((i + R - k : Nat) : Int) - (R : Int)).toNat = i + R - k - R by omega]
          · intro p hp; rw [hrest2]
            rcases List.mem_cons.mp hp with rfl | hp
            · exact .head _
            rcases List.mem_cons.mp hp with rfl | hp
            · exact .tail _ (.head _)
            · exact .tail _ (.tail _ (List.mem_append_left _ hp))
          · intro p hp; rw [hrest2]
            exact .tail _ (.tail _ (List.mem_append_right _ hp))
        · rename _ ≠ (1 : Int) => hc
          refine InvEndG.intro (nx := (lw, listOf vs.toArray n) :: (L' + 1, o4) :: rest) F2 N2 ⟨o4, t4, rfl, ?_, .cons (by rfl) (.cons (by rfl) (.cons (by rfl) (.cons (by rfl) .nil)))⟩ ho2 ?_ ?_
          · rw [d4]
            rw [code_cond] at hc
            have hc' : ¬ inUp D R i k / 2 ^ (i + R - k) % 2 = 1 := by omega
            rw [show inUp D R i (k + 1) = inUp D R i k by rw [inUp_succ]; unfold inStep; rw [if_neg hc']]
          · intro p hp; rw [hrest2]
            rcases List.mem_cons.mp hp with rfl | hp
            · exact .head _
            rcases List.mem_cons.mp hp with rfl | hp
            · exact .tail _ (.head _)
            · exact .tail _ (.tail _ (List.mem_append_left _ hp))
          · intro p hp; rw [hrest2]
            exact .tail _ (.tail _ (List.mem_append_right _ hp))
end Mine
end
section
open PySem PySem.W PySem.Calls PyProof.Rows
set_option maxRecDepth 100000
namespace Mine
/-! ## dicts of the module's top: an int as key, None as key -/
section
variable {prog : Program} {w : World} {A : Around} {E : Value → Shared → Prop} {s : Shared} {h₀ : Heap} {L a : Addr} {m : Str → Option Value} {K : Frag} {es : Array DictEntry} {n : Nat} {v : Value}

theorem pyHash_none {Q : Int → Shared → Prop} (h : Q 0xFCA86420 { s with toks := s.toks + 1 }) : wpAny (model prog w) A (pyHash .none) Q E s := by
  unfold pyHash
  have hv : [Value.none].any Value.onHeap = false := rfl
  refine wpAny_bind ?_
  rw [cRoomFor, if_neg (by rw [hv]; exact Bool.false_ne_true)]; refine wpAny_pure ?_
  refine wpAny_bind (wpAny_specialOf (typeIs_none s) PySem.F.slot_NoneType_hash.lookup ?_)
  show wpAny _ _ (if (some (Value.builtin "NoneType.__hash__") == some Value.none) = true then _ else _) Q E s
  rw [if_neg (by rw [beq_builtin_none]; exact Bool.false_ne_true)]
  refine wpAny_bind (wpAny_specialOf (typeIs_none s) PySem.F.slot_NoneType_hash.lookup ?_)
  show wpAny _ _ (callSpecialIfBoundUnlessNone? .none "__hash__" _ >>= _) Q E s
  refine wpAny_bind (wpAny_callSpecialIfBoundUnlessNone?_slot (typeIs_none s) PySem.F.slot_NoneType_hash
    (wpAny_call_entry PySem.F.slot_NoneType_hash (typeIs_none s) PySem.F.entry_NoneType_hash
      (show wpAny _ _ (do ret (← mkInt 0xFCA86420)) _ _ s from wpAny_ret_mkInt ?_) (PySem.F.args_NoneType_hash_1 _)))
  show wpAny _ _ (if (decide (-(2 : Int) ^ 63 ≤ 0xFCA86420) && decide ((0xFCA86420 : Int) < 2 ^ 63)) = true then _ else _) Q E _
  rw [if_pos (by decide)]
  exact wpAny_pure h

def isNone : Unit → Value → Bool
  | _, .none => true
  | _, _ => false
theorem isNone_shape {v : Value} (h : isNone () v = true) : v = .none := by cases v <;> first | rfl | cases h
theorem eqBool_none {Q : Bool → Shared → Prop} (h : Q true s) : wpAny (model prog w) A (PySem.eqBool .none .none) Q E s := by
  unfold PySem.eqBool
  refine wpAny_holding ?_
  rw [if_pos (by decide)]
  exact wpAny_bind (wpAny_rule (wpAny_pure h))
def noneKind (prog : Program) (w : World) : KeyKind prog w Unit :=
  ⟨isNone, fun _ => 0xFCA86420, fun _ _ _ _ _ => rfl, fun _ _ h => by obtain rfl := isNone_shape h; rfl,
   fun hv h => by obtain rfl := isNone_shape hv; exact pyHash_none h,
   fun hu hv h => by
    obtain rfl := isNone_shape hu
    obtain rfl := isNone_shape hv
    exact eqBool_none (by simpa using h),
   fun _ _ _ _ h => by cases h⟩

theorem top_get {T : Type} [DecidableEq T] {knd : KeyKind prog w T} {k : T} {key : Value} {value slice : Expr} {Q : Value → Shared → Prop} (F : Fr h₀ L s.heap m) (X₀ : K.In h₀) (hl : K.lookup a = some ⟨.type "dict", none, .dict es n, #[]⟩)
    (hkey : knd.is k key = true) (hk : ∀ e ∈ es.toList, ∃ k, knd.is k e.key = true ∧ e.hash = knd.hash k) (hv : findBy knd.is es k = some v) (h : Q v { s with toks := s.toks + 1 })
    (hs : subscripted slice false (.ref a) key = operate [.ref a, key] (getItem (.ref a) key) := by with_unfolding_all rfl) :
    wpAny (model prog w) A (subscriptTail value slice (.ref a) key) Q E s := by
  have hm : s.heap.MapOf knd a (fun k => findBy knd.is es k) := ⟨_, es, n, (X₀.keeps F.keep) _ _ hl, ⟨rfl, rfl, rfl⟩, rfl, fun e he => hk e (Array.mem_toList_iff.mpr he), fun _ => rfl⟩
  exact tail_any hm.typeIs slot_dict_getitem.lookup (wpAny_getItem_of hkey hm hv h) hs
def intKeyOk (e : DictEntry) : Bool := match e.key with | .int i _ => e.hash == hashInt i | _ => false
theorem intKeys_ok {l : List DictEntry} (h : l.all intKeyOk = true) : ∀ e ∈ l, ∃ k, (intKind prog w).is k e.key = true ∧ e.hash = (intKind prog w).hash k := by
  intro e he
  have q := List.all_eq_true.mp h e he
  unfold intKeyOk at q
  split at q
  · rename_i i t hk
    exact ⟨i, by rw [hk]; exact intKind_is _ _ _ _, eq_of_beq q⟩
  · cases q
def noneKeyOk (e : DictEntry) : Bool := match e.key with | .none => e.hash == 0xFCA86420 | _ => false
theorem noneKeys_ok {l : List DictEntry} (h : l.all noneKeyOk = true) : ∀ e ∈ l, ∃ k, (noneKind prog w).is k e.key = true ∧ e.hash = (noneKind prog w).hash k := by
  intro e he
  have q := List.all_eq_true.mp h e he
  unfold noneKeyOk at q
  split at q
  · rename_i hk
    exact ⟨(), by rw [hk]; rfl, eq_of_beq q⟩
  · cases q
theorem top_int {k : Int} {t : Tok} {value slice : Expr} {Q : Value → Shared → Prop} (F : Fr h₀ L s.heap m) (X₀ : K.In h₀) (hl : K.lookup a = some ⟨.type "dict", none, .dict es n, #[]⟩)
    (hk : es.toList.all intKeyOk = true) (hv : findBy Value.isInt es k = some v) (h : Q v { s with toks := s.toks + 1 })
    (hs : subscripted slice false (.ref a) (.int k t) = operate [.ref a, .int k t] (getItem (.ref a) (.int k t)) := by with_unfolding_all rfl) :
    wpAny (model prog w) A (subscriptTail value slice (.ref a) (.int k t)) Q E s :=
  top_get (knd := intKind prog w) F X₀ hl (intKind_is _ _ _ _) (intKeys_ok hk) hv h hs
theorem top_none {value slice : Expr} {Q : Value → Shared → Prop} (F : Fr h₀ L s.heap m) (X₀ : K.In h₀) (hl : K.lookup a = some ⟨.type "dict", none, .dict es n, #[]⟩)
    (hk : es.toList.all noneKeyOk = true) (hv : findBy isNone es () = some v) (h : Q v { s with toks := s.toks + 1 })
    (hs : subscripted slice false (.ref a) .none = operate [.ref a, .none] (getItem (.ref a) .none) := by with_unfolding_all rfl) :
    wpAny (model prog w) A (subscriptTail value slice (.ref a) .none) Q E s :=
  top_get (knd := noneKind prog w) F X₀ hl (k := ()) rfl (noneKeys_ok hk) hv h hs
def intOf? : Value → Option Int
  | .int i _ => some i
  | _ => none
theorem intOf_some {v : Value} {i : Int} (h : intOf? v = some i) : ∃ t, v = .int i t := by
  cases v <;> first | (cases h; done) | (cases h; exact ⟨_, rfl⟩)
theorem top_int_int {k i : Int} {t : Tok} {value slice : Expr} {Q : Value → Shared → Prop} (F : Fr h₀ L s.heap m) (X₀ : K.In h₀) (hl : K.lookup a = some ⟨.type "dict", none, .dict es n, #[]⟩)
    (hk : es.toList.all intKeyOk = true) (hv : (findBy Value.isInt es k).bind intOf? = some i) (h : ∀ u, Q (.int i u) { s with toks := s.toks + 1 })
    (hs : subscripted slice false (.ref a) (.int k t) = operate [.ref a, .int k t] (getItem (.ref a) (.int k t)) := by with_unfolding_all rfl) :
    wpAny (model prog w) A (subscriptTail value slice (.ref a) (.int k t)) Q E s := by
  obtain ⟨v, hv1, hv2⟩ := Option.bind_eq_some_iff.mp hv
  obtain ⟨u, rfl⟩ := intOf_some hv2
  exact top_int F X₀ hl hk hv1 (h u) hs
theorem top_none_int {i : Int} {value slice : Expr} {Q : Value → Shared → Prop} (F : Fr h₀ L s.heap m) (X₀ : K.In h₀) (hl : K.lookup a = some ⟨.type "dict", none, .dict es n, #[]⟩)
    (hk : es.toList.all noneKeyOk = true) (hv : (findBy isNone es ()).bind intOf? = some i) (h : ∀ u, Q (.int i u) { s with toks := s.toks + 1 })
    (hs : subscripted slice false (.ref a) .none = operate [.ref a, .none] (getItem (.ref a) .none) := by with_unfolding_all rfl) :
    wpAny (model prog w) A (subscriptTail value slice (.ref a) .none) Q E s := by
  obtain ⟨v, hv1, hv2⟩ := Option.bind_eq_some_iff.mp hv
  obtain ⟨u, rfl⟩ := intOf_some hv2
  exact top_none F X₀ hl hk hv1 (h u) hs
end
end Mine
end
section
open PySem PySem.W PySem.Calls PyProof.Rows
set_option maxRecDepth 100000
set_option maxHeartbeats 8000000
namespace Mine
theorem fillF : (fun (_ : OpenLaw) (_ : Params → Frag) => True) PySem.Challenge.rw_im0112_01 hd.heap_39 := by
  w_top off
  k_fill
  trivial
local macro_rules | `(tactic| walk_at "kstep") => `(tactic| first | (k_unfold; (try dsimp only)) | (k_end; wrow_close) | walk1 | (dsimp only; walk1) | (leave1; walk_say "STEP leave1"; try dsimp only))
local macro_rules | `(tactic| walk_at "to iter") => `(tactic| repeat ((fail_if_success (with_reducible show wpAny _ _ (pyIter _) _ _ _)); walk_at "kstep"))
local macro_rules | `(tactic| walk_at "to while") => `(tactic| repeat ((fail_if_success (with_reducible show wpAny _ _ (exec (Stmt.While _ _ _ _) _) _ _ _)); walk_at "kstep"))
local macro_rules | `(tactic| walk_at "to newList") => `(tactic| repeat ((fail_if_success (with_reducible show wpAny _ _ (newList _) _ _ _)); walk_at "kstep"))

abbrev A2 (cn : Str) (cs : Scope) (L a : Addr) (ccd : Value) (cl : List (Str × Addr)) (cn2 : Str) (cs2 : Scope) (L2 a2 : Addr) (ccd2 : Value) : Around := (A1 cn cs L a ccd cl).deeper (envX cn2 cs2 L2 a2 ccd2 [])

/-- what a call of calc_format_info gives, from the frame of add_format_info -/
def CfiClaim (w : World) (v : Int) (ev : Value) (mask : Int) (fi : Nat) : Prop :=
  ∀ {base h₀ : Heap} {L L2 : Addr} {m : Str → Option Value} {s : Shared} {cn cn2 : Str} {cs cs2 : Scope} {a a2 : Addr} {ccd ccd2 : Value} {cl : List (Str × Addr)} {loose : List Str} {mean : ExcName → Option Value} {mg mb : Str → Option Value} {Q E : Value → Shared → Prop}
    {news : List (Addr × Obj)} {t1 t2 : Tok},
    Below (A1 cn cs L a ccd cl) base [envX cn cs L a ccd cl] h₀ → Fr h₀ L2 s.heap m → (hd.heap_39 w.params).In h₀ → News h₀ L2 s.heap news → Top hd.view_39 loose mean mg mb h₀ → cs2.kind = .function →
    (∀ t h' tk, Fr h₀ L2 h' m → News h₀ L2 h' news → Q (.int fi t) { s with heap := h', toks := tk }) →
    wpAny (model PySem.Challenge.rw_im0112_01.row.prog w) (A2 cn cs L a ccd cl cn2 cs2 L2 a2 ccd2) (call (.ref 29) [.int v t1, ev, .int mask t2]) Q E s

def FI : List Nat := [21522, 20773, 24188, 23371, 17913, 16590, 20375, 19104, 30660, 29427, 32170, 30877, 26159, 25368, 27713, 26998, 5769, 5054, 7399, 6608, 1890, 597, 3340, 2107, 13663, 12392, 16177, 14854, 9396, 8579, 11994, 11245]
def FIM : List Nat := [17477, 16754, 20011, 19228, 21934, 20633, 24512, 23287, 26515, 25252, 28157, 26826, 30328, 29519, 31766, 31009, 1758, 1001, 3248, 2439, 5941, 4610, 7515, 6252, 9480, 8255, 12134, 10833, 13539, 12756, 16013, 15290]
def kindOfLevel : Nat → Nat
  | 1 => 1
  | 2 => 2
  | 3 => 3
  | _ => 0

theorem int_is {x y : Int} {t : Tok} (h : x = y) : ∃ u, Value.int x t = Value.int y u := ⟨t, h ▸ rfl⟩
theorem natInts_get (ws : List Nat) (k : Nat) : (natInts ws).getD k 0 = ((ws.getD k 0 : Nat) : Int) := by
  unfold natInts
  rw [List.getD_eq_getElem?_getD, List.getD_eq_getElem?_getD, List.getElem?_map]
  cases ws[k]? <;> rfl
theorem FI_get (k : Nat) : ([21522, 20773, 24188, 23371, 17913, 16590, 20375, 19104, 30660, 29427, 32170, 30877, 26159, 25368, 27713, 26998, 5769, 5054, 7399, 6608, 1890, 597, 3340, 2107, 13663, 12392, 16177, 14854, 9396, 8579, 11994, 11245] : List Int).getD k 0 = ((FI.getD k 0 : Nat) : Int) := natInts_get FI k
theorem FIM_get (k : Nat) : ([17477, 16754, 20011, 19228, 21934, 20633, 24512, 23287, 26515, 25252, 28157, 26826, 30328, 29519, 31766, 31009, 1758, 1001, 3248, 2439, 5941, 4610, 7515, 6252, 9480, 8255, 12134, 10833, 13539, 12756, 16013, 15290] : List Int).getD k 0 = ((FIM.getD k 0 : Nat) : Int) := natInts_get FIM k
theorem cfi_qr {w : World} {v : Int} {e mask : Nat} {te : Tok} (hv : 1 ≤ v) (he : e < 4) (hm : mask < 8) : CfiClaim w v (.int e te) mask (FI.getD (8 * kindOfLevel e + mask) 0) := by
  intro base h₀ L L2 m s cn cn2 cs cs2 a a2 ccd ccd2 cl loose mean mg mb Q E news t1 t2 B F X N T hk ret
  refine call_split (rw := []) (ro := news) (K := hd.heap_39 w.params) (env := envX cn2 cs2 L2 a2 ccd2 []) (A₀ := A1 cn cs L a ccd cl) (binds := [(Str.ofString "version", .int v t1), (Str.ofString "error", .int e te), (Str.ofString "mask_pattern", .int mask t2)]) (fun v rw' => (∃ t, v = .int ((FI.getD (8 * kindOfLevel e + mask) 0 : Nat) : Int) t) ∧ rw' = []) B F X N (fun _ _ h => nomatch h) T rfl rfl hk (by k_is) (by k_is) (by k_room) (BindsTo.of_eq rfl) (locs rfl) ?body ?ret rfl rfl rfl (by decide)
  case ret =>
    rintro v h' tk rw' ⟨⟨t, rfl⟩, rfl⟩ F' N' hd'
    exact ret t h' tk F' N'
  case body =>
    intro g L' h₁ F' N' hro hst B' X' T'
    dsimp only [List.reverse, List.reverseAux, bindF] at F'
    k_unmd
    k_fold
    clear ret F N B X T hst hro
    repeat' (walk_at "kstep")
    all_goals (
      dsimp only
      k_unfold
      dsimp only
      refine Done.intro (by assumption) (by assumption) ⟨int_is ?_, rfl⟩)
    · have h1 : e = 1 := by omega
      subst h1
      rw [show ((mask : Int) + 8).toNat = 8 * kindOfLevel 1 + mask by simp [kindOfLevel]; omega]
      exact FI_get _
    · have h1 : e = 2 := by omega
      subst h1
      rw [show ((mask : Int) + 16).toNat = 8 * kindOfLevel 2 + mask by simp [kindOfLevel]; omega]
      exact FI_get _
    · have h1 : e = 3 := by omega
      subst h1
      rw [show ((mask : Int) + 24).toNat = 8 * kindOfLevel 3 + mask by simp [kindOfLevel]; omega]
      exact FI_get _
    · have h1 : e = 0 := by omega
      subst h1
      rw [show ((mask : Int)).toNat = 8 * kindOfLevel 0 + mask by simp [kindOfLevel]]
      exact FI_get _

/-- the levels of the small versions, and where their words begin -/
def microLevel : Nat → Value → Prop
  | 0, x => x = .none
  | 1, x => ∃ t, x = .int 1 t
  | 2, x => ∃ t, x = .int 0 t
  | 3, x => ∃ t, x = .int 1 t
  | 4, x => ∃ t, x = .int 0 t
  | 5, x => ∃ t, x = .int 1 t
  | 6, x => ∃ t, x = .int 0 t
  | 7, x => ∃ t, x = .int 3 t
  | _, _ => False
def microVersion : Nat → Int
  | 0 => -3
  | 1 => -2
  | 2 => -2
  | 3 => -1
  | 4 => -1
  | _ => 0

theorem micro_val {mask d : Nat} {k : Int} (hk : k = d) : (([17477, 16754, 20011, 19228, 21934, 20633, 24512, 23287, 26515, 25252, 28157, 26826, 30328, 29519, 31766, 31009, 1758, 1001, 3248, 2439, 5941, 4610, 7515, 6252, 9480, 8255, 12134, 10833, 13539, 12756, 16013, 15290] : List Int).getD ((mask : Int) + k * 4).toNat 0) = ((FIM.getD (4 * d + mask) 0 : Nat) : Int) := by
  rw [hk, show ((mask : Int) + (d : Int) * 4).toNat = 4 * d + mask by omega]
  exact FIM_get _
/-- an item of a dict of the top, whatever the frame -/
def SubIs (w : World) (a : Addr) (key : Value) (R : Value → Prop) : Prop :=
  ∀ {A : Around} {h₀ : Heap} {L : Addr} {m : Str → Option Value} {s : Shared} {value slice : Expr} {Q E : Value → Shared → Prop},
    Fr h₀ L s.heap m → (hd.heap_39 w.params).In h₀ → (∀ v, R v → Q v { s with toks := s.toks + 1 }) →
    subscripted slice false (.ref a) key = operate [.ref a, key] (getItem (.ref a) key) →
    wpAny (model PySem.Challenge.rw_im0112_01.row.prog w) A (subscriptTail value slice (.ref a) key) Q E s

theorem cfi_small {w : World} {v : Int} {mask d : Nat} {ev : Value} {a2 : Addr} (hv : v ≤ 0) (hm : mask < 4) (hd8 : d < 8) (h1 : ∀ t, SubIs w 15 (.int v t) fun x => x = .ref a2) (h2 : SubIs w a2 ev fun x => ∃ u, x = .int d u) : CfiClaim w v ev mask (FIM.getD (4 * d + mask) 0) := by
  intro base h₀ L L2 m s cn cn2 cs cs2 a a2' ccd ccd2 cl loose mean mg mb Q E news t1 t2 B F X N T hk ret
  refine call_split (rw := []) (ro := news) (K := hd.heap_39 w.params) (env := envX cn2 cs2 L2 a2' ccd2 []) (A₀ := A1 cn cs L a ccd cl) (binds := [(Str.ofString "version", .int v t1), (Str.ofString "error", ev), (Str.ofString "mask_pattern", .int mask t2)]) (fun v rw' => (∃ t, v = .int ((FIM.getD (4 * d + mask) 0 : Nat) : Int) t) ∧ rw' = []) B F X N (fun _ _ h => nomatch h) T rfl rfl hk (by k_is) (by k_is) (by k_room) (BindsTo.of_eq rfl) (locs rfl) ?body ?ret rfl rfl rfl (by decide)
  case ret =>
    rintro v h' tk rw' ⟨⟨t, rfl⟩, rfl⟩ F' N' hd'
    exact ret t h' tk F' N'
  intro g L' h₁ F' N' hro hst B' X' T'
  dsimp only [List.reverse, List.reverseAux, bindF] at F'
  k_unmd
  k_fold
  clear ret F N B X T hst hro
  repeat' (walk_at "kstep")
  refine' h1 t1 ?F ?X ?_ ?hs; (case F => k_asm); (case X => k_asm); (case hs => with_unfolding_all rfl)
  rintro x rfl
  repeat' (walk_at "kstep")
  refine' h2 ?F ?X ?_ ?hs; (case F => k_asm); (case X => k_asm); (case hs => with_unfolding_all rfl)
  rintro x ⟨u, rfl⟩
  repeat' (walk_at "kstep")
  rw [show (2 : Int) ^ (2 : Int).toNat = 4 by decide]
  repeat' (walk_at "kstep")
  dsimp only
  k_unfold
  dsimp only
  exact Done.intro (by assumption) (by assumption) ⟨int_is (micro_val (d := d) (by rfl)), rfl⟩
theorem sub_none {w : World} {a : Addr} {es : Array DictEntry} {n : Nat} {i : Int} (hl : (hd.heap_39 w.params).lookup a = some ⟨.type "dict", none, .dict es n, #[]⟩) (hk : es.toList.all noneKeyOk = true) (hv : (findBy isNone es ()).bind intOf? = some i) : SubIs w a .none fun x => ∃ u, x = .int i u :=
  fun F X h hs => top_none_int F X hl hk hv (fun u => h _ ⟨u, rfl⟩) hs
theorem sub_int {w : World} {a : Addr} {es : Array DictEntry} {n : Nat} {k i : Int} {t : Tok} (hl : (hd.heap_39 w.params).lookup a = some ⟨.type "dict", none, .dict es n, #[]⟩) (hk : es.toList.all intKeyOk = true) (hv : (findBy Value.isInt es k).bind intOf? = some i) : SubIs w a (.int k t) fun x => ∃ u, x = .int i u :=
  fun F X h hs => top_int_int F X hl hk hv (fun u => h _ ⟨u, rfl⟩) hs
theorem sub_ref {w : World} {a b : Addr} {es : Array DictEntry} {n : Nat} {k : Int} {t : Tok} (hl : (hd.heap_39 w.params).lookup a = some ⟨.type "dict", none, .dict es n, #[]⟩) (hk : es.toList.all intKeyOk = true) (hv : findBy Value.isInt es k = some (.ref b)) : SubIs w a (.int k t) fun x => x = .ref b :=
  fun F X h hs => top_int F X hl hk hv (h _ rfl) hs

theorem cfi_micro {w : World} {d mask : Nat} {x : Value} (hd8 : d < 8) (hx : microLevel d x) (hm : mask < 4) : CfiClaim w (microVersion d) x mask (FIM.getD (4 * d + mask) 0) := by
  have hdd : d = 0 ∨ d = 1 ∨ d = 2 ∨ d = 3 ∨ d = 4 ∨ d = 5 ∨ d = 6 ∨ d = 7 := by omega
  rcases hdd with rfl | rfl | rfl | rfl | rfl | rfl | rfl | rfl
  · obtain rfl := hx
    exact @cfi_small w (-3) mask 0 .none 16 (by decide) hm hd8 (fun t => sub_ref (by k_is) (by rfl) (by rfl)) (sub_none (by k_is) (by rfl) (by rfl))
  · obtain ⟨te, rfl⟩ := hx
    exact @cfi_small w (-2) mask 1 (.int 1 te) 17 (by decide) hm hd8 (fun t => sub_ref (by k_is) (by rfl) (by rfl)) (sub_int (by k_is) (by rfl) (by rfl))
  · obtain ⟨te, rfl⟩ := hx
    exact @cfi_small w (-2) mask 2 (.int 0 te) 17 (by decide) hm hd8 (fun t => sub_ref (by k_is) (by rfl) (by rfl)) (sub_int (by k_is) (by rfl) (by rfl))
  · obtain ⟨te, rfl⟩ := hx
    exact @cfi_small w (-1) mask 3 (.int 1 te) 18 (by decide) hm hd8 (fun t => sub_ref (by k_is) (by rfl) (by rfl)) (sub_int (by k_is) (by rfl) (by rfl))
  · obtain ⟨te, rfl⟩ := hx
    exact @cfi_small w (-1) mask 4 (.int 0 te) 18 (by decide) hm hd8 (fun t => sub_ref (by k_is) (by rfl) (by rfl)) (sub_int (by k_is) (by rfl) (by rfl))
  · obtain ⟨te, rfl⟩ := hx
    exact @cfi_small w 0 mask 5 (.int 1 te) 19 (by decide) hm hd8 (fun t => sub_ref (by k_is) (by rfl) (by rfl)) (sub_int (by k_is) (by rfl) (by rfl))
  · obtain ⟨te, rfl⟩ := hx
    exact @cfi_small w 0 mask 6 (.int 0 te) 19 (by decide) hm hd8 (fun t => sub_ref (by k_is) (by rfl) (by rfl)) (sub_int (by k_is) (by rfl) (by rfl))
  · obtain ⟨te, rfl⟩ := hx
    exact @cfi_small w 0 mask 7 (.int 3 te) 19 (by decide) hm hd8 (fun t => sub_ref (by k_is) (by rfl) (by rfl)) (sub_int (by k_is) (by rfl) (by rfl))
end Mine
end
section
open PySem PySem.W PySem.Calls PyProof.Rows
set_option maxRecDepth 100000
set_option maxHeartbeats 8000000
namespace Mine
theorem fillA : (fun (_ : OpenLaw) (_ : Params → Frag) => True) PySem.Challenge.rw_im0112_01 hd.heap_39 := by
  w_top off
  k_fill
  trivial
local macro_rules | `(tactic| walk_at "kstep") => `(tactic| first | (k_unfold; (try dsimp only)) | (k_end; wrow_close) | walk1 | (dsimp only; walk1) | (leave1; walk_say "STEP leave1"; try dsimp only))
local macro_rules | `(tactic| walk_at "to iter") => `(tactic| repeat ((fail_if_success (with_reducible show wpAny _ _ (pyIter _) _ _ _)); walk_at "kstep"))
local macro_rules | `(tactic| walk_at "to while") => `(tactic| repeat ((fail_if_success (with_reducible show wpAny _ _ (exec (Stmt.While _ _ _ _) _) _ _ _)); walk_at "kstep"))
local macro_rules | `(tactic| walk_at "to newList") => `(tactic| repeat ((fail_if_success (with_reducible show wpAny _ _ (newList _) _ _ _)); walk_at "kstep"))
local macro_rules | `(tactic| walk_at "to call") => `(tactic| repeat ((fail_if_success (with_reducible show wpAny _ _ (call (Value.ref _) _) _ _ _)); walk_at "kstep"))
-- pic steps
local macro_rules | `(tactic| walk_at "subscriptTail") => `(tactic| ((with_reducible show wpAny _ _ (subscriptTail _ _ (Value.ref _) (Value.int _ _)) _ _ _); k_dflt (first
  | (refine' pic_row ?N ?P (at_pos ?h0 ?h1 ?h2) ?_; (case N => k_asm); (case P => k_asm); (case h0 => omega); (case h1 => omega); (case h2 => omega))
  | (refine' pic_row ?N ?P (at_neg ?h0 ?h1 ?h2) ?_; (case N => k_asm); (case P => k_asm); (case h0 => omega); (case h1 => omega); (case h2 => omega))
  | (refine' pic_rowO ?N ?P (at_pos ?h0 ?h1 ?h2) ?_; (case N => k_asm); (case P => k_asm); (case h0 => omega); (case h1 => omega); (case h2 => omega))
  | (refine' pic_rowO ?N ?P (at_neg ?h0 ?h1 ?h2) ?_; (case N => k_asm); (case P => k_asm); (case h0 => omega); (case h1 => omega); (case h2 => omega)))))
local macro_rules | `(tactic| walk_at "setItem ref int") => `(tactic| ((with_reducible show wpAny _ _ (setItem (Value.ref _) (Value.int _ _) (Value.int _ _)) _ _ _); k_dflt (first
  | (refine' pic_set ?F ?N ?O ?P ?hi (at_pos ?h0 ?h1 ?h2) ?_; (case F => k_asm); (case N => k_asm); (case O => k_asm); (case P => k_asm); (case hi => omega); (case h0 => omega); (case h1 => omega); (case h2 => omega))
  | (refine' pic_set ?F ?N ?O ?P ?hi (at_neg ?h0 ?h1 ?h2) ?_; (case F => k_asm); (case N => k_asm); (case O => k_asm); (case P => k_asm); (case hi => omega); (case h0 => omega); (case h1 => omega); (case h2 => omega))); intro h' nx' F' N' O' A' P' K'; (try k_sweep)))

def bitAt (fi k : Nat) : Int := ((fi / 2 ^ k % 2 : Nat) : Int)
/-- the offset that turn i uses -/
def offAt (mic : Bool) (i : Nat) : Nat := if mic then 1 else if 6 ≤ i then 1 else 0
def turnG (mic : Bool) (n fi i : Nat) (g : Nat → Nat → Int) : Nat → Nat → Int :=
  let o := offAt mic i
  let g2 := gset (gset g (i + o) 8 (bitAt fi i)) 8 (i + o) (bitAt fi (14 - i))
  if mic then g2 else gset (gset g2 8 (n - 1 - i) (bitAt fi i)) (n - 1 - i) 8 (bitAt fi (14 - i))
def upG (mic : Bool) (n fi : Nat) (g : Nat → Nat → Int) : Nat → Nat → Nat → Int
  | 0 => g
  | i + 1 => turnG mic n fi i (upG mic n fi g i)
def afiG (mic : Bool) (n fi : Nat) (g : Nat → Nat → Int) : Nat → Nat → Int :=
  if mic then upG mic n fi g 8 else gset (upG mic n fi g 8) (n - 8) 8 1

theorem bit_v (fi i : Nat) : Builtin.bitAnd ((fi : Int).fdiv (2 ^ ((i : Nat) : Int).toNat)) 1 = bitAt fi i := by
  rw [Int.toNat_natCast, ← kbt_cast, Int.fdiv_eq_ediv_of_nonneg _ (Int.natCast_nonneg _), bitAnd_m1]
  unfold bitAt
  rw [Int.natCast_emod, Int.natCast_ediv]
  rfl
theorem bit_h (fi i : Nat) (h : i ≤ 14) : Builtin.bitAnd ((fi : Int).fdiv (2 ^ (14 - (i : Int)).toNat)) 1 = bitAt fi (14 - i) := by
  rw [show (14 - (i : Int)) = ((14 - i : Nat) : Int) by omega]
  exact bit_v fi (14 - i)
theorem turn_small {nx : List (Addr × Obj)} {p : Addr} {n fi i a1 b1 a2 b2 : Nat} {as : Nat → Addr} {g0 : Nat → Nat → Int} {v1 v2 : Int} (P : Pic nx p n as (gset (gset g0 a1 b1 v1) a2 b2 v2))
    (h1 : a1 = i + 1) (h2 : b1 = 8) (h3 : v1 = bitAt fi i) (h4 : a2 = 8) (h5 : b2 = i + 1) (h6 : v2 = bitAt fi (14 - i)) : Pic nx p n as (turnG true n fi i g0) := by
  subst h1 h2 h3 h4 h5 h6
  exact P
theorem turn_large {nx : List (Addr × Obj)} {p : Addr} {n fi i a1 b1 a2 b2 a3 b3 a4 b4 : Nat} {as : Nat → Addr} {g0 : Nat → Nat → Int} {v1 v2 v3 v4 : Int} (P : Pic nx p n as (gset (gset (gset (gset g0 a1 b1 v1) a2 b2 v2) a3 b3 v3) a4 b4 v4))
    (h1 : a1 = i + offAt false i) (h2 : b1 = 8) (h3 : v1 = bitAt fi i) (h4 : a2 = 8) (h5 : b2 = i + offAt false i) (h6 : v2 = bitAt fi (14 - i)) (h7 : a3 = 8) (h8 : b3 = n - 1 - i) (h9 : v3 = bitAt fi i) (h10 : a4 = n - 1 - i) (h11 : b4 = 8) (h12 : v4 = bitAt fi (14 - i)) : Pic nx p n as (turnG false n fi i g0) := by
  subst h1 h2 h3 h4 h5 h6 h7 h8 h9 h10 h11 h12
  exact P
theorem off_six : offAt false 6 = 1 := rfl
theorem off_low {i : Nat} (h : i < 6) : offAt false i = 0 := by unfold offAt; simp; omega
theorem off_high {i : Nat} (h : 6 ≤ i) : offAt false i = 1 := by unfold offAt; simp; omega

theorem afi_call {w : World} {base h₀ : Heap} {L : Addr} {m : Str → Option Value} {s : Shared} {cn : Str} {cs : Scope} {a : Addr} {ccd : Value} {cl : List (Str × Addr)} {loose : List Str} {mean : ExcName → Option Value} {mg mb : Str → Option Value} {Q E : Value → Shared → Prop}
    {ro rw : List (Addr × Obj)} {p : Addr} {n fi : Nat} {as : Nat → Addr} {gr : Nat → Nat → Int} {v mask : Int} {ev : Value} {t1 t2 : Tok}
    (B : Below callerA base [] h₀) (F : Fr h₀ L s.heap m) (X : (hd.heap_39 w.params).In h₀) (N : News h₀ L s.heap (rw ++ ro)) (hd' : ∀ p ∈ ro, p.1 ∉ rw.map (·.1)) (T : Top hd.view_39 loose mean mg mb h₀) (hk : cs.kind = .function)
    (P : Pic rw p n as gr) (hn : 11 ≤ n) (hn2 : n ≤ 177) (hnv : 1 ≤ v → 21 ≤ n) (hc : CfiClaim w v ev mask fi)
    (ret : ∀ h' tk rw', Pic rw' p n as (afiG (decide (v < 1)) n fi gr) → rw'.map (·.1) = rw.map (·.1) → Fr h₀ L h' m → News h₀ L h' (rw' ++ ro) → Q .none { s with heap := h', toks := tk }) :
    wpAny (model PySem.Challenge.rw_im0112_01.row.prog w) (A1 cn cs L a ccd cl) (call (.ref 36) [.ref p, .int v t1, ev, .int mask t2]) Q E s := by
  refine call_split (rw := rw) (ro := ro) (K := hd.heap_39 w.params) (env := envX cn cs L a ccd cl) (A₀ := callerA) (binds := [(Str.ofString "matrix", .ref p), (Str.ofString "version", .int v t1), (Str.ofString "error", ev), (Str.ofString "mask_pattern", .int mask t2)]) (fun x rw' => x = .none ∧ Pic rw' p n as (afiG (decide (v < 1)) n fi gr) ∧ rw'.map (·.1) = rw.map (·.1)) B F X N hd' T rfl rfl hk (by k_is) (by k_is) (by k_room) (BindsTo.of_eq rfl) (locs rfl) ?body ?ret rfl rfl rfl (by decide)
  case ret =>
    rintro v h' tk rw' ⟨rfl, hP, hm⟩ F' N' _
    exact ret h' tk rw' hP hm F' N'
  case body =>
    intro g L' h₁ F' N' hro hst B' X' T'
    dsimp only [List.reverse, List.reverseAux, bindF] at F'
    k_unmd
    k_fold
    clear ret F N B X T hst hro
    walk_at "to call"

    refine hc B' (by assumption) X' (by assumption) T' rfl ?_
    intro tf hf tkf F1 N1
    walk_at "to iter"

    rename Fr _ _ _ _ => F3
    rename News _ _ _ _ => N3
    rename IsRange _ _ _ _ _ _ _ _ => R1
    rename (∀ b o, _ → _) => K1
    refine range_loop (n := 8) (fun i m nx => Pic nx p n as (upG (decide (v < 1)) n fi gr i) ∧ nx.map (·.1) = rw.map (·.1) ∧ ∃ (vo : Int) (tv th : Tok), Knows m [(Str.ofString "matrix", .ref p), (Str.ofString "is_micro", .bool (decide (v < 1))), (Str.ofString "format_info", .int fi tf), (Str.ofString "voffset", .int vo tv), (Str.ofString "hoffset", .int vo th), (Str.ofString "row_eight", .ref (as 8))] ∧ (v < 1 → vo = 1) ∧ (¬ v < 1 → i ≤ 6 → vo = 0) ∧ (¬ v < 1 → 7 ≤ i → vo = 1)) rfl R1 ?small ?n F3 N3 ?j0 ?turn ?done
    case small => rfl
    case n => rfl
    case j0 =>
      refine ⟨P, rfl, _, _, _, .cons (by rfl) (.cons (by rfl) (.cons (by rfl) (.cons (by rfl) (.cons (by rfl) (.cons (by rfl) .nil))))), ?_, ?_, ?_⟩
      · intro hv; simp [hv]
      · intro hv _; simp [hv]
      · intro _ q; omega
    case done =>
      clear R1 F3 N3 K1
      rintro m₁ nx h tk ⟨hP, hadr, vo, tv, th, hK, ho1, ho2, ho3⟩ F2 N2
      replace F2 := hK.fr0 F2
      dsimp only [bindF] at F2
      dsimp only
      have O2 : OwnOff [] (nx.map (·.1)) := fun _ hp => nomatch hp
      rw [← List.append_nil nx] at N2
      repeat' (walk_at "kstep")
      · have hm : decide (v < 1) = true := decide_eq_true (by assumption)
        rw [List.append_nil] at N2
        refine Done.intro F2 N2 ⟨rfl, ?_, hadr⟩
        rw [hm] at hP ⊢
        exact hP
      · rename Fr _ _ _ _ => F9
        rename News _ _ _ _ => N9
        rename Pic _ _ _ _ _ => P9
        have hm : decide (v < 1) = false := decide_eq_false (by assumption)
        rw [List.append_nil] at N9
        refine Done.intro F9 N9 ⟨rfl, ?_, Eq.trans (by assumption) hadr⟩
        rw [hm] at P9 ⊢
        rw [show ((-8 : Int) + (n : Int)).toNat = n - 8 by omega] at P9
        exact P9
    case turn =>
      clear R1 F3 N3 K1
      rintro i ti m₁ nx h tk own hi ho ⟨hP, hadr, vo, tv, th, hK, ho1, ho2, ho3⟩ F2 N2
      replace F2 := hK.fr F2
      rw [show (0 : Int) + (i : Int) * 1 = i by omega] at F2
      dsimp only [bindF] at F2
      k_unmd
      k_fold
      repeat' (walk_at "kstep")
      · have hv : v < 1 := by first | assumption | (simp_all; done) | (simp_all; omega)
        rename Fr _ _ _ _ => F9
        rename News _ _ _ _ => N9
        rename OwnOff _ _ => O9
        rename Pic _ _ _ _ _ => P9
        refine InvEndG.intro F9 N9 ⟨?_, ?_, vo, _, _, .cons (by rfl) (.cons (by rfl) (.cons (by rfl) (.cons (by rfl) (.cons (by rfl) (.cons (by rfl) .nil))))), ho1, fun q => absurd hv q, fun q => absurd hv q⟩ O9 (fun p hp => List.mem_append_left _ hp) (fun p hp => List.mem_append_right _ hp)
        · show Pic _ p n as (turnG (decide (v < 1)) n fi i (upG (decide (v < 1)) n fi gr i))
          rw [bit_v, bit_h fi i (by omega)] at P9
          have hm : decide (v < 1) = true := decide_eq_true hv
          rw [hm] at P9 ⊢
          exact turn_small P9 (by omega) rfl rfl rfl (by omega) rfl
        · exact Eq.trans (by assumption) (Eq.trans (by assumption) hadr)
      · have hv : ¬ v < 1 := by first | assumption | (simp_all; done) | (simp_all; omega)
        have hi6 : i = 6 := by omega
        have hvo : vo = 0 := ho2 hv (by omega)
        rename Fr _ _ _ _ => F9
        rename News _ _ _ _ => N9
        rename OwnOff _ _ => O9
        rename Pic _ _ _ _ _ => P9
        refine InvEndG.intro F9 N9 ⟨?_, ?_, 1, _, _, .cons (by rfl) (.cons (by rfl) (.cons (by rfl) (.cons (by subst hvo; rfl) (.cons (by rfl) (.cons (by rfl) .nil))))), fun _ => rfl, fun _ q => by omega, fun _ _ => rfl⟩ O9 (fun p hp => List.mem_append_left _ hp) (fun p hp => List.mem_append_right _ hp)
        · show Pic _ p n as (turnG (decide (v < 1)) n fi i (upG (decide (v < 1)) n fi gr i))
          rw [bit_v, bit_h fi i (by omega)] at P9
          have hm : decide (v < 1) = false := decide_eq_false hv
          rw [hm] at P9 ⊢
          have hof : offAt false i = 1 := off_high (by omega)
          exact turn_large P9 (by omega) rfl rfl rfl (by omega) rfl rfl (by omega) rfl (by omega) rfl rfl
        · exact Eq.trans (by assumption) (Eq.trans (by assumption) (Eq.trans (by assumption) (Eq.trans (by assumption) hadr)))
      · have hv : v < 1 := by first | assumption | (simp_all; done) | (simp_all; omega)
        rename Fr _ _ _ _ => F9
        rename News _ _ _ _ => N9
        rename OwnOff _ _ => O9
        rename Pic _ _ _ _ _ => P9
        refine InvEndG.intro F9 N9 ⟨?_, ?_, vo, _, _, .cons (by rfl) (.cons (by rfl) (.cons (by rfl) (.cons (by rfl) (.cons (by rfl) (.cons (by rfl) .nil))))), ho1, fun q => absurd hv q, fun q => absurd hv q⟩ O9 (fun p hp => List.mem_append_left _ hp) (fun p hp => List.mem_append_right _ hp)
        · show Pic _ p n as (turnG (decide (v < 1)) n fi i (upG (decide (v < 1)) n fi gr i))
          rw [bit_v, bit_h fi i (by omega)] at P9
          have hm : decide (v < 1) = true := decide_eq_true hv
          rw [hm] at P9 ⊢
          exact turn_small P9 (by omega) rfl rfl rfl (by omega) rfl
        · exact Eq.trans (by assumption) (Eq.trans (by assumption) hadr)
      · have hv : ¬ v < 1 := by first | assumption | (simp_all; done) | (simp_all; omega)
        have hi6 : i ≠ 6 := by omega
        rename Fr _ _ _ _ => F9
        rename News _ _ _ _ => N9
        rename OwnOff _ _ => O9
        rename Pic _ _ _ _ _ => P9
        refine InvEndG.intro F9 N9 ⟨?_, ?_, vo, _, _, .cons (by rfl) (.cons (by rfl) (.cons (by rfl) (.cons (by rfl) (.cons (by rfl) (.cons (by rfl) .nil))))), ho1, fun _ q => ho2 hv (by omega), fun _ q => ho3 hv (by omega)⟩ O9 (fun p hp => List.mem_append_left _ hp) (fun p hp => List.mem_append_right _ hp)
        · show Pic _ p n as (turnG (decide (v < 1)) n fi i (upG (decide (v < 1)) n fi gr i))
          rw [bit_v, bit_h fi i (by omega)] at P9
          have hm : decide (v < 1) = false := decide_eq_false hv
          rw [hm] at P9 ⊢
          have hof : (offAt false i : Int) = vo := by
            by_cases h6 : i < 6
            · rw [off_low h6, ho2 hv (by omega)]; rfl
            · rw [off_high (by omega), ho3 hv (by omega)]; rfl
          exact turn_large P9 (by omega) rfl rfl rfl (by omega) rfl rfl (by omega) rfl (by omega) rfl rfl
        · exact Eq.trans (by assumption) (Eq.trans (by assumption) (Eq.trans (by assumption) (Eq.trans (by assumption) hadr)))
end Mine
end
section
open PySem PySem.W PySem.Calls PyProof.Rows
set_option maxRecDepth 100000
set_option maxHeartbeats 8000000
namespace Mine
theorem fillV : (fun (_ : OpenLaw) (_ : Params → Frag) => True) PySem.Challenge.rw_im0112_01 hd.heap_39 := by
  w_top off
  k_fill
  trivial
local macro_rules | `(tactic| walk_at "kstep") => `(tactic| first | (k_unfold; (try dsimp only)) | (k_end; wrow_close) | walk1 | (dsimp only; walk1) | (leave1; walk_say "STEP leave1"; try dsimp only))
local macro_rules | `(tactic| walk_at "to iter") => `(tactic| repeat ((fail_if_success (with_reducible show wpAny _ _ (pyIter _) _ _ _)); walk_at "kstep"))
local macro_rules | `(tactic| walk_at "to while") => `(tactic| repeat ((fail_if_success (with_reducible show wpAny _ _ (exec (Stmt.While _ _ _ _) _) _ _ _)); walk_at "kstep"))
local macro_rules | `(tactic| walk_at "to newList") => `(tactic| repeat ((fail_if_success (with_reducible show wpAny _ _ (newList _) _ _ _)); walk_at "kstep"))
local macro_rules | `(tactic| walk_at "to call") => `(tactic| repeat ((fail_if_success (with_reducible show wpAny _ _ (call (Value.ref _) _) _ _ _)); walk_at "kstep"))
-- pic steps
local macro_rules | `(tactic| walk_at "subscriptTail") => `(tactic| ((with_reducible show wpAny _ _ (subscriptTail _ _ (Value.ref _) (Value.int _ _)) _ _ _); k_dflt (first
  | (refine' pic_row ?N ?P (at_pos ?h0 ?h1 ?h2) ?_; (case N => k_asm); (case P => k_asm); (case h0 => omega); (case h1 => omega); (case h2 => omega))
  | (refine' pic_row ?N ?P (at_neg ?h0 ?h1 ?h2) ?_; (case N => k_asm); (case P => k_asm); (case h0 => omega); (case h1 => omega); (case h2 => omega))
  | (refine' pic_rowO ?N ?P (at_pos ?h0 ?h1 ?h2) ?_; (case N => k_asm); (case P => k_asm); (case h0 => omega); (case h1 => omega); (case h2 => omega))
  | (refine' pic_rowO ?N ?P (at_neg ?h0 ?h1 ?h2) ?_; (case N => k_asm); (case P => k_asm); (case h0 => omega); (case h1 => omega); (case h2 => omega)))))
local macro_rules | `(tactic| walk_at "setItem ref int") => `(tactic| ((with_reducible show wpAny _ _ (setItem (Value.ref _) (Value.int _ _) (Value.int _ _)) _ _ _); k_dflt (first
  | (refine' pic_set ?F ?N ?O ?P ?hi (at_pos ?h0 ?h1 ?h2) ?_; (case F => k_asm); (case N => k_asm); (case O => k_asm); (case P => k_asm); (case hi => omega); (case h0 => omega); (case h1 => omega); (case h2 => omega))
  | (refine' pic_set ?F ?N ?O ?P ?hi (at_neg ?h0 ?h1 ?h2) ?_; (case F => k_asm); (case N => k_asm); (case O => k_asm); (case P => k_asm); (case hi => omega); (case h0 => omega); (case h1 => omega); (case h2 => omega))); intro h' nx' F' N' O' A' P' K'; (try k_sweep)))

def VI : List Nat := [31892, 34236, 39577, 42195, 48118, 51042, 55367, 58893, 63784, 68472, 70749, 76311, 79154, 84390, 87683, 92361, 96236, 102084, 102881, 110507, 110734, 117786, 119615, 126325, 127568, 133589, 136944, 141498, 145311, 150283, 152622, 158308, 161089, 167017]
theorem VI_get (k : Nat) : ([31892, 34236, 39577, 42195, 48118, 51042, 55367, 58893, 63784, 68472, 70749, 76311, 79154, 84390, 87683, 92361, 96236, 102084, 102881, 110507, 110734, 117786, 119615, 126325, 127568, 133589, 136944, 141498, 145311, 150283, 152622, 158308, 161089, 167017] : List Int).getD k 0 = ((VI.getD k 0 : Nat) : Int) := natInts_get VI k
def verTurn (n vi i : Nat) (g : Nat → Nat → Int) : Nat → Nat → Int :=
  gset (gset (gset (gset (gset (gset g (n - 11) i (bitAt vi (3 * i))) (n - 10) i (bitAt vi (3 * i + 1))) (n - 9) i (bitAt vi (3 * i + 2))) i (n - 11) (bitAt vi (3 * i))) i (n - 10) (bitAt vi (3 * i + 1))) i (n - 9) (bitAt vi (3 * i + 2))
def verUp (n vi : Nat) (g : Nat → Nat → Int) : Nat → Nat → Nat → Int
  | 0 => g
  | i + 1 => verTurn n vi i (verUp n vi g i)
/-- what add_version_info makes of a picture -/
def aviG (v : Int) (n : Nat) (g : Nat → Nat → Int) : Nat → Nat → Int := if v < 7 then g else verUp n (VI.getD (v - 7).toNat 0) g 6
theorem bit_k (fi kk : Nat) (k : Int) (h : k = kk) : Builtin.bitAnd ((fi : Int).fdiv (2 ^ k.toNat)) 1 = bitAt fi kk := by
  subst h
  exact bit_v fi kk
theorem ver_turn {nx : List (Addr × Obj)} {p : Addr} {n vi i a1 b1 a2 b2 a3 b3 a4 b4 a5 b5 a6 b6 : Nat} {as : Nat → Addr} {g0 : Nat → Nat → Int} {v1 v2 v3 v4 v5 v6 : Int} (P : Pic nx p n as (gset (gset (gset (gset (gset (gset g0 a1 b1 v1) a2 b2 v2) a3 b3 v3) a4 b4 v4) a5 b5 v5) a6 b6 v6))
    (h1 : a1 = n - 11) (h2 : b1 = i) (h3 : v1 = bitAt vi (3 * i)) (h4 : a2 = n - 10) (h5 : b2 = i) (h6 : v2 = bitAt vi (3 * i + 1)) (h7 : a3 = n - 9) (h8 : b3 = i) (h9 : v3 = bitAt vi (3 * i + 2))
    (k1 : a4 = i) (k2 : b4 = n - 11) (k3 : v4 = bitAt vi (3 * i)) (k4 : a5 = i) (k5 : b5 = n - 10) (k6 : v5 = bitAt vi (3 * i + 1)) (k7 : a6 = i) (k8 : b6 = n - 9) (k9 : v6 = bitAt vi (3 * i + 2)) : Pic nx p n as (verTurn n vi i g0) := by
  subst h1 h2 h3 h4 h5 h6 h7 h8 h9 k1 k2 k3 k4 k5 k6 k7 k8 k9
  exact P

theorem avi_call {w : World} {base h₀ : Heap} {L : Addr} {m : Str → Option Value} {s : Shared} {cn : Str} {cs : Scope} {a : Addr} {ccd : Value} {cl : List (Str × Addr)} {loose : List Str} {mean : ExcName → Option Value} {mg mb : Str → Option Value} {Q E : Value → Shared → Prop}
    {ro rw : List (Addr × Obj)} {p : Addr} {n : Nat} {as : Nat → Addr} {gr : Nat → Nat → Int} {v : Int} {t1 : Tok}
    (B : Below callerA base [] h₀) (F : Fr h₀ L s.heap m) (X : (hd.heap_39 w.params).In h₀) (N : News h₀ L s.heap (rw ++ ro)) (hd' : ∀ p ∈ ro, p.1 ∉ rw.map (·.1)) (T : Top hd.view_39 loose mean mg mb h₀) (hk : cs.kind = .function)
    (P : Pic rw p n as gr) (hn : 11 ≤ n) (hn2 : n ≤ 177) (hnv : 7 ≤ v → 21 ≤ n) (hv : v ≤ 40)
    (ret : ∀ h' tk rw', Pic rw' p n as (aviG v n gr) → rw'.map (·.1) = rw.map (·.1) → Fr h₀ L h' m → News h₀ L h' (rw' ++ ro) → Q .none { s with heap := h', toks := tk }) :
    wpAny (model PySem.Challenge.rw_im0112_01.row.prog w) (A1 cn cs L a ccd cl) (call (.ref 43) [.ref p, .int v t1]) Q E s := by
  refine call_split (rw := rw) (ro := ro) (K := hd.heap_39 w.params) (env := envX cn cs L a ccd cl) (A₀ := callerA) (binds := [(Str.ofString "matrix", .ref p), (Str.ofString "version", .int v t1)]) (fun x rw' => x = .none ∧ Pic rw' p n as (aviG v n gr) ∧ rw'.map (·.1) = rw.map (·.1)) B F X N hd' T rfl rfl hk (by k_is) (by k_is) (by k_room) (BindsTo.of_eq rfl) (locs rfl) ?body ?ret rfl rfl rfl (by decide)
  case ret =>
    rintro v h' tk rw' ⟨rfl, hP, hm⟩ F' N' _
    exact ret h' tk rw' hP hm F' N'
  case body =>
    intro g L' h₁ F' N' hro hst B' X' T'
    dsimp only [List.reverse, List.reverseAux, bindF] at F'
    k_unmd
    k_fold
    clear ret F N B X T hst hro
    repeat' ((fail_if_success (with_reducible show wpAny _ _ (pyIter _) _ _ _)); walk_at "kstep")
    · dsimp only
      k_unfold
      dsimp only
      refine Done.intro (by assumption) (by assumption) ⟨rfl, ?_, rfl⟩
      unfold aviG
      rw [if_pos (by assumption)]
      exact P
    · have hv7 : ¬ v < 7 := by assumption
      rename Fr _ _ _ _ => F3
      rename News _ _ _ _ => N3
      rename IsRange _ _ _ _ _ _ _ _ => R1
      rename (∀ b o, _ → _) => K1
      rw [VI_get] at F3
      obtain ⟨vi, hvi⟩ : ∃ vi, vi = VI.getD (v - 7).toNat 0 := ⟨_, rfl⟩
      rw [← hvi] at F3
      refine range_loop (n := 6) (fun i m nx => Pic nx p n as (verUp n vi gr i) ∧ nx.map (·.1) = rw.map (·.1) ∧ ∃ (tv : Tok), Knows m [(Str.ofString "matrix", .ref p), (Str.ofString "version_info", .int vi tv)]) rfl R1 ?small ?n F3 N3 ?j0 ?turn ?done
      case small => rfl
      case n => rfl
      case j0 => exact ⟨P, rfl, _, .cons (by rfl) (.cons (by rfl) .nil)⟩
      case done =>
        clear R1 F3 N3 K1
        rintro m₁ nx h tk ⟨hP, hadr, tv, hK⟩ F2 N2
        dsimp only
        repeat' (walk_at "kstep")
        refine Done.intro F2 N2 ⟨rfl, ?_, hadr⟩
        unfold aviG
        rw [if_neg hv7, ← hvi]
        exact hP
      case turn =>
        clear R1 F3 N3 K1
        rintro i ti m₁ nx h tk own hi ho ⟨hP, hadr, tv, hK⟩ F2 N2
        replace F2 := hK.fr F2
        rw [show (0 : Int) + (i : Int) * 1 = i by omega] at F2
        dsimp only [bindF] at F2
        k_unmd
        k_fold
        repeat' (walk_at "kstep")
        rename Fr _ _ _ _ => F9
        rename News _ _ _ _ => N9
        rename OwnOff _ _ => O9
        rename Pic _ _ _ _ _ => P9
        refine InvEndG.intro F9 N9 ⟨?_, ?_, _, .cons (by rfl) (.cons (by rfl) .nil)⟩ O9 (fun p hp => List.mem_append_left _ hp) (fun p hp => List.mem_append_right _ hp)
        · show Pic _ p n as (verTurn n vi i (verUp n vi gr i))
          exact ver_turn P9 (by omega) (by omega) (bit_k _ _ _ (by omega)) (by omega) (by omega) (bit_k _ _ _ (by omega)) (by omega) (by omega) (bit_k _ _ _ (by omega)) (by omega) (by omega) (bit_k _ _ _ (by omega)) (by omega) (by omega) (bit_k _ _ _ (by omega)) (by omega) (by omega) (bit_k _ _ _ (by omega))
        · exact Eq.trans (by assumption) (Eq.trans (by assumption) (Eq.trans (by assumption) (Eq.trans (by assumption) (Eq.trans (by assumption) (Eq.trans (by assumption) hadr)))))
end Mine
end
section
open PySem PySem.W PySem.Calls PyProof.Rows PyProof.V PySem.Spec
set_option maxRecDepth 100000
namespace Mine
section
variable {prog : Program} {w : World} {A : Around} {E : Value → Shared → Prop} {s : Shared} {env : Env} {h₀ : Heap} {target : Expr} {body : List Stmt} {Q : Flow → Shared → Prop}
/-- a turn's end where the loop's target is a pair -/
def NextG (h₀ : Heap) (L : Addr) (J : (Str → Option Value) → List (Addr × Obj) → Prop) (own : List (Addr × Obj)) (s₁ : Shared) (f : Flow) (s₂ : Shared) : Prop := f = .next ∧ InvEndG h₀ L J own s₁ s₂

theorem listT_loop {l : Addr} {vs : List Value} {m₀ : Str → Option Value} {news : List (Addr × Obj)} (J : Nat → (Str → Option Value) → List (Addr × Obj) → Prop)
    (hh : A.handled = none) (hl : h₀.IsList l vs.toArray) (F : Fr h₀ env.locals s.heap m₀) (N : News h₀ env.locals s.heap news) (hj : J 0 m₀ news)
    (turn : ∀ (i : Nat) v m₁ nx (s₁ : Shared) own, vs[i]? = some v → OwnOff own (nx.map (·.1)) → J i m₁ nx → Fr h₀ env.locals s₁.heap m₁ → News h₀ env.locals s₁.heap (nx ++ own) →
      wpAny (model prog w) A (assign target env v) (fun _ s₃ => wpAny (model prog w) A (execs body env) (NextG h₀ env.locals (J (i + 1)) own s₁) E s₃) E s₁)
    (done : ∀ m₁ nx h tk, J vs.length m₁ nx → Fr h₀ env.locals h m₁ → News h₀ env.locals h nx → Q .next { s with heap := h, toks := tk }) :
    wpAny (model prog w) A (pyIter (.ref l)) (fun it s₂ => LoopAtT prog w A h₀ env target body Q E it s₂) E s := by
  have hls : s.heap.IsList l vs.toArray := hl.at fun o e => F.keep l o e
  obtain ⟨ol, hol, _⟩ := id hl
  have hlt : l < h₀.objs.size := Heap.lt_size hol
  have hne : l ≠ s.heap.objs.size := Nat.ne_of_lt (Nat.lt_trans (Nat.lt_of_lt_of_le hlt F.above) F.ns.lt)
  refine wpAny_pyIter_list hls ?_
  have W := Walks.list (prog := prog) (w := w) hh s.heap.objs.size l hne vs.toArray
  have hlen : vs.toArray.size = vs.length := by simp
  rw [hlen] at W
  refine ⟨_, _, _, vs.length, _, _, m₀, news, J, rfl, W, ?_, ?_, ?_, ⟨⟨_, Heap.get?_push_size _ rfl, rfl, rfl⟩, hls.at fun o e => Heap.get?_push_of_some _ e⟩, F.push _, (fun p hp => ⟨Heap.get?_push_of_some _ (N p hp).1, (N p hp).2⟩), (fun i s' v Q' st hQ' => letGo_listiter st.1 hQ'), hj, ?_, ?_⟩
  · intro hm
    rcases List.mem_cons.mp hm with e | hm
    · exact absurd F.ns.lt (e ▸ Nat.lt_irrefl _)
    · exact absurd (Nat.lt_of_lt_of_le hlt F.above) ((List.mem_singleton.mp hm) ▸ Nat.lt_irrefl _)
  · intro b hb
    rw [List.mem_singleton.mp hb]
    exact next_is_new F
  · intro p hp hI
    exact absurd (Heap.lt_size (N p hp).1) ((List.mem_singleton.mp hI) ▸ Nat.lt_irrefl _)
  · rintro i v m₁ nx s₁ own hin hP hJ hoff hown _ hfp hst' F₁ N₁
    have hsep : OwnOff own (nx.map (·.1)) := by
      intro p hp b hb e
      obtain ⟨q, hq, rfl⟩ := List.mem_map.mp hb
      rcases List.mem_cons.mp (hown p hp) with h1 | h1
      · exact hoff q hq (List.mem_singleton.mpr (e ▸ h1))
      · have h2 := List.mem_singleton.mp h1
        have h3 := (N₁ q (List.mem_append.mpr (.inr hq))).2.2
        rw [← e, h2, hol] at h3
        cases h3
    obtain ⟨h₁, g₁, d₁, tk₁, o₁⟩ := s₁
    have N₂ : News h₀ env.locals h₁ (nx ++ own) := fun p hp => N₁ p ((List.mem_append.mp hp).elim (fun h => List.mem_append.mpr (.inr h)) fun h => List.mem_append.mpr (.inl h))
    refine wpAny_mono (turn i v m₁ nx ⟨h₁, g₁, d₁, tk₁, o₁⟩ own (by simpa using hP) hsep hJ F₁ N₂) (fun _ s₂ p => wpAny_mono p (fun f s₃ q => ?_) fun _ _ e => e) fun _ _ e => e
    obtain ⟨hf, h', tk, m', news', nx', e, F', N', hn, ho, ha, hm⟩ := q
    refine ⟨hf, h', tk, m', nx', e, F', fun p hp => N' p ((List.mem_append.mp hp).elim (ho p) (hn p)), fun p hp hq => ?_, hm⟩
    obtain ⟨⟨oI, hoI, _⟩, _⟩ := id hst'
    have hIown := hfp _ (List.mem_cons.mpr (.inl rfl)) (next_is_new F) oI hoI
    exact ha _ hIown p.1 (List.mem_map.mpr ⟨p, hp, rfl⟩) (List.mem_singleton.mp hq).symm
  · rintro h' tk m' news' F' N' _ hJ
    exact done m' news' h' tk hJ F' N'
end
end Mine
end
section
open PySem PySem.W PySem.Calls PyProof.Rows
set_option maxRecDepth 100000
set_option maxHeartbeats 8000000
namespace Mine
theorem fillS : (fun (_ : OpenLaw) (_ : Params → Frag) => True) PySem.Challenge.rw_im0112_01 hd.heap_39 := by
  w_top off
  k_fill
  trivial
local macro_rules | `(tactic| walk_at "kstep") => `(tactic| first | (k_unfold; (try dsimp only)) | (k_end; wrow_close) | walk1 | (dsimp only; walk1) | (leave1; walk_say "STEP leave1"; try dsimp only))
local macro_rules | `(tactic| walk_at "to iter") => `(tactic| repeat ((fail_if_success (with_reducible show wpAny _ _ (pyIter _) _ _ _)); walk_at "kstep"))
local macro_rules | `(tactic| walk_at "to while") => `(tactic| repeat ((fail_if_success (with_reducible show wpAny _ _ (exec (Stmt.While _ _ _ _) _) _ _ _)); walk_at "kstep"))
local macro_rules | `(tactic| walk_at "to newList") => `(tactic| repeat ((fail_if_success (with_reducible show wpAny _ _ (newList _) _ _ _)); walk_at "kstep"))
local macro_rules | `(tactic| walk_at "to call") => `(tactic| repeat ((fail_if_success (with_reducible show wpAny _ _ (call (Value.ref _) _) _ _ _)); walk_at "kstep"))
section
variable {prog : Program} {w : World} {A : Around} {E : Value → Shared → Prop} {s : Shared} {h₀ : Heap} {L : Addr} {m : Str → Option Value} {news own : List (Addr × Obj)} {p : Addr} {n : Nat} {as : Nat → Addr} {g : Nat → Nat → Int}
theorem len_own {l : Addr} {vs : List Value} {c : Nat} {Q : Value → Shared → Prop} (N : News h₀ L s.heap news) (hm : (l, listOf vs.toArray c) ∈ news) (hz : vs.length ≤ 1000) (h : Q (.int (vs.length : Nat) (s.toks + 1)) { s with toks := s.toks + 1 + 1 }) :
    wpAny (model prog w) A (call (.builtin "len") [.ref l]) Q E s := by
  refine Calls.call_len_list (items := vs.toArray) ⟨_, (N _ hm).1, rfl, _, rfl⟩ (by simp; omega) ?_
  rw [List.size_toArray]
  exact h
theorem pic_setM {x : Addr × Obj} {k y : Int} {t u : Tok} {i j : Nat} {Q : Unit → Shared → Prop} (F : Fr h₀ L s.heap m) (N : News h₀ L s.heap (x :: (news ++ own))) (O : OwnOff own (news.map (·.1))) (hx : ∀ q ∈ news, q.1 ≠ x.1) (P : Pic news p n as g) (hi : i < n) (hk : At k n j)
    (h : ∀ h' news', Fr h₀ L h' m → News h₀ L h' (x :: (news' ++ own)) → OwnOff own (news'.map (·.1)) → news'.map (·.1) = news.map (·.1) → Pic news' p n as (gset g i j y) → Q () { s with heap := h' }) :
    wpAny (model prog w) A (setItem (.ref (as i)) (.int k t) (.int y u)) Q E s := by
  have N2 : News h₀ L s.heap (news ++ (x :: own)) := fun q hq => N q (by
    rcases List.mem_append.mp hq with hq | hq
    · exact .tail _ (List.mem_append_left _ hq)
    · rcases List.mem_cons.mp hq with rfl | hq
      · exact .head _
      · exact .tail _ (List.mem_append_right _ hq))
  refine pic_set F N2 (fun q hq b hb => ?_) P hi hk fun h' news' F' N' O' A' P' _ => h h' news' F' (fun q hq => N' q ?_) (fun q hq => O' q (.tail _ hq)) A' P'
  · rcases List.mem_cons.mp hq with rfl | hq
    · obtain ⟨z, hz, rfl⟩ := List.mem_map.mp hb
      exact fun e => hx z hz e.symm
    · exact O q hq b hb
  · rcases List.mem_cons.mp hq with rfl | hq
    · exact List.mem_append_right _ (.head _)
    rcases List.mem_append.mp hq with hq | hq
    · exact List.mem_append_left _ hq
    · exact List.mem_append_right _ (.tail _ hq)
end
theorem fmod_in (X : Int) {n : Nat} (h : 0 < n) : 0 ≤ X.fmod (n : Int) ∧ X.fmod (n : Int) < n := by
  rw [Int.fmod_eq_emod_of_nonneg _ (Int.natCast_nonneg _)]
  exact ⟨Int.emod_nonneg _ (by omega), Int.emod_lt_of_pos _ (by omega)⟩
-- pic steps
local macro_rules | `(tactic| walk_at "subscriptTail") => `(tactic| ((with_reducible show wpAny _ _ (subscriptTail _ _ (Value.ref _) (Value.int _ _)) _ _ _); k_dflt (first
  | (refine' pic_row ?N ?P (at_pos ?h0 ?h1 ?h2) ?_; (case N => k_asm); (case P => k_asm); (case h0 => omega); (case h1 => omega); (case h2 => omega))
  | (refine' pic_row ?N ?P (at_neg ?h0 ?h1 ?h2) ?_; (case N => k_asm); (case P => k_asm); (case h0 => omega); (case h1 => omega); (case h2 => omega))
  | (refine' pic_rowO ?N ?P (at_pos ?h0 ?h1 ?h2) ?_; (case N => k_asm); (case P => k_asm); (case h0 => omega); (case h1 => omega); (case h2 => omega))
  | (refine' pic_rowO ?N ?P (at_neg ?h0 ?h1 ?h2) ?_; (case N => k_asm); (case P => k_asm); (case h0 => omega); (case h1 => omega); (case h2 => omega)))))
local macro_rules | `(tactic| walk_at "setItem ref int") => `(tactic| ((with_reducible show wpAny _ _ (setItem (Value.ref _) (Value.int _ _) (Value.int _ _)) _ _ _); k_dflt (first
  | (refine' pic_set ?F ?N ?O ?P ?hi (at_pos ?h0 ?h1 ?h2) ?_; (case F => k_asm); (case N => k_asm); (case O => k_asm); (case P => k_asm); (case hi => omega); (case h0 => omega); (case h1 => omega); (case h2 => omega))
  | (refine' pic_set ?F ?N ?O ?P ?hi (at_neg ?h0 ?h1 ?h2) ?_; (case F => k_asm); (case N => k_asm); (case O => k_asm); (case P => k_asm); (case hi => omega); (case h0 => omega); (case h1 => omega); (case h2 => omega))); intro h' nx' F' N' O' A' P' K'; (try k_sweep)))
local macro_rules | `(tactic| walk_at "to newer") => `(tactic| repeat ((fail_if_success (with_reducible show wpAny _ _ (call (Value.type "list") _) _ _ _)); walk_at "kstep"))
local macro_rules | `(tactic| walk_at "to len") => `(tactic| repeat ((fail_if_success (with_reducible show wpAny _ _ (call (Value.builtin "len") [Value.ref _]) _ _ _)); walk_at "kstep"))
local macro_rules | `(tactic| walk_at "to pop") => `(tactic| repeat ((fail_if_success (with_reducible show wpAny _ _ (call (Value.builtin "list.pop") _) _ _ _)); walk_at "kstep"))
local macro_rules | `(tactic| walk_at "to forT") => `(tactic| repeat ((fail_if_success (with_reducible show wpAny _ _ (exec (Stmt.For _ _ _ _ _) _) _ _ _)); walk_at "kstep"))
local macro_rules | `(tactic| walk_at "call builtin:len") => `(tactic| ((with_reducible show wpAny _ _ (call (Value.builtin "len") [Value.ref _]) _ _ _); k_dflt (refine' len_own ?N ?m ?z ?_; (case N => k_asm); (case m => k_mem); (case z => omega))))
local macro_rules | `(tactic| walk_at "subscriptTail") => `(tactic| ((with_reducible show wpAny _ _ (subscriptTail _ _ (Value.ref _) (Value.int _ _)) _ _ _); k_dflt (refine' pic_cell ?N ?P ?hi (at_pos ?h0 ?h1 ?h2) ?_; (case N => k_asm); (case P => k_asm); (case hi => omega); (case h0 => omega); (case h1 => omega); (case h2 => omega)); intro _))
local macro_rules | `(tactic| walk_at "setItem ref int") => `(tactic| ((with_reducible show wpAny _ _ (setItem (Value.ref _) (Value.int _ _) (Value.int _ _)) _ _ _); k_dflt (refine' pic_setM ?F ?N ?O ?hx ?P ?hi (at_pos ?h0 ?h1 ?h2) ?_; (case F => k_asm); (case N => k_asm); (case P => k_asm); (case O => k_asm); (case hx => k_asm); (case hi => omega); (case h0 => omega); (case h1 => omega); (case h2 => omega)); intro h' nx' F' N' O' A' P'; (try k_sweep)))

/-! ## the spots: a list of pairs -/
def TupObj (o : Obj) (q : Nat × Nat) : Prop := o.cls = .type "tuple" ∧ ∃ t t' c, o.data = .seq #[.int (q.1 : Int) t, .int (q.2 : Int) t'] c
def TupsIn (news : List (Addr × Obj)) (vs : List Value) (sp : List (Nat × Nat)) : Prop :=
  vs.length = sp.length ∧ ∀ (k : Nat) (q : Nat × Nat), sp[k]? = some q → ∃ (a : Addr) (o : Obj), vs[k]? = some (Value.ref a) ∧ (a, o) ∈ news ∧ TupObj o q
def TupAt (g : Heap) (v : Value) (q : Nat × Nat) : Prop := ∃ (a : Addr) (t t' : Tok), v = Value.ref a ∧ IsTup g a #[.int (q.1 : Int) t, .int (q.2 : Int) t']

/-- what up to so many turned modules, all from the spots, make of a picture -/
inductive Flips (sp : List (Nat × Nat)) : Nat → (Nat → Nat → Int) → (Nat → Nat → Int) → Prop
  | none {g : Nat → Nat → Int} : Flips sp 0 g g
  | turn {k : Nat} {g g' : Nat → Nat → Int} {q : Nat × Nat} : Flips sp k g g' → q ∈ sp → Flips sp (k + 1) g (gset g' q.1 q.2 (1 - g' q.1 q.2))

def Bits (g : Nat → Nat → Int) : Prop := ∀ i j, g i j = 0 ∨ g i j = 1
theorem Flips.bits {sp : List (Nat × Nat)} {k : Nat} {g g' : Nat → Nat → Int} (h : Flips sp k g g') (hb : Bits g) : Bits g' := by
  induction h with
  | none => exact hb
  | turn _ _ ih =>
    intro a b
    unfold gset
    split
    · rename_i q _ _ _
      rcases ih hb q.1 q.2 with e | e <;> omega
    · exact ih hb a b
/-- the number that is seen -/
def seenUp (g : Nat → Nat → Int) (sp : List (Nat × Nat)) : Int := sp.foldl (fun s q => 2 * s + g q.1 q.2) 0
theorem seenUp_snoc (g : Nat → Nat → Int) (sp : List (Nat × Nat)) (q : Nat × Nat) : seenUp g (sp ++ [q]) = 2 * seenUp g sp + g q.1 q.2 := by
  unfold seenUp
  rw [List.foldl_append]
  rfl
theorem seen_lt {g : Nat → Nat → Int} (hb : Bits g) : ∀ (sp : List (Nat × Nat)) (x : Int) (a : Nat), 0 ≤ x → x < 2 ^ a →
    0 ≤ sp.foldl (fun s q => 2 * s + g q.1 q.2) x ∧ sp.foldl (fun s q => 2 * s + g q.1 q.2) x < 2 ^ (a + sp.length)
  | [], x, a, h0, h1 => ⟨h0, h1⟩
  | q :: r, x, a, h0, h1 => by
    rw [List.foldl_cons, List.length_cons, show a + (r.length + 1) = (a + 1) + r.length by omega]
    refine seen_lt hb r _ (a + 1) ?_ ?_
    · rcases hb q.1 q.2 with e | e <;> omega
    · rw [Int.pow_succ]
      rcases hb q.1 q.2 with e | e <;> omega
theorem seenUp_lt {g : Nat → Nat → Int} (hb : Bits g) (sp : List (Nat × Nat)) : 0 ≤ seenUp g sp ∧ seenUp g sp < 2 ^ sp.length := by
  have := seen_lt hb sp 0 0 (by decide) (by decide)
  rw [Nat.zero_add] at this
  exact this

theorem cut_some : ∀ (l : List Value) (k : Nat), k < l.length → ∃ p y q, kl_cut l k = some (p, y, q) ∧ l = p ++ y :: q
  | [], _, h => absurd h (Nat.not_lt_zero _)
  | x :: r, 0, _ => ⟨[], x, r, rfl, rfl⟩
  | x :: r, k + 1, h => by
    obtain ⟨p, y, q, e1, e2⟩ := cut_some r k (Nat.lt_of_succ_lt_succ h)
    refine ⟨x :: p, y, q, ?_, by rw [e2]; rfl⟩
    show (match kl_cut r k with | some (p, y, q) => some (x :: p, y, q) | none => none) = _
    rw [e1]
section
variable {prog : Program} {w : World} {A : Around} {E : Value → Shared → Prop} {s : Shared} {h₀ : Heap} {L : Addr} {m : Str → Option Value}
theorem pop_any {fa : Addr} {vs : List Value} {c : Nat} {rest : List (Addr × Obj)} {k : Int} {u : Tok} {Q : Value → Shared → Prop} (F : Fr h₀ L s.heap m) (N : News h₀ L s.heap ((fa, listOf vs.toArray c) :: rest)) (hoff : ∀ p ∈ rest, p.1 ≠ fa) (h0 : 0 ≤ k) (h1 : k < vs.length) (hs : vs.length ≤ 1000)
    (h : ∀ (y : Value) (vs' : List Value) (h' : Heap), y ∈ vs → (∀ z ∈ vs', z ∈ vs) → vs'.length + 1 = vs.length → Fr h₀ L h' m → News h₀ L h' ((fa, listOf vs'.toArray (c + 1)) :: rest) → Q y { s with heap := h' }) :
    wpAny (model prog w) A (call (.builtin "list.pop") [.ref fa, .int k u]) Q E s := by
  obtain ⟨p, y, q, e1, e2⟩ := cut_some vs k.toNat (by omega)
  refine kl_popAt F N (k := k.toNat) (p := p) (q := q) (y := y) (fitsIndex_of h0 (by omega)) ?_ (by simpa using e1) (Upd.head hoff) ?_ fun h' F' N' => h y (p ++ q) h' (by rw [e2]; simp) (fun z hz => ?_) ?_ F' N'
  · unfold seqIndex?
    have h3 : ¬ k < 0 := by omega
    simp [h3, h0, h1]
  · simp only [List.length]
    rw [sizeLine_eq]
    show vs.length ≤ _
    omega
  · rw [e2]
    rcases List.mem_append.mp hz with hz | hz
    · simp [hz]
    · simp [hz]
  · rw [e2]; simp
    omega
end
theorem seen_call {w : World} {base h₀ : Heap} {L : Addr} {m : Str → Option Value} {s : Shared} {cn : Str} {cs : Scope} {a : Addr} {ccd : Value} {cl : List (Str × Addr)} {loose : List Str} {mean : ExcName → Option Value} {mg mb : Str → Option Value} {Q E : Value → Shared → Prop}
    {ro rw : List (Addr × Obj)} {p : Addr} {n : Nat} {as : Nat → Addr} {gr : Nat → Nat → Int} {sp : List (Nat × Nat)} {ls ln : Addr} {vss vsn : List Value} {c1 c2 : Nat} {ns : List Int} {f : Nat} {t1 : Tok}
    (B : Below callerA base [] h₀) (F : Fr h₀ L s.heap m) (X : (hd.heap_39 w.params).In h₀) (N : News h₀ L s.heap (rw ++ ro)) (hd' : ∀ p ∈ ro, p.1 ∉ rw.map (·.1)) (T : Top hd.view_39 loose mean mg mb h₀) (hk : cs.kind = .function)
    (P : Pic rw p n as gr) (hn2 : n ≤ 177) (hb : Bits gr) (hls : (ls, listOf vss.toArray c1) ∈ ro) (hsp : TupsIn ro vss sp) (hin : ∀ q ∈ sp, q.1 < n ∧ q.2 < n) (h18 : sp.length ≤ 18) (h4 : 4 ≤ sp.length)
    (hln : (ln, listOf vsn.toArray c2) ∈ ro) (hI : IntsAre vsn ns) (hne : 0 < ns.length) (hlen : ns.length ≤ 12) (hf : f ≤ 3)
    (ret : ∀ g' t h' tk rw', Flips sp f gr g' → Pic rw' p n as g' → rw'.map (·.1) = rw.map (·.1) → Fr h₀ L h' m → News h₀ L h' (rw' ++ ro) → Q (.int (seenUp g' sp) t) { s with heap := h', toks := tk }) :
    wpAny (model PySem.Challenge.rw_im0112_01.row.prog w) (A1 cn cs L a ccd cl) (call (.ref 69) [.ref p, .ref ls, .ref ln, .int f t1]) Q E s := by
  refine call_split (rw := rw) (ro := ro) (K := hd.heap_39 w.params) (env := envX cn cs L a ccd cl) (A₀ := callerA) (binds := [(Str.ofString "picture", .ref p), (Str.ofString "spots", .ref ls), (Str.ofString "numbers", .ref ln), (Str.ofString "flips", .int f t1)]) (fun x rw' => ∃ g' t, x = .int (seenUp g' sp) t ∧ Flips sp f gr g' ∧ Pic rw' p n as g' ∧ rw'.map (·.1) = rw.map (·.1)) B F X N hd' T rfl rfl hk (by k_is) (by k_is) (by k_room) (BindsTo.of_eq rfl) (locs rfl) ?body ?ret rfl rfl rfl (by decide)
  case ret =>
    rintro v h' tk rw' ⟨g', t, rfl, hF, hP, hm⟩ F' N' _
    exact ret g' t h' tk rw' hF hP hm F' N'
  case body =>
    intro g L' h₁ F' N' hro hst B' X' T'
    dsimp only [List.reverse, List.reverseAux, bindF] at F'
    k_unmd
    k_fold
    have hlS : g.IsList ls vss.toArray := ⟨_, hro _ hls, rfl, _, rfl⟩
    have hlN : g.IsList ln vsn.toArray := ⟨_, hro _ hln, rfl, _, rfl⟩
    have hT : ∀ (k : Nat) (q : Nat × Nat), sp[k]? = some q → ∃ v, vss[k]? = some v ∧ TupAt g v q := by
      intro k q hq
      obtain ⟨a, o, hv, hm, hc, t, t', c, hd⟩ := hsp.2 k q hq
      exact ⟨_, hv, a, t, t', rfl, o, hro _ hm, hc, c, hd⟩
    have hvl : vss.length = sp.length := hsp.1
    have hfit : ns.length < 2 ^ 62 := by omega
    clear ret F N B X T hst hro hls hln hsp
    walk_at "to newer"

    refine list_copyK (by assumption) (by assumption) (hlS.at fun o e => Fr.keep (by assumption) _ o e) ?_ ?_
    · intro fa c0 h2 F2 N2 lt2
      walk_at "to iter"
      rename Fr _ _ _ _ => F3
      rename News _ _ _ _ => N3
      rename IsRange _ _ _ _ _ _ _ _ => R1
      rename (∀ b o, _ → _) => K1
      have N4 := N3
      replace N4 : News _ _ _ (rw ++ [(fa, listOf vss.toArray c0)]) := fun q hq => N3 q (by
        rcases List.mem_append.mp hq with hq | hq
        · exact .tail _ hq
        · rw [List.mem_singleton.mp hq]; exact .head _)
      refine range_loop (n := f) (fun i m nx => ∃ (fvs : List Value) (c : Nat) (g' : Nat → Nat → Int) (pl : List (Addr × Obj)), nx = pl ++ [(fa, listOf fvs.toArray c)] ∧ fvs.length + i = sp.length ∧ (∀ z ∈ fvs, z ∈ vss) ∧ Flips sp i gr g' ∧ Pic pl p n as g' ∧ pl.map (·.1) = rw.map (·.1) ∧ (∀ q ∈ pl, q.1 ≠ fa) ∧ Knows m [(Str.ofString "picture", .ref p), (Str.ofString "spots", .ref ls), (Str.ofString "numbers", .ref ln), (Str.ofString "free", .ref fa)]) rfl R1 ?small ?n F3 N4 ?j0 ?turn ?done
      case small => exact small_one (by omega) (by omega) (by omega) (by omega)
      case n => unfold Builtin.Range.rangeSize; simp only [gt_iff_lt, if_true, Int.zero_lt_one]; split <;> omega
      case j0 => exact ⟨vss, c0, gr, rw, rfl, by omega, fun _ h => h, .none, P, rfl, fun q hq => Nat.ne_of_lt (lt2 q hq), .cons (by rfl) (.cons (by rfl) (.cons (by rfl) (.cons (by rfl) .nil)))⟩
      case done =>
        clear R1 F3 N3 N4 K1
        rintro m₁ nx h tk ⟨fvs, c, g', pl, rfl, hfl, hfs, hFl, hP, hadr, hpo, hK⟩ F2 N2
        have hb' : Bits g' := hFl.bits hb
        replace F2 := hK.fr0 F2
        dsimp only [bindF] at F2
        dsimp only
        walk_at "to forT"
        refine For_invTF (by assumption) ?_ (by intro _; rfl)
        walk_at "to iter"
        rename Fr _ _ _ _ => F3
        rename News _ _ _ _ => N3
        refine listT_loop (fun k m nx => nx = pl ++ [(fa, listOf fvs.toArray c)] ∧ ∃ t, Knows m [(Str.ofString "picture", .ref p), (Str.ofString "seen", .int (seenUp g' (sp.take k)) t)]) rfl hlS F3 N3 ?j2 ?turn2 ?done2
        case j2 => exact ⟨rfl, _, .cons (by rfl) (.cons (by rfl) .nil)⟩
        case done2 =>
          rintro m₂ nx h3 tk3 ⟨rfl, t3, hK3⟩ F4 N4
          replace F4 := hK3.fr0 F4
          dsimp only [bindF] at F4
          dsimp only
          repeat' (walk_at "kstep")
          rw [hvl, List.take_length] at F4 ⊢
          exact Done.intro F4 (fun q hq => N4 q (List.mem_append_left _ hq)) ⟨g', t3, rfl, hFl, hP, hadr⟩
        case turn2 =>
          clear F3 N3
          rintro k v m₂ nx s₁ own hv ho ⟨rfl, t3, hK3⟩ F4 N4
          replace F4 := hK3.fr0 F4
          dsimp only [bindF] at F4
          have hk2 : k < sp.length := by
            have := (List.getElem?_eq_some_iff.mp hv).1
            omega
          obtain ⟨v', hv', ya, ty, ty', rfl, hyt⟩ := hT k sp[k] (List.getElem?_eq_getElem hk2)
          rw [hv] at hv'
          obtain rfl := Option.some.inj hv'
          have hqm : sp[k] ∈ sp := List.getElem_mem hk2
          have hsn : sp.take (k + 1) = sp.take k ++ [sp[k]] := by
            rw [List.take_add_one, List.getElem?_eq_getElem hk2]; rfl
          generalize hqe : sp[k] = q at hyt hqm hsn
          obtain ⟨qi, qj⟩ := q
          obtain ⟨hq1, hq2⟩ := hin _ hqm
          dsimp only at hq1 hq2 hyt
          have hPw : Pic ((pl ++ [(fa, listOf fvs.toArray c)]) ++ own) p n as g' := hP.mono fun z hz => List.mem_append_left _ (List.mem_append_left _ hz)
          have hsl := seenUp_lt hb' (sp.take k)
          have hsz : seenUp g' (sp.take k) < 2 ^ 18 := Int.lt_of_lt_of_le hsl.2 (by
            have h1 : (sp.take k).length ≤ 18 := by rw [List.length_take]; omega
            exact_mod_cast Nat.pow_le_pow_right (n := 2) (by decide) h1)
          generalize hse : seenUp g' (sp.take k) = x at F4 hsl hsz
          have hs0 := hsl.1
          clear hsl
          k_unmd
          k_fold
          repeat' (walk_at "kstep")
          rename Fr _ _ _ _ => F9
          rename News _ _ _ _ => N9
          have e9 : seenUp g' (sp.take (k + 1)) = 2 * x + g' qi qj := by rw [hsn, seenUp_snoc, hse]
          exact ⟨rfl, InvEndG.intro F9 N9 ⟨rfl, _, .cons (by rfl) (.cons (by rw [e9]; rfl) .nil)⟩ ho (fun z hz => List.mem_append_left _ hz) (fun z hz => List.mem_append_right _ hz)⟩
      case turn =>
        clear R1 F3 N3 N4 K1
        rintro i ti m₁ nx h tk own hi ho ⟨fvs, c, g', pl, rfl, hfl, hfs, hFl, hP, hadr, hpo, hK⟩ F2 N2
        replace F2 := hK.fr F2
        rw [show (0 : Int) + (i : Int) * 1 = i by omega] at F2
        dsimp only [bindF] at F2
        k_unmd
        k_fold
        have N3 : News g L' h ((fa, listOf fvs.toArray c) :: (pl ++ own)) := fun q hq => N2 q (by
          rcases List.mem_cons.mp hq with rfl | hq
          · exact List.mem_append_left _ (List.mem_append_right _ (.head _))
          rcases List.mem_append.mp hq with hq | hq
          · exact List.mem_append_left _ (List.mem_append_left _ hq)
          · exact List.mem_append_right _ hq)
        clear N2
        have hoff : ∀ q ∈ pl ++ own, q.1 ≠ fa := by
          intro q hq
          rcases List.mem_append.mp hq with hq | hq
          · exact hpo q hq
          · exact ho q hq fa (by simp)
        have O2 : OwnOff own (pl.map (·.1)) := fun q hq b hb => ho q hq b (by rw [List.map_append]; exact List.mem_append_left _ hb)
        walk_at "to pop"
        have hpos : 0 < fvs.length := by omega
        rename Fr _ _ _ _ => F4
        rename News _ _ _ _ => N4
        refine pop_any F4 N4 hoff (fmod_in _ hpos).1 (fmod_in _ hpos).2 (by omega) ?_
        intro y fvs' h5 hy hsub hlen5 F5 N5
        clear F4 N4
        have hyT : ∃ q, q ∈ sp ∧ TupAt g y q := by
          obtain ⟨k, hk1⟩ := List.mem_iff_getElem?.mp (hfs y hy)
          have hk2 : k < sp.length := by
            have := (List.getElem?_eq_some_iff.mp hk1).1
            omega
          obtain ⟨v, hv, hvT⟩ := hT k sp[k] (List.getElem?_eq_getElem hk2)
          rw [hk1] at hv
          rw [Option.some.inj hv]
          exact ⟨_, List.getElem_mem hk2, hvT⟩
        obtain ⟨⟨qi, qj⟩, hq, ya, ty, ty', rfl, hyt⟩ := hyT
        have hqn := hin _ hq
        dsimp only at hqn hyt
        obtain ⟨hq1, hq2⟩ := hqn
        have hPw : Pic ((fa, listOf fvs'.toArray (c + 1)) :: (pl ++ own)) p n as g' := hP.mono fun z hz => .tail _ (List.mem_append_left _ hz)
        repeat' (walk_at "kstep")
        rename Fr _ _ _ _ => F9
        rename News _ _ _ _ => N9
        rename OwnOff _ _ => O9
        rename Pic _ _ _ _ _ => P9
        simp only [Int.toNat_natCast] at P9
        refine InvEndG.intro F9 N9 ⟨fvs', c + 1, _, _, rfl, by omega, fun z hz => hfs z (hsub z hz), .turn hFl hq, P9, Eq.trans (by assumption) hadr, ?_, .cons (by rfl) (.cons (by rfl) (.cons (by rfl) (.cons (by rfl) .nil)))⟩ ?_ ?_ ?_
        · intro z hz e
          have h1 : z.1 ∈ pl.map (·.1) := by
            rename _ = pl.map (·.1) => hA
            rw [← hA]; exact List.mem_map.mpr ⟨z, hz, rfl⟩
          obtain ⟨z', hz', e'⟩ := List.mem_map.mp h1
          exact hpo z' hz' (e'.trans e)
        · intro z hz b hb
          rw [List.map_append] at hb
          rcases List.mem_append.mp hb with hb | hb
          · exact O9 z hz b hb
          · exact ho z hz b (by rw [List.map_append]; exact List.mem_append_right _ hb)
        · intro z hz
          rcases List.mem_append.mp hz with hz | hz
          · exact .tail _ (List.mem_append_left _ hz)
          · rw [List.mem_singleton.mp hz]; exact .head _
        · exact fun z hz => .tail _ (List.mem_append_right _ hz)
    · rw [List.size_toArray, hvl, sizeLine_eq]; omega
end Mine
end
section
open PySem PySem.W PySem.Calls PyProof.Rows PyProof.V PySem.Spec
set_option maxRecDepth 100000
namespace Mine
/-- the rows that a comprehension has laid, of width n, all nought -/
structure RowsAre (rows ro : List (Addr × Obj)) (as : Nat → Addr) (i n : Nat) : Prop where
  row : ∀ k, k < i → ∃ o vs, (as k, o) ∈ rows ∧ LObj o vs ∧ RowIs vs n fun _ => 0
  inj : ∀ k l, k < i → l < i → as k = as l → k = l
  adr : ∀ q ∈ rows, ∃ k, k < i ∧ q.1 = as k
  off : ∀ q ∈ ro, ∀ k, k < i → q.1 ≠ as k
theorem RowsAre.nil {ro : List (Addr × Obj)} {as : Nat → Addr} {n : Nat} : RowsAre [] ro as 0 n :=
  ⟨fun _ h => absurd h (Nat.not_lt_zero _), fun _ _ h => absurd h (Nat.not_lt_zero _), (fun _ h => nomatch h), fun _ _ _ h => absurd h (Nat.not_lt_zero _)⟩
theorem RowsAre.snoc {rows ro : List (Addr × Obj)} {as : Nat → Addr} {i n : Nat} {T : Addr} {o : Obj} {vs : List Value} (h : RowsAre rows ro as i n) (h1 : ∀ q ∈ rows, q.1 ≠ T) (h2 : ∀ q ∈ ro, q.1 ≠ T) (ho : LObj o vs) (hr : RowIs vs n fun _ => 0) :
    RowsAre ((T, o) :: rows) ro (fun k => if k = i then T else as k) (i + 1) n := by
  have hne : ∀ k, k < i → as k ≠ T := fun k hk => by
    obtain ⟨o', vs', hm, _⟩ := h.row k hk
    exact h1 _ hm
  refine ⟨fun k hk => ?_, fun k l hk hl e => ?_, fun q hq => ?_, fun q hq k hk => ?_⟩
  · by_cases e : k = i
    · simp only [e, if_true]; exact ⟨o, vs, .head _, ho, hr⟩
    · simp only [e, if_false]
      obtain ⟨o', vs', hm, hl⟩ := h.row k (by omega)
      exact ⟨o', vs', .tail _ hm, hl⟩
  · by_cases ek : k = i <;> by_cases el : l = i
    · omega
    · simp only [ek, el, if_true, if_false] at e
      exact absurd e.symm (hne l (by omega))
    · simp only [ek, el, if_true, if_false] at e
      exact absurd e (hne k (by omega))
    · simp only [ek, el, if_false] at e
      exact h.inj k l (by omega) (by omega) e
  · rcases List.mem_cons.mp hq with rfl | hq
    · exact ⟨i, by omega, by simp⟩
    · obtain ⟨k, hk, e⟩ := h.adr q hq
      exact ⟨k, by omega, by rw [if_neg (by omega)]; exact e⟩
  · by_cases e : k = i
    · simp only [e, if_true]; exact h2 q hq
    · simp only [e, if_false]; exact h.off q hq k (by omega)
theorem map_refs {as : Nat → Addr} {i : Nat} {T : Addr} : (List.range i).map (fun k => Value.ref (as k)) ++ [Value.ref T] = (List.range (i + 1)).map fun k => Value.ref (if k = i then T else as k) := by
  rw [List.range_succ, List.map_append]
  congr 1
  · apply List.map_congr_left
    intro k hk
    have := List.mem_range.mp hk
    rw [if_neg (by omega)]
  · simp
theorem pic_of_rows {rows ro : List (Addr × Obj)} {as : Nat → Addr} {n : Nat} {D : Addr} {o : Obj} (h : RowsAre rows ro as n n) (hD : ∀ q ∈ rows, q.1 ≠ D) (ho : LObj o ((List.range n).map fun k => Value.ref (as k))) : Pic ((D, o) :: rows) D n as fun _ _ => 0 :=
  ⟨⟨o, .head _, ho⟩, fun k hk => by obtain ⟨o', vs', hm, hl, hr⟩ := h.row k hk; exact ⟨o', vs', .tail _ hm, hl, hr⟩, fun i j hi hj e => h.inj i j hi hj e,
    fun i hi => by obtain ⟨o', vs', hm, _⟩ := h.row i hi; exact hD _ hm⟩
theorem rep_row {n : Nat} {t : Tok} : RowIs (List.replicate n (Value.int 0 t)) n fun _ => 0 :=
  ⟨List.length_replicate, fun j hj => ⟨t, by rw [List.getElem?_replicate]; simp [hj]⟩⟩
theorem rep_array (x : Value) : ∀ (n : Nat) (a : Array Value), List.foldl (fun x1 x2 => x1 ++ x2) a (List.replicate n #[x]) = a ++ (List.replicate n x).toArray
  | 0, a => by simp
  | n + 1, a => by
    rw [List.replicate_succ, List.foldl_cons, rep_array x n, List.replicate_succ]
    apply Array.toList_inj.mp
    simp only [Array.toList_append, List.append_assoc, List.cons_append, List.nil_append]
section
variable {prog : Program} {w : World} {A : Around} {E : Value → Shared → Prop} {s : Shared} {h₀ : Heap} {L : Addr} {m : Str → Option Value} {news : List (Addr × Obj)}
theorem mul_one_list {l : Addr} {x : Value} {k n : Nat} {u : Tok} {Q : Value → Shared → Prop} (F : Fr h₀ L s.heap m) (N : News h₀ L s.heap news) (hl : (l, listOf #[x] k) ∈ news) (hn : n ≤ 1000)
    (h : ∀ (T : Addr) (h' : Heap), Fr h₀ L h' m → News h₀ L h' ((T, listOf (List.replicate n x).toArray 0) :: news) → (∀ p ∈ news, p.1 < T) → Q (.ref T) { s with heap := h' }) :
    wpAny (model prog w) A (binaryOp .Mult (.ref l) (.int (n : Int) u)) Q E s := by
  refine mul_list F N (N _ hl).1 (by omega) (by omega) (by simp; omega) fun h' F' N' => ?_
  have e : (List.foldl (fun x1 x2 => x1 ++ x2) #[] (List.replicate (if (#[x] : Array Value).isEmpty = true then 0 else ((n : Int)).toNat) #[x])) = (List.replicate n x).toArray := by
    rw [if_neg (by simp), Int.toNat_natCast, rep_array]
    simp
  rw [e] at N'
  exact h _ h' F' N' fun p hp => Heap.lt_size (N p hp).1
end
end Mine
end
section
open PySem PySem.W PySem.Calls PyProof.Rows PyProof.V PySem.Spec
set_option maxRecDepth 100000
namespace Mine
section
variable {prog : Program} {w : World} {A : Around} {E : Value → Shared → Prop} {s : Shared} {h₀ : Heap} {L : Addr} {m : Str → Option Value} {env : Env}
/-- a range, whatever its step, met by a comprehension -/
def RangeSrc (prog : Program) (w : World) (A : Around) (h₀ : Heap) (L : Addr) (m : Str → Option Value) (env : Env) (elt : Expr) (x : Str) (scope : Scope) (cl : List (Str × Addr)) (Fin : Shared → List Value → List (Addr × Obj) → Prop) (xv : Value) (s₁ : Shared) : Prop :=
  ∃ r a b c t u v n news, xv = .ref r ∧ A.handled = none ∧ Fr h₀ L s₁.heap m ∧ News h₀ L s₁.heap news ∧ IsRange s₁.heap r a b c t u v ∧ Builtin.Range.small a b c = true ∧ Builtin.Range.rangeSize a b c = ((n : Nat) : Int) ∧ n ≤ sizeLine ∧
    ∀ g, LCg.CompRest prog w A h₀ L m env elt x scope cl { s₁ with heap := g } (fun _ => True) (fun i v => ∃ t, v = .int (a + (i : Int) * c) t) (Fin { s₁ with heap := g }) n 0 [] news

theorem walksR {I : Addr} (hh : A.handled = none) (a c : Int) (n : Nat) : Walks prog w A I [I] [I] n (fun i v => ∃ t, v = .int (a + (i : Int) * c) t) (fun i h => IsRangeIter h I (a + (i : Nat) * c) ((n : Int) - (i : Nat)) c) := Walks.range hh I a c n

theorem stR {I : Addr} {a c : Int} {n : Nat} : ∀ i (h h' : Heap) (o : Obj) (nw : List (Addr × Obj)), IsRangeIter h I (a + (i : Nat) * c) ((n : Int) - (i : Nat)) c → h.get? I = some o → h'.get? I = some o → (∀ b o, h₀.get? b = some o → h'.get? b = some o) → News h₀ L h' nw → True → IsRangeIter h' I (a + (i : Nat) * c) ((n : Int) - (i : Nat)) c :=
  fun i h h' o nw st e e' _ _ _ => by
    have st' : h.get? I = some _ := st
    show h'.get? I = some _
    rw [e', ← e]; exact st'

theorem ListComp_R {elt iter : Expr} {x : Str} {px : Pos} {scope : Scope} {cl : List (Str × Addr)} {pos : Pos} {Q : Value → Shared → Prop} (_F : Fr h₀ L s.heap m)
    (hclos : closureFor scope env = pure cl) (hcell : ∀ y ∈ scope.names, y.2 ≠ .cell) (hkind : scope.kind = .function)
    (hnames : ∀ y ∈ scope.names, y.2 = .local → scope.names.lookup y.1 = some .local) (hx : scope.names.lookup x = some .local)
    (h : wpAny (model prog w) A (eval iter env) (RangeSrc prog w A h₀ L m env elt x scope cl (fun s₂ => LCg.FinE h₀ L m s₂ Q)) E s)
    (hs : ∀ x, foldedSetIterable iter env x = pure x) :
    wpAny (model prog w) A (eval (.ListComp elt [⟨.Name x px, iter, [], 0⟩] scope pos) env) Q E s := by
  rw [eval_ListComp]
  refine wpAny_comprehension_free (use := none) rfl hs hclos hkind hnames (wpAny_mono h (fun xv s₁ h₁ => ?_) fun _ _ e => e)
  obtain ⟨r, a, b, c, t, u, v, n, news, rfl, hh, F, N, hr, hsm, hn, hsz, R⟩ := h₁
  refine wpAny_pyIter_range hr hsm ?_
  refine LCg.block_U (walksR hh a c n) hsz (fun i h st => ⟨_, st⟩) stR hcell hkind hx (by show IsRangeIter _ _ _ _ _; rw [hn]; simpa using Heap.get?_push_size _ rfl) (fun b hb => ?_)
    (F.keeps fun _ _ e => Heap.get?_push_of_some _ e) (N.grown fun _ _ e => Heap.get?_push_of_some _ e) (Nat.ne_of_lt F.ns.lt) (next_is_new F) (fun p hp => Nat.ne_of_lt (Heap.lt_size (N p hp).1)) trivial (R _) ?_
  · rw [List.mem_singleton.mp hb]
    show s₁.heap.objs.size < (s₁.heap.push _).objs.size
    rw [Heap.size_push]; exact Nat.lt_succ_self _
  · intro D C h tk m' ys news' F' N' o1 hn hC₀ hD₀ hCL hDL hCD offC fin
    refine ⟨m', hn, fun h'' hs'' => fin D h'' tk (F'.change hs'' hCL hC₀) (fun p hp => ?_) o1⟩
    refine ⟨hs''.extBut _ _ ?_ (N' p hp).1, (N' p hp).2⟩
    rcases List.mem_cons.mp hp with rfl | hp
    · exact Ne.symm hCD
    · exact offC p hp

theorem Assign_ListComp_R {elt iter : Expr} {x y : Str} {px py : Pos} {scope : Scope} {cl : List (Str × Addr)} {pos spos : Pos} {Q : Flow → Shared → Prop} (_F : Fr h₀ L s.heap m) (hLe : env.locals = L)
    (hsw : swapsWith (.ListComp elt [⟨.Name x px, iter, [], 0⟩] scope pos) (some (.Name y py)) spos.line env = pure true)
    (hclos : closureFor scope env = pure cl) (hcell : ∀ z ∈ scope.names, z.2 ≠ .cell) (hkind : scope.kind = .function)
    (hnames : ∀ z ∈ scope.names, z.2 = .local → scope.names.lookup z.1 = some .local) (hx : scope.names.lookup x = some .local)
    (hy : env.kindOf y = some .local) (hp : (env.scope.kind == .class || (env.scope.kind == .module && env.locals != env.globals)) = false)
    (h : wpAny (model prog w) A (eval iter env) (RangeSrc prog w A h₀ L m env elt x scope cl (fun s₂ => LCg.FinA h₀ L m s₂ y Q)) E s)
    (hs : ∀ x, foldedSetIterable iter env x = pure x) :
    wpAny (model prog w) A (exec (.Assign [.Name y py] (.ListComp elt [⟨.Name x px, iter, [], 0⟩] scope pos) spos) env) Q E s := by
  subst hLe
  rw [exec_Assign_Name_used _ _ _ _ hsw]
  refine wpAny_bind (wpAny_standAt (wpAny_bind ?_))
  show wpAny _ A (do let _ ← comprehension (.ListComp elt [⟨.Name x px, iter, [], 0⟩] scope pos) scope env _ (newList []) false (eval iter env) (some (assign (.Name y py) env))) _ _ s
  refine wpAny_bind (wpAny_mono (wpAny_comprehension_free (use := some (assign (.Name y py) env)) (Q := fun _ s' => Q .next s') rfl hs hclos hkind hnames
    (wpAny_mono h (fun xv s₁ h₁ => ?_) fun _ _ e => e)) (fun _ s' hq => wpAny_pure (wpAny_pure hq)) fun _ _ e => e)
  obtain ⟨r, a, b, c, t, u, v, n, news, rfl, hh, F, N, hr, hsm, hn, hsz, R⟩ := h₁
  refine wpAny_pyIter_range hr hsm ?_
  refine LCg.block_U (walksR hh a c n) hsz (fun i h st => ⟨_, st⟩) stR hcell hkind hx (by show IsRangeIter _ _ _ _ _; rw [hn]; simpa using Heap.get?_push_size _ rfl) (fun b hb => ?_)
    (F.keeps fun _ _ e => Heap.get?_push_of_some _ e) (N.grown fun _ _ e => Heap.get?_push_of_some _ e) (Nat.ne_of_lt F.ns.lt) (next_is_new F) (fun p hp => Nat.ne_of_lt (Heap.lt_size (N p hp).1)) trivial (R _) ?_
  · rw [List.mem_singleton.mp hb]
    show s₁.heap.objs.size < (s₁.heap.push _).objs.size
    rw [Heap.size_push]; exact Nat.lt_succ_self _
  · intro D C h' tk m' ys news' F' N' o1 hn hC₀ hD₀ hCL hDL hCD offC fin
    show wpAny _ A (assign (.Name y py) env (.ref D)) _ _ _
    refine wpAny_assign_Name (wpAny_storeName_local hy F'.ns (fun h₂ hn₂ hs₂ => ?_) hp)
    have hL₀ : h₀.get? env.locals = none := Heap.get?_none_of_le F'.above
    have F₂ : Fr h₀ env.locals h₂ (fun z => if z = y then some (.ref D) else m z) := ⟨hn₂, fun b o e => hs₂.extBut b o (fun q => by rw [q, hL₀] at e; cases e) (F'.keep b o e), F'.above⟩
    refine ⟨m', hn.sameBut hs₂ hCL, fun h'' hs'' => fin D h'' _ (F₂.change hs'' hCL hC₀) (fun p hp => ?_) o1⟩
    have z : h₂.get? p.1 = some p.2 := hs₂.extBut _ _ (N' p hp).2.1 (N' p hp).1
    refine ⟨hs''.extBut _ _ ?_ z, (N' p hp).2⟩
    rcases List.mem_cons.mp hp with rfl | hp
    · exact Ne.symm hCD
    · exact offC p hp
end
end Mine
end
section
open PySem PySem.W PySem.Calls PyProof.Rows PyProof.V PySem.Spec
set_option maxRecDepth 100000
namespace Mine
theorem TupsIn.mono {news news' : List (Addr × Obj)} {vs : List Value} {sp : List (Nat × Nat)} (h : TupsIn news vs sp) (hs : ∀ q ∈ news, q ∈ news') : TupsIn news' vs sp :=
  ⟨h.1, fun k q hq => by obtain ⟨a, o, h1, h2, h3⟩ := h.2 k q hq; exact ⟨a, o, h1, hs _ h2, h3⟩⟩
/-- pairs laid by a comprehension, off the rest of the ledger -/
structure SpotsAre (rows ro : List (Addr × Obj)) (vs : List Value) (sp : List (Nat × Nat)) : Prop where
  tup : TupsIn rows vs sp
  off : ∀ q ∈ rows, ∀ z ∈ ro, q.1 ≠ z.1
theorem SpotsAre.nil {ro : List (Addr × Obj)} : SpotsAre [] ro [] [] := ⟨⟨rfl, fun k q h => by simp at h⟩, (fun _ h => nomatch h)⟩
theorem TupsIn.snoc {rows : List (Addr × Obj)} {vs : List Value} {sp : List (Nat × Nat)} {T : Addr} {o : Obj} {q : Nat × Nat} (h : TupsIn rows vs sp) (ho : TupObj o q) : TupsIn ((T, o) :: rows) (vs ++ [Value.ref T]) (sp ++ [q]) := by
  refine ⟨by rw [List.length_append, List.length_append, h.1]; rfl, fun k q' hq => ?_⟩
  by_cases hk : k < sp.length
  · rw [List.getElem?_append_left hk] at hq
    obtain ⟨a, o', h1, h2, h3⟩ := h.2 k q' hq
    exact ⟨a, o', by rw [List.getElem?_append_left (by rw [h.1]; exact hk)]; exact h1, .tail _ h2, h3⟩
  · rw [List.getElem?_append_right (by omega)] at hq
    have hk0 : k - sp.length = 0 := by
      cases e : k - sp.length with
      | zero => rfl
      | succ j => rw [e] at hq; simp at hq
    rw [hk0] at hq
    simp only [List.getElem?_cons_zero, Option.some.injEq] at hq
    subst hq
    exact ⟨T, o, by rw [List.getElem?_append_right (by rw [h.1]; omega), h.1, hk0]; rfl, .head _, ho⟩
theorem SpotsAre.snoc {rows ro : List (Addr × Obj)} {vs : List Value} {sp : List (Nat × Nat)} {T : Addr} {o : Obj} {q : Nat × Nat} (h : SpotsAre rows ro vs sp) (hT : ∀ z ∈ ro, T ≠ z.1) (ho : TupObj o q) : SpotsAre ((T, o) :: rows) ro (vs ++ [Value.ref T]) (sp ++ [q]) :=
  ⟨h.tup.snoc ho, fun p hp z hz => by
    rcases List.mem_cons.mp hp with rfl | hp
    · exact hT z hz
    · exact h.off p hp z hz⟩
theorem tup_obj {X Y : Int} {t t' : Tok} {q : Nat × Nat} (h1 : X = (q.1 : Int)) (h2 : Y = (q.2 : Int)) : TupObj { cls := .type "tuple", data := .seq [Value.int X t, Value.int Y t'].toArray } q := by
  subst h1 h2
  exact ⟨rfl, t, t', _, rfl⟩
theorem spot_end {h₀ h8 : Heap} {L I C D T : Addr} {m : Str → Option Value} {oI oC o : Obj} {x : Addr × Obj} {rows rest : List (Addr × Obj)} {ys : List Value} {sp : List (Nat × Nat)} {q : Nat × Nat} {s₁ : Shared} {tk : Nat}
    (F8 : Fr h₀ L h8 m) (N8 : News h₀ L h8 ((T, o) :: (I, oI) :: (C, oC) :: (D, LCg.lst ys) :: x :: (rows ++ rest))) (lt8 : ∀ p ∈ (I, oI) :: (C, oC) :: (D, LCg.lst ys) :: x :: (rows ++ rest), p.1 < T)
    (off6 : LCg.Off3 I C D (x :: (rows ++ rest))) (hS : SpotsAre rows (x :: rest) ys sp) (ho : TupObj o q) :
    LCg.CompEnd h₀ L m s₁ I oI C oC D (LCg.lst ys) (fun _ => True) (fun y news' => ∃ rows', news' = x :: (rows' ++ rest) ∧ SpotsAre rows' (x :: rest) (ys ++ [y]) (sp ++ [q])) (.ref T) { s₁ with heap := h8, toks := tk } := by
  refine LCg.CompEnd.intro F8 N8 (x :: (((T, o) :: rows) ++ rest)) ?_ ?_ trivial ⟨(T, o) :: rows, rfl, hS.snoc (fun z hz => ?_) ho⟩
  · intro q hq
    rcases List.mem_cons.mp hq with rfl | hq
    · exact .tail _ (.head _)
    rcases List.mem_cons.mp hq with rfl | hq
    · exact .tail _ (.tail _ (.head _))
    rcases List.mem_cons.mp hq with rfl | hq
    · exact .tail _ (.tail _ (.tail _ (.head _)))
    rcases List.mem_cons.mp hq with rfl | hq
    · exact .tail _ (.tail _ (.tail _ (.tail _ (.head _))))
    rcases List.mem_cons.mp hq with rfl | hq
    · exact .head _
    · exact .tail _ (.tail _ (.tail _ (.tail _ (.tail _ hq))))
  · refine LCg.Off3.of fun q hq => ?_
    have hold := LCg.Off3.mem off6
    rcases List.mem_cons.mp hq with rfl | hq
    · exact hold _ (.head _)
    rcases List.mem_cons.mp hq with rfl | hq
    · exact ⟨Nat.ne_of_gt (lt8 _ (.head _)), Nat.ne_of_gt (lt8 _ (.tail _ (.head _))), Nat.ne_of_gt (lt8 _ (.tail _ (.tail _ (.head _))))⟩
    · exact hold _ (.tail _ hq)
  · rcases List.mem_cons.mp hz with rfl | hz
    · exact Nat.ne_of_gt (lt8 _ (.tail _ (.tail _ (.tail _ (.head _)))))
    · exact Nat.ne_of_gt (lt8 _ (.tail _ (.tail _ (.tail _ (.tail _ (List.mem_append_right _ hz))))))
/-- the spots so far, by the places' function -/
def SpJ (x : Addr × Obj) (rest : List (Addr × Obj)) (fq : Nat → Nat × Nat) (i : Nat) (ys : List Value) (news : List (Addr × Obj)) : Prop := ∃ rows, news = x :: (rows ++ rest) ∧ SpotsAre rows (x :: rest) ys ((List.range i).map fq)
theorem spot_endJ {h₀ h8 : Heap} {L I C D T : Addr} {m : Str → Option Value} {oI oC o : Obj} {x : Addr × Obj} {rows rest : List (Addr × Obj)} {ys : List Value} {fq : Nat → Nat × Nat} {i : Nat} {s₁ : Shared} {tk : Nat}
    (F8 : Fr h₀ L h8 m) (N8 : News h₀ L h8 ((T, o) :: (I, oI) :: (C, oC) :: (D, LCg.lst ys) :: x :: (rows ++ rest))) (lt8 : ∀ p ∈ (I, oI) :: (C, oC) :: (D, LCg.lst ys) :: x :: (rows ++ rest), p.1 < T)
    (off6 : LCg.Off3 I C D (x :: (rows ++ rest))) (hS : SpotsAre rows (x :: rest) ys ((List.range i).map fq)) (ho : TupObj o (fq i)) :
    LCg.CompEnd h₀ L m s₁ I oI C oC D (LCg.lst ys) (fun _ => True) (fun y news' => SpJ x rest fq (i + 1) (ys ++ [y]) news') (.ref T) { s₁ with heap := h8, toks := tk } := by
  refine compEnd_mono (spot_end F8 N8 lt8 off6 hS ho) fun y news' h => ?_
  obtain ⟨rows', e, h'⟩ := h
  exact ⟨rows', e, by rw [List.range_succ, List.map_append]; exact h'⟩
theorem SpJ.start {x : Addr × Obj} {rest : List (Addr × Obj)} {fq : Nat → Nat × Nat} : SpJ x rest fq 0 [] (x :: rest) := ⟨[], rfl, .nil⟩
end Mine
end
section
open PySem PySem.W PySem.Calls PyProof.Rows
set_option maxRecDepth 100000
namespace Mine
/-- the picture with its heads -/
def headG (v : Int) (n fi : Nat) : Nat → Nat → Int := aviG v n (afiG (decide (v < 1)) n fi fun _ _ => 0)
/-- all that the plain law says of what the first part of the law has drawn -/
structure Head (d v : Int) (n due fi : Nat) (sp : List (Nat × Nat)) (ws : List Nat) : Prop where
  lo : 11 ≤ n
  hi : n ≤ 177
  size : 1 ≤ v → (n : Int) = 17 + 4 * v
  ver : v ≤ 40
  inn : ∀ q ∈ sp, q.1 < n ∧ q.2 < n
  l18 : sp.length ≤ 18
  l4 : 4 ≤ sp.length
  wlen : ws.length = 32
  near : ∀ f g', f ≤ 3 → Flips sp f (headG v n fi) g' → nearOf (seenUp g' sp).toNat ws 32 = [(due : Int)]
  dark : d < 40 → headG v n fi (n - 8) 8 = 1
  one : d < 40 → 1 ≤ v
  eight : ∀ q ∈ sp, q.1 = 8 ∨ q.2 = 8

/-- the places of the version's modules, of either copy -/
def VerSpots (n : Nat) (fq : Nat → Nat × Nat) : Prop := (fq = fun i => (n - 11 + (17 - i) % 3, (17 - i) / 3)) ∨ (fq = fun i => ((17 - i) / 3, n - 11 + (17 - i) % 3))
/-- the words of the heads' code, of one kind -/
def wsX (K : Nat) : List Nat := (codeW 1335 10 5).map (· ^^^ K)
end Mine
end
section
open PySem PySem.W PySem.Calls PyProof.Rows
set_option maxRecDepth 100000
namespace Mine
/-! ## the cells are bits -/
theorem gset_bits {g : Nat → Nat → Int} {i j : Nat} {x : Int} (h : Bits g) (hx : x = 0 ∨ x = 1) : Bits (gset g i j x) := by
  intro a b
  unfold gset
  split
  · exact hx
  · exact h a b
theorem bitAt_bit (fi k : Nat) : bitAt fi k = 0 ∨ bitAt fi k = 1 := by
  unfold bitAt
  omega
theorem turnG_bits {mic : Bool} {n fi i : Nat} {g : Nat → Nat → Int} (h : Bits g) : Bits (turnG mic n fi i g) := by
  unfold turnG
  dsimp only
  have h2 := gset_bits (i := 8) (j := i + offAt mic i) (gset_bits (i := i + offAt mic i) (j := 8) h (bitAt_bit fi i)) (bitAt_bit fi (14 - i))
  split
  · exact h2
  · exact gset_bits (gset_bits h2 (bitAt_bit _ _)) (bitAt_bit _ _)
theorem upG_bits {mic : Bool} {n fi : Nat} {g : Nat → Nat → Int} (h : Bits g) : ∀ k, Bits (upG mic n fi g k)
  | 0 => h
  | k + 1 => turnG_bits (upG_bits h k)
theorem afiG_bits {mic : Bool} {n fi : Nat} {g : Nat → Nat → Int} (h : Bits g) : Bits (afiG mic n fi g) := by
  unfold afiG
  split
  · exact upG_bits h 8
  · exact gset_bits (upG_bits h 8) (.inr rfl)
theorem verUp_bits {n vi : Nat} {g : Nat → Nat → Int} (h : Bits g) : ∀ k, Bits (verUp n vi g k)
  | 0 => h
  | k + 1 => gset_bits (gset_bits (gset_bits (gset_bits (gset_bits (gset_bits (verUp_bits h k) (bitAt_bit _ _)) (bitAt_bit _ _)) (bitAt_bit _ _)) (bitAt_bit _ _)) (bitAt_bit _ _)) (bitAt_bit _ _)
theorem aviG_bits {v : Int} {n : Nat} {g : Nat → Nat → Int} (h : Bits g) : Bits (aviG v n g) := by
  unfold aviG
  split
  · exact h
  · exact verUp_bits h 6
theorem headG_bits (v : Int) (n fi : Nat) : Bits (headG v n fi) := aviG_bits (afiG_bits fun _ _ => .inl rfl)
/-! ## what is seen, as a natural number -/
def snat (g : Nat → Nat → Int) (sp : List (Nat × Nat)) (a : Nat) : Nat := sp.foldl (fun s q => 2 * s + (g q.1 q.2).toNat) a
theorem snat_is {g : Nat → Nat → Int} (h : Bits g) : ∀ (sp : List (Nat × Nat)) (a : Nat), sp.foldl (fun s q => 2 * s + g q.1 q.2) (a : Int) = (snat g sp a : Int)
  | [], _ => rfl
  | q :: r, a => by
    have e : 2 * (a : Int) + g q.1 q.2 = ((2 * a + (g q.1 q.2).toNat : Nat) : Int) := by
      rcases h q.1 q.2 with e | e <;> rw [e] <;> simp
    rw [List.foldl_cons, e]
    exact snat_is h r _
theorem seen_nat {g : Nat → Nat → Int} (h : Bits g) (sp : List (Nat × Nat)) : (seenUp g sp).toNat = snat g sp 0 := by
  have := snat_is h sp 0
  unfold seenUp
  rw [show (0 : Int) = ((0 : Nat) : Int) from rfl, this, Int.toNat_natCast]
theorem pc_two (a b x y : Nat) (hx : x < 2) (hy : y < 2) : pc ((2 * a + x) ^^^ (2 * b + y)) = pc (a ^^^ b) + if x = y then 0 else 1 := by
  have h1 : ((2 * a + x) ^^^ (2 * b + y)) / 2 = a ^^^ b := by
    rw [Nat.xor_div_two, show (2 * a + x) / 2 = a by omega, show (2 * b + y) / 2 = b by omega]
  have h2 := @Nat.xor_mod_two_eq_one (2 * a + x) (2 * b + y)
  rw [pc_step, h1]
  by_cases e : x = y
  · rw [if_pos e]
    omega
  · rw [if_neg e]
    omega
theorem toNat_lt {x : Int} (h : x = 0 ∨ x = 1) : x.toNat < 2 := by omega
/-- how many places tell two pictures apart -/
def apart (g g' : Nat → Nat → Int) (sp : List (Nat × Nat)) : Nat := sp.countP fun q => decide (g q.1 q.2 ≠ g' q.1 q.2)
theorem pc_snat {g g' : Nat → Nat → Int} (h : Bits g) (h' : Bits g') : ∀ (sp : List (Nat × Nat)) (a b : Nat), pc (snat g sp a ^^^ snat g' sp b) = pc (a ^^^ b) + apart g g' sp
  | [], a, b => rfl
  | q :: r, a, b => by
    show pc (snat g r (2 * a + (g q.1 q.2).toNat) ^^^ snat g' r (2 * b + (g' q.1 q.2).toNat)) = _
    rw [pc_snat h h' r, pc_two _ _ _ _ (toNat_lt (h _ _)) (toNat_lt (h' _ _))]
    unfold apart
    rw [List.countP_cons]
    have := h q.1 q.2
    have := h' q.1 q.2
    by_cases e : g q.1 q.2 = g' q.1 q.2
    · rw [if_pos (by rw [e]), if_neg (by simpa using e)]; omega
    · rw [if_neg (by omega), if_pos (by simpa using e)]; omega
theorem apart_one {g : Nat → Nat → Int} {q0 : Nat × Nat} {x : Int} : ∀ {sp : List (Nat × Nat)}, sp.Nodup → apart g (gset g q0.1 q0.2 x) sp ≤ 1
  | [], _ => Nat.zero_le _
  | q :: r, h => by
    have hn := List.nodup_cons.mp h
    unfold apart
    rw [List.countP_cons]
    by_cases e : q = q0
    · subst e
      have : List.countP (fun p => decide (g p.1 p.2 ≠ gset g q.1 q.2 x p.1 p.2)) r = 0 := by
        rw [List.countP_eq_zero]
        intro p hp
        have : ¬ (p.1 = q.1 ∧ p.2 = q.2) := fun z => hn.1 (by rw [← Prod.ext z.1 z.2]; exact hp)
        simp [gset, this]
      rw [this]
      split <;> omega
    · have : ¬ (q.1 = q0.1 ∧ q.2 = q0.2) := fun z => e (Prod.ext z.1 z.2)
      have h0 : (decide (g q.1 q.2 ≠ gset g q0.1 q0.2 x q.1 q.2)) = false := by simp [gset, this]
      rw [h0]
      exact apart_one hn.2
theorem flips_apart {sp : List (Nat × Nat)} (hn : sp.Nodup) {f : Nat} {g g' : Nat → Nat → Int} (h : Flips sp f g g') (hb : Bits g) : pc (snat g' sp 0 ^^^ snat g sp 0) ≤ f := by
  induction h with
  | none => rw [Nat.xor_self, pc_zero]; exact Nat.le_refl _
  | turn h1 hq ih =>
    rename_i k g0 g2 q
    have hb2 := h1.bits hb
    have hb3 : Bits (gset g2 q.1 q.2 (1 - g2 q.1 q.2)) := gset_bits hb2 (by rcases hb2 q.1 q.2 with e | e <;> omega)
    have t := pc_tri (snat (gset g2 q.1 q.2 (1 - g2 q.1 q.2)) sp 0) (snat g2 sp 0) (snat g0 sp 0)
    refine Nat.le_trans t ?_
    have one : pc (snat (gset g2 q.1 q.2 (1 - g2 q.1 q.2)) sp 0 ^^^ snat g2 sp 0) ≤ 1 := by
      rw [Nat.xor_comm, pc_snat hb2 hb3, Nat.xor_self, pc_zero, Nat.zero_add]
      exact apart_one hn
    have := ih hb
    omega
theorem flips_off {sp : List (Nat × Nat)} {f : Nat} {g g' : Nat → Nat → Int} (h : Flips sp f g g') {a b : Nat} (hab : (a, b) ∉ sp) : g' a b = g a b := by
  induction h with
  | none => rfl
  | turn h1 hq ih =>
    rename_i k _ g2 q
    rw [← ih]
    unfold gset
    rw [if_neg]
    rintro ⟨e1, e2⟩
    exact hab (by rw [e1, e2]; exact hq)
/-! ## one near word -/
theorem filter_one {p : Nat → Bool} {d : Nat} : ∀ n, (∀ k, k < n → (p k = true ↔ k = d)) → (List.range n).filter p = if d < n then [d] else []
  | 0, _ => rfl
  | n + 1, h => by
    rw [List.range_succ, List.filter_append, filter_one n fun k hk => h k (by omega)]
    have hn := h n (by omega)
    by_cases e : n = d
    · subst e
      rw [if_neg (by omega), if_pos (by omega)]
      simp [hn.mpr rfl]
    · have hp : p n = false := by
        cases hpn : p n with
        | false => rfl
        | true => exact absurd (hn.mp hpn) e
      by_cases e2 : d < n
      · rw [if_pos e2, if_pos (by omega)]; simp [hp]
      · rw [if_neg e2, if_neg (by omega)]; simp [hp]
theorem near_one {seen n d : Nat} {ws : List Nat} (hd : d < n) (h3 : pc (seen ^^^ ws.getD d 0) ≤ 3) (h7 : ∀ i, i < n → i ≠ d → 7 ≤ pc (ws.getD d 0 ^^^ ws.getD i 0)) : nearOf seen ws n = [(d : Int)] := by
  unfold nearOf
  rw [filter_one (d := d) n fun k hk => ?_, if_pos hd]
  · rfl
  · unfold isNear
    rw [decide_eq_true_eq]
    constructor
    · intro hk4
      by_cases e : k = d
      · exact e
      · have := h7 k hk e
        have t := pc_tri (ws.getD d 0) seen (ws.getD k 0)
        rw [Nat.xor_comm (ws.getD d 0) seen] at t
        omega
    · rintro rfl
      omega
/-! ## the lists -/
def pcF : Nat → Nat → Nat
  | 0, _ => 0
  | k + 1, n => n % 2 + pcF k (n / 2)
theorem pcF_is : ∀ (k n : Nat), pcF k n ≤ pc n
  | 0, _ => Nat.zero_le _
  | k + 1, n => by
    rw [pc_step]
    have := pcF_is k (n / 2)
    show n % 2 + pcF k (n / 2) ≤ _
    omega
theorem wsX_FI : wsX 21522 = FI := by decide +kernel
theorem wsX_FIM : wsX 17477 = FIM := by decide +kernel
theorem far_FI : ∀ d, d < 32 → ∀ i, i < 32 → i ≠ d → 7 ≤ pcF 15 (FI.getD d 0 ^^^ FI.getD i 0) := by decide +kernel
theorem far_FIM : ∀ d, d < 32 → ∀ i, i < 32 → i ≠ d → 7 ≤ pcF 15 (FIM.getD d 0 ^^^ FIM.getD i 0) := by decide +kernel
theorem far_VI : ∀ d, d < 64 → ∀ i, i < 64 → i ≠ d → 7 ≤ pcF 18 ((codeW 7973 12 6).getD d 0 ^^^ (codeW 7973 12 6).getD i 0) := by decide +kernel
theorem code_VI : ∀ k, k < 34 → (codeW 7973 12 6).getD (k + 7) 0 = VI.getD k 0 := by decide +kernel
theorem FI_lt : ∀ d, d < 32 → FI.getD d 0 < 2 ^ 15 := by decide +kernel
theorem FIM_lt : ∀ d, d < 32 → FIM.getD d 0 < 2 ^ 15 := by decide +kernel
theorem VI_lt : ∀ d, d < 34 → VI.getD d 0 < 2 ^ 18 := by decide +kernel
end Mine
end
section
open PySem PySem.W PySem.Calls PyProof.Rows
set_option maxRecDepth 100000
namespace Mine
/-! ## the cells of the heads -/
theorem verUp_eight {n vi : Nat} {g : Nat → Nat → Int} (hn : 45 ≤ n) {a b : Nat} (h : a = 8 ∨ b = 8) : ∀ k, k ≤ 6 → verUp n vi g k a b = g a b
  | 0, _ => rfl
  | k + 1, hk => by
    refine Eq.trans ?_ (verUp_eight (g := g) (vi := vi) hn h k (by omega))
    show verTurn n vi k (verUp n vi g k) a b = _
    unfold verTurn gset
    rw [if_neg (by omega), if_neg (by omega), if_neg (by omega), if_neg (by omega), if_neg (by omega), if_neg (by omega)]
theorem aviG_eight {v : Int} {n : Nat} {g : Nat → Nat → Int} (hn : 7 ≤ v → 45 ≤ n) {a b : Nat} (h : a = 8 ∨ b = 8) : aviG v n g a b = g a b := by
  unfold aviG
  split
  · rfl
  · exact verUp_eight (hn (by omega)) h 6 (by decide)
/-- the bits from the highest on -/
def bitsDown (fi : Nat) : Nat → List Int
  | 0 => []
  | k + 1 => bitAt fi k :: bitsDown fi k
theorem bits_sum (fi : Nat) : ∀ (k a : Nat), (bitsDown fi k).foldl (fun s x => 2 * s + x.toNat) a = a * 2 ^ k + fi % 2 ^ k
  | 0, a => by show a = a * 1 + fi % 1; omega
  | k + 1, a => by
    show (bitsDown fi k).foldl (fun s x => 2 * s + x.toNat) (2 * a + (bitAt fi k).toNat) = _
    have e : (bitAt fi k).toNat = fi / 2 ^ k % 2 := by unfold bitAt; rw [Int.toNat_natCast]
    rw [bits_sum fi k, e, Nat.mod_pow_succ, Nat.add_mul, Nat.pow_succ, Nat.mul_comm (2 ^ k) (fi / 2 ^ k % 2), Nat.mul_comm (2 ^ k) 2, ← Nat.mul_assoc, Nat.mul_comm a 2]
    omega
theorem snat_map (g : Nat → Nat → Int) : ∀ (sp : List (Nat × Nat)) (a : Nat), snat g sp a = (sp.map fun q => g q.1 q.2).foldl (fun s x => 2 * s + x.toNat) a
  | [], _ => rfl
  | q :: r, a => by
    show snat g r _ = _
    rw [snat_map g r]
    rfl
theorem micro_cells (n fi : Nat) : (((List.range 8).map (fun i => (8, 1 + i)) ++ (List.range 7).map fun i => (7 - i, 8)) : List (Nat × Nat)).map (fun q => afiG true n fi (fun _ _ => 0) q.1 q.2) = bitsDown fi 15 := by
  rfl
theorem qr0_cells (m fi : Nat) : (((List.range 8).map (fun i => (8, [0, 1, 2, 3, 4, 5, 7, 8].getD i 0)) ++ (List.range 7).map fun i => ([7, 5, 4, 3, 2, 1, 0].getD i 0, 8)) : List (Nat × Nat)).map (fun q => afiG false (m + 21) fi (fun _ _ => 0) q.1 q.2) = bitsDown fi 15 := by
  have e : (((List.range 8).map (fun i => (8, [0, 1, 2, 3, 4, 5, 7, 8].getD i 0)) ++ (List.range 7).map fun i => ([7, 5, 4, 3, 2, 1, 0].getD i 0, 8)) : List (Nat × Nat)) = [(8, 0), (8, 1), (8, 2), (8, 3), (8, 4), (8, 5), (8, 7), (8, 8), (7, 8), (5, 8), (4, 8), (3, 8), (2, 8), (1, 8), (0, 8)] := rfl
  rw [e]
  simp [afiG, upG, turnG, offAt, gset, bitsDown]
theorem qr1_cells (m fi : Nat) : (((List.range 7).map (fun i => (m + 21 - 1 - i, 8)) ++ (List.range 8).map fun i => (8, m + 21 - 8 + i)) : List (Nat × Nat)).map (fun q => afiG false (m + 21) fi (fun _ _ => 0) q.1 q.2) = bitsDown fi 15 := by
  have e : (((List.range 7).map (fun i => (m + 21 - 1 - i, 8)) ++ (List.range 8).map fun i => (8, m + 21 - 8 + i)) : List (Nat × Nat)) = [(m + 20, 8), (m + 19, 8), (m + 18, 8), (m + 17, 8), (m + 16, 8), (m + 15, 8), (m + 14, 8), (8, m + 13), (8, m + 14), (8, m + 15), (8, m + 16), (8, m + 17), (8, m + 18), (8, m + 19), (8, m + 20)] := rfl
  rw [e]
  simp [afiG, upG, turnG, offAt, gset, bitsDown]
/-- the heads as they are seen, all three ways -/
theorem seen_micro {v : Int} {n fi : Nat} (hv : v ≤ 0) (hfi : fi < 2 ^ 15) : snat (headG v n fi) ((List.range 8).map (fun i => (8, 1 + i)) ++ (List.range 7).map fun i => (7 - i, 8)) 0 = fi := by
  have e : headG v n fi = afiG true n fi fun _ _ => 0 := by
    unfold headG aviG
    rw [if_pos (by omega), decide_eq_true (show v < 1 by omega)]
  rw [e, snat_map, micro_cells, bits_sum, Nat.zero_mul, Nat.zero_add, Nat.mod_eq_of_lt hfi]
theorem snat_eight {v : Int} {n fi : Nat} (hn : 7 ≤ v → 45 ≤ n) (h1 : 1 ≤ v) : ∀ {sp : List (Nat × Nat)} (_ : ∀ q ∈ sp, q.1 = 8 ∨ q.2 = 8), (sp.map fun q => headG v n fi q.1 q.2) = sp.map fun q => afiG false n fi (fun _ _ => 0) q.1 q.2 := by
  intro sp h
  apply List.map_congr_left
  intro q hq
  show headG v n fi q.1 q.2 = _
  unfold headG
  rw [aviG_eight hn (h q hq), decide_eq_false (show ¬ v < 1 by omega)]
theorem mem_two {α : Type} {P : α → Prop} {f g : Nat → α} {a b : Nat} (h1 : ∀ i, i < a → P (f i)) (h2 : ∀ i, i < b → P (g i)) : ∀ q ∈ (List.range a).map f ++ (List.range b).map g, P q := by
  intro q hq
  rcases List.mem_append.mp hq with hq | hq
  · obtain ⟨i, hi, rfl⟩ := List.mem_map.mp hq
    exact h1 i (List.mem_range.mp hi)
  · obtain ⟨i, hi, rfl⟩ := List.mem_map.mp hq
    exact h2 i (List.mem_range.mp hi)
theorem seen_qr0 {v : Int} {n m fi : Nat} (hm : n = m + 21) (h1 : 1 ≤ v) (hn : 7 ≤ v → 45 ≤ n) (hfi : fi < 2 ^ 15) : snat (headG v n fi) ((List.range 8).map (fun i => (8, [0, 1, 2, 3, 4, 5, 7, 8].getD i 0)) ++ (List.range 7).map fun i => ([7, 5, 4, 3, 2, 1, 0].getD i 0, 8)) 0 = fi := by
  rw [snat_map, snat_eight hn h1 (mem_two (fun i _ => .inl rfl) fun i _ => .inr rfl), hm, qr0_cells, bits_sum, Nat.zero_mul, Nat.zero_add, Nat.mod_eq_of_lt hfi]
theorem seen_qr1 {v : Int} {n m fi : Nat} (hm : n = m + 21) (h1 : 1 ≤ v) (hn : 7 ≤ v → 45 ≤ n) (hfi : fi < 2 ^ 15) : snat (headG v n fi) ((List.range 7).map (fun i => (n - 1 - i, 8)) ++ (List.range 8).map fun i => (8, n - 8 + i)) 0 = fi := by
  rw [snat_map, snat_eight hn h1 (mem_two (fun i _ => .inr rfl) fun i _ => .inl rfl), hm, qr1_cells, bits_sum, Nat.zero_mul, Nat.zero_add, Nat.mod_eq_of_lt hfi]
/-- near, from what is seen -/
theorem near_head {g g' : Nat → Nat → Int} {sp : List (Nat × Nat)} {f d n : Nat} {ws : List Nat} (hb : Bits g) (hn : sp.Nodup) (hf : f ≤ 3) (h : Flips sp f g g') (hd : d < n) (hs : snat g sp 0 = ws.getD d 0) (h7 : ∀ i, i < n → i ≠ d → 7 ≤ pc (ws.getD d 0 ^^^ ws.getD i 0)) : nearOf (seenUp g' sp).toNat ws n = [(d : Int)] := by
  rw [seen_nat (h.bits hb)]
  refine near_one hd ?_ h7
  have := flips_apart hn h hb
  rw [hs] at this
  omega
theorem nodup_two {α : Type} {f g : Nat → α} {a b : Nat} (h1 : ∀ i j, i < j → j < a → f i ≠ f j) (h2 : ∀ i j, i < j → j < b → g i ≠ g j) (h3 : ∀ i j, i < a → j < b → f i ≠ g j) : ((List.range a).map f ++ (List.range b).map g).Nodup := by
  have one : ∀ (f : Nat → α) (a : Nat), (∀ i j, i < j → j < a → f i ≠ f j) → ((List.range a).map f).Nodup := by
    intro f a h
    induction a with
    | zero => exact List.nodup_nil
    | succ a ih =>
      rw [List.range_succ, List.map_append, List.nodup_append]
      refine ⟨ih fun i j hi hj => h i j hi (by omega), by simp, ?_⟩
      intro x hx y hy
      obtain ⟨i, hi, rfl⟩ := List.mem_map.mp hx
      rw [List.map_singleton, List.mem_singleton] at hy
      subst hy
      exact h i a (List.mem_range.mp hi) (by omega)
  rw [List.nodup_append]
  refine ⟨one f a h1, one g b h2, ?_⟩
  intro x hx y hy
  obtain ⟨i, hi, rfl⟩ := List.mem_map.mp hx
  obtain ⟨j, hj, rfl⟩ := List.mem_map.mp hy
  exact h3 i j (List.mem_range.mp hi) (List.mem_range.mp hj)
theorem pair_ne {a b c d : Nat} (h : a ≠ c ∨ b ≠ d) : (a, b) ≠ (c, d) := by
  intro e
  rcases h with h | h
  · exact h (congrArg Prod.fst e)
  · exact h (congrArg Prod.snd e)
end Mine
end
section
open PySem PySem.W PySem.Calls PyProof.Rows
set_option maxRecDepth 100000
namespace Mine
theorem pcF_7 {k a b : Nat} (h : 7 ≤ pcF k (a ^^^ b)) : 7 ≤ pc (a ^^^ b) := Nat.le_trans h (pcF_is k _)
theorem wsX_len (K : Nat) : (wsX K).length = 32 := by
  unfold wsX
  rw [List.length_map, codeW_len]
theorem kind_is {e : Nat} (he : e < 4) : kindOfLevel e = e := by
  have h : e = 0 ∨ e = 1 ∨ e = 2 ∨ e = 3 := by omega
  rcases h with rfl | rfl | rfl | rfl <;> rfl
theorem micro_ver (k : Nat) : -3 ≤ microVersion k ∧ microVersion k ≤ 0 := by
  unfold microVersion
  split <;> decide
theorem head_micro {k mk n : Nat} {d : Int} (hk : k < 8) (hm : mk < 4) (hd : d = 40 + k) (hn : (n : Int) = 17 + 2 * microVersion k) : Head d (microVersion k) n (4 * k + mk) (FIM.getD (4 * k + mk) 0) ((List.range 8).map (fun i => (8, 1 + i)) ++ (List.range 7).map fun i => (7 - i, 8)) (wsX 17477) := by
  have hv := micro_ver k
  refine ⟨by omega, by omega, fun h => by omega, by omega, ?_, by simp, by simp, wsX_len _, ?_, fun h => by omega, fun h => by omega, ?_⟩
  · exact mem_two (fun i hi => ⟨show 8 < n by omega, show 1 + i < n by omega⟩) fun i hi => ⟨show 7 - i < n by omega, show 8 < n by omega⟩
  · intro f g' hf h
    refine near_head (headG_bits _ _ _) ?_ hf h (by omega) ?_ ?_
    · exact nodup_two (fun i j _ _ => pair_ne (by omega)) (fun i j _ _ => pair_ne (by omega)) fun i j _ _ => pair_ne (by omega)
    · rw [seen_micro hv.2 (FIM_lt _ (by omega)), wsX_FIM]
    · intro i hi hne
      rw [wsX_FIM]
      exact pcF_7 (far_FIM _ (by omega) i hi hne)
  · exact mem_two (fun i _ => .inl rfl) fun i _ => .inr rfl
theorem head_dark {v : Int} {n fi : Nat} (h1 : 1 ≤ v) (hn : 7 ≤ v → 45 ≤ n) : headG v n fi (n - 8) 8 = 1 := by
  unfold headG
  rw [aviG_eight hn (.inr rfl), decide_eq_false (show ¬ v < 1 by omega)]
  unfold afiG gset
  rw [if_neg (by decide), if_pos ⟨rfl, rfl⟩]
theorem head_qr {dn e mk n : Nat} {sp : List (Nat × Nat)} (hd : dn < 40) (he : e < 4) (hm : mk < 8) (hn : n = 17 + 4 * (dn + 1)) (inn : ∀ q ∈ sp, q.1 < n ∧ q.2 < n) (len : sp.length = 15) (nod : sp.Nodup) (eight : ∀ q ∈ sp, q.1 = 8 ∨ q.2 = 8)
    (hs : ∀ fi, fi < 2 ^ 15 → snat (headG ((dn + 1 : Nat) : Int) n fi) sp 0 = fi) : Head (dn : Int) ((dn + 1 : Nat) : Int) n (8 * e + mk) (FI.getD (8 * kindOfLevel e + mk) 0) sp (wsX 21522) := by
  rw [kind_is he]
  refine ⟨by omega, by omega, fun _ => by omega, by omega, inn, by omega, by omega, wsX_len _, ?_, fun _ => head_dark (by omega) fun _ => by omega, fun _ => by omega, eight⟩
  intro f g' hf h
  refine near_head (headG_bits _ _ _) nod hf h (by omega) ?_ ?_
  · rw [hs _ (FI_lt _ (by omega)), wsX_FI]
  · intro i hi hne
    rw [wsX_FI]
    exact pcF_7 (far_FI _ (by omega) i hi hne)
theorem pick0_inj : ∀ i j, i < j → j < 8 → [0, 1, 2, 3, 4, 5, 7, 8].getD i 0 ≠ [0, 1, 2, 3, 4, 5, 7, 8].getD j 0 := by
  intro i j h1 h2
  have : ∀ j, j < 8 → ∀ i, i < j → [0, 1, 2, 3, 4, 5, 7, 8].getD i 0 ≠ [0, 1, 2, 3, 4, 5, 7, 8].getD j 0 := by decide
  exact this j h2 i h1
theorem pick1_inj : ∀ i j, i < j → j < 7 → [7, 5, 4, 3, 2, 1, 0].getD i 0 ≠ [7, 5, 4, 3, 2, 1, 0].getD j 0 := by
  intro i j h1 h2
  have : ∀ j, j < 7 → ∀ i, i < j → [7, 5, 4, 3, 2, 1, 0].getD i 0 ≠ [7, 5, 4, 3, 2, 1, 0].getD j 0 := by decide
  exact this j h2 i h1
theorem pick0_lt : ∀ i, i < 8 → [0, 1, 2, 3, 4, 5, 7, 8].getD i 0 < 9 := by decide
theorem pick1_lt : ∀ i, i < 7 → [7, 5, 4, 3, 2, 1, 0].getD i 0 < 8 := by decide
theorem head_qr0 {dn e mk n : Nat} (hd : dn < 40) (he : e < 4) (hm : mk < 8) (hn : n = 17 + 4 * (dn + 1)) : Head (dn : Int) ((dn + 1 : Nat) : Int) n (8 * e + mk) (FI.getD (8 * kindOfLevel e + mk) 0) ((List.range 8).map (fun i => (8, [0, 1, 2, 3, 4, 5, 7, 8].getD i 0)) ++ (List.range 7).map fun i => ([7, 5, 4, 3, 2, 1, 0].getD i 0, 8)) (wsX 21522) := by
  refine head_qr hd he hm hn ?_ (by simp) ?_ (mem_two (fun i _ => .inl rfl) fun i _ => .inr rfl) fun fi hfi => seen_qr0 (m := 4 * dn) (by omega) (by omega) (fun _ => by omega) hfi
  · refine mem_two (fun i hi => ?_) fun i hi => ?_
    · have := pick0_lt i hi
      exact ⟨show 8 < n by omega, Nat.lt_of_lt_of_le this (by omega)⟩
    · have := pick1_lt i hi
      exact ⟨Nat.lt_of_lt_of_le this (by omega), show 8 < n by omega⟩
  · refine nodup_two (fun i j h1 h2 => pair_ne (.inr (pick0_inj i j h1 h2))) (fun i j h1 h2 => pair_ne (.inl (pick1_inj i j h1 h2))) fun i j h1 h2 => pair_ne (.inl ?_)
    have := pick1_lt j h2
    exact Nat.ne_of_gt this
theorem head_qr1 {dn e mk n : Nat} (hd : dn < 40) (he : e < 4) (hm : mk < 8) (hn : n = 17 + 4 * (dn + 1)) : Head (dn : Int) ((dn + 1 : Nat) : Int) n (8 * e + mk) (FI.getD (8 * kindOfLevel e + mk) 0) ((List.range 7).map (fun i => (n - 1 - i, 8)) ++ (List.range 8).map fun i => (8, n - 8 + i)) (wsX 21522) := by
  refine head_qr hd he hm hn ?_ (by simp) ?_ (mem_two (fun i _ => .inr rfl) fun i _ => .inl rfl) fun fi hfi => seen_qr1 (m := 4 * dn) (by omega) (by omega) (fun _ => by omega) hfi
  · exact mem_two (fun i hi => ⟨show n - 1 - i < n by omega, show 8 < n by omega⟩) fun i hi => ⟨show 8 < n by omega, show n - 8 + i < n by omega⟩
  · exact nodup_two (fun i j _ _ => pair_ne (by omega)) (fun i j _ _ => pair_ne (by omega)) fun i j _ _ => pair_ne (by omega)
/-! ## the version's modules -/
theorem verUp_low {n vi t r : Nat} {g : Nat → Nat → Int} (hn : 45 ≤ n) (hr : r < 3) : ∀ k, k ≤ 6 → t < k → verUp n vi g k (n - 11 + r) t = bitAt vi (3 * t + r) ∧ verUp n vi g k t (n - 11 + r) = bitAt vi (3 * t + r)
  | 0, _, h => absurd h (Nat.not_lt_zero _)
  | k + 1, hk, ht => by
    have e : verUp n vi g (k + 1) = verTurn n vi k (verUp n vi g k) := rfl
    rw [e]
    unfold verTurn gset
    by_cases htk : t = k
    · subst htk
      have hr3 : r = 0 ∨ r = 1 ∨ r = 2 := by omega
      rcases hr3 with rfl | rfl | rfl
      · constructor
        · rw [if_neg (by omega), if_neg (by omega), if_neg (by omega), if_neg (by omega), if_neg (by omega), if_pos (by omega)]; rfl
        · rw [if_neg (by omega), if_neg (by omega), if_pos (by omega)]; rfl
      · constructor
        · rw [if_neg (by omega), if_neg (by omega), if_neg (by omega), if_neg (by omega), if_pos (by omega)]
        · rw [if_neg (by omega), if_pos (by omega)]
      · constructor
        · rw [if_neg (by omega), if_neg (by omega), if_neg (by omega), if_pos (by omega)]
        · rw [if_pos (by omega)]
    · have ih := verUp_low (vi := vi) (g := g) hn hr k (by omega) (t := t) (by omega)
      constructor
      · rw [if_neg (by omega), if_neg (by omega), if_neg (by omega), if_neg (by omega), if_neg (by omega), if_neg (by omega)]
        exact ih.1
      · rw [if_neg (by omega), if_neg (by omega), if_neg (by omega), if_neg (by omega), if_neg (by omega), if_neg (by omega)]
        exact ih.2
theorem ver_cell {v : Int} {n fi i : Nat} {fq : Nat → Nat × Nat} (hv : 7 ≤ v) (hn : 45 ≤ n) (hV : VerSpots n fq) (hi : i < 18) : headG v n fi (fq i).1 (fq i).2 = bitAt (VI.getD (v - 7).toNat 0) (17 - i) := by
  unfold headG aviG
  rw [if_neg (by omega)]
  have h := verUp_low (n := n) (vi := VI.getD (v - 7).toNat 0) (g := afiG (decide (v < 1)) n fi fun _ _ => 0) (t := (17 - i) / 3) (r := (17 - i) % 3) hn (by omega) 6 (by omega) (by omega)
  rw [show 3 * ((17 - i) / 3) + (17 - i) % 3 = 17 - i by omega] at h
  rcases hV with rfl | rfl
  · exact h.1
  · exact h.2
theorem down_range (vi : Nat) : ∀ k, (List.range k).map (fun i => bitAt vi (k - 1 - i)) = bitsDown vi k
  | 0 => rfl
  | k + 1 => by
    rw [List.range_succ_eq_map, List.map_cons, List.map_map]
    show _ :: _ = bitAt vi k :: bitsDown vi k
    rw [← down_range vi k]
    congr 1
    apply List.map_congr_left
    intro i hi
    show bitAt vi (k + 1 - 1 - (i + 1)) = _
    rw [show k + 1 - 1 - (i + 1) = k - 1 - i by omega]
theorem ver_near {d v : Int} {n due fi f : Nat} {sp : List (Nat × Nat)} {ws : List Nat} {fq : Nat → Nat × Nat} {g1 g2 : Nat → Nat → Int} (H : Head d v n due fi sp ws) (hv : 6 < v) (hV : VerSpots n fq) (hf : f ≤ 3) (h1 : Flips sp f (headG v n fi) g1) (h2 : Flips ((List.range 18).map fq) f g1 g2) :
    nearOf (seenUp g2 ((List.range 18).map fq)).toNat (codeW 7973 12 6) (codeW 7973 12 6).length = [v] := by
  have hsz := H.size (by omega)
  have hv40 := H.ver
  obtain ⟨k, hk⟩ : ∃ k : Nat, v = ((k + 7 : Nat) : Int) := ⟨(v - 7).toNat, by omega⟩
  have hk34 : k < 34 := by omega
  have hcell : ∀ i, i < 18 → g1 (fq i).1 (fq i).2 = bitAt (VI.getD k 0) (17 - i) := by
    intro i hi
    have e := ver_cell (fi := fi) (show 7 ≤ v by omega) (show 45 ≤ n by omega) hV hi
    rw [show (v - 7).toNat = k by omega] at e
    rw [← e]
    apply flips_off h1
    intro hm
    have h8 := H.eight _ hm
    rcases hV with rfl | rfl
    · dsimp only at h8; omega
    · dsimp only at h8; omega
  have hnd : ((List.range 18).map fq).Nodup := by
    have : (List.range 18).map fq = (List.range 18).map fq ++ (List.range 0).map fq := (List.append_nil _).symm
    rw [this]
    refine nodup_two (fun i j h1 h2 => ?_) (fun i j _ h => absurd h (Nat.not_lt_zero _)) fun i j _ h => absurd h (Nat.not_lt_zero _)
    rcases hV with rfl | rfl
    · exact pair_ne (by omega)
    · exact pair_ne (by omega)
  have hb := h1.bits (headG_bits v n fi)
  rw [codeW_len, hk]
  refine near_head hb hnd hf h2 (show k + 7 < 2 ^ 6 by omega) ?_ ?_
  · rw [code_VI k hk34, snat_map, List.map_map]
    have e : (List.range 18).map ((fun q => g1 q.1 q.2) ∘ fq) = bitsDown (VI.getD k 0) 18 := by
      rw [← down_range]
      apply List.map_congr_left
      intro i hi
      exact hcell i (List.mem_range.mp hi)
    rw [e, bits_sum, Nat.zero_mul, Nat.zero_add, Nat.mod_eq_of_lt (VI_lt k hk34)]
  · intro i hi hne
    exact pcF_7 (far_VI _ (by omega) i hi hne)
end Mine
end
section
open PySem PySem.W PySem.Calls PyProof.Rows
set_option maxRecDepth 100000
set_option maxHeartbeats 8000000
namespace Mine
theorem fillL : (fun (_ : OpenLaw) (_ : Params → Frag) => True) PySem.Challenge.rw_im0112_01 hd.heap_39 := by
  w_top off
  k_fill
  trivial
local macro_rules | `(tactic| walk_at "kstep") => `(tactic| first | (k_unfold; (try dsimp only)) | (k_end; wrow_close) | walk1 | (dsimp only; walk1) | (leave1; walk_say "STEP leave1"; try dsimp only))
local macro_rules | `(tactic| walk_at "to iter") => `(tactic| repeat ((fail_if_success (with_reducible show wpAny _ _ (pyIter _) _ _ _)); walk_at "kstep"))
local macro_rules | `(tactic| walk_at "to while") => `(tactic| repeat ((fail_if_success (with_reducible show wpAny _ _ (exec (Stmt.While _ _ _ _) _) _ _ _)); walk_at "kstep"))
local macro_rules | `(tactic| walk_at "to newList") => `(tactic| repeat ((fail_if_success (with_reducible show wpAny _ _ (newList _) _ _ _)); walk_at "kstep"))
local macro_rules | `(tactic| walk_at "to call") => `(tactic| repeat ((fail_if_success (with_reducible show wpAny _ _ (call (Value.ref _) _) _ _ _)); walk_at "kstep"))
local macro_rules | `(tactic| walk_at "to ifexp") => `(tactic| repeat ((fail_if_success (with_reducible show wpAny _ _ (eval (Expr.IfExp _ _ _ _) _) _ _ _)); walk_at "kstep"))
local macro_rules | `(tactic| walk_at "to store") => `(tactic| repeat ((fail_if_success (with_reducible show wpAny _ _ (storeName _ _ _) _ _ _)); walk_at "kstep"))
local macro_rules | `(tactic| walk_at "to if") => `(tactic| repeat ((fail_if_success (with_reducible show wpAny _ _ (exec (Stmt.If _ _ _ _) _) _ _ _)); walk_at "kstep"))
theorem off1_mem {D : Addr} : ∀ {l : List (Addr × Obj)}, LCg.Off1 D l → ∀ q ∈ l, q.1 ≠ D
  | [], _, _, h => nomatch h
  | _ :: _, x, q, h => by
    rcases List.mem_cons.mp h with rfl | h
    · exact x.1
    · exact off1_mem x.2 q h
local macro_rules | `(tactic| walk_at "to call") => `(tactic| repeat ((fail_if_success (with_reducible show wpAny _ _ (call (Value.ref _) _) _ _ _)); walk_at "kstep"))
local macro_rules | `(tactic| walk_at "wstep") => `(tactic| first | walk1 | (dsimp only; walk1))
theorem TupsIn.tail {x : Addr × Obj} {news : List (Addr × Obj)} {vs : List Value} {sp : List (Nat × Nat)} (h : TupsIn news vs sp) : TupsIn (x :: news) vs sp :=
  ⟨h.1, fun k q hq => by obtain ⟨a, o, h1, h2, h3⟩ := h.2 k q hq; exact ⟨a, o, h1, .tail _ h2, h3⟩⟩
theorem place_mod {n i : Nat} (hn : 11 ≤ n) (_hi : i < 18) : (n : Int) - 11 + (((17 - i : Nat) : Int)).fmod 3 = ((n - 11 + (17 - i) % 3 : Nat) : Int) := by
  rw [Int.fmod_eq_emod_of_nonneg _ (by decide)]
  omega
theorem place_div {i : Nat} (_hi : i < 18) : (((17 - i : Nat) : Int)).fdiv 3 = (((17 - i) / 3 : Nat) : Int) := by
  rw [Int.fdiv_eq_ediv_of_nonneg _ (by decide)]
  omega
theorem allLt_mem {d : Addr} : ∀ {l : List (Addr × Obj)}, AllLt d l → ∀ p ∈ l, p.1 < d
  | [], _, _, h => nomatch h
  | _ :: _, x, p, h => by
    rcases List.mem_cons.mp h with rfl | h
    · exact x.1
    · exact allLt_mem x.2 p h
theorem news_turn {h₀ h : Heap} {L : Addr} {x : Addr × Obj} {a b : List (Addr × Obj)} (N : News h₀ L h (x :: (a ++ b))) : News h₀ L h (a ++ (x :: b)) := fun q hq => N q (by
  rcases List.mem_append.mp hq with hq | hq
  · exact .tail _ (List.mem_append_left _ hq)
  rcases List.mem_cons.mp hq with rfl | hq
  · exact .head _
  · exact .tail _ (List.mem_append_right _ hq))
theorem hdd_turn {D : Addr} {o : Obj} {a b : List (Addr × Obj)} (l : ∀ p, p ∈ a ++ b → p.1 < D) (hd : ∀ q ∈ b, q.1 ∉ a.map (·.1)) : ∀ q ∈ (D, o) :: b, q.1 ∉ a.map (·.1) := by
  intro q hq hm
  rcases List.mem_cons.mp hq with rfl | hq
  · obtain ⟨z, hz, e⟩ := List.mem_map.mp hm
    exact absurd (l z (List.mem_append_left _ hz)) (by rw [e]; exact Nat.lt_irrefl _)
  · exact hd q hq hm
theorem ver_in {n : Nat} {fq : Nat → Nat × Nat} (h : VerSpots n fq) (hn : 45 ≤ n) : ∀ q ∈ (List.range 18).map fq, q.1 < n ∧ q.2 < n := by
  intro q hq
  obtain ⟨i, hi, rfl⟩ := List.mem_map.mp hq
  have := List.mem_range.mp hi
  rcases h with rfl | rfl
  · exact ⟨show n - 11 + (17 - i) % 3 < n by omega, show (17 - i) / 3 < n by omega⟩
  · exact ⟨show (17 - i) / 3 < n by omega, show n - 11 + (17 - i) % 3 < n by omega⟩
theorem news_two {h₀ h : Heap} {L : Addr} {news : List (Addr × Obj)} {x y : Addr × Obj} (N : News h₀ L h news) (hx : x ∈ news) (hy : y ∈ news) : News h₀ L h [x, y] := fun q hq => by
  rcases List.mem_cons.mp hq with rfl | hq
  · exact N _ hx
  · rw [List.mem_singleton.mp hq]; exact N _ hy
theorem gen_int {M : Model} {A : Around} {E : Value → Shared → Prop} {Q : Unit → Shared → Prop} {env : Env} {x : Str} {X : Int} {t : Tok} {s : Shared} {P : Int → Prop} (hX : P X) (h : ∀ d, P d → wpAny M A (storeName env x (.int d t)) Q E s) : wpAny M A (storeName env x (.int X t)) Q E s := h X hX
theorem flips_is (X : Int) : ∃ f : Nat, 3 - X.fmod 4 = f ∧ f ≤ 3 := by
  have : 0 ≤ X.fmod 4 ∧ X.fmod 4 < 4 := fmod_in X (n := 4) (by decide)
  exact ⟨(3 - X.fmod 4).toNat, by omega, by omega⟩
theorem copy_is (X : Int) : X.fmod 2 = 0 ∨ X.fmod 2 = 1 := by
  have : 0 ≤ X.fmod 2 ∧ X.fmod 2 < 2 := fmod_in X (n := 2) (by decide)
  omega
theorem drawn_is (X : Int) : 0 ≤ X.fmod 48 ∧ X.fmod 48 < 48 := fmod_in X (n := 48) (by decide)
theorem news_swap {h₀ h : Heap} {L : Addr} {x y : Addr × Obj} {rest : List (Addr × Obj)} (N : News h₀ L h (y :: x :: rest)) : News h₀ L h (x :: y :: rest) := fun q hq => N q (by
  rcases List.mem_cons.mp hq with rfl | hq
  · exact .tail _ (.head _)
  rcases List.mem_cons.mp hq with rfl | hq
  · exact .head _
  · exact .tail _ (.tail _ hq))
theorem news_third {h₀ h : Heap} {L : Addr} {x y z : Addr × Obj} {rest : List (Addr × Obj)} (N : News h₀ L h (y :: z :: x :: rest)) : News h₀ L h (x :: y :: z :: rest) := fun q hq => N q (by
  rcases List.mem_cons.mp hq with rfl | hq
  · exact .tail _ (.tail _ (.head _))
  rcases List.mem_cons.mp hq with rfl | hq
  · exact .head _
  rcases List.mem_cons.mp hq with rfl | hq
  · exact .tail _ (.head _)
  · exact .tail _ (.tail _ (.tail _ hq)))
theorem words_are {K : Nat} {vsw ys : List Value} (hlen : vsw.length = 32) (_hI : IntsAre vsw (natInts (codeW 1335 10 5))) (h : IntsAre ys (((natInts (codeW 1335 10 5)).take vsw.toArray.size).map fun o => Builtin.bitXor o K)) : IntsAre ys (natInts (wsX K)) := by
  have e : (((natInts (codeW 1335 10 5)).take vsw.toArray.size).map fun o => Builtin.bitXor o K) = natInts (wsX K) := by
    rw [List.size_toArray, hlen, List.take_of_length_le (by rw [natInts, List.length_map, codeW_len]; decide), natInts, natInts, wsX, List.map_map, List.map_map]
    apply List.map_congr_left
    intro a _
    exact bitXor_nat a K
  rwa [e] at h
theorem news_third' {h₀ h : Heap} {L : Addr} {x y z : Addr × Obj} {rest : List (Addr × Obj)} (N : News h₀ L h (y :: z :: x :: rest)) : News h₀ L h (x :: y :: z :: rest) := news_third N
theorem compEnd_src {h₀ : Heap} {L : Addr} {m : Str → Option Value} {s₁ s₂ : Shared} {I C D : Addr} {oI oC oD : Obj} {S : List (Addr × Obj) → Prop} {R : Value → List (Addr × Obj) → Prop} {y : Value} (h : LCg.CompEnd h₀ L m s₁ I oI C oC D oD (fun _ => True) R y s₂) (hS : ∀ y news, R y news → S news) : LCg.CompEnd h₀ L m s₁ I oI C oC D oD S R y s₂ := by
  obtain ⟨h', tk, news', e, F, N, off, _, r⟩ := h
  exact ⟨h', tk, news', e, F, N, off, hS _ _ r, r⟩
theorem SpJ.src {x : Addr × Obj} {rest : List (Addr × Obj)} {fq : Nat → Nat × Nat} {i : Nat} {ys : List Value} {news : List (Addr × Obj)} (h : SpJ x rest fq i ys news) {q : Addr × Obj} (hq : q ∈ rest) : q ∈ news := by
  obtain ⟨rows, rfl, _⟩ := h
  exact .tail _ (List.mem_append_right _ hq)
theorem ints_at {a : Array Value} {ns : List Int} {i : Nat} {v : Value} (h : IntsAre a.toList ns) (hv : a[i]? = some v) : ∃ t, v = .int (ns.getD i 0) t := by
  have hv' : a.toList[i]? = some v := by simpa using hv
  have hi : i < a.toList.length := by
    rcases Nat.lt_or_ge i a.toList.length with h | h
    · exact h
    · rw [List.getElem?_eq_none h] at hv'; cases hv'
  rw [h.length] at hi
  obtain ⟨tv, htv⟩ := h.get i (ns[i]) (by simp [hi])
  rw [htv] at hv'
  exact ⟨tv, by rw [← Option.some.inj hv', List.getD_eq_getElem?_getD, List.getElem?_eq_getElem hi]; rfl⟩
theorem list_in {h₀ h : Heap} {L l : Addr} {news : List (Addr × Obj)} {vs : List Value} {k : Nat} (N : News h₀ L h news) (hm : (l, listOf vs.toArray k) ∈ news) : h.IsList l vs.toArray := ⟨_, (N _ hm).1, rfl, _, rfl⟩
theorem tups_app {news : List (Addr × Obj)} {vs vs2 : List Value} {sp sp2 : List (Nat × Nat)} (h : TupsIn news vs sp) (h2 : TupsIn news vs2 sp2) : TupsIn news (vs ++ vs2) (sp ++ sp2) := by
  refine ⟨by rw [List.length_append, List.length_append, h.1, h2.1], fun k q hq => ?_⟩
  by_cases hk : k < sp.length
  · rw [List.getElem?_append_left hk] at hq
    obtain ⟨a, o, e1, e2, e3⟩ := h.2 k q hq
    exact ⟨a, o, by rw [List.getElem?_append_left (by rw [h.1]; exact hk)]; exact e1, e2, e3⟩
  · rw [List.getElem?_append_right (by omega)] at hq
    obtain ⟨a, o, e1, e2, e3⟩ := h2.2 _ q hq
    exact ⟨a, o, by rw [List.getElem?_append_right (by rw [h.1]; omega), h.1]; exact e1, e2, e3⟩
theorem micro_size {k : Nat} (hk : k < 8) : ∃ n : Nat, 17 + 2 * microVersion k = n ∧ (n : Int) = 17 + 2 * microVersion k := by
  have hdd : k = 0 ∨ k = 1 ∨ k = 2 ∨ k = 3 ∨ k = 4 ∨ k = 5 ∨ k = 6 ∨ k = 7 := by omega
  rcases hdd with rfl | rfl | rfl | rfl | rfl | rfl | rfl | rfl
  · exact ⟨11, rfl, rfl⟩
  · exact ⟨13, rfl, rfl⟩
  · exact ⟨13, rfl, rfl⟩
  · exact ⟨15, rfl, rfl⟩
  · exact ⟨15, rfl, rfl⟩
  · exact ⟨17, rfl, rfl⟩
  · exact ⟨17, rfl, rfl⟩
  · exact ⟨17, rfl, rfl⟩
theorem mask4 (X : Int) : ∃ mk : Nat, X.fmod 4 = mk ∧ mk < 4 := by
  have : 0 ≤ X.fmod 4 ∧ X.fmod 4 < 4 := fmod_in X (n := 4) (by decide)
  exact ⟨(X.fmod 4).toNat, by omega, by omega⟩
theorem mask8 (X : Int) : ∃ mk : Nat, X.fmod 8 = mk ∧ mk < 8 := by
  have : 0 ≤ X.fmod 8 ∧ X.fmod 8 < 8 := fmod_in X (n := 8) (by decide)
  exact ⟨(X.fmod 8).toNat, by omega, by omega⟩
theorem law_holds : PySem.Challenge.rw_im0112_01.Holds := hd (by
  k_go0
  rename_i wd s0 s1 mg mb G Y fa o pm doc ho hg KX X V GL T B TE TW a1 o1 M a2 a3 hcd ns hs hlay0 hL1 hr1 hl2 la1 la2 ls vs la3 hLs ra w1 r0 hI hr hc63 hcT K0 hD h1 tk1 F0 oc hoc N0 X0
  replace F0 : Fr s1.heap s1.heap.objs.size h1 (fun y => if y = Str.ofString "script" then some (.ref ls) else none) := F0
  replace hoc : oc.data = .cell none := hoc
  clear X0 hD hcd
  replace K0 : Below callerA s1.heap [] s1.heap := K0
  all_goals try k_fold
  walk_at "to ifexp"
  k_fold
  suffices cut : ∀ (ln : Nat) (vsn : List Value) (c : Nat) (nn : List Int) (h' : Heap) (tk' : Nat), 0 < nn.length → nn.length ≤ 12 → IntsAre vsn nn → Fr s1.heap s1.heap.objs.size h' (fun y => if y = Str.ofString "script" then some (.ref ls) else none) →
      News s1.heap s1.heap.objs.size h' [(ln, listOf vsn.toArray c), (s1.heap.objs.size + 1, oc)] → ((s1.heap.objs.size + 1 : Nat) < ln) → qk (.ref ln) { s1 with heap := h', toks := tk' } by
    repeat' ((fail_if_success (with_reducible show wpAny _ _ (storeName _ _ _) _ _ _)); walk_at "kstep")
    · rename IntsAre _ (List.take 12 ns) => hI9
      refine cut _ _ _ _ _ _ ?_ ?_ hI9 (by assumption) (by assumption) (by assumption)
      · rw [List.length_take]; omega
      · rw [List.length_take]; omega
    · exact cut _ _ _ [0] _ _ (by decide) (by decide) (.cons 0 _ .nil) (by assumption) (by assumption) (by assumption)
  intro ln vsn c nn h2 tk2 hn0 hn12 hIn F1 N1 hln
  clear F0 N0
  k_unmd
  -- numbers, drawn, copy, flips, choice
  k_unfold
  dsimp only
  walk_at "kstep"
  walk_at "to store"
  refine gen_int (P := fun d => 0 ≤ d ∧ d < 48) (drawn_is _) ?_
  intro d hd48
  walk_at "kstep"
  walk_at "to store"
  refine gen_int (P := fun d => d = 0 ∨ d = 1) (copy_is _) ?_
  intro cp hcp
  walk_at "kstep"
  walk_at "to store"
  refine gen_int (P := fun d => ∃ f : Nat, d = f ∧ f ≤ 3) (flips_is _) ?_
  rintro _ ⟨f, rfl, hf3⟩
  walk_at "kstep"
  walk_at "to store"
  refine gen_int (P := fun _ => True) trivial ?_
  intro ch _
  walk_at "to if"
  k_fold
  rename Fr _ _ _ _ => F2
  rename News _ _ _ _ => N2
  suffices cut2 : ∀ (v : Int) (lv : Value) (n mk due fi : Nat) (sp : List (Nat × Nat)) (ws : List Nat) (lsp lw : Addr) (vss vsw : List Value) (c1 c2 : Nat) (oc' : Obj) (ro : List (Addr × Obj)) (h' : Heap) (tk' : Nat) (m' : Str → Option Value) (td tc tf tv tm tdu tn : Tok),
      Head d v n due fi sp ws → CfiClaim wd v lv mk fi → TupsIn ro vss sp → (lsp, listOf vss.toArray c1) ∈ ro → (lw, listOf vsw.toArray c2) ∈ ro → IntsAre vsw (natInts ws) → (ln, listOf vsn.toArray c) ∈ ro → (∀ q ∈ ro, q.1 ≠ s1.heap.objs.size + 1) → oc'.data = .cell (some (.int n tn)) →
      Knows m' [(Str.ofString "numbers", .ref ln), (Str.ofString "drawn", .int d td), (Str.ofString "copy", .int cp tc), (Str.ofString "flips", .int f tf), (Str.ofString "version", .int v tv), (Str.ofString "level", lv), (Str.ofString "mask", .int mk tm), (Str.ofString "due", .int due tdu), (Str.ofString "spots", .ref lsp), (Str.ofString "words", .ref lw)] →
      Fr s1.heap s1.heap.objs.size h' m' → News s1.heap s1.heap.objs.size h' ((s1.heap.objs.size + 1, oc') :: ro) → qk .next { s1 with heap := h', toks := tk' } by
    clear_value qk
    by_cases h39 : 39 < d
    · -- the small versions
      repeat ((fail_if_success (with_reducible show wpAny _ _ (exec (Stmt.Assign _ _ _) _) _ _ _)); walk_at "wstep")
      k_fold
      suffices cutm : ∀ (k : Nat) (lv : Value) (h' : Heap) (tk' : Nat) (m' : Str → Option Value) (td tc tf tch tv : Tok), d = 40 + k → k < 8 → microLevel k lv →
          Knows m' [(Str.ofString "numbers", .ref ln), (Str.ofString "drawn", .int d td), (Str.ofString "copy", .int cp tc), (Str.ofString "flips", .int f tf), (Str.ofString "choice", .int ch tch), (Str.ofString "version", .int (microVersion k) tv), (Str.ofString "level", lv)] →
          Fr s1.heap s1.heap.objs.size h' m' → News s1.heap s1.heap.objs.size h' [(ln, listOf vsn.toArray c), (s1.heap.objs.size + 1, oc)] → qk .next { s1 with heap := h', toks := tk' } by
        clear_value qk
        repeat ((fail_if_success (with_reducible show wpAny _ _ (subscriptTail _ _ (Value.ref _) _) _ _ _)); walk_at "wstep")
        have hd8 : d = 40 ∨ d = 41 ∨ d = 42 ∨ d = 43 ∨ d = 44 ∨ d = 45 ∨ d = 46 ∨ d = 47 := by omega
        rcases hd8 with rfl | rfl | rfl | rfl | rfl | rfl | rfl | rfl
        · repeat (walk_at "wstep")
          rename Fr _ _ _ _ => F9
          rename News _ _ _ _ => N9
          exact cutm 0 _ _ _ _ _ _ _ _ _ (by rfl) (by decide) (rfl) (.cons (by rfl) (.cons (by rfl) (.cons (by rfl) (.cons (by rfl) (.cons (by rfl) (.cons (by rfl) (.cons (by rfl) .nil))))))) F9 (news_two N9 (by k_mem) (by k_mem))
        · repeat (walk_at "wstep")
          rename Fr _ _ _ _ => F9
          rename News _ _ _ _ => N9
          exact cutm 1 _ _ _ _ _ _ _ _ _ (by rfl) (by decide) (⟨_, rfl⟩) (.cons (by rfl) (.cons (by rfl) (.cons (by rfl) (.cons (by rfl) (.cons (by rfl) (.cons (by rfl) (.cons (by rfl) .nil))))))) F9 (news_two N9 (by k_mem) (by k_mem))
        · repeat (walk_at "wstep")
          rename Fr _ _ _ _ => F9
          rename News _ _ _ _ => N9
          exact cutm 2 _ _ _ _ _ _ _ _ _ (by rfl) (by decide) (⟨_, rfl⟩) (.cons (by rfl) (.cons (by rfl) (.cons (by rfl) (.cons (by rfl) (.cons (by rfl) (.cons (by rfl) (.cons (by rfl) .nil))))))) F9 (news_two N9 (by k_mem) (by k_mem))
        · repeat (walk_at "wstep")
          rename Fr _ _ _ _ => F9
          rename News _ _ _ _ => N9
          exact cutm 3 _ _ _ _ _ _ _ _ _ (by rfl) (by decide) (⟨_, rfl⟩) (.cons (by rfl) (.cons (by rfl) (.cons (by rfl) (.cons (by rfl) (.cons (by rfl) (.cons (by rfl) (.cons (by rfl) .nil))))))) F9 (news_two N9 (by k_mem) (by k_mem))
        · repeat (walk_at "wstep")
          rename Fr _ _ _ _ => F9
          rename News _ _ _ _ => N9
          exact cutm 4 _ _ _ _ _ _ _ _ _ (by rfl) (by decide) (⟨_, rfl⟩) (.cons (by rfl) (.cons (by rfl) (.cons (by rfl) (.cons (by rfl) (.cons (by rfl) (.cons (by rfl) (.cons (by rfl) .nil))))))) F9 (news_two N9 (by k_mem) (by k_mem))
        · repeat (walk_at "wstep")
          rename Fr _ _ _ _ => F9
          rename News _ _ _ _ => N9
          exact cutm 5 _ _ _ _ _ _ _ _ _ (by rfl) (by decide) (⟨_, rfl⟩) (.cons (by rfl) (.cons (by rfl) (.cons (by rfl) (.cons (by rfl) (.cons (by rfl) (.cons (by rfl) (.cons (by rfl) .nil))))))) F9 (news_two N9 (by k_mem) (by k_mem))
        · repeat (walk_at "wstep")
          rename Fr _ _ _ _ => F9
          rename News _ _ _ _ => N9
          exact cutm 6 _ _ _ _ _ _ _ _ _ (by rfl) (by decide) (⟨_, rfl⟩) (.cons (by rfl) (.cons (by rfl) (.cons (by rfl) (.cons (by rfl) (.cons (by rfl) (.cons (by rfl) (.cons (by rfl) .nil))))))) F9 (news_two N9 (by k_mem) (by k_mem))
        · repeat (walk_at "wstep")
          rename Fr _ _ _ _ => F9
          rename News _ _ _ _ => N9
          exact cutm 7 _ _ _ _ _ _ _ _ _ (by rfl) (by decide) (⟨_, rfl⟩) (.cons (by rfl) (.cons (by rfl) (.cons (by rfl) (.cons (by rfl) (.cons (by rfl) (.cons (by rfl) (.cons (by rfl) .nil))))))) F9 (news_two N9 (by k_mem) (by k_mem))
      clear F2 N2
      intro k lv h3 tk3 m3 td tc tf tch tv hdk hk8 hlv hK3 F3 N3
      replace F3 := hK3.fr0 F3
      dsimp only [bindF] at F3
      clear hK3
      k_unmd
      k_unfold
      dsimp only
      walk_at "to store"
      refine gen_int (P := fun X => ∃ n : Nat, X = n ∧ (n : Int) = 17 + 2 * microVersion k) (micro_size hk8) ?_
      rintro _ ⟨n, rfl, hn⟩
      walk_at "kstep"
      walk_at "to store"
      refine gen_int (P := fun X => ∃ mk : Nat, X = mk ∧ mk < 4) (mask4 ch) ?_
      rintro _ ⟨mk, rfl, hmk⟩
      walk_at "kstep"
      walk_at "to store"
      refine gen_int (P := fun X => X = ((4 * k + mk : Nat) : Int)) (by omega) ?_
      rintro _ rfl
      walk_at "kstep"
      repeat ((fail_if_success (with_reducible show wpAny _ _ (eval (Expr.ListComp _ _ _ _) _) _ _ _)); walk_at "wstep")
      rename Fr _ _ _ _ => F5
      rename News _ _ _ _ => N5
      rename Obj => o5
      rename o5.data = _ => d5
      replace N5 : News s1.heap s1.heap.objs.size _ ((s1.heap.objs.size + 1, o5) :: ([] ++ [(ln, listOf vsn.toArray c)])) := news_two N5 (by k_mem) (by k_mem)
      k_unmd
      refine' ListComp_R F5 ?hclos ?hcell ?hkind ?hnames ?hx ?_ ?hs
      case hclos => with_unfolding_all rfl
      case hcell => decide
      case hkind => with_unfolding_all rfl
      case hnames => decide
      case hx => with_unfolding_all rfl
      case hs => intro _; with_unfolding_all rfl
      repeat (walk_at "wstep")
      rename Fr _ _ _ _ => F6
      rename News _ _ _ _ => N6
      rename IsRange _ _ _ _ _ _ _ _ => R6
      refine ⟨_, _, _, _, _, _, _, 8, _, rfl, rfl, F6, N6, R6, small_one (by decide) (by decide) (by decide) (by decide), by decide, by rw [sizeLine_eq]; decide, ?_⟩
      intro g6
      refine compRest_inv 8 (SpJ (s1.heap.objs.size + 1, o5) [(ln, listOf vsn.toArray c)] fun i => (8, 1 + i)) ?cturn ?cfin _ 0 [] _ (by omega) SpJ.start
      case cturn =>
        clear F6 N6 R6
        rintro i' ys news vI I oI C oC D4 m₆ h6 tk6 E6 hi6 ⟨rows, rfl, hS⟩ hP hN6 hx6 F6 N6 off6 ne6
        obtain ⟨ti, rfl⟩ := hP
        repeat ((fail_if_success (with_reducible show wpAny _ _ (newTuple _) _ _ _)); walk_at "wstep")
        refine kup_newTuple F6 N6 ?_ (by rw [sizeLine_eq]; exact Nat.le_of_ble_eq_true rfl)
        intro T h16 F16 N16 lt16
        refine spot_endJ F16 N16 lt16 off6 hS (tup_obj rfl ?_)
        show (1 : Int) + (i' : Int) * 1 = ((1 + i' : Nat) : Int)
        omega
      case cfin =>
        clear F6 N6 R6
        rintro ys1 news ⟨rows1, rfl, hS1⟩ D1 h7 tk7 F7 N7 off7
        dsimp only
        repeat ((fail_if_success (with_reducible show wpAny _ _ (eval (Expr.ListComp _ _ _ _) _) _ _ _)); walk_at "wstep")
        replace N7 : News s1.heap s1.heap.objs.size _ ((s1.heap.objs.size + 1, o5) :: ([] ++ (D1, LCg.lst ys1) :: (rows1 ++ [(ln, listOf vsn.toArray c)]))) := news_swap N7
        k_unmd
        refine' ListComp_R F7 ?hclos ?hcell ?hkind ?hnames ?hx ?_ ?hs
        case hclos => with_unfolding_all rfl
        case hcell => decide
        case hkind => with_unfolding_all rfl
        case hnames => decide
        case hx => with_unfolding_all rfl
        case hs => intro _; with_unfolding_all rfl
        repeat (walk_at "wstep")
        rename Fr _ _ _ _ => F6
        rename News _ _ _ _ => N6
        rename IsRange _ _ _ _ _ _ _ _ => R6
        refine ⟨_, _, _, _, _, _, _, 7, _, rfl, rfl, F6, N6, R6, small_down (by decide) (by decide) (by decide) (by decide), by decide, by rw [sizeLine_eq]; decide, ?_⟩
        intro g6
        refine compRest_inv 7 (SpJ (s1.heap.objs.size + 1, o5) ((D1, LCg.lst ys1) :: (rows1 ++ [(ln, listOf vsn.toArray c)])) fun i => (7 - i, 8)) ?cturn ?cfin _ 0 [] _ (by omega) SpJ.start
        case cturn =>
          clear F6 N6 R6
          rintro i' ys news vI I oI C oC D4 m₆ h6 tk6 E6 hi6 ⟨rows, rfl, hS⟩ hP hN6 hx6 F6 N6 off6 ne6
          obtain ⟨ti, rfl⟩ := hP
          repeat ((fail_if_success (with_reducible show wpAny _ _ (newTuple _) _ _ _)); walk_at "wstep")
          refine kup_newTuple F6 N6 ?_ (by rw [sizeLine_eq]; exact Nat.le_of_ble_eq_true rfl)
          intro T h16 F16 N16 lt16
          refine spot_endJ F16 N16 lt16 off6 hS (tup_obj ?_ rfl)
          show (7 : Int) + (i' : Int) * -1 = ((7 - i' : Nat) : Int)
          omega
        case cfin =>
          clear F6 N6 R6
          rintro ys2 news ⟨rows2, rfl, hS2⟩ D2 h8 tk8 F8 N8 off8
          dsimp only
          repeat ((fail_if_success (with_reducible show wpAny _ _ (binaryOp _ _ _) _ _ _)); walk_at "wstep")
          refine kmk_add_lit F8 N8 (list_in N8 (.tail _ (.tail _ (List.mem_append_right _ (.head _))))) (list_in N8 (.head _)) rfl ?_ ?hz
          case hz => rw [sizeLine_eq, List.toList_toArray, List.toList_toArray, hS1.tup.1, hS2.tup.1]; simp
          intro D3 h9 F9 N9 l9
          obtain ⟨ro9, N10, hne9, hln9, hsp9, hls9⟩ : ∃ ro : List (Addr × Obj), News s1.heap s1.heap.objs.size h9 ((s1.heap.objs.size + 1, o5) :: ro) ∧ (∀ q ∈ ro, q.1 ≠ s1.heap.objs.size + 1) ∧ (ln, listOf vsn.toArray c) ∈ ro ∧ TupsIn ro (ys1 ++ ys2) ((List.range 8).map (fun i => (8, 1 + i)) ++ (List.range 7).map fun i => (7 - i, 8)) ∧ (D3, listOf (ys1 ++ ys2).toArray 0) ∈ ro := by
            refine ⟨(D3, listOf (ys1 ++ ys2).toArray 0) :: (D2, LCg.lst ys2) :: (rows2 ++ (D1, LCg.lst ys1) :: (rows1 ++ [(ln, listOf vsn.toArray c)])), ?_, ?_, ?_, ?_, .head _⟩
            · exact news_third N9
            · have e8 := off1_mem off8
              have e7 := off1_mem off7
              intro q hq
              rcases List.mem_cons.mp hq with rfl | hq
              · exact Nat.ne_of_gt (l9 (s1.heap.objs.size + 1, o5) (.tail _ (.head _)))
              rcases List.mem_cons.mp hq with rfl | hq
              · exact Ne.symm (e8 _ (.head _))
              rcases List.mem_append.mp hq with hq | hq
              · exact hS2.off q hq _ (.head _)
              rcases List.mem_cons.mp hq with rfl | hq
              · exact Ne.symm (e7 _ (.head _))
              rcases List.mem_append.mp hq with hq | hq
              · exact hS1.off q hq _ (.head _)
              · rw [List.mem_singleton.mp hq]; exact Nat.ne_of_gt hln
            · exact .tail _ (.tail _ (List.mem_append_right _ (.tail _ (List.mem_append_right _ (.head _)))))
            · exact tups_app (hS1.tup.mono fun q hq => .tail _ (.tail _ (List.mem_append_right _ (.tail _ (List.mem_append_left _ hq))))) (hS2.tup.mono fun q hq => .tail _ (.tail _ (List.mem_append_left _ hq)))
          clear N9 N8 F8
          repeat ((fail_if_success (with_reducible show wpAny _ _ (exec (Stmt.Assign _ _ _) _) _ _ _)); walk_at "wstep")
          rename Fr _ _ _ _ => F10
          rename News _ _ _ _ => N10
          k_unmd
          refine' LCg.Assign_ListComp_U F10 ?hL ?hsw ?hclos ?hcell ?hkind ?hnames ?hx ?hy ?hp ?_ ?hs
          case hL => with_unfolding_all rfl
          case hsw => with_unfolding_all rfl
          case hclos => with_unfolding_all rfl
          case hcell => decide
          case hkind => with_unfolding_all rfl
          case hnames => decide
          case hx => with_unfolding_all rfl
          case hy => with_unfolding_all rfl
          case hp => with_unfolding_all rfl
          case hs => intro _; with_unfolding_all rfl
          walk_at "to call"
          refine code_call (D := 1335) (R := 10) (P := 5) (cl := cellsFrom (s1.heap.objs.size + 1) _ []) K0 (by assumption) KX N10 T rfl (by decide) (by decide) (by decide) ?_
          intro lw vsw cw h12 tk12 hIw F12 N12 hlw
          repeat (walk_at "wstep")
          have hlen : vsw.length = 32 := by rw [hIw.length, natInts, List.length_map, codeW_len]
          refine LCg.CompSrc.ledger rfl F12 N12 (.head _) (by rw [List.size_toArray, hlen, sizeLine_eq]; decide) ?_
          intro g13
          refine compRest_inv vsw.toArray.size (fun i ys news => news = (lw, listOf vsw.toArray cw) :: (s1.heap.objs.size + 1, o5) :: ro9 ∧ IntsAre ys (((natInts (codeW 1335 10 5)).take i).map fun o => Builtin.bitXor o 17477)) ?cturn ?cfin _ 0 [] _ (by omega) ⟨rfl, .nil⟩
          case cturn =>
            clear F12 N12 F10
            rintro i' ys news v I oI C oC D' m₆ h6 tk6 E6 hi6 ⟨rfl, hys⟩ hP hN6 hx6 F6 N6 off6 ne6
            have hi7 : i' < (codeW 1335 10 5).length := by
              have := hIw.length
              simp only [natInts, List.length_map] at this
              simpa [this] using hi6
            obtain ⟨tv, htv⟩ := hIw.get i' (((codeW 1335 10 5)[i'] : Nat) : Int) (by simp [natInts, hi7])
            have hv : v = .int (((codeW 1335 10 5)[i'] : Nat) : Int) tv := by
              have hP' : vsw[i']? = some v := by simpa using hP
              rw [htv] at hP'; exact (Option.some.inj hP').symm
            subst hv
            repeat (walk_at "kstep")
            refine LCg.CompEnd.intro F6 N6 _ (fun _ hp => hp) off6 ?_ ⟨rfl, ?_⟩
            · exact .inr ⟨_, .head _, rfl, _, rfl⟩
            · have e7 : ((natInts (codeW 1335 10 5)).take (i' + 1)).map (fun o => Builtin.bitXor o 17477) = ((natInts (codeW 1335 10 5)).take i').map (fun o => Builtin.bitXor o 17477) ++ [Builtin.bitXor (((codeW 1335 10 5)[i'] : Nat) : Int) 17477] := by
                rw [List.take_add_one]
                simp [natInts, hi7]
              rw [e7]
              exact intsAre_push hys _ _
          case cfin =>
            clear F12 N12 F10
            rintro ys news ⟨rfl, hys⟩ D' h14 tk14 F14 N14 off14
            have hws := words_are (K := 17477) hlen hIw hys
            have off15 := off1_mem off14
            dsimp only
            repeat (walk_at "wstep")
            have hne15 : ∀ q ∈ (D', LCg.lst ys) :: (lw, listOf vsw.toArray cw) :: ro9, q.1 ≠ s1.heap.objs.size + 1 := by
              intro q hq
              rcases List.mem_cons.mp hq with rfl | hq
              · exact Ne.symm (off15 _ (.tail _ (.head _)))
              rcases List.mem_cons.mp hq with rfl | hq
              · exact hlw _ (.head _)
              · exact hne9 q hq
            exact cut2 (microVersion k) lv n mk (4 * k + mk) (FIM.getD (4 * k + mk) 0) ((List.range 8).map (fun i => (8, 1 + i)) ++ (List.range 7).map fun i => (7 - i, 8)) (wsX 17477) D3 D' (ys1 ++ ys2) ys 0 ys.length o5 ((D', LCg.lst ys) :: (lw, listOf vsw.toArray cw) :: ro9) _ _ _ _ _ _ _ _ _ _ (head_micro hk8 hmk hdk hn) (cfi_micro hk8 hlv hmk) hsp9.tail.tail (.tail _ (.tail _ hls9)) (.head _) hws (.tail _ (.tail _ hln9)) hne15 d5 (.cons (by rfl) (.cons (by rfl) (.cons (by rfl) (.cons (by rfl) (.cons (by rfl) (.cons (by rfl) (.cons (by rfl) (.cons (by rfl) (.cons (by rfl) (.cons (by rfl) .nil)))))))))) F14 (news_third' N14)
    · obtain ⟨dn, rfl⟩ := Int.eq_ofNat_of_zero_le hd48.1
      have hdn : dn < 40 := by omega
      walk_at "to store"
      refine gen_int (P := fun X => X = ((dn + 1 : Nat) : Int)) (by omega) ?_
      rintro _ rfl
      walk_at "kstep"
      walk_at "to store"
      refine gen_int (P := fun X => ∃ n : Nat, X = n ∧ n = 17 + 4 * (dn + 1)) ⟨17 + 4 * (dn + 1), by omega, rfl⟩ ?_
      rintro _ ⟨n, rfl, hn⟩
      walk_at "kstep"
      walk_at "to store"
      refine gen_int (P := fun X => ∃ mk : Nat, X = mk ∧ mk < 8) (mask8 ch) ?_
      rintro _ ⟨mk, rfl, hmk⟩
      walk_at "kstep"
      walk_at "to store"
      refine gen_int (P := fun X => ∃ mk : Nat, X = mk ∧ mk < 4) (mask4 _) ?_
      rintro _ ⟨e, rfl, he⟩
      repeat ((fail_if_success (with_reducible show wpAny _ _ (exec (Stmt.Assign _ _ _) _) _ _ _)); walk_at "wstep")
      k_fold
      rename Obj => o5
      rename o5.data = _ => d5
      suffices cute : ∀ (td tc tf tv tm tdu tle : Tok) (h' : Heap) (tk' : Nat) (m' : Str → Option Value),
          Knows m' [(Str.ofString "numbers", .ref ln), (Str.ofString "drawn", .int (dn : Int) td), (Str.ofString "copy", .int cp tc), (Str.ofString "flips", .int f tf), (Str.ofString "version", .int ((dn + 1 : Nat) : Int) tv), (Str.ofString "mask", .int mk tm), (Str.ofString "kind", .int e tdu), (Str.ofString "level", .int e tle)] →
          Fr s1.heap s1.heap.objs.size h' m' → News s1.heap s1.heap.objs.size h' [(ln, listOf vsn.toArray c), (s1.heap.objs.size + 1, o5)] → qk .next { s1 with heap := h', toks := tk' } by
        clear_value qk
        repeat ((fail_if_success (with_reducible show wpAny _ _ (subscriptTail _ _ (Value.ref _) _) _ _ _)); walk_at "wstep")
        have he4 : e = 0 ∨ e = 1 ∨ e = 2 ∨ e = 3 := by omega
        rcases he4 with rfl | rfl | rfl | rfl
        · repeat (walk_at "wstep")
          rename Fr _ _ _ _ => F9
          rename News _ _ _ _ => N9
          exact cute _ _ _ _ _ _ _ _ _ _ (.cons (by rfl) (.cons (by rfl) (.cons (by rfl) (.cons (by rfl) (.cons (by rfl) (.cons (by rfl) (.cons (by rfl) (.cons (by rfl) .nil)))))))) F9 (news_two N9 (by k_mem) (by k_mem))
        · repeat (walk_at "wstep")
          rename Fr _ _ _ _ => F9
          rename News _ _ _ _ => N9
          exact cute _ _ _ _ _ _ _ _ _ _ (.cons (by rfl) (.cons (by rfl) (.cons (by rfl) (.cons (by rfl) (.cons (by rfl) (.cons (by rfl) (.cons (by rfl) (.cons (by rfl) .nil)))))))) F9 (news_two N9 (by k_mem) (by k_mem))
        · repeat (walk_at "wstep")
          rename Fr _ _ _ _ => F9
          rename News _ _ _ _ => N9
          exact cute _ _ _ _ _ _ _ _ _ _ (.cons (by rfl) (.cons (by rfl) (.cons (by rfl) (.cons (by rfl) (.cons (by rfl) (.cons (by rfl) (.cons (by rfl) (.cons (by rfl) .nil)))))))) F9 (news_two N9 (by k_mem) (by k_mem))
        · repeat (walk_at "wstep")
          rename Fr _ _ _ _ => F9
          rename News _ _ _ _ => N9
          exact cute _ _ _ _ _ _ _ _ _ _ (.cons (by rfl) (.cons (by rfl) (.cons (by rfl) (.cons (by rfl) (.cons (by rfl) (.cons (by rfl) (.cons (by rfl) (.cons (by rfl) .nil)))))))) F9 (news_two N9 (by k_mem) (by k_mem))
      intro td tc tf tv tm tdu tle h3 tk3 m3 hK3 F3 N3
      replace F3 := hK3.fr0 F3
      dsimp only [bindF] at F3
      clear hK3
      k_unmd
      k_unfold
      dsimp only
      walk_at "to store"
      refine gen_int (P := fun X => X = ((8 * e + mk : Nat) : Int)) (by omega) ?_
      rintro _ rfl
      walk_at "to if"
      k_fold
      rename Fr _ _ _ _ => F4
      rename News _ _ _ _ => N4
      suffices cuts : ∀ (sp : List (Nat × Nat)) (D3 : Addr) (vss : List Value) (ro9 : List (Addr × Obj)) (h' : Heap) (tk' : Nat) (m' : Str → Option Value) (td tc tf tv tm tdu tle : Tok),
          Head (dn : Int) ((dn + 1 : Nat) : Int) n (8 * e + mk) (FI.getD (8 * kindOfLevel e + mk) 0) sp (wsX 21522) →
          Knows m' [(Str.ofString "numbers", .ref ln), (Str.ofString "drawn", .int (dn : Int) td), (Str.ofString "copy", .int cp tc), (Str.ofString "flips", .int f tf), (Str.ofString "version", .int ((dn + 1 : Nat) : Int) tv), (Str.ofString "mask", .int mk tm), (Str.ofString "level", .int e tle), (Str.ofString "due", .int ((8 * e + mk : Nat) : Int) tdu), (Str.ofString "spots", .ref D3)] →
          Fr s1.heap s1.heap.objs.size h' m' → News s1.heap s1.heap.objs.size h' ((s1.heap.objs.size + 1, o5) :: ro9) → (∀ q ∈ ro9, q.1 ≠ s1.heap.objs.size + 1) → (ln, listOf vsn.toArray c) ∈ ro9 → TupsIn ro9 vss sp → (D3, listOf vss.toArray 0) ∈ ro9 → qk .next { s1 with heap := h', toks := tk' } by
        clear_value qk
        repeat ((fail_if_success (with_reducible show wpAny _ _ (eval (Expr.ListComp _ _ _ _) _) _ _ _)); walk_at "wstep")
        · replace N4 : News s1.heap s1.heap.objs.size _ [(s1.heap.objs.size + 1, o5), (ln, listOf vsn.toArray c)] := news_swap N4
          k_unmd
          refine' LCg.ListComp_U F4 ?hclos ?hcell ?hkind ?hnames ?hx ?_ ?hs
          case hclos => with_unfolding_all rfl
          case hcell => decide
          case hkind => with_unfolding_all rfl
          case hnames => decide
          case hx => with_unfolding_all rfl
          case hs => intro _; with_unfolding_all rfl
          repeat ((fail_if_success (with_reducible show LCg.CompSrc _ _ _ _ _ _ _ _ _ _ _ _ _ _)); walk_at "wstep")
          rename Fr _ _ _ _ => F6
          rename News _ _ _ _ => N6
          rename (_ < _ ∧ _ < _) => l6
          refine LCg.CompSrc.ledger rfl F6 (news_swap N6) (.tail _ (.head _)) (by rw [sizeLine_eq]; exact Nat.le_of_ble_eq_true rfl) ?_
          intro g6
          refine compRest_inv 8 (SpJ _ _ fun i => (8, [0, 1, 2, 3, 4, 5, 7, 8].getD i 0)) ?cturn ?cfin _ 0 [] _ (by rfl) SpJ.start
          case cturn =>
            clear F6 N6
            rintro i' ys news v I oI C oC D4 m₆ h6 tk6 E6 hi6 ⟨rows, rfl, hS⟩ hP hN6 hx6 F6 N6 off6 ne6
            obtain ⟨ti, rfl⟩ := ints_at (ns := natInts [0, 1, 2, 3, 4, 5, 7, 8]) (.cons 0 _ (.cons 1 _ (.cons 2 _ (.cons 3 _ (.cons 4 _ (.cons 5 _ (.cons 7 _ (.cons 8 _ .nil)))))))) hP
            repeat ((fail_if_success (with_reducible show wpAny _ _ (newTuple _) _ _ _)); walk_at "wstep")
            refine kup_newTuple F6 N6 ?_ (by rw [sizeLine_eq]; exact Nat.le_of_ble_eq_true rfl)
            intro T h16 F16 N16 lt16
            exact compEnd_src (spot_endJ F16 N16 lt16 off6 hS (tup_obj rfl (natInts_get _ _))) (fun y news' h => .inr ⟨_, h.src (.head _), rfl, _, rfl⟩)
          case cfin =>
            clear F6 N6
            rintro ys1 news ⟨rows1, rfl, hS1⟩ D1 h7 tk7 F7 N7 off7
            dsimp only
            repeat ((fail_if_success (with_reducible show wpAny _ _ (eval (Expr.ListComp _ _ _ _) _) _ _ _)); walk_at "wstep")
            k_unmd
            refine' LCg.ListComp_U F7 ?hclos ?hcell ?hkind ?hnames ?hx ?_ ?hs
            case hclos => with_unfolding_all rfl
            case hcell => decide
            case hkind => with_unfolding_all rfl
            case hnames => decide
            case hx => with_unfolding_all rfl
            case hs => intro _; with_unfolding_all rfl
            repeat ((fail_if_success (with_reducible show LCg.CompSrc _ _ _ _ _ _ _ _ _ _ _ _ _ _)); walk_at "wstep")
            rename Fr _ _ _ _ => F6
            rename News _ _ _ _ => N6
            rename (_ < _ ∧ _ < _ ∧ AllLt _ _) => l8
            refine LCg.CompSrc.ledger rfl F6 (news_third N6) (.tail _ (.head _)) (by rw [sizeLine_eq]; exact Nat.le_of_ble_eq_true rfl) ?_
            intro g8
            refine compRest_inv 7 (SpJ _ _ fun i => ([7, 5, 4, 3, 2, 1, 0].getD i 0, 8)) ?cturn ?cfin _ 0 [] _ (by rfl) SpJ.start
            case cturn =>
              clear F6 N6
              rintro i' ys news v I oI C oC D4 m₆ h6 tk6 E6 hi6 ⟨rows, rfl, hS⟩ hP hN6 hx6 F6 N6 off6 ne6
              obtain ⟨ti, rfl⟩ := ints_at (ns := natInts [7, 5, 4, 3, 2, 1, 0]) (.cons 7 _ (.cons 5 _ (.cons 4 _ (.cons 3 _ (.cons 2 _ (.cons 1 _ (.cons 0 _ .nil))))))) hP
              repeat ((fail_if_success (with_reducible show wpAny _ _ (newTuple _) _ _ _)); walk_at "wstep")
              refine kup_newTuple F6 N6 ?_ (by rw [sizeLine_eq]; exact Nat.le_of_ble_eq_true rfl)
              intro T h16 F16 N16 lt16
              exact compEnd_src (spot_endJ F16 N16 lt16 off6 hS (tup_obj (natInts_get _ _) rfl)) (fun y news' h => .inr ⟨_, h.src (.head _), rfl, _, rfl⟩)
            case cfin =>
              clear F6 N6
              rintro ys2 news ⟨rows2, rfl, hS2⟩ D2 h8 tk8 F8 N8 off8
              dsimp only
              repeat ((fail_if_success (with_reducible show wpAny _ _ (binaryOp _ _ _) _ _ _)); walk_at "wstep")
              refine kmk_add_lit F8 N8 (list_in N8 (.tail _ (.tail _ (List.mem_append_right _ (.tail _ (.head _)))))) (list_in N8 (.head _)) rfl ?_ ?hz
              case hz => rw [sizeLine_eq, List.toList_toArray, List.toList_toArray, hS1.tup.1, hS2.tup.1]; simp
              intro D3 h9 F9 N9 l9
              have hx9 : ∃ ro : List (Addr × Obj), News s1.heap s1.heap.objs.size h9 ((s1.heap.objs.size + 1, o5) :: ro) ∧ (∀ q ∈ ro, q.1 ≠ s1.heap.objs.size + 1) ∧ (ln, listOf vsn.toArray c) ∈ ro ∧ TupsIn ro (ys1 ++ ys2) ((List.range 8).map (fun i => (8, [0, 1, 2, 3, 4, 5, 7, 8].getD i 0)) ++ (List.range 7).map fun i => ([7, 5, 4, 3, 2, 1, 0].getD i 0, 8)) ∧ (D3, listOf (ys1 ++ ys2).toArray 0) ∈ ro := by
                refine ⟨_, news_third N9, ?_, ?_, ?_, .head _⟩
                · have e8 := off1_mem off8
                  have e7 := off1_mem off7
                  intro q hq
                  rcases List.mem_cons.mp hq with rfl | hq
                  · exact Nat.ne_of_gt (l9 (s1.heap.objs.size + 1, o5) (.tail _ (.head _)))
                  rcases List.mem_cons.mp hq with rfl | hq
                  · exact Ne.symm (e8 _ (.head _))
                  rcases List.mem_append.mp hq with hq | hq
                  · exact hS2.off q hq _ (.head _)
                  rcases List.mem_cons.mp hq with rfl | hq
                  · exact Nat.ne_of_gt l8.2.1
                  rcases List.mem_cons.mp hq with rfl | hq
                  · exact Ne.symm (e7 _ (.head _))
                  rcases List.mem_append.mp hq with hq | hq
                  · exact hS1.off q hq _ (.head _)
                  rcases List.mem_cons.mp hq with rfl | hq
                  · exact Nat.ne_of_gt l6.1
                  · rw [List.mem_singleton.mp hq]; exact Nat.ne_of_gt hln
                · exact .tail _ (.tail _ (List.mem_append_right _ (.tail _ (.tail _ (List.mem_append_right _ (.tail _ (.head _)))))))
                · exact tups_app (hS1.tup.mono fun q hq => .tail _ (.tail _ (List.mem_append_right _ (.tail _ (.tail _ (List.mem_append_left _ hq)))))) (hS2.tup.mono fun q hq => .tail _ (.tail _ (List.mem_append_left _ hq)))
              obtain ⟨ro9, N10, hne9, hln9, hsp9, hls9⟩ := hx9
              clear N9 N8 F8
              repeat (walk_at "wstep")
              rename Fr _ _ _ _ => F11
              rename News _ _ _ _ => N11
              exact cuts _ D3 (ys1 ++ ys2) ro9 _ _ _ _ _ _ _ _ _ _ (head_qr0 hdn he hmk hn) (.cons (by rfl) (.cons (by rfl) (.cons (by rfl) (.cons (by rfl) (.cons (by rfl) (.cons (by rfl) (.cons (by rfl) (.cons (by rfl) (.cons (by rfl) .nil))))))))) F11 N11 hne9 hln9 hsp9 hls9
        · repeat ((fail_if_success (with_reducible show wpAny _ _ (eval (Expr.ListComp _ _ _ _) _) _ _ _)); walk_at "wstep")
          replace N4 : News s1.heap s1.heap.objs.size _ ((s1.heap.objs.size + 1, o5) :: ([] ++ [(ln, listOf vsn.toArray c)])) := news_swap N4
          k_unmd
          refine' ListComp_R F4 ?hclos ?hcell ?hkind ?hnames ?hx ?_ ?hs
          case hclos => with_unfolding_all rfl
          case hcell => decide
          case hkind => with_unfolding_all rfl
          case hnames => decide
          case hx => with_unfolding_all rfl
          case hs => intro _; with_unfolding_all rfl
          repeat (walk_at "wstep")
          rename Fr _ _ _ _ => F6
          rename News _ _ _ _ => N6
          rename IsRange _ _ _ _ _ _ _ _ => R6
          refine ⟨_, _, _, _, _, _, _, 7, _, rfl, rfl, F6, N6, R6, small_one (by decide) (by decide) (by decide) (by decide), by decide, by rw [sizeLine_eq]; decide, ?_⟩
          intro g6
          refine compRest_inv 7 (SpJ (s1.heap.objs.size + 1, o5) [(ln, listOf vsn.toArray c)] fun i => (n - 1 - i, 8)) ?cturn ?cfin _ 0 [] _ (by omega) SpJ.start
          case cturn =>
            clear F6 N6 R6
            rintro i' ys news vI I oI C oC D4 m₆ h6 tk6 E6 hi6 ⟨rows, rfl, hS⟩ hP hN6 hx6 F6 N6 off6 ne6
            obtain ⟨ti, rfl⟩ := hP
            repeat ((fail_if_success (with_reducible show wpAny _ _ (newTuple _) _ _ _)); walk_at "wstep")
            refine kup_newTuple F6 N6 ?_ (by rw [sizeLine_eq]; exact Nat.le_of_ble_eq_true rfl)
            intro T h16 F16 N16 lt16
            refine spot_endJ F16 N16 lt16 off6 hS (tup_obj ?_ rfl)
            show (n : Int) - 1 - (0 + (i' : Int) * 1) = ((n - 1 - i' : Nat) : Int)
            omega
          case cfin =>
            clear F6 N6 R6
            rintro ys1 news ⟨rows1, rfl, hS1⟩ D1 h7 tk7 F7 N7 off7
            dsimp only
            repeat ((fail_if_success (with_reducible show wpAny _ _ (eval (Expr.ListComp _ _ _ _) _) _ _ _)); walk_at "wstep")
            replace N7 : News s1.heap s1.heap.objs.size _ ((s1.heap.objs.size + 1, o5) :: ([] ++ (D1, LCg.lst ys1) :: (rows1 ++ [(ln, listOf vsn.toArray c)]))) := news_swap N7
            k_unmd
            refine' ListComp_R F7 ?hclos ?hcell ?hkind ?hnames ?hx ?_ ?hs
            case hclos => with_unfolding_all rfl
            case hcell => decide
            case hkind => with_unfolding_all rfl
            case hnames => decide
            case hx => with_unfolding_all rfl
            case hs => intro _; with_unfolding_all rfl
            repeat (walk_at "wstep")
            rename Fr _ _ _ _ => F6
            rename News _ _ _ _ => N6
            rename IsRange _ _ _ _ _ _ _ _ => R6
            refine ⟨_, _, _, _, _, _, _, 8, _, rfl, rfl, F6, N6, R6, small_one (by decide) (by decide) (by decide) (by decide), by decide, by rw [sizeLine_eq]; decide, ?_⟩
            intro g6
            refine compRest_inv 8 (SpJ (s1.heap.objs.size + 1, o5) ((D1, LCg.lst ys1) :: (rows1 ++ [(ln, listOf vsn.toArray c)])) fun i => (8, n - 8 + i)) ?cturn ?cfin _ 0 [] _ (by omega) SpJ.start
            case cturn =>
              clear F6 N6 R6
              rintro i' ys news vI I oI C oC D4 m₆ h6 tk6 E6 hi6 ⟨rows, rfl, hS⟩ hP hN6 hx6 F6 N6 off6 ne6
              obtain ⟨ti, rfl⟩ := hP
              repeat ((fail_if_success (with_reducible show wpAny _ _ (newTuple _) _ _ _)); walk_at "wstep")
              refine kup_newTuple F6 N6 ?_ (by rw [sizeLine_eq]; exact Nat.le_of_ble_eq_true rfl)
              intro T h16 F16 N16 lt16
              refine spot_endJ F16 N16 lt16 off6 hS (tup_obj rfl ?_)
              show (n : Int) - 8 + (0 + (i' : Int) * 1) = ((n - 8 + i' : Nat) : Int)
              omega
            case cfin =>
              clear F6 N6 R6
              rintro ys2 news ⟨rows2, rfl, hS2⟩ D2 h8 tk8 F8 N8 off8
              dsimp only
              repeat ((fail_if_success (with_reducible show wpAny _ _ (binaryOp _ _ _) _ _ _)); walk_at "wstep")
              refine kmk_add_lit F8 N8 (list_in N8 (.tail _ (.tail _ (List.mem_append_right _ (.head _))))) (list_in N8 (.head _)) rfl ?_ ?hz
              case hz => rw [sizeLine_eq, List.toList_toArray, List.toList_toArray, hS1.tup.1, hS2.tup.1]; simp
              intro D3 h9 F9 N9 l9
              have hx9 : ∃ ro : List (Addr × Obj), News s1.heap s1.heap.objs.size h9 ((s1.heap.objs.size + 1, o5) :: ro) ∧ (∀ q ∈ ro, q.1 ≠ s1.heap.objs.size + 1) ∧ (ln, listOf vsn.toArray c) ∈ ro ∧ TupsIn ro (ys1 ++ ys2) ((List.range 7).map (fun i => (n - 1 - i, 8)) ++ (List.range 8).map fun i => (8, n - 8 + i)) ∧ (D3, listOf (ys1 ++ ys2).toArray 0) ∈ ro := by
                refine ⟨_, news_third N9, ?_, ?_, ?_, .head _⟩
                · have e8 := off1_mem off8
                  have e7 := off1_mem off7
                  intro q hq
                  rcases List.mem_cons.mp hq with rfl | hq
                  · exact Nat.ne_of_gt (l9 (s1.heap.objs.size + 1, o5) (.tail _ (.head _)))
                  rcases List.mem_cons.mp hq with rfl | hq
                  · exact Ne.symm (e8 _ (.head _))
                  rcases List.mem_append.mp hq with hq | hq
                  · exact hS2.off q hq _ (.head _)
                  rcases List.mem_cons.mp hq with rfl | hq
                  · exact Ne.symm (e7 _ (.head _))
                  rcases List.mem_append.mp hq with hq | hq
                  · exact hS1.off q hq _ (.head _)
                  · rw [List.mem_singleton.mp hq]; exact Nat.ne_of_gt hln
                · exact .tail _ (.tail _ (List.mem_append_right _ (.tail _ (List.mem_append_right _ (.head _)))))
                · exact tups_app (hS1.tup.mono fun q hq => .tail _ (.tail _ (List.mem_append_right _ (.tail _ (List.mem_append_left _ hq))))) (hS2.tup.mono fun q hq => .tail _ (.tail _ (List.mem_append_left _ hq)))
              obtain ⟨ro9, N10, hne9, hln9, hsp9, hls9⟩ := hx9
              clear N9 N8 F8
              repeat (walk_at "wstep")
              rename Fr _ _ _ _ => F11
              rename News _ _ _ _ => N11
              exact cuts _ D3 (ys1 ++ ys2) ro9 _ _ _ _ _ _ _ _ _ _ (head_qr1 hdn he hmk hn) (.cons (by rfl) (.cons (by rfl) (.cons (by rfl) (.cons (by rfl) (.cons (by rfl) (.cons (by rfl) (.cons (by rfl) (.cons (by rfl) (.cons (by rfl) .nil))))))))) F11 N11 hne9 hln9 hsp9 hls9
      clear F4 N4
      intro sp D3 vss ro9 h9 tk9 m9 td tc tf tv tm tdu tle HH hK9 F9 N9 hne9 hln9 hsp9 hls9
      replace F9 := hK9.fr0 F9
      dsimp only [bindF] at F9
      clear hK9
      k_unmd
      k_unfold
      dsimp only
      repeat ((fail_if_success (with_reducible show wpAny _ _ (exec (Stmt.Assign _ _ _) _) _ _ _)); walk_at "wstep")
      rename Fr _ _ _ _ => F10
      rename News _ _ _ _ => N10
      k_unmd
      refine' LCg.Assign_ListComp_U F10 ?hL ?hsw ?hclos ?hcell ?hkind ?hnames ?hx ?hy ?hp ?_ ?hs
      case hL => with_unfolding_all rfl
      case hsw => with_unfolding_all rfl
      case hclos => with_unfolding_all rfl
      case hcell => decide
      case hkind => with_unfolding_all rfl
      case hnames => decide
      case hx => with_unfolding_all rfl
      case hy => with_unfolding_all rfl
      case hp => with_unfolding_all rfl
      case hs => intro _; with_unfolding_all rfl
      walk_at "to call"
      refine code_call (D := 1335) (R := 10) (P := 5) (cl := cellsFrom (s1.heap.objs.size + 1) _ []) K0 (by assumption) KX N10 T rfl (by decide) (by decide) (by decide) ?_
      intro lw vsw cw h12 tk12 hIw F12 N12 hlw
      repeat (walk_at "wstep")
      have hlen : vsw.length = 32 := by rw [hIw.length, natInts, List.length_map, codeW_len]
      refine LCg.CompSrc.ledger rfl F12 N12 (.head _) (by rw [List.size_toArray, hlen, sizeLine_eq]; decide) ?_
      intro g13
      refine compRest_inv vsw.toArray.size (fun i ys news => news = (lw, listOf vsw.toArray cw) :: (s1.heap.objs.size + 1, o5) :: ro9 ∧ IntsAre ys (((natInts (codeW 1335 10 5)).take i).map fun o => Builtin.bitXor o 21522)) ?cturn ?cfin _ 0 [] _ (by omega) ⟨rfl, .nil⟩
      case cturn =>
        clear F12 N12 F10
        rintro i' ys news v I oI C oC D' m₆ h6 tk6 E6 hi6 ⟨rfl, hys⟩ hP hN6 hx6 F6 N6 off6 ne6
        have hi7 : i' < (codeW 1335 10 5).length := by
          have := hIw.length
          simp only [natInts, List.length_map] at this
          simpa [this] using hi6
        obtain ⟨tv, htv⟩ := hIw.get i' (((codeW 1335 10 5)[i'] : Nat) : Int) (by simp [natInts, hi7])
        have hv : v = .int (((codeW 1335 10 5)[i'] : Nat) : Int) tv := by
          have hP' : vsw[i']? = some v := by simpa using hP
          rw [htv] at hP'; exact (Option.some.inj hP').symm
        subst hv
        repeat (walk_at "kstep")
        refine LCg.CompEnd.intro F6 N6 _ (fun _ hp => hp) off6 ?_ ⟨rfl, ?_⟩
        · exact .inr ⟨_, .head _, rfl, _, rfl⟩
        · have e7 : ((natInts (codeW 1335 10 5)).take (i' + 1)).map (fun o => Builtin.bitXor o 21522) = ((natInts (codeW 1335 10 5)).take i').map (fun o => Builtin.bitXor o 21522) ++ [Builtin.bitXor (((codeW 1335 10 5)[i'] : Nat) : Int) 21522] := by
            rw [List.take_add_one]
            simp [natInts, hi7]
          rw [e7]
          exact intsAre_push hys _ _
      case cfin =>
        clear F12 N12 F10
        rintro ys news ⟨rfl, hys⟩ D' h14 tk14 F14 N14 off14
        have hws := words_are (K := 21522) hlen hIw hys
        have off15 := off1_mem off14
        dsimp only
        repeat (walk_at "wstep")
        have hne15 : ∀ q ∈ (D', LCg.lst ys) :: (lw, listOf vsw.toArray cw) :: ro9, q.1 ≠ s1.heap.objs.size + 1 := by
          intro q hq
          rcases List.mem_cons.mp hq with rfl | hq
          · exact Ne.symm (off15 _ (.tail _ (.head _)))
          rcases List.mem_cons.mp hq with rfl | hq
          · exact hlw _ (.head _)
          · exact hne9 q hq
        exact cut2 ((dn + 1 : Nat) : Int) (.int e tle) n mk (8 * e + mk) (FI.getD (8 * kindOfLevel e + mk) 0) sp (wsX 21522) D3 D' vss ys 0 ys.length o5 ((D', LCg.lst ys) :: (lw, listOf vsw.toArray cw) :: ro9) _ _ _ _ _ _ _ _ _ _ HH (cfi_qr (by omega) he hmk) hsp9.tail.tail (.tail _ (.tail _ hls9)) (.head _) hws (.tail _ (.tail _ hln9)) hne15 d5 (.cons (by rfl) (.cons (by rfl) (.cons (by rfl) (.cons (by rfl) (.cons (by rfl) (.cons (by rfl) (.cons (by rfl) (.cons (by rfl) (.cons (by rfl) (.cons (by rfl) .nil)))))))))) F14 (news_third' N14)
  clear F2 N2
  intro v lv n mk due fi sp ws lsp lw vss vsw c1 c2 oc' ro h3 tk3 m3 td tc tf tv tm tdu tn H hcfi hsp hlsp hlw hIw hln' hcell hoc' hK F3 N3
  replace F3 := hK.fr0 F3
  dsimp only [bindF] at F3
  k_unmd
  k_unfold
  dsimp only
  walk_at "kstep"
  repeat (walk_at "kstep")
  rename Fr _ _ _ _ => F4
  rename News _ _ _ _ => N4
  rename IsRange _ _ _ _ _ _ _ _ => R4
  rename (∀ b o, _ → _) => K4
  have hn177 := H.hi
  have hn11 := H.lo
  refine LCg.CompSrc.range (n := n) rfl F4 N4 R4 (small_one (by omega) (by omega) (by omega) (by omega)) (by unfold Builtin.Range.rangeSize; simp only [gt_iff_lt, if_true, Int.zero_lt_one]; split <;> omega) (by rw [sizeLine_eq]; omega) ?_
  intro g5
  refine compRest_inv n (fun i ys news => ∃ rowsL as, news = (s1.heap.objs.size + 1, oc') :: (rowsL ++ ro) ∧ ys = (List.range i).map (fun k => Value.ref (as k)) ∧ RowsAre rowsL ((s1.heap.objs.size + 1, oc') :: ro) as i n) ?cturn ?cfin _ 0 [] _ (by omega) ⟨[], fun _ => 0, rfl, rfl, .nil⟩
  case cturn =>
    clear F4 N4 R4 K4
    rintro i' ys news vI I oI C oC D' m₆ h6 tk6 E6 hi6 ⟨rowsL, as, rfl, rfl, hR⟩ hP hN6 hx6 F6 N6 off6 ne6
    obtain ⟨ti, rfl⟩ := hP
    iterate 7 (walk_at "kstep")
    rename Fr _ _ _ _ => F7
    rename News _ _ _ _ => N7
    refine mul_one_list F7 N7 (.head _) (by omega) ?_
    intro T7 h8 F8 N8 lt8
    have hTr : ∀ q ∈ rowsL, q.1 ≠ T7 := fun q hq => Nat.ne_of_lt (lt8 q (.tail _ (.tail _ (.tail _ (.tail _ (.tail _ (List.mem_append_left _ hq)))))))
    have hTo : ∀ q ∈ (s1.heap.objs.size + 1, oc') :: ro, q.1 ≠ T7 := fun q hq => by
      rcases List.mem_cons.mp hq with rfl | hq
      · exact Nat.ne_of_lt (lt8 _ (.tail _ (.tail _ (.tail _ (.tail _ (.head _))))))
      · exact Nat.ne_of_lt (lt8 q (.tail _ (.tail _ (.tail _ (.tail _ (.tail _ (List.mem_append_right _ hq)))))))
    refine LCg.CompEnd.intro F8 N8 ((s1.heap.objs.size + 1, oc') :: (((T7, listOf (List.replicate n (Value.int 0 tk6)).toArray 0) :: rowsL) ++ ro)) ?_ ?_ trivial ⟨(T7, listOf (List.replicate n (Value.int 0 tk6)).toArray 0) :: rowsL, _, rfl, map_refs, hR.snoc hTr hTo (LObj.list _ _) rep_row⟩
    · intro q hq
      rcases List.mem_cons.mp hq with rfl | hq
      · exact .tail _ (.tail _ (.head _))
      rcases List.mem_cons.mp hq with rfl | hq
      · exact .tail _ (.tail _ (.tail _ (.head _)))
      rcases List.mem_cons.mp hq with rfl | hq
      · exact .tail _ (.tail _ (.tail _ (.tail _ (.head _))))
      rcases List.mem_cons.mp hq with rfl | hq
      · exact .tail _ (.tail _ (.tail _ (.tail _ (.tail _ (.head _)))))
      rcases List.mem_cons.mp hq with rfl | hq
      · exact .head _
      · exact .tail _ (.tail _ (.tail _ (.tail _ (.tail _ (.tail _ hq)))))
    · refine LCg.Off3.of fun q hq => ?_
      have hold := LCg.Off3.mem off6
      rcases List.mem_cons.mp hq with rfl | hq
      · exact hold _ (.head _)
      rcases List.mem_cons.mp hq with rfl | hq
      · exact ⟨Nat.ne_of_gt (lt8 _ (.tail _ (.head _))), Nat.ne_of_gt (lt8 _ (.tail _ (.tail _ (.head _)))), Nat.ne_of_gt (lt8 _ (.tail _ (.tail _ (.tail _ (.head _)))))⟩
      · exact hold _ (.tail _ hq)
  case cfin =>
    clear F4 N4 R4 K4
    rintro ys news ⟨rowsL, as, rfl, rfl, hR⟩ D' h6 tk6 F6 N6 off6
    have hoff : ∀ q ∈ (s1.heap.objs.size + 1, oc') :: (rowsL ++ ro), q.1 ≠ D' := by
      intro q hq
      exact off1_mem off6 q hq
    have hP : Pic ((D', LCg.lst ((List.range n).map fun k => Value.ref (as k))) :: rowsL) D' n as fun _ _ => 0 := pic_of_rows hR (fun q hq => hoff q (.tail _ (List.mem_append_left _ hq))) ⟨rfl, _, rfl⟩
    obtain ⟨rw0, hrw⟩ : ∃ rw0, rw0 = (D', LCg.lst ((List.range n).map fun k => Value.ref (as k))) :: rowsL := ⟨_, rfl⟩
    obtain ⟨ro2, hro2⟩ : ∃ ro2, ro2 = (s1.heap.objs.size + 1, oc') :: ro := ⟨_, rfl⟩
    have hdd : ∀ q ∈ ro2, q.1 ∉ rw0.map (·.1) := by
      intro q hq hm
      rw [hrw, List.map_cons] at hm
      rw [hro2] at hq
      rcases List.mem_cons.mp hm with e | hm
      · refine hoff q ?_ e
        rcases List.mem_cons.mp hq with rfl | hq
        · exact .head _
        · exact .tail _ (List.mem_append_right _ hq)
      · obtain ⟨z, hz, e⟩ := List.mem_map.mp hm
        obtain ⟨k, hk, e2⟩ := hR.adr z hz
        exact hR.off q hq k hk (by rw [← e2]; exact e.symm)
    have N7 : News s1.heap s1.heap.objs.size h6 (rw0 ++ ro2) := fun q hq => N6 q (by
      rw [hrw, hro2] at hq
      rcases List.mem_append.mp hq with hq | hq
      · rcases List.mem_cons.mp hq with rfl | hq
        · exact .head _
        · exact .tail _ (.tail _ (List.mem_append_left _ hq))
      · rcases List.mem_cons.mp hq with rfl | hq
        · exact .tail _ (.head _)
        · exact .tail _ (.tail _ (List.mem_append_right _ hq)))
    rw [← hrw] at hP
    clear hR N6 off6 hoff hrw
    dsimp only
    walk_at "to call"
    refine afi_call (cl := cellsFrom (s1.heap.objs.size + 1) _ []) K0 (by assumption) KX N7 hdd T rfl hP hn11 hn177 (fun h => by have := H.size h; omega) hcfi ?_
    intro h7 tk7 rw7 P7 A7 F7 N7'
    have hdd7 : ∀ q ∈ ro2, q.1 ∉ rw7.map (·.1) := by rw [A7]; exact hdd
    clear F6 N7 hP
    walk_at "to call"
    refine avi_call (cl := cellsFrom (s1.heap.objs.size + 1) _ []) K0 (by assumption) KX N7' hdd7 T rfl P7 hn11 hn177 (fun h => by have := H.size (by omega); omega) H.ver ?_
    intro h8 tk8 rw8 P8 A8 F8 N8
    have hdd8 : ∀ q ∈ ro2, q.1 ∉ rw8.map (·.1) := by rw [A8]; exact hdd7
    clear F7 N7' P7
    replace P8 : Pic rw8 D' n as (headG v n fi) := P8
    have hcm : (s1.heap.objs.size + 1, oc') ∈ rw8 ++ ro2 := List.mem_append_right _ (by rw [hro2]; exact .head _)
    walk_at "to if"
    k_fold
    suffices cut3 : ∀ tk', qk .next { s1 with heap := h8, toks := tk' } by
      clear_value qk
      by_cases hd40 : d < 40
      · have hdk := H.dark hd40
        have hv1 : 1 ≤ v := H.one hd40
        have hnn := H.size hv1
        repeat ((fail_if_success (with_reducible show wpAny _ _ (subscriptTail _ _ (Value.ref _) _) _ _ _)); walk_at "wstep")
        refine pic_rowO N8 P8 (i := n - 8) ⟨by omega, .inl ⟨by omega, by omega, by omega⟩⟩ ?_
        repeat ((fail_if_success (with_reducible show wpAny _ _ (subscriptTail _ _ (Value.ref _) _) _ _ _)); walk_at "wstep")
        refine pic_cellO N8 P8 (by omega) (j := 8) ⟨by omega, .inl ⟨by decide, by decide, by decide⟩⟩ ?_
        intro tt
        rw [hdk]
        repeat' (walk_at "wstep")
        exact cut3 _
      · repeat' (walk_at "wstep")
        exact cut3 _
    intro tk9
    k_unmd
    k_unfold
    dsimp only
    walk_at "to call"
    have hspR : TupsIn ro2 vss sp := by rw [hro2]; exact hsp.tail
    have hlspR : (lsp, listOf vss.toArray c1) ∈ ro2 := by rw [hro2]; exact .tail _ hlsp
    have hlwR : (lw, listOf vsw.toArray c2) ∈ ro2 := by rw [hro2]; exact .tail _ hlw
    have hlnR : (ln, listOf vsn.toArray c) ∈ ro2 := by rw [hro2]; exact .tail _ hln'
    refine seen_call (cl := cellsFrom (s1.heap.objs.size + 1) _ []) K0 F8 KX N8 hdd8 T rfl P8 hn177 (headG_bits v n fi) hlspR hspR H.inn H.l18 H.l4 hlnR hIn hn0 hn12 hf3 ?_
    intro g1 ts h10 tk10 rw10 hFl P10 A10 F10 N10
    have hdd10 : ∀ q ∈ ro2, q.1 ∉ rw10.map (·.1) := by rw [A10]; exact hdd8
    clear F8 N8 P8
    have hnear := H.near f g1 hf3 hFl
    have hs0 := (seenUp_lt (hFl.bits (headG_bits v n fi)) sp).1
    obtain ⟨sn, hsn⟩ := Int.eq_ofNat_of_zero_le hs0
    rw [hsn] at hnear ⊢
    rw [Int.toNat_natCast, ← H.wlen] at hnear
    walk_at "to call"
    refine near_call (cl := cellsFrom (s1.heap.objs.size + 1) _ []) K0 F10 KX N10 T rfl (List.mem_append_right _ hlwR) hIw (by rw [H.wlen]; decide) ?_
    intro lN vsN cN h11 tk11 hIN F11 N11 hlN
    rw [hnear] at hIN
    clear F10 N10
    walk_at "to if"
    rename Fr _ _ _ _ => F12
    rename News _ _ _ _ => N12
    replace N12 : News s1.heap s1.heap.objs.size _ (rw10 ++ ro2) := fun q hq => N12 q (.tail _ (.tail _ hq))
    k_unmd
    k_fold
    by_cases hv6 : 6 < v
    · walk_at "kstep"
      walk_at "to if"
      k_fold
      suffices cut4 : ∀ (fq : Nat → Nat × Nat) (lsp2 : Addr) (vss2 : List Value) (c3 : Nat) (ro4 : List (Addr × Obj)) (h' : Heap) (tk' : Nat) (m' : Str → Option Value), VerSpots n fq → TupsIn ro4 vss2 ((List.range 18).map fq) → (lsp2, listOf vss2.toArray c3) ∈ ro4 → (ln, listOf vsn.toArray c) ∈ ro4 → (∀ q ∈ ro4, q.1 ∉ rw10.map (·.1)) →
          Knows m' [(Str.ofString "numbers", .ref ln), (Str.ofString "picture", .ref D'), (Str.ofString "flips", .int f tf), (Str.ofString "version", .int v tv), (Str.ofString "spots", .ref lsp2)] → Fr s1.heap s1.heap.objs.size h' m' → News s1.heap s1.heap.objs.size h' (rw10 ++ ro4) → qk .next { s1 with heap := h', toks := tk' } by
        clear_value qk
        have hro10 : ∀ q ∈ ro, q.1 ∉ rw10.map (·.1) := fun q hq => hdd10 q (by rw [hro2]; exact .tail _ hq)
        have hcell10 : s1.heap.objs.size + 1 ∉ rw10.map (·.1) := hdd10 (s1.heap.objs.size + 1, oc') (by rw [hro2]; exact .head _)
        repeat ((fail_if_success (with_reducible show wpAny _ _ (execs (Stmt.Assign _ _ _ :: _) _) _ _ _)); (fail_if_success (with_reducible show wpAny _ _ (exec (Stmt.Assign _ _ _) _) _ _ _)); walk_at "kstep")
        · repeat ((fail_if_success (with_reducible show wpAny _ _ (exec (Stmt.Assign _ _ _) _) _ _ _)); walk_at "wstep")
          rename Fr _ _ _ _ => F13
          rename News _ _ _ _ => N13
          replace N13 : News s1.heap s1.heap.objs.size _ ((s1.heap.objs.size + 1, oc') :: (rw10 ++ ro)) := fun q hq => N13 q (by
            rw [hro2]
            rcases List.mem_cons.mp hq with rfl | hq
            · exact List.mem_append_right _ (.head _)
            rcases List.mem_append.mp hq with hq | hq
            · exact List.mem_append_left _ hq
            · exact List.mem_append_right _ (.tail _ hq))
          k_unmd
          refine' Assign_ListComp_R F13 ?hL ?hsw ?hclos ?hcell ?hkind ?hnames ?hx ?hy ?hp ?_ ?hs
          case hL => with_unfolding_all rfl
          case hsw => with_unfolding_all rfl
          case hclos => with_unfolding_all rfl
          case hcell => decide
          case hkind => with_unfolding_all rfl
          case hnames => decide
          case hx => with_unfolding_all rfl
          case hy => with_unfolding_all rfl
          case hp => with_unfolding_all rfl
          case hs => intro _; with_unfolding_all rfl
          repeat (walk_at "wstep")
          rename Fr _ _ _ _ => F15
          rename News _ _ _ _ => N15
          rename IsRange _ _ _ _ _ _ _ _ => R15
          refine ⟨_, _, _, _, _, _, _, 18, _, rfl, rfl, F15, N15, R15, small_down (by decide) (by decide) (by decide) (by decide), by decide, by rw [sizeLine_eq]; decide, ?_⟩
          intro g15
          refine compRest_inv 18 (SpJ (s1.heap.objs.size + 1, oc') (rw10 ++ ro) fun i => (n - 11 + (17 - i) % 3, (17 - i) / 3)) ?cturn ?cfin _ 0 [] _ (by omega) SpJ.start
          case cturn =>
            clear F15 N15 R15
            rintro i' ys news vI I oI C oC D4 m₆ h6 tk6 E6 hi6 ⟨rows, rfl, hS⟩ hP hN6 hx6 F6 N6 off6 ne6
            obtain ⟨ti, rfl⟩ := hP
            have ei : (17 : Int) + (i' : Int) * -1 = ((17 - i' : Nat) : Int) := by omega
            rw [ei] at hx6
            repeat ((fail_if_success (with_reducible show wpAny _ _ (newTuple _) _ _ _)); walk_at "wstep")
            refine kup_newTuple F6 N6 ?_ (by rw [sizeLine_eq]; exact Nat.le_of_ble_eq_true rfl)
            intro T h16 F16 N16 lt16
            refine spot_endJ F16 N16 lt16 off6 hS (tup_obj ?_ ?_)
            · exact place_mod hn11 hi6
            · exact place_div hi6
          case cfin =>
            clear F15 N15 R15
            rintro ys news ⟨rows, rfl, hS⟩ D4 h6 tk6 F6 N6 off6
            have hofD := off1_mem off6
            dsimp only
            repeat (walk_at "wstep")
            refine cut4 _ D4 ys ys.length ((D4, LCg.lst ys) :: (s1.heap.objs.size + 1, oc') :: (rows ++ ro)) _ _ _ (.inl rfl) (hS.tup.mono fun q hq => .tail _ (.tail _ (List.mem_append_left _ hq))) (.head _) (.tail _ (.tail _ (List.mem_append_right _ hln'))) ?_ (.cons (by rfl) (.cons (by rfl) (.cons (by rfl) (.cons (by rfl) (.cons (by rfl) .nil))))) F6 ?_
            · intro q hq hm
              obtain ⟨z, hz, e⟩ := List.mem_map.mp hm
              rcases List.mem_cons.mp hq with rfl | hq
              · exact hofD z (.tail _ (List.mem_append_right _ (List.mem_append_left _ hz))) e
              rcases List.mem_cons.mp hq with rfl | hq
              · exact hcell10 hm
              rcases List.mem_append.mp hq with hq | hq
              · exact hS.off q hq z (.tail _ (List.mem_append_left _ hz)) e.symm
              · exact hro10 q hq hm
            · intro q hq
              rcases List.mem_append.mp hq with hq | hq
              · exact N6 q (.tail _ (.tail _ (List.mem_append_right _ (List.mem_append_left _ hq))))
              rcases List.mem_cons.mp hq with rfl | hq
              · exact N6 _ (.head _)
              rcases List.mem_cons.mp hq with rfl | hq
              · exact N6 _ (.tail _ (.head _))
              rcases List.mem_append.mp hq with hq | hq
              · exact N6 q (.tail _ (.tail _ (List.mem_append_left _ hq)))
              · exact N6 q (.tail _ (.tail _ (List.mem_append_right _ (List.mem_append_right _ hq))))
        · repeat ((fail_if_success (with_reducible show wpAny _ _ (exec (Stmt.Assign _ _ _) _) _ _ _)); walk_at "wstep")
          rename Fr _ _ _ _ => F13
          rename News _ _ _ _ => N13
          replace N13 : News s1.heap s1.heap.objs.size _ ((s1.heap.objs.size + 1, oc') :: (rw10 ++ ro)) := fun q hq => N13 q (by
            rw [hro2]
            rcases List.mem_cons.mp hq with rfl | hq
            · exact List.mem_append_right _ (.head _)
            rcases List.mem_append.mp hq with hq | hq
            · exact List.mem_append_left _ hq
            · exact List.mem_append_right _ (.tail _ hq))
          k_unmd
          refine' Assign_ListComp_R F13 ?hL ?hsw ?hclos ?hcell ?hkind ?hnames ?hx ?hy ?hp ?_ ?hs
          case hL => with_unfolding_all rfl
          case hsw => with_unfolding_all rfl
          case hclos => with_unfolding_all rfl
          case hcell => decide
          case hkind => with_unfolding_all rfl
          case hnames => decide
          case hx => with_unfolding_all rfl
          case hy => with_unfolding_all rfl
          case hp => with_unfolding_all rfl
          case hs => intro _; with_unfolding_all rfl
          repeat (walk_at "wstep")
          rename Fr _ _ _ _ => F15
          rename News _ _ _ _ => N15
          rename IsRange _ _ _ _ _ _ _ _ => R15
          refine ⟨_, _, _, _, _, _, _, 18, _, rfl, rfl, F15, N15, R15, small_down (by decide) (by decide) (by decide) (by decide), by decide, by rw [sizeLine_eq]; decide, ?_⟩
          intro g15
          refine compRest_inv 18 (SpJ (s1.heap.objs.size + 1, oc') (rw10 ++ ro) fun i => ((17 - i) / 3, n - 11 + (17 - i) % 3)) ?cturn ?cfin _ 0 [] _ (by omega) SpJ.start
          case cturn =>
            clear F15 N15 R15
            rintro i' ys news vI I oI C oC D4 m₆ h6 tk6 E6 hi6 ⟨rows, rfl, hS⟩ hP hN6 hx6 F6 N6 off6 ne6
            obtain ⟨ti, rfl⟩ := hP
            have ei : (17 : Int) + (i' : Int) * -1 = ((17 - i' : Nat) : Int) := by omega
            rw [ei] at hx6
            repeat ((fail_if_success (with_reducible show wpAny _ _ (newTuple _) _ _ _)); walk_at "wstep")
            refine kup_newTuple F6 N6 ?_ (by rw [sizeLine_eq]; exact Nat.le_of_ble_eq_true rfl)
            intro T h16 F16 N16 lt16
            refine spot_endJ F16 N16 lt16 off6 hS (tup_obj ?_ ?_)
            · exact place_div hi6
            · exact place_mod hn11 hi6
          case cfin =>
            clear F15 N15 R15
            rintro ys news ⟨rows, rfl, hS⟩ D4 h6 tk6 F6 N6 off6
            have hofD := off1_mem off6
            dsimp only
            repeat (walk_at "wstep")
            refine cut4 _ D4 ys ys.length ((D4, LCg.lst ys) :: (s1.heap.objs.size + 1, oc') :: (rows ++ ro)) _ _ _ (.inr rfl) (hS.tup.mono fun q hq => .tail _ (.tail _ (List.mem_append_left _ hq))) (.head _) (.tail _ (.tail _ (List.mem_append_right _ hln'))) ?_ (.cons (by rfl) (.cons (by rfl) (.cons (by rfl) (.cons (by rfl) (.cons (by rfl) .nil))))) F6 ?_
            · intro q hq hm
              obtain ⟨z, hz, e⟩ := List.mem_map.mp hm
              rcases List.mem_cons.mp hq with rfl | hq
              · exact hofD z (.tail _ (List.mem_append_right _ (List.mem_append_left _ hz))) e
              rcases List.mem_cons.mp hq with rfl | hq
              · exact hcell10 hm
              rcases List.mem_append.mp hq with hq | hq
              · exact hS.off q hq z (.tail _ (List.mem_append_left _ hz)) e.symm
              · exact hro10 q hq hm
            · intro q hq
              rcases List.mem_append.mp hq with hq | hq
              · exact N6 q (.tail _ (.tail _ (List.mem_append_right _ (List.mem_append_left _ hq))))
              rcases List.mem_cons.mp hq with rfl | hq
              · exact N6 _ (.head _)
              rcases List.mem_cons.mp hq with rfl | hq
              · exact N6 _ (.tail _ (.head _))
              rcases List.mem_append.mp hq with hq | hq
              · exact N6 q (.tail _ (.tail _ (List.mem_append_left _ hq)))
              · exact N6 q (.tail _ (.tail _ (List.mem_append_right _ (List.mem_append_right _ hq))))
      clear F12 N12
      intro fq lsp2 vss2 c3 ro4 h17 tk17 m17 hVS hsp2 hlsp2 hln4 hdd4 hK4 F17 N17
      replace F17 := hK4.fr0 F17
      dsimp only [bindF] at F17
      k_unmd
      k_unfold
      dsimp only
      have hlnM : (ln, listOf vsn.toArray c) ∈ rw10 ++ ro4 := List.mem_append_right _ hln4
      have h45 : 45 ≤ n := by have := H.size (by omega); omega
      have hin2 : ∀ q ∈ (List.range 18).map fq, q.1 < n ∧ q.2 < n := ver_in hVS h45
      walk_at "to call"
      rename IntsAre _ (List.reverse nn) => hIr
      rename News _ _ _ _ => N18
      rename Fr _ _ _ _ => F18
      rename (∀ p, p ∈ rw10 ++ ro4 → _) => l18
      have N19 := news_turn N18
      have hdd19 := fun o => hdd_turn (o := o) l18 hdd4
      clear N18 l18
      refine seen_call (cl := cellsFrom (s1.heap.objs.size + 1) _ []) K0 F18 KX N19 (hdd19 _) T rfl P10 hn177 (hFl.bits (headG_bits v n fi)) (.tail _ hlsp2) hsp2.tail hin2 (by simp) (by simp) (.head _) hIr (by rw [List.length_reverse]; exact hn0) (by rw [List.length_reverse]; exact hn12) hf3 ?_
      intro g2 ts2 h20 tk20 rw20 hFl2 P20 A20 F20 N20
      have hnear2 := ver_near H hv6 hVS hf3 hFl hFl2
      have hs2 := (seenUp_lt (hFl2.bits (hFl.bits (headG_bits v n fi))) ((List.range 18).map fq)).1
      obtain ⟨sn2, hsn2⟩ := Int.eq_ofNat_of_zero_le hs2
      rw [hsn2] at hnear2 ⊢
      rw [Int.toNat_natCast] at hnear2
      clear F18 N19 P10
      walk_at "to call"
      refine code_call (D := 7973) (R := 12) (P := 6) (cl := cellsFrom (s1.heap.objs.size + 1) _ []) K0 F20 KX N20 T rfl (by decide) (by decide) (by decide) ?_
      intro lw2 vsw2 cw2 h21 tk21 hIw2 F21 N21 hlw2
      clear F20 N20
      walk_at "to call"
      refine near_call (cl := cellsFrom (s1.heap.objs.size + 1) _ []) K0 F21 KX N21 T rfl (.head _) hIw2 (by rw [codeW_len]; decide) ?_
      intro lN2 vsN2 cN2 h22 tk22 hIN2 F22 N22 hlN2
      rw [hnear2] at hIN2
      clear F21 N21
      repeat' (walk_at "kstep")
    · repeat' (walk_at "kstep"))
end Mine
end
theorem PySem.Challenge.cw_im0112_01_holds : PySem.Challenge.rw_im0112_01.Holds :=
  Mine.law_holds
