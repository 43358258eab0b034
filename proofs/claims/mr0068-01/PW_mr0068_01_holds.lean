import PyProof.Rows.All
import Wide.All
import OpenK.AllK
import Wide.FinOn
import PySem.Challenge.RW_mr0068_01
open PySem PySem.W PyProof.Rows PySem.Calls
set_option Elab.async false
set_option maxRecDepth 100000

namespace Mine
set_option maxHeartbeats 8000000
open_top hd for PySem.Challenge.rw_mr0068_01
end Mine

namespace Mine

abbrev Keep (h h' : Heap) : Prop := ∀ b o, h.get? b = some o → h'.get? b = some o

theorem Keep.trans {h h' h'' : Heap} (a : Keep h h') (b : Keep h' h'') : Keep h h'' := fun x o e => b x o (a x o e)

/-- a call that came back: the old objects stand, P of the value and the heap -/
def Back (s : Shared) (P : Value → Heap → Prop) (v : Value) (s' : Shared) : Prop :=
  ∃ h' tk, s' = { s with heap := h', toks := tk } ∧ Keep s.heap h' ∧ P v h'

theorem Back.intro {s s₁ : Shared} {P : Value → Heap → Prop} {v : Value} {h' : Heap} {tk : Nat} (e : { s₁ with heap := h', toks := tk } = ({ s with heap := h', toks := tk } : Shared)) (k : Keep s.heap h') (p : P v h') :
    Back s P v { s₁ with heap := h', toks := tk } := ⟨h', tk, e, k, p⟩

/-- the around of a contract: a concrete one; it serves every smaller one -/
abbrev Ar (d u : Nat) : Around := { depth := d, units := u }

theorem wpAny_around {α : Type} {M : Model} {A : Around} {d u : Nat} {t : Sem α} {Q : α → Shared → Prop} {E : Value → Shared → Prop} {s : Shared}
    (h : wpAny M (Ar d u) t Q E s) (hh : A.handled = none) (hd : A.depth ≤ d) (hu : A.units ≤ u) : wpAny M A t Q E s := by
  intro Γ p hΓ
  refine h Γ p ⟨hΓ.1.trans hh, Nat.le_trans hΓ.2.1 hd, fun l hl => ?_, fun g hg => ?_, Nat.le_trans hΓ.2.2.2.2 hu⟩
  · cases hl
  · cases hg

section
variable {prog : Program} {w : World} {A : Around} {s : Shared} {K : Frag} {E : Value → Shared → Prop} {Q : Value → Shared → Prop}
  {name qual : Str} {params : Arguments} {body : List Stmt} {scope : Scope} {dV kV doc pm cdv ct oc : Value} {an od : Option Addr} {osl : Array (Option Value)} {f : Addr} {vals : List Value} {binds : List (Str × Value)}

/-- a def without cells entered -/
theorem enter (X : K.In s.heap) (hlim : s.heap.NoLimit)
    (ho : K.lookup f = some ⟨oc, od, .func (fnOf name qual params body scope dV kV doc pm an cdv ct), osl⟩) (hcd : codeIn K cdv qual = true) (hroom : A.depth < recursionLimit)
    (hbind : BindsTo s (fnOf name qual params body scope dV kV doc pm an cdv ct) ⟨vals, []⟩ binds) (hloc : ∀ y ∈ binds, scope.names.lookup y.1 = some .local)
    (h : ∀ L h₁, L = s.heap.objs.size → Fr s.heap L h₁ (fun y => binds.reverse.lookup y) → News s.heap L h₁ [] →
      wpAny (model prog w) (A.deeper (envOf qual scope L f cdv)) (execs body (envOf qual scope L f cdv))
        (fun fl s' => Q (match fl with | .ret v => v | _ => .none) s') (fun _ _ => False)
        { s with heap := h₁, toks := s.toks + binds.length })
    (hco : scope.isCoroutine = false) (hgen : scope.isGenerator = false) (hk : scope.kind = .function)
    (hcell : ∀ x ∈ scope.names, x.2 ≠ .cell) : wpAny (model prog w) A (call (.ref f) vals) Q E s := by
  refine wpAny_call ?_
  refine codeAny_call_def (fd := fnOf name qual params body scope dV kV doc pm an cdv ct) (body := body) (binds := binds) hroom (X _ _ ho) rfl hlim (codeRec_of X hcd) rfl hbind hcell hloc (fun h₁ hns hk₁ => ?_) hco hgen hk
  exact wpAny_mono (h s.heap.objs.size h₁ rfl ⟨hns, hk₁, Nat.le_refl _⟩ News.nil) (fun fl s' hl => hl) fun _ _ y => y.elim

/-- a def with cells entered -/
theorem enterC (X : K.In s.heap) (hlim : s.heap.NoLimit)
    (ho : K.lookup f = some ⟨oc, od, .func (fnOf name qual params body scope dV kV doc pm an cdv ct), osl⟩) (hcd : codeIn K cdv qual = true) (hroom : A.depth < recursionLimit)
    (hbind : BindsTo s (fnOf name qual params body scope dV kV doc pm an cdv ct) ⟨vals, []⟩ binds) (hkind : (binds.all fun y => scope.names.lookup y.1 == some .local || scope.names.lookup y.1 == some .cell) = true)
    (hnd : ((cellsFrom 0 scope.names []).map (·.1)).Nodup)
    (h : ∀ L h₁ tk cells, L = s.heap.objs.size → Fr s.heap L h₁ (bindL (envOfC qual scope L f cdv).kindOf binds fun _ => none) → News s.heap L h₁ cells →
      CellsAre (bindC (envOfC qual scope L f cdv).kindOf binds fun _ => none) (cellsFrom (L + 1) scope.names []) cells →
      wpAny (model prog w) (A.deeper (envOfC qual scope L f cdv)) (execs body (envOfC qual scope L f cdv))
        (fun fl s' => Q (match fl with | .ret v => v | _ => .none) s') (fun _ _ => False)
        { s with heap := h₁, toks := tk })
    (hco : scope.isCoroutine = false) (hgen : scope.isGenerator = false) (hk : scope.kind = .function) : wpAny (model prog w) A (call (.ref f) vals) Q E s := by
  refine wpAny_call ?_
  refine codeAny_call_function hroom (X _ _ ho) rfl hco hgen rfl (codeRec_of X hcd) (hbind _ _ _ _ ?_)
  refine wpAny_newFunctionEnv_cells hk (kindsX hkind _) fun env' he s' x => ?_
  subst he
  refine ⟨hlim.keeps x.toInCall.keep, codeAny_func ?_⟩
  obtain ⟨h₁, tk, rfl, _⟩ := x.done
  have hk₁ := x.toInCall.keep
  obtain ⟨cells, NC, Y⟩ := Cl.news (h₀ := s.heap) (Nat.le_refl _) fun n c hm => ⟨x.cell n c (lookup_of_mem_nodup (cellsFrom_names scope.names 0 (s.heap.objs.size + 1) [] [] rfl ▸ hnd) hm), x.above n c hm⟩
  exact wpAny_mono (h s.heap.objs.size h₁ tk cells rfl ⟨x.toInCall.ns, hk₁, Nat.le_refl _⟩ NC Y) (fun fl s' hl => hl) fun _ _ y => y.elim
end

section
variable {M : Model} {A : Around} {s : Shared} {E Q : Value → Shared → Prop} {h₀ : Heap} {L : Addr} {m : Str → Option Value} {news : List (Addr × Obj)}
theorem use_back {d u : Nat} {t : Sem Value} {P : Value → Heap → Prop} (F : Fr h₀ L s.heap m) (N : News h₀ L s.heap news) (h : wpAny M (Ar d u) t (Back s P) (fun _ _ => False) s) (hh : A.handled = none) (hd : A.depth ≤ d) (hu : A.units ≤ u)
    (k : ∀ v h' tk, Keep s.heap h' → Fr h₀ L h' m → News h₀ L h' news → P v h' → Q v { s with heap := h', toks := tk }) : wpAny M A t Q E s := by
  refine wpAny_mono (wpAny_around h hh hd hu) ?_ (fun _ _ h => h.elim)
  rintro v s' ⟨h', tk, rfl, hk, hp⟩
  exact k v h' tk hk (F.keeps hk) (News.grown N hk) hp
end
end Mine

namespace Mine

def EndG (h₀ : Heap) (L : Addr) (J : (Str → Option Value) → List (Addr × Obj) → Prop) (own : List (Addr × Obj)) (s₁ s₂ : Shared) : Prop :=
  ∃ h' tk m' news' nx, s₂ = { s₁ with heap := h', toks := tk } ∧ Fr h₀ L h' m' ∧ News h₀ L h' news' ∧ (∀ p ∈ nx, p ∈ news') ∧ (∀ p ∈ own, p ∈ news') ∧ (∀ p ∈ nx, ∀ q ∈ own, p.1 ≠ q.1) ∧ J m' nx
def PostG (h₀ : Heap) (L : Addr) (J : (Str → Option Value) → List (Addr × Obj) → Prop) (own : List (Addr × Obj)) (s₁ : Shared) (Q : Flow → Shared → Prop) (f : Flow) (s₂ : Shared) : Prop :=
  match f with
  | .ret v => Q (.ret v) s₂
  | .brk => Q .next s₂
  | _ => EndG h₀ L J own s₁ s₂

theorem EndG.intro {h₀ : Heap} {L : Addr} {J : (Str → Option Value) → List (Addr × Obj) → Prop} {m' : Str → Option Value} {own news' nx : List (Addr × Obj)} {s₁ : Shared} {h' : Heap} {tk : Nat} (F : Fr h₀ L h' m') (N : News h₀ L h' news')
    (hj : J m' nx) (hn : ∀ p ∈ nx, p ∈ news') (ho : ∀ p ∈ own, p ∈ news') (hoff : ∀ p ∈ nx, ∀ q ∈ own, p.1 ≠ q.1) : EndG h₀ L J own s₁ { s₁ with heap := h', toks := tk } := ⟨h', tk, m', news', nx, rfl, F, N, hn, ho, hoff, hj⟩

section
variable {prog : Program} {w : World} {A : Around} {E : Value → Shared → Prop} {s : Shared} {env : Env} {h₀ : Heap} {x : Str} {body : List Stmt} {Q : Flow → Shared → Prop}

/-- a loop over any walk, an invariant over the frame's map and the ledger -/
theorem loop_g {I : Addr} {fp wr : List Addr} {n : Nat} {P : Nat → Value → Prop} {St : Nat → Heap → Prop} {m : Str → Option Value} {news : List (Addr × Obj)}
    (J : Nat → (Str → Option Value) → List (Addr × Obj) → Prop) (W : Walks prog w A I fp wr n P St) (hI : ∀ i h, St i h → ∀ b ∈ fp, ∃ o, h.get? b = some o)
    (hLf : env.locals ∉ fp) (hwr : ∀ b ∈ wr, h₀.get? b = none) (hnw : ∀ p ∈ news, p.1 ∉ fp) (hst : St 0 s.heap) (F : Fr h₀ env.locals s.heap m) (N : News h₀ env.locals s.heap news) (hj : J 0 m news)
    (turn : ∀ i v m₁ nx h tk own, i < n → P i v → J i m₁ nx → (∀ p ∈ nx, ∀ q ∈ own, p.1 ≠ q.1) → Fr h₀ env.locals h (fun y => if y = x then some v else m₁ y) → News h₀ env.locals h (nx ++ own) →
      wpAny (model prog w) A (execs body env) (PostG h₀ env.locals (J (i + 1)) own { s with heap := h, toks := tk } Q) E { s with heap := h, toks := tk })
    (done : ∀ m₁ nx h tk, J n m₁ nx → Fr h₀ env.locals h m₁ → News h₀ env.locals h nx → Q .next { s with heap := h, toks := tk }) :
    LoopAtV prog w A h₀ env x body Q E (.ref I) s := by
  let J' : Nat → (Str → Option Value) → List (Addr × Obj) → Prop := fun i m₁ nx => (∀ p ∈ nx, p.1 ∉ fp) ∧ J i m₁ nx
  refine ⟨I, fp, wr, n, P, St, m, news, J', rfl, W, hLf, hwr, fun p hp h => hnw p hp (W.sub _ h), hst, F, N, ⟨hnw, hj⟩, ?_, ?_⟩
  · rintro i v m₁ nx s₁ own ⟨h, tk, rfl⟩ hi hP ⟨hoff, hJ⟩ hnw₁ hsub hown hall hst₁ F₁ N₁
    have N₂ : News h₀ env.locals h (nx ++ own) := fun p hp => N₁ p ((List.mem_append.mp hp).elim (fun h => List.mem_append.mpr (.inr h)) fun h => List.mem_append.mpr (.inl h))
    refine wpAny_mono (turn i v m₁ nx h tk own hi hP hJ (fun p hp q hq e => hoff p hp (e ▸ hsub q hq)) F₁ N₂) (fun f s₂ p => ?_) fun _ _ e => e
    have fin : EndG h₀ env.locals (J (i + 1)) own { s with heap := h, toks := tk } s₂ → LoopStepU h₀ env.locals wr own (J' (i + 1)) { s with heap := h, toks := tk } .next s₂ := by
      rintro ⟨h', tk', m', news', nx', e, F', N', hn, ho, hoff', hm⟩
      have off : ∀ p ∈ nx', p.1 ∉ fp := fun p hp hq => by
        have hp' := N' p (hn p hp)
        obtain ⟨o, ho'⟩ := hI _ _ hst₁ _ hq
        exact hoff' p hp _ (hall _ hq hp'.2.2 o ho') rfl
      exact ⟨rfl, h', tk', m', nx', e, F', fun p hp => N' p ((List.mem_append.mp hp).elim (ho p) (hn p)), fun p hp hq => off p hp (W.sub _ hq), off, hm⟩
    cases f with
    | ret v => exact .ret p
    | brk => exact .brk p
    | next => exact .next (fin p)
    | cont => exact .cont (fin p)
  · rintro h' tk m' news' F' N' _ ⟨_, hJ⟩
    exact done m' news' h' tk hJ F' N'

/-- a loop over a list that stands in the heap -/
theorem loop_list {l : Addr} {vs : Array Value} {m : Str → Option Value} {news : List (Addr × Obj)} (J : Nat → (Str → Option Value) → List (Addr × Obj) → Prop)
    (hh : A.handled = none) (hl : s.heap.IsList l vs) (hLl : env.locals ≠ l) (F : Fr h₀ env.locals s.heap m) (N : News h₀ env.locals s.heap news) (hnl : ∀ p ∈ news, p.1 ≠ l) (hj : J 0 m news)
    (turn : ∀ i v m₁ nx h tk own, vs[i]? = some v → J i m₁ nx → (∀ p ∈ nx, ∀ q ∈ own, p.1 ≠ q.1) → Fr h₀ env.locals h (fun y => if y = x then some v else m₁ y) → News h₀ env.locals h (nx ++ own) →
      wpAny (model prog w) A (execs body env) (PostG h₀ env.locals (J (i + 1)) own { s with heap := h, toks := tk } Q) E { s with heap := h, toks := tk })
    (done : ∀ m₁ nx h tk, J vs.size m₁ nx → Fr h₀ env.locals h m₁ → News h₀ env.locals h nx → Q .next { s with heap := h, toks := tk }) :
    wpAny (model prog w) A (pyIter (.ref l)) (fun it s₂ => LoopAtV prog w A h₀ env x body Q E it s₂) E s := by
  obtain ⟨ol, hol, _⟩ := id hl
  have hls : l < s.heap.objs.size := Heap.lt_size hol
  refine wpAny_pyIter_list hl ?_
  refine loop_g J (Walks.list (prog := prog) (w := w) hh s.heap.objs.size l (Nat.ne_of_lt hls) vs) ?_ ?_ ?_ ?_
    ⟨⟨_, Heap.get?_push_size _ rfl, rfl, rfl⟩, hl.at fun o e => Heap.get?_push_of_some _ e⟩ (F.push _) (fun p hp => ⟨Heap.get?_push_of_some _ (N p hp).1, (N p hp).2⟩) hj
    (fun i v m₁ nx h tk own hi hP => turn i v m₁ nx h tk own hP) done
  · rintro i h ⟨⟨o, ho, _⟩, ⟨o', ho', _⟩⟩ b hb
    rcases List.mem_cons.mp hb with e | hm
    · exact ⟨o, e ▸ ho⟩
    · exact ⟨o', (List.mem_singleton.mp hm) ▸ ho'⟩
  · intro hm
    rcases List.mem_cons.mp hm with e | hm
    · exact absurd F.ns.lt (e ▸ Nat.lt_irrefl _)
    · exact hLl (List.mem_singleton.mp hm)
  · intro b hb
    rw [List.mem_singleton.mp hb]
    exact next_is_new F
  · intro p hp hm
    rcases List.mem_cons.mp hm with e | hm
    · exact absurd (Heap.lt_size (N p hp).1) (e ▸ Nat.lt_irrefl _)
    · exact hnl p hp (List.mem_singleton.mp hm)

/-- a loop over a text -/
theorem loop_str {y : Str} {t : Tok} {m : Str → Option Value} {news : List (Addr × Obj)} (J : Nat → (Str → Option Value) → List (Addr × Obj) → Prop)
    (hh : A.handled = none) (F : Fr h₀ env.locals s.heap m) (N : News h₀ env.locals s.heap news) (hj : J 0 m news)
    (turn : ∀ i c u m₁ nx h tk own, y.cps[i]? = some c → J i m₁ nx → (∀ p ∈ nx, ∀ q ∈ own, p.1 ≠ q.1) → Fr h₀ env.locals h (fun y => if y = x then some (.str ⟨#[c]⟩ u) else m₁ y) → News h₀ env.locals h (nx ++ own) →
      wpAny (model prog w) A (execs body env) (PostG h₀ env.locals (J (i + 1)) own { s with heap := h, toks := tk } Q) E { s with heap := h, toks := tk })
    (done : ∀ m₁ nx h tk, J y.cps.size m₁ nx → Fr h₀ env.locals h m₁ → News h₀ env.locals h nx → Q .next { s with heap := h, toks := tk }) :
    wpAny (model prog w) A (pyIter (.str y t)) (fun it s₂ => LoopAtV prog w A h₀ env x body Q E it s₂) E s := by
  have key : ∀ (o : Obj) (St : Nat → Heap → Prop), Walks prog w A s.heap.objs.size [s.heap.objs.size] [s.heap.objs.size] y.cps.size (SignAt y) St → (∀ i h, St i h → ∃ o, h.get? s.heap.objs.size = some o) → St 0 (s.heap.push o) → o.isFreed = false →
      LoopAtV prog w A h₀ env x body Q E (.ref s.heap.objs.size) { s with heap := s.heap.push o } := by
    intro o St W hSt st _
    refine loop_g J W ?_ ?_ ?_ ?_ st (F.push _) (fun p hp => ⟨Heap.get?_push_of_some _ (N p hp).1, (N p hp).2⟩) hj
      (fun i v m₁ nx h tk own hi hP => by obtain ⟨c, u, hc, rfl⟩ := hP; exact turn i c u m₁ nx h tk own hc) done
    · intro i h st b hb
      rw [List.mem_singleton.mp hb]
      exact hSt i h st
    · intro hm
      exact absurd F.ns.lt ((List.mem_singleton.mp hm) ▸ Nat.lt_irrefl _)
    · intro b hb
      rw [List.mem_singleton.mp hb]
      exact next_is_new F
    · intro p hp hm
      exact absurd (Heap.lt_size (N p hp).1) ((List.mem_singleton.mp hm) ▸ Nat.lt_irrefl _)
  cases ha : y.cps.all (· < 128)
  · exact wpAny_pyIter_wide ha (key _ _ (Walks.strWide hh _ y t) (fun i h st => let ⟨o, ho, _⟩ := st; ⟨o, ho⟩) ⟨_, Heap.get?_push_size _ rfl, rfl, rfl⟩ rfl)
  · exact wpAny_pyIter_ascii ha (key _ _ (Walks.strAscii hh _ y t) (fun i h st => let ⟨o, ho, _⟩ := st; ⟨o, ho⟩) ⟨_, Heap.get?_push_size _ rfl, rfl, rfl⟩ rfl)
/-- a loop over a range -/
theorem loop_range {r : Addr} {a b c : Int} {t u v : Tok} {n : Nat} {m : Str → Option Value} {news : List (Addr × Obj)} (J : Nat → (Str → Option Value) → List (Addr × Obj) → Prop)
    (hh : A.handled = none) (hr : IsRange s.heap r a b c t u v) (hsmall : Builtin.Range.small a b c = true) (hn : Builtin.Range.rangeSize a b c = (n : Int)) (F : Fr h₀ env.locals s.heap m) (N : News h₀ env.locals s.heap news) (hj : J 0 m news)
    (turn : ∀ i u m₁ nx h tk own, i < n → J i m₁ nx → (∀ p ∈ nx, ∀ q ∈ own, p.1 ≠ q.1) → Fr h₀ env.locals h (fun y => if y = x then some (.int (a + (i : Int) * c) u) else m₁ y) → News h₀ env.locals h (nx ++ own) →
      wpAny (model prog w) A (execs body env) (PostG h₀ env.locals (J (i + 1)) own { s with heap := h, toks := tk } Q) E { s with heap := h, toks := tk })
    (done : ∀ m₁ nx h tk, J n m₁ nx → Fr h₀ env.locals h m₁ → News h₀ env.locals h nx → Q .next { s with heap := h, toks := tk }) :
    wpAny (model prog w) A (pyIter (.ref r)) (fun it s₂ => LoopAtV prog w A h₀ env x body Q E it s₂) E s := by
  refine wpAny_pyIter_range hr hsmall ?_
  refine loop_g J (Walks.range (prog := prog) (w := w) hh s.heap.objs.size a c n) ?_ ?_ ?_ ?_
    (by show IsRangeIter _ _ _ _ _; rw [hn]; simpa using Heap.get?_push_size _ rfl) (F.push _) (fun p hp => ⟨Heap.get?_push_of_some _ (N p hp).1, (N p hp).2⟩) hj
    (fun i v m₁ nx h tk own hi hP => by obtain ⟨u, rfl⟩ := hP; exact turn i u m₁ nx h tk own hi) done
  · intro i h st b hb
    rw [List.mem_singleton.mp hb]
    exact ⟨_, st⟩
  · intro hm
    exact absurd F.ns.lt ((List.mem_singleton.mp hm) ▸ Nat.lt_irrefl _)
  · intro b hb
    rw [List.mem_singleton.mp hb]
    exact next_is_new F
  · intro p hp hm
    exact absurd (Heap.lt_size (N p hp).1) ((List.mem_singleton.mp hm) ▸ Nat.lt_irrefl _)

theorem ne_base {L : Addr} {h h₀ : Heap} {m : Str → Option Value} {l : Addr} {vs : Array Value} (F : Fr h₀ L h m) (hl : h₀.IsList l vs) : L ≠ l :=
  let ⟨_, ho, _⟩ := hl
  Nat.ne_of_gt (Nat.lt_of_lt_of_le (Heap.lt_size ho) F.above)
theorem news_ne_base {L : Addr} {h h₀ : Heap} {news : List (Addr × Obj)} {l : Addr} {vs : Array Value} (N : News h₀ L h news) (hl : h₀.IsList l vs) : ∀ p ∈ news, p.1 ≠ l := fun p hp e => by
  obtain ⟨o, ho, _⟩ := hl
  have := (N p hp).2.2
  rw [e, ho] at this
  cases this
/-- a loop over a list that the call was handed -/
theorem loop_arg {l : Addr} {vs : Array Value} {m : Str → Option Value} {news : List (Addr × Obj)} (J : Nat → (Str → Option Value) → List (Addr × Obj) → Prop)
    (hh : A.handled = none) (hl : h₀.IsList l vs) (F : Fr h₀ env.locals s.heap m) (N : News h₀ env.locals s.heap news) (hj : J 0 m news)
    (turn : ∀ i v m₁ nx h tk own, vs[i]? = some v → J i m₁ nx → (∀ p ∈ nx, ∀ q ∈ own, p.1 ≠ q.1) → Fr h₀ env.locals h (fun y => if y = x then some v else m₁ y) → News h₀ env.locals h (nx ++ own) →
      wpAny (model prog w) A (execs body env) (PostG h₀ env.locals (J (i + 1)) own { s with heap := h, toks := tk } Q) E { s with heap := h, toks := tk })
    (done : ∀ m₁ nx h tk, J vs.size m₁ nx → Fr h₀ env.locals h m₁ → News h₀ env.locals h nx → Q .next { s with heap := h, toks := tk }) :
    wpAny (model prog w) A (pyIter (.ref l)) (fun it s₂ => LoopAtV prog w A h₀ env x body Q E it s₂) E s :=
  loop_list J hh (hl.at fun o e => F.keep _ _ e) (ne_base F hl) F N (news_ne_base N hl) hj turn done

/-- a loop with any target over a list that the call was handed -/
theorem loop_argT {target : PySem.Expr} {l : Addr} {vs : Array Value} {m : Str → Option Value} {news : List (Addr × Obj)} (J : Nat → (Str → Option Value) → List (Addr × Obj) → Prop)
    (hh : A.handled = none) (hl : h₀.IsList l vs) (F : Fr h₀ env.locals s.heap m) (N : News h₀ env.locals s.heap news) (hj : J 0 m news)
    (turn : ∀ i v m₁ nx s₁ own, vs[i]? = some v → J i m₁ nx → (∀ p ∈ nx, ∀ q ∈ own, p.1 ≠ q.1) → Fr h₀ env.locals s₁.heap m₁ → News h₀ env.locals s₁.heap (nx ++ own) →
      wpAny (model prog w) A (assign target env v) (fun _ s₃ => wpAny (model prog w) A (execs body env) (fun f s₄ => f = .next ∧ EndG h₀ env.locals (J (i + 1)) own s₁ s₄) E s₃) E s₁)
    (done : ∀ m₁ nx h tk, J vs.size m₁ nx → Fr h₀ env.locals h m₁ → News h₀ env.locals h nx → Q .next { s with heap := h, toks := tk }) :
    wpAny (model prog w) A (pyIter (.ref l)) (fun it s₂ => LoopAtT prog w A h₀ env target body Q E it s₂) E s := by
  have hls : s.heap.IsList l vs := hl.at fun o e => F.keep _ _ e
  obtain ⟨ol, hol, _⟩ := id hls
  have hlt : l < s.heap.objs.size := Heap.lt_size hol
  refine wpAny_pyIter_list hls ?_
  let J' : Nat → (Str → Option Value) → List (Addr × Obj) → Prop := fun i m₁ nx => (∀ p ∈ nx, p.1 ∉ [s.heap.objs.size, l]) ∧ J i m₁ nx
  have hnw : ∀ p ∈ news, p.1 ∉ [s.heap.objs.size, l] := fun p hp hm => by
    rcases List.mem_cons.mp hm with e | hm
    · exact absurd (Heap.lt_size (N p hp).1) (e ▸ Nat.lt_irrefl _)
    · exact news_ne_base N hl p hp (List.mem_singleton.mp hm)
  refine ⟨s.heap.objs.size, [s.heap.objs.size, l], [s.heap.objs.size], vs.size, _, _, m, news, J', rfl, Walks.list (prog := prog) (w := w) hh s.heap.objs.size l (Nat.ne_of_lt hlt) vs, ?_, ?_, ?_,
    ⟨⟨_, Heap.get?_push_size _ rfl, rfl, rfl⟩, hls.at fun o e => Heap.get?_push_of_some _ e⟩, F.push _, (fun p hp => ⟨Heap.get?_push_of_some _ (N p hp).1, (N p hp).2⟩), (fun i s' v Q' st hQ' => letGo_listiter st.1 hQ'), ⟨hnw, hj⟩, ?_, ?_⟩
  · intro hm
    rcases List.mem_cons.mp hm with e | hm
    · exact absurd F.ns.lt (e ▸ Nat.lt_irrefl _)
    · exact ne_base F hl (List.mem_singleton.mp hm)
  · intro b hb
    rw [List.mem_singleton.mp hb]
    exact next_is_new F
  · intro p hp hI
    exact hnw p hp (List.mem_cons.mpr (.inl (List.mem_singleton.mp hI)))
  · rintro i v m₁ nx s₁ own hi hP ⟨hoff, hJ⟩ hnw₁ hsub hown hall hst₁ F₁ N₁
    have N₂ : News h₀ env.locals s₁.heap (nx ++ own) := fun p hp => N₁ p ((List.mem_append.mp hp).elim (fun h => List.mem_append.mpr (.inr h)) fun h => List.mem_append.mpr (.inl h))
    refine wpAny_mono (turn i v m₁ nx s₁ own hP hJ (fun p hp q hq e => hoff p hp (e ▸ hsub q hq)) F₁ N₂) (fun _ s₂ p => wpAny_mono p (fun f s₃ q => ?_) fun _ _ e => e) fun _ _ e => e
    obtain ⟨rfl, h', tk', m', news', nx', e, F', N', hn, ho, hoff', hm⟩ := q
    have off : ∀ p ∈ nx', p.1 ∉ [s.heap.objs.size, l] := fun p hp hq => by
      have hp' := N' p (hn p hp)
      have hex : ∃ o, s₁.heap.get? p.1 = some o := by
        obtain ⟨⟨o, ho, _⟩, ⟨o', ho', _⟩⟩ := hst₁
        rcases List.mem_cons.mp hq with e | hm
        · exact ⟨o, e ▸ ho⟩
        · exact ⟨o', (List.mem_singleton.mp hm) ▸ ho'⟩
      obtain ⟨o, ho'⟩ := hex
      exact hoff' p hp _ (hall _ hq hp'.2.2 o ho') rfl
    exact ⟨rfl, h', tk', m', nx', e, F', fun p hp => N' p ((List.mem_append.mp hp).elim (ho p) (hn p)), fun p hp hq => off p hp (List.mem_cons.mpr (.inl (List.mem_singleton.mp hq))), off, hm⟩
  · rintro h' tk m' news' F' N' _ ⟨_, hJ⟩
    exact done m' news' h' tk hJ F' N'
end
end Mine

namespace Mine
theorem nat_xor_add (a b : Nat) : (a ^^^ b) + 2 * (a &&& b) = a + b := by
  induction a using Nat.strongRecOn generalizing b with
  | ind a ih =>
    by_cases ha : a = 0
    · subst ha; simp
    · have h1 := ih (a / 2) (by omega) (b / 2)
      have hx : (a ^^^ b) / 2 = (a / 2) ^^^ (b / 2) := Nat.xor_div_two
      have hn : (a &&& b) / 2 = (a / 2) &&& (b / 2) := Nat.and_div_two
      have hx2 : (a ^^^ b) % 2 = (a % 2 + b % 2) % 2 := by
        have h := @Nat.xor_mod_two_pow a b 1
        simp only [Nat.pow_one] at h
        rw [h]
        rcases Nat.mod_two_eq_zero_or_one a with p | p <;> rcases Nat.mod_two_eq_zero_or_one b with q | q <;> rw [p, q] <;> rfl
      have hn2 : (a &&& b) % 2 = (a % 2) * (b % 2) := by
        have h := @Nat.and_mod_two_pow a b 1
        simp only [Nat.pow_one] at h
        rw [h]
        rcases Nat.mod_two_eq_zero_or_one a with p | p <;> rcases Nat.mod_two_eq_zero_or_one b with q | q <;> rw [p, q] <;> rfl
      rw [← hx, ← hn] at h1
      rcases Nat.mod_two_eq_zero_or_one a with p | p <;> rcases Nat.mod_two_eq_zero_or_one b with q | q <;> rw [p, q] at hx2 hn2 <;> omega
theorem bitAnd_nat (a b : Nat) : Builtin.bitAnd (a : Int) (b : Int) = ((a &&& b : Nat) : Int) := by
  rw [bitAnd_pp (by omega) (by omega)]; rfl
theorem bitXor_nat (a b : Nat) : Builtin.bitXor (a : Int) (b : Int) = ((a ^^^ b : Nat) : Int) := by
  rw [bitXor_and, bitAnd_nat]
  have := nat_xor_add a b
  omega
theorem fdiv_nat (a b : Nat) : (a : Int).fdiv (b : Int) = ((a / b : Nat) : Int) := by
  rw [Int.fdiv_eq_ediv_of_nonneg _ (by omega)]; rfl
theorem fmod_nat (a b : Nat) : (a : Int).fmod (b : Int) = ((a % b : Nat) : Int) := by
  rw [Int.fmod_eq_emod_of_nonneg _ (by omega)]; rfl
theorem shr_nat (a k : Nat) : (a : Int).fdiv (2 ^ k) = ((a >>> k : Nat) : Int) := by
  rw [Nat.shiftRight_eq_div_pow]
  have : ((2 : Int) ^ k) = ((2 ^ k : Nat) : Int) := by push_cast; rfl
  rw [this, fdiv_nat]
theorem shl_nat (a k : Nat) : (a : Int) * 2 ^ k = ((a <<< k : Nat) : Int) := by
  rw [Nat.shiftLeft_eq]; push_cast; rfl
theorem and_one_nat (a : Nat) : Builtin.bitAnd (a : Int) 1 = ((a % 2 : Nat) : Int) := by
  rw [show (1 : Int) = ((1 : Nat) : Int) from rfl, bitAnd_nat, Nat.and_one_is_mod]
end Mine

namespace Mine
theorem some_int {x y : Int} {t : Tok} (h : x = y) : some (Value.int x t) = some (Value.int y t) := by rw [h]
section
variable {prog : Program} {w : World} {A : Around} {E : Value → Shared → Prop} {s : Shared} {h₀ : Heap} {L : Addr} {m : Str → Option Value} {news : List (Addr × Obj)}

theorem News.listAt {h : Heap} {l : Addr} {vs : Array Value} {n : Nat} (N : News h₀ L h news) (hm : (l, listOf vs n) ∈ news) : h.IsList l vs := ⟨_, (N _ hm).1, rfl, n, rfl⟩

/-- xs[k], k not below nought, in bounds -/
theorem item_pos {value slice : PySem.Expr} {l : Addr} {vs : Array Value} {k : Int} {u : Tok} {v : Value} {Q : Value → Shared → Prop}
    (hl : s.heap.IsList l vs) (h0 : 0 ≤ k) (hhi : k < 2 ^ 63) (hx : vs[k.toNat]? = some v) (h : Q v s)
    (hs : subscripted slice false (.ref l) (.int k u) = operate [.ref l, .int k u] (getItem (.ref l) (.int k u)) := by with_unfolding_all rfl) :
    wpAny (model prog w) A (subscriptTail value slice (.ref l) (.int k u)) Q E s :=
  tail_any hl.typeIs slot_list_getitem.lookup (wpAny_getItem_list hl h0 hhi hx h) hs
/-- xs[-1] -/
theorem item_last {value slice : PySem.Expr} {l : Addr} {vs : Array Value} {u : Tok} {v : Value} {Q : Value → Shared → Prop}
    (hl : s.heap.IsList l vs) (hx : vs[vs.size - 1]? = some v) (h : Q v s)
    (hs : subscripted slice false (.ref l) (.int (-1) u) = operate [.ref l, .int (-1) u] (getItem (.ref l) (.int (-1) u)) := by with_unfolding_all rfl) :
    wpAny (model prog w) A (subscriptTail value slice (.ref l) (.int (-1) u)) Q E s := by
  have hz : 0 < vs.size := by
    cases hc : vs.size with
    | zero => rw [hc, Array.getElem?_eq_none (by omega)] at hx; cases hx
    | succ n => omega
  refine tail_any hl.typeIs slot_list_getitem.lookup (wpAny_getItem_list_neg hl (by decide) (by omega) (by decide) ?_ h) hs
  rw [show ((-1 : Int) + (vs.size : Int)).toNat = vs.size - 1 by omega]
  exact hx

/-- sum of a list of ints -/
theorem sum_here {l : Addr} {vs : List Value} {ns : List Int} {Q : Value → Shared → Prop} (hh : A.handled = none) (hl : s.heap.IsList l vs.toArray) (hi : IntsAre vs ns)
    (h : ∀ h' tk t', Keep s.heap h' → Q (.int ns.sum t') { s with heap := h', toks := tk }) : wpAny (model prog w) A (call (.builtin "sum") [.ref l]) Q E s := by
  obtain ⟨xs, e⟩ := hi.allInts.items
  have hn : numsOf vs = ns := hi.numsOf
  rw [e] at hl
  refine sum_intListG hh hl fun h' tk t' hk => ?_
  have hs : preSum (numAt xs) xs.size = ns.sum := by
    rw [preSum_eq, List.take_of_length_le (by simp), ← hn, ← nums_intItems, ← e]
  rw [hs]
  exact h h' tk t' hk
end
end Mine

namespace Mine

def fstep (c : Nat) : Nat := if c % 2 = 1 then (c / 2) ^^^ 3988292384 else c / 2
def fsteps : Nat → Nat → Nat
  | 0, c => c
  | n + 1, c => fstep (fsteps n c)

local macro_rules | `(tactic| walk_at "m fact") => `(tactic| first | exact rfl | assumption | ((repeat (first | exact if_pos rfl | refine (if_neg (by decide)).trans ?_)); first | exact rfl | assumption))
local macro_rules | `(tactic| walk_at "eval Name") => `(tactic| (k_here; k_dflt (refine' ld ?k1 ?k2 ?_; (case k1 => k_asm); (case k2 => walk_at "m fact"); k_whole)))

local macro_rules | `(tactic| walk_at "loadName") => `(tactic| (k_here; k_dflt (refine' ldn ?k1 ?k2 ?_; (case k1 => k_asm); (case k2 => walk_at "m fact"); k_whole)))



set_option maxHeartbeats 4000000 in
theorem gen_crc {w : World} {mean : ExcName → Option Value} {mg mb : Str → Option Value} {s : Shared} {c : Nat} {t : Tok}
    (T : Top Mine.hd.view_39 (looseW Mine.hd.view_39 []) mean mg mb s.heap) (X : (Mine.hd.heap_39 w.params).In s.heap) :
    wpAny (model PySem.Challenge.rw_mr0068_01.row.prog w) (Ar 500 200) (call (.ref 28) [.int c t]) (Back s fun v _ => ∃ t', v = .int (fsteps 8 c : Nat) t') (fun _ _ => False) s := by
  w_top off
  revert X; k_fill; intro X
  refine' enter (binds := [(Str.ofString "crc", .int c t)]) X T.nolimit ?k6 ?k7 ?k8 ?k9 ?kB ?_ ?c2 ?c3 ?c4 ?c5
  case k6 => k_is
  case k7 => k_is
  case k8 => decide
  case k9 => exact BindsTo.of_eq rfl
  case kB => exact locs rfl
  case c2 => exact rfl
  case c3 => exact rfl
  case c4 => exact rfl
  case c5 => decide
  intro L h₁ hL F N
  walk1
  walk1
  refine For_invV (h₀ := s.heap) rfl rfl ?_
  iterate 6 walk1
  refine range1_rows F N ?_
  intro h₂ tk₂ t₁ u₁ v₁ hr F N _
  refine loop_range (n := 8) (fun i m nx => nx = [] ∧ ∃ t, m (Str.ofString "crc") = some (.int (fsteps i c : Nat) t)) rfl hr (by decide) (by decide) F N ⟨rfl, t, rfl⟩ ?_ ?_
  · rintro i u m₁ nx h tk own hi ⟨rfl, t, hm⟩ _ F N
    (try k_fold)
    repeat' (first | (k_unfold; (try dsimp only)) | walk1 | (dsimp only; walk1))
    · have hb : Builtin.bitAnd ((fsteps i c : Nat) : Int) 1 ≠ 0 := by assumption
      refine EndG.intro (nx := []) (by assumption) (by assumption) ⟨rfl, _, (if_pos rfl).trans (some_int ?_)⟩ (by simp) (by simp) (by simp)
      rw [and_one_nat] at hb
      rw [show Int.toNat 1 = 1 from rfl, shr_nat, show (3988292384 : Int) = ((3988292384 : Nat) : Int) from rfl, bitXor_nat, fsteps, fstep, if_pos (by omega)]
      rfl
    · have hb : Builtin.bitAnd ((fsteps i c : Nat) : Int) 1 = 0 := by assumption
      refine EndG.intro (nx := []) (by assumption) (by assumption) ⟨rfl, _, (if_pos rfl).trans (some_int ?_)⟩ (by simp) (by simp) (by simp)
      rw [and_one_nat] at hb
      rw [show Int.toNat 1 = 1 from rfl, shr_nat, fsteps, fstep, if_neg (by omega)]
      rfl
  · rintro m₁ nx h tk ⟨rfl, t, hm⟩ F N
    dsimp only
    repeat' (first | (k_unfold; (try dsimp only)) | walk1 | (dsimp only; walk1))
    exact Back.intro rfl F.keep ⟨_, rfl⟩
end Mine

namespace Mine
local macro_rules | `(tactic| walk_at "m fact") => `(tactic| first | exact rfl | assumption | ((repeat (first | exact if_pos rfl | refine (if_neg (by decide)).trans ?_)); first | exact rfl | assumption))
local macro_rules | `(tactic| walk_at "eval Name") => `(tactic| (k_here; k_dflt (refine' ld ?k1 ?k2 ?_; (case k1 => k_asm); (case k2 => walk_at "m fact"); k_whole)))
local macro_rules | `(tactic| walk_at "loadName") => `(tactic| (k_here; k_dflt (refine' ldn ?k1 ?k2 ?_; (case k1 => k_asm); (case k2 => walk_at "m fact"); k_whole)))
local macro_rules | `(tactic| walk_at "go") => `(tactic| repeat' (first | (k_unfold; (try dsimp only)) | walk1 | (dsimp only; walk1)))

def crcOne (st c : Nat) : Nat := (st >>> 8) ^^^ fsteps 8 ((st ^^^ c) &&& 255)
def crcOn (st : Nat) (cs : List Nat) : Nat := cs.foldl crcOne st
theorem crcOn_snoc (st : Nat) (l : List Nat) (x : Nat) : crcOn st (l ++ [x]) = crcOne (crcOn st l) x := by simp [crcOn]

local macro_rules | `(tactic| walk_at "call ref") => `(tactic| (
  (rename Fr _ _ _ _ => F'); (rename News _ _ _ _ => N'); (rename Frag.In _ _ => X'); (rename Top _ _ _ _ _ _ => T');
  (with_reducible show wpAny _ _ (call (Value.ref 28) [Value.int _ _]) _ _ _);
  refine' use_back F' N' (gen_crc (T'.keeps F'.keep) (X'.keeps F'.keep)) ?k1 ?k2 ?k3 ?_; (case k1 => exact rfl); (case k2 => exact Nat.le_of_ble_eq_true rfl); (case k3 => exact Nat.le_of_ble_eq_true rfl); intro v' h' tk' hk' F' N' hv'; obtain ⟨t', e'⟩ := hv'; subst e'))

set_option maxHeartbeats 4000000 in
theorem law_on {w : World} {mean : ExcName → Option Value} {mg mb : Str → Option Value} {s : Shared} {c : Nat} {x : Str} {t t₂ : Tok}
    (T : Top Mine.hd.view_39 (looseW Mine.hd.view_39 []) mean mg mb s.heap) (X : (Mine.hd.heap_39 w.params).In s.heap) :
    wpAny (model PySem.Challenge.rw_mr0068_01.row.prog w) (Ar 450 150) (call (.ref 47) [.int c t, .str x t₂]) (Back s fun v _ => ∃ t', v = .int (crcOn c x.cps.toList : Nat) t') (fun _ _ => False) s := by
  w_top off
  revert X; k_fill; intro X
  refine' enter (binds := [(Str.ofString "state", .int c t), (Str.ofString "text", .str x t₂)]) X T.nolimit ?k6 ?k7 ?k8 ?k9 ?kB ?_ ?c2 ?c3 ?c4 ?c5
  case k6 => k_is
  case k7 => k_is
  case k8 => decide
  case k9 => exact BindsTo.of_eq rfl
  case kB => exact locs rfl
  case c2 => exact rfl
  case c3 => exact rfl
  case c4 => exact rfl
  case c5 => decide
  intro L h₁ hL F N
  walk1
  walk1
  refine For_invV (h₀ := s.heap) rfl rfl ?_
  walk1
  refine loop_str (fun i m nx => nx = [] ∧ ∃ t, m (Str.ofString "state") = some (.int (crcOn c (x.cps.toList.take i) : Nat) t)) rfl F N ⟨rfl, t, rfl⟩ ?_ ?_
  · rintro i ch u m₁ nx h tk own hi ⟨rfl, t, hm⟩ _ F N
    (try k_fold)
    walk_at "go"
    rw [bitXor_nat, show (255 : Int) = ((255 : Nat) : Int) from rfl, bitAnd_nat]
    walk_at "call ref"
    walk_at "go"
    refine EndG.intro (nx := []) (by assumption) (by assumption) ⟨rfl, _, (if_pos rfl).trans (some_int ?_)⟩ (by simp) (by simp) (by simp)
    have hi' : x.cps.toList[i]? = some ch := by simpa using hi
    rw [show Int.toNat 8 = 8 from rfl, shr_nat, bitXor_nat, List.take_add_one, hi', show (some ch).toList = [ch] from rfl, crcOn_snoc]
    rfl
  · rintro m₁ nx h tk ⟨rfl, t, hm⟩ F N
    dsimp only
    walk_at "go"
    exact Back.intro rfl F.keep ⟨_, by rw [← Array.length_toList, List.take_length]⟩
end Mine

namespace Mine
local macro_rules | `(tactic| walk_at "m fact") => `(tactic| first | exact rfl | assumption | ((repeat (first | exact if_pos rfl | refine (if_neg (by decide)).trans ?_)); first | exact rfl | assumption))
local macro_rules | `(tactic| walk_at "eval Name") => `(tactic| (k_here; k_dflt (refine' ld ?k1 ?k2 ?_; (case k1 => k_asm); (case k2 => walk_at "m fact"); k_whole)))
local macro_rules | `(tactic| walk_at "loadName") => `(tactic| (k_here; k_dflt (refine' ldn ?k1 ?k2 ?_; (case k1 => k_asm); (case k2 => walk_at "m fact"); k_whole)))
local macro_rules | `(tactic| walk_at "go") => `(tactic| repeat' (first | (k_unfold; (try dsimp only)) | walk1 | (dsimp only; walk1)))

/-- the ints of a list are these naturals -/
abbrev NatsAre (vs : List Value) (ns : List Nat) : Prop := IntsAre vs (ns.map Int.ofNat)
theorem NatsAre.at {vs : List Value} {ns : List Nat} (h : NatsAre vs ns) {i : Nat} {v : Value} (hv : vs[i]? = some v) : ∃ n t, v = .int (n : Nat) t ∧ ns[i]? = some n := by
  obtain ⟨n, t, rfl, e⟩ := IntsAre.at h i v hv
  rw [List.getElem?_map] at e
  obtain ⟨k, hk, rfl⟩ := Option.map_eq_some_iff.mp e
  exact ⟨k, t, rfl, hk⟩

local macro_rules | `(tactic| walk_at "halt") => `(tactic| with_reducible (first | show wpAny _ _ (newList _) _ _ _ | show wpAny _ _ (pyIter _) _ _ _ | show wpAny _ _ (call (Value.type _) _) _ _ _ | show wpAny _ _ (call (Value.ref _) _) _ _ _ | show wpAny _ _ (call (Value.builtin "list.append") _) _ _ _ | show wpAny _ _ (exec (Stmt.For _ _ _ _ _) _) _ _ _))
local macro_rules | `(tactic| walk_at "goN") => `(tactic| repeat' (first | (k_unfold; (try dsimp only)) | ((fail_if_success (walk_at "halt")); walk1) | (dsimp only; (fail_if_success (walk_at "halt")); walk1)))
def ahead : Nat → Nat → Nat
  | 0, n => n
  | k + 1, n => crcOn (ahead k n) [0]
def rowOf (k n : Nat) : List Nat := (List.range (k + 1)).map fun i => ahead i n
theorem rowOf_succ (k n : Nat) : rowOf (k + 1) n = rowOf k n ++ [crcOn (ahead k n) [0]] := by simp [rowOf, List.range_succ, ahead]
theorem rowOf_length (k n : Nat) : (rowOf k n).length = k + 1 := by simp [rowOf]
theorem rowOf_get {k n i : Nat} (h : i ≤ k) : (rowOf k n)[i]? = some (ahead i n) := by
  simp [rowOf, List.getElem?_map, List.getElem?_range (show i < k + 1 by omega)]
theorem NatsAre.length {vs : List Value} {ns : List Nat} (h : NatsAre vs ns) : vs.length = ns.length := by have := IntsAre.length h; simpa using this
theorem NatsAre.get {vs : List Value} {ns : List Nat} (h : NatsAre vs ns) {i n : Nat} (hn : ns[i]? = some n) : ∃ t, vs[i]? = some (.int (n : Nat) t) :=
  IntsAre.get h i n (by simp [hn])
theorem NatsAre.snoc {vs : List Value} {ns : List Nat} (h : NatsAre vs ns) (n : Nat) (t : Tok) : NatsAre (vs ++ [.int (n : Nat) t]) (ns ++ [n]) := by
  have := IntsAre.append h (IntsAre.cons (n : Int) t .nil)
  simpa [NatsAre] using this

/-- the rows, as the ledger bears them -/
def RowsIn (objs : List (Addr × Obj)) (as : List Addr) (rows : List (List Nat)) : Prop :=
  as.length = rows.length ∧ ∀ (j : Nat) (a : Addr), as[j]? = some a → ∃ r vs n, rows[j]? = some r ∧ (a, listOf vs.toArray n) ∈ objs ∧ NatsAre vs r

theorem RowsIn.snoc {objs : List (Addr × Obj)} {as : List Addr} {rows : List (List Nat)} (h : RowsIn objs as rows) {r : Addr} {ws : List Value} {k : Nat} {row : List Nat} (hw : NatsAre ws row) :
    RowsIn ((r, listOf ws.toArray k) :: objs) (as ++ [r]) (rows ++ [row]) := by
  refine ⟨by simp [h.1], fun j a ha => ?_⟩
  by_cases hj : j < as.length
  · rw [List.getElem?_append_left hj] at ha
    obtain ⟨r', vs, n, h1, h2, h3⟩ := h.2 j a ha
    exact ⟨r', vs, n, by rw [List.getElem?_append_left (h.1 ▸ hj)]; exact h1, .tail _ h2, h3⟩
  · have hj' : j = as.length := by
      have := (List.getElem?_eq_some_iff.mp ha).1
      simp at this
      omega
    subst hj'
    simp at ha
    subst ha
    exact ⟨row, ws, k, by rw [h.1]; simp, .head _, hw⟩
theorem take_map_snoc {α β : Type} {f : α → β} {l : List α} {i : Nat} {x : α} (h : l[i]? = some x) : (l.take (i + 1)).map f = (l.take i).map f ++ [f x] := by
  rw [List.take_add_one, h]; simp

set_option maxHeartbeats 4000000 in
theorem law_onward {w : World} {mean : ExcName → Option Value} {mg mb : Str → Option Value} {s : Shared} {a : Addr} {vs : List Value} {ns : List Nat}
    (T : Top Mine.hd.view_39 (looseW Mine.hd.view_39 []) mean mg mb s.heap) (X : (Mine.hd.heap_39 w.params).In s.heap) (hl : s.heap.IsList a vs.toArray) (hi : NatsAre vs ns) (hz : ns.length ≤ 1000) :
    wpAny (model PySem.Challenge.rw_mr0068_01.row.prog w) (Ar 400 100) (call (.ref 54) [.ref a]) (Back s fun v h => ∃ b as k objs, v = .ref b ∧ RowsIn objs as (ns.map (rowOf 4)) ∧ News s.heap b h objs ∧ h.get? b = some (listOf (as.map Value.ref).toArray k) ∧ s.heap.get? b = none) (fun _ _ => False) s := by
  w_top off
  revert X; k_fill; intro X
  refine' enter (binds := [(Str.ofString "sums", .ref a)]) X T.nolimit ?k6 ?k7 ?k8 ?k9 ?kB ?_ ?c2 ?c3 ?c4 ?c5
  case k6 => k_is
  case k7 => k_is
  case k8 => decide
  case k9 => exact BindsTo.of_eq rfl
  case kB => exact locs rfl
  case c2 => exact rfl
  case c3 => exact rfl
  case c4 => exact rfl
  case c5 => decide
  intro L h₁ hL F N
  walk_at "goN"
  refine newList_K F N ?_
  intro R h F N _
  walk_at "goN"
  refine For_invV (h₀ := s.heap) rfl rfl ?_
  walk1
  rename Fr _ _ _ _ => F; rename News _ _ _ _ => N
  refine loop_arg (vs := vs.toArray) (fun i m nx => m (Str.ofString "rows") = some (.ref R) ∧ ∃ as k objs, nx = (R, listOf (as.map Value.ref).toArray k) :: objs ∧ (∀ p ∈ objs, p.1 ≠ R) ∧ RowsIn objs as ((ns.take i).map (rowOf 4))) rfl hl F N ⟨rfl, [], _, [], rfl, by simp, rfl, by simp⟩ ?_ ?_
  · rintro i v m₁ nx h tk own hv ⟨hm, as, k, objs, rfl, hR, hrows⟩ hoff F N
    obtain ⟨n, t, rfl, hn⟩ := NatsAre.at hi (by simpa using hv)
    (try k_fold)
    walk_at "goN"
    rename Fr _ _ _ _ => F; rename News _ _ _ _ => N
    refine newList_K F N ?_
    intro r h F N hr
    walk_at "goN"
    rename Fr _ _ _ _ => F; rename News _ _ _ _ => N
    refine For_invV (h₀ := s.heap) rfl rfl ?_
    walk_at "goN"
    rename Fr _ _ _ _ => F; rename News _ _ _ _ => N
    refine range1_rows F N ?_
    intro h₂ tk₂ t₁ u₁ v₁ hr' F N _
    refine loop_range (n := 4) (fun j m nx => m (Str.ofString "rows") = some (.ref R) ∧ m (Str.ofString "row") = some (.ref r) ∧ ∃ ws k', nx = (r, listOf ws.toArray k') :: ((R, listOf (as.map Value.ref).toArray k) :: objs ++ own) ∧ NatsAre ws (rowOf j n)) rfl hr' (by decide) (by decide) F N ⟨hm, rfl, _, _, rfl, ?_⟩ ?_ ?_
    · exact IntsAre.cons _ _ .nil
    · rintro j u m₂ nx h tk own₂ hj ⟨hm₁, hm₂, ws, k', rfl, hws⟩ hoff₂ F N
      have hlen := hws.length
      rw [rowOf_length] at hlen
      obtain ⟨tl, hlast⟩ := hws.get (rowOf_get (Nat.le_refl j))
      walk_at "goN"
      rename Fr _ _ _ _ => F; rename News _ _ _ _ => N
      have hc : (List.map Int.ofNat (rowOf j n)).getD (-1 + ((List.map Int.ofNat (rowOf j n)).length : Int)).toNat 0 = ((ahead j n : Nat) : Int) := by
        rw [List.length_map, rowOf_length, show (-1 + ((j + 1 : Nat) : Int)).toNat = j by omega, List.getD_eq_getElem?_getD, List.getElem?_map, rowOf_get (Nat.le_refl j)]
        rfl
      rw [hc]
      rename Fr _ _ _ _ => F; rename News _ _ _ _ => N
      refine use_back F N (law_on (T.keeps F.keep) (X.keeps F.keep)) rfl (Nat.le_of_ble_eq_true rfl) (Nat.le_of_ble_eq_true rfl) ?_
      rintro _ h tk _ F N ⟨t', rfl⟩
      walk_at "goN"
      rename Fr _ _ _ _ => F; rename News _ _ _ _ => N
      refine' append_K F N (Upd.head ?_) ?_ ?_
      · intro p hp
        rcases List.mem_append.mp hp with hp | hp
        · exact Nat.ne_of_lt (hr p hp)
        · exact (hoff₂ _ (.head _) p hp).symm
      · intro h F N
        walk_at "goN"
        rw [List.push_toArray, show (Str.ofString "\x00").cps.toList = [0] by decide +kernel] at N
        refine EndG.intro (nx := (r, listOf (ws ++ [Value.int (crcOn (ahead j n) [0] : Nat) t']).toArray (k' + 1)) :: ((R, listOf (as.map Value.ref).toArray k) :: objs ++ own)) F N ⟨hm₁, hm₂, _, _, rfl, ?_⟩ ?_ ?_ ?_
        · rw [rowOf_succ]
          exact hws.snoc _ _
        · intro p hp
          rcases List.mem_cons.mp hp with rfl | hp
          · exact .head _
          · exact .tail _ (List.mem_append_left _ hp)
        · intro p hp
          exact .tail _ (List.mem_append_right _ hp)
        · intro p hp q hq
          rcases List.mem_cons.mp hp with rfl | hp
          · exact hoff₂ _ (.head _) q hq
          · exact hoff₂ p (.tail _ hp) q hq
      · rw [List.size_toArray, hlen]
        show _ ≤ sizeLine
        rw [sizeLine_eq]
        omega
    · rintro m₂ nx h tk ⟨hm₁, hm₂, ws, k', rfl, hws⟩ F N
      dsimp only
      walk_at "goN"
      rename Fr _ _ _ _ => F; rename News _ _ _ _ => N
      refine' append_K (news' := (r, listOf ws.toArray k') :: ((R, listOf ((as.map Value.ref).toArray.push (.ref r)) (k + 1)) :: objs ++ own)) F N (Upd.tail (Nat.ne_of_gt (hr _ (.head _))) (Upd.head ?_)) ?_ ?_
      · intro p hp
        rcases List.mem_append.mp hp with hp | hp
        · exact hR p hp
        · exact (hoff _ (.head _) p hp).symm
      · intro h F N
        walk_at "goN"
        rw [List.push_toArray] at N
        refine EndG.intro (nx := (R, listOf ((as ++ [r]).map Value.ref).toArray (k + 1)) :: ((r, listOf ws.toArray k') :: objs)) F N ⟨hm₁, _, _, _, rfl, ?_, ?_⟩ ?_ ?_ ?_
        · intro p hp
          rcases List.mem_cons.mp hp with rfl | hp
          · exact Nat.ne_of_gt (hr _ (.head _))
          · exact hR p hp
        · rw [take_map_snoc hn]
          exact hrows.snoc hws
        · intro p hp
          rcases List.mem_cons.mp hp with rfl | hp
          · simp
          · rcases List.mem_cons.mp hp with rfl | hp
            · exact .head _
            · exact .tail _ (.tail _ (List.mem_append_left _ hp))
        · intro p hp
          exact .tail _ (.tail _ (List.mem_append_right _ hp))
        · intro p hp q hq
          rcases List.mem_cons.mp hp with rfl | hp
          · exact hoff _ (.head _) q hq
          · rcases List.mem_cons.mp hp with rfl | hp
            · exact Nat.ne_of_gt (hr _ (.tail _ (List.mem_append_right _ hq)))
            · exact hoff p (.tail _ hp) q hq
      · rw [List.size_toArray, List.length_map, hrows.1, List.length_map, List.length_take, sizeLine_eq]
        omega
  · rintro m₁ nx h tk ⟨hm, as, k, objs, rfl, hR, hrows⟩ F N
    dsimp only
    walk_at "goN"
    refine Back.intro rfl F.keep ⟨R, as, k, objs, rfl, ?_, ?_, ?_, ?_⟩
    · rwa [List.take_of_length_le (by simp [hi.length])] at hrows
    · exact fun p hp => ⟨(N p (.tail _ hp)).1, hR p hp, (N p (.tail _ hp)).2.2⟩
    · exact (N _ (.head _)).1
    · exact (N _ (.head _)).2.2
end Mine

namespace Mine
local macro_rules | `(tactic| walk_at "m fact") => `(tactic| first | exact rfl | assumption | ((repeat (first | exact if_pos rfl | refine (if_neg (by decide)).trans ?_)); first | exact rfl | assumption))
local macro_rules | `(tactic| walk_at "eval Name") => `(tactic| (k_here; k_dflt (refine' ld ?k1 ?k2 ?_; (case k1 => k_asm); (case k2 => walk_at "m fact"); k_whole)))
local macro_rules | `(tactic| walk_at "loadName") => `(tactic| (k_here; k_dflt (refine' ldn ?k1 ?k2 ?_; (case k1 => k_asm); (case k2 => walk_at "m fact"); k_whole)))
local macro_rules | `(tactic| walk_at "halt") => `(tactic| with_reducible (first | show wpAny _ _ (newList _) _ _ _ | show wpAny _ _ (pyIter _) _ _ _ | show wpAny _ _ (call (Value.type _) _) _ _ _ | show wpAny _ _ (call (Value.ref _) _) _ _ _ | show wpAny _ _ (call (Value.builtin "list.append") _) _ _ _ | show wpAny _ _ (exec (Stmt.For _ _ _ _ _) _) _ _ _ | show wpAny _ _ (eval (Expr.ListComp _ _ _ _) _) _ _ _))
local macro_rules | `(tactic| walk_at "goN") => `(tactic| repeat' (first | (k_unfold; (try dsimp only)) | ((fail_if_success (walk_at "halt")); walk1) | (dsimp only; (fail_if_success (walk_at "halt")); walk1)))

local macro_rules | `(tactic| walk_at "eval Name") => `(tactic| (k_here; k_dflt (refine' nameX_L ?k1 ?k2 ?_; (case k1 => k_asm); (case k2 => walk_at "m fact"); k_whole)))

local macro_rules | `(tactic| walk_at "eval Name") => `(tactic| (k_dflt (first | (refine' wpAny_Name (wpAny_loadName_local ?a1 ?a2 ?a3 ?a4 ?_) ?a5; (case a1 => exact rfl); (case a2 => exact rfl); (case a3 => with_reducible assumption); (case a4 => walk_at "m fact"); (case a5 => decide)) | (refine' wpAny_Name (wpAny_loadName_cell ?a1 ?a2 ?a3 ?a4 ?_) ?a5; (case a1 => exact rfl); (case a2 => exact rfl); (case a3 => exact rfl); (case a4 => with_reducible assumption); (case a5 => decide)))))

def mstep (r b : Nat) : Nat := (r * 2 % 2 ^ 32) ^^^ (((r >>> 31) ^^^ b) * 79764919)
def mfeed (r c : Nat) : Nat → Nat
  | 0 => r
  | j + 1 => mstep (mfeed r c j) ((c >>> j) &&& 1)
def mreg (cs : List Nat) : Nat := cs.foldl (fun r c => mfeed r c 8) (2 ^ 32 - 1)
def mval (r : Nat) : Nat := (((List.range 32).filter fun k => (r >>> (31 - k)) % 2 == 0).map fun k => 2 ^ k).sum
def msums (cs : List Nat) : List Nat := 0 :: (List.range cs.length).map fun i => mval (mreg (cs.take (i + 1)))
theorem mstep_lt {r b : Nat} (hr : r < 2 ^ 32) (hb : b < 2) : mstep r b < 2 ^ 32 := by
  unfold mstep
  apply Nat.xor_lt_two_pow
  · exact Nat.mod_lt _ (by decide)
  · have h1 : r >>> 31 < 2 ^ 1 := by rw [Nat.shiftRight_eq_div_pow]; omega
    have h2 : (r >>> 31) ^^^ b < 2 ^ 1 := Nat.xor_lt_two_pow h1 (by omega)
    omega
theorem mfeed_lt {r c : Nat} (hr : r < 2 ^ 32) : ∀ j, mfeed r c j < 2 ^ 32
  | 0 => hr
  | j + 1 => mstep_lt (mfeed_lt hr j) (by rw [Nat.and_one_is_mod]; omega)
theorem mreg_snoc (cs : List Nat) (c : Nat) : mreg (cs ++ [c]) = mfeed (mreg cs) c 8 := by simp [mreg]
theorem mstep_int (r c j : Nat) : Builtin.bitXor (((r : Nat) * 2 : Int).fmod (2 ^ Int.toNat 32)) (Builtin.bitXor ((r : Int).fdiv (2 ^ Int.toNat 31)) (Builtin.bitAnd ((c : Int).fdiv (2 ^ (0 + (j : Int) * 1).toNat)) 1) * 79764919) = ((mstep r ((c >>> j) &&& 1) : Nat) : Int) := by
  rw [show Int.toNat 32 = 32 from rfl, show Int.toNat 31 = 31 from rfl, show (0 + (j : Int) * 1).toNat = j by omega, shr_nat, shr_nat, and_one_nat, bitXor_nat,
    show ((r : Int) * 2) = ((r * 2 : Nat) : Int) by push_cast; rfl, show ((2 : Int) ^ 32) = ((2 ^ 32 : Nat) : Int) by rfl, fmod_nat,
    show (((r >>> 31 ^^^ (c >>> j) % 2 : Nat) : Int) * (79764919 : Int)) = (((r >>> 31 ^^^ (c >>> j) % 2) * 79764919 : Nat) : Int) from (Int.natCast_mul _ _).symm, bitXor_nat, mstep, Nat.and_one_is_mod]
theorem sum_cast (l : List Nat) : (l.map fun n => ((n : Nat) : Int)).sum = ((l.sum : Nat) : Int) := by
  induction l with
  | nil => rfl
  | cons a l ih => rw [List.map_cons, List.sum_cons, List.sum_cons, ih]; push_cast; rfl
theorem mval_int (r : Nat) : (((rangeInts 0 1 32).filter fun k => (r >>> (31 - k.toNat)) % 2 == 0).map fun k => (2 : Int) ^ k.toNat).sum = ((mval r : Nat) : Int) := by
  rw [mval, ← sum_cast, rangeInts, List.filter_map, List.map_map, List.map_map]
  have e1 : ((fun k : Int => r >>> (31 - k.toNat) % 2 == 0) ∘ fun i : Nat => 0 + (i : Int) * 1) = fun k : Nat => r >>> (31 - k) % 2 == 0 := by
    funext i; show (r >>> (31 - (0 + (i : Int) * 1).toNat) % 2 == 0) = _
    rw [show (0 + (i : Int) * 1).toNat = i by omega]
  have e2 : ((fun k : Int => (2 : Int) ^ k.toNat) ∘ fun i : Nat => 0 + (i : Int) * 1) = (fun n : Nat => ((n : Nat) : Int)) ∘ fun k : Nat => 2 ^ k := by
    funext i; show (2 : Int) ^ (0 + (i : Int) * 1).toNat = ((2 ^ i : Nat) : Int)
    rw [show (0 + (i : Int) * 1).toNat = i by omega]; push_cast; rfl
  rw [e1, e2]
theorem msums_snoc {cs : List Nat} {i c : Nat} (h : cs[i]? = some c) : msums (cs.take (i + 1)) = msums (cs.take i) ++ [mval (mfeed (mreg (cs.take i)) c 8)] := by
  have hi : i < cs.length := (List.getElem?_eq_some_iff.mp h).1
  have e : cs.take (i + 1) = cs.take i ++ [c] := by rw [List.take_add_one, h]; rfl
  have hl : (cs.take i).length = i := by rw [List.length_take]; omega
  rw [← mreg_snoc, ← e]
  unfold msums
  rw [show (cs.take (i + 1)).length = i + 1 by rw [List.length_take]; omega, hl, List.range_succ, List.map_append]
  simp only [List.cons_append, List.map_cons, List.map_nil]
  congr 2
  · apply List.map_congr_left
    intro j hj
    have hj' : j < i := List.mem_range.mp hj
    rw [List.take_take, List.take_take, Nat.min_eq_left (by omega), Nat.min_eq_left (by omega)]
  · rw [List.take_take, Nat.min_self]
theorem mreg_lt (cs : List Nat) : mreg cs < 2 ^ 32 := by
  have h : ∀ (cs : List Nat) (r : Nat), r < 2 ^ 32 → cs.foldl (fun r c => mfeed r c 8) r < 2 ^ 32 := by
    intro cs
    induction cs with
    | nil => exact fun r hr => hr
    | cons c cs ih => exact fun r hr => ih _ (mfeed_lt hr 8)
  exact h cs _ (by decide)

set_option maxHeartbeats 4000000 in
theorem law_sums {w : World} {mean : ExcName → Option Value} {mg mb : Str → Option Value} {s : Shared} {x : Str} {t : Tok}
    (T : Top Mine.hd.view_39 (looseW Mine.hd.view_39 []) mean mg mb s.heap) (X : (Mine.hd.heap_39 w.params).In s.heap) (hz : x.cps.size ≤ 1000) :
    wpAny (model PySem.Challenge.rw_mr0068_01.row.prog w) (Ar 400 100) (call (.ref 40) [.str x t]) (Back s fun v h => ∃ a vs k, v = .ref a ∧ NatsAre vs (msums x.cps.toList) ∧ h.get? a = some (listOf vs.toArray k) ∧ s.heap.get? a = none) (fun _ _ => False) s := by
  w_top off
  revert X; k_fill; intro X
  refine' enterC (binds := [(Str.ofString "text", .str x t)]) X T.nolimit ?k6 ?k7 ?k8 ?k9 ?kB ?kD ?_ ?c2 ?c3 ?c4
  case k6 => k_is
  case k7 => k_is
  case k8 => decide
  case k9 => exact BindsTo.of_eq rfl
  case kB => exact rfl
  case kD => decide +kernel
  case c2 => exact rfl
  case c3 => exact rfl
  case c4 => exact rfl
  intro L h₁ tk cells hL F N Y
  obtain ⟨oc, rfl, hoc⟩ := CellsAre.one Y
  clear Y
  walk_at "goN"
  refine newList_K F N ?_
  intro S h F N hS
  have hLS : L + 1 < S := hS _ (.head _)
  walk_at "goN"
  rename Fr _ _ _ _ => F; rename News _ _ _ _ => N
  rename ((_ : Obj).data = Data.cell (some _)) => hoc'
  replace N := cb_drop N (fun p hp => List.Mem.tail _ hp)
  refine For_invV (h₀ := s.heap) rfl rfl ?_
  walk_at "goN"
  rename Fr _ _ _ _ => F; rename News _ _ _ _ => N
  refine loop_str (fun i m nx => m (Str.ofString "sums") = some (.ref S) ∧ ∃ t oc vs k, nx = [(S, listOf vs.toArray k), (L + 1, oc)] ∧ oc.data = .cell (some (.int (mreg (x.cps.toList.take i) : Nat) t)) ∧ NatsAre vs (msums (x.cps.toList.take i))) rfl F N ⟨rfl, _, _, _, _, rfl, hoc', ?_⟩ ?_ ?_
  · exact IntsAre.cons _ _ .nil
  · rintro i c u m₁ nx h tk own hc ⟨hm, t, oc, vs, k, rfl, hoc, hvs⟩ hoff F N
    have hc' : x.cps.toList[i]? = some c := by simpa using hc
    (try k_fold)
    walk_at "goN"
    rename Fr _ _ _ _ => F; rename News _ _ _ _ => N
    refine For_invV (h₀ := s.heap) rfl rfl ?_
    walk_at "goN"
    rename Fr _ _ _ _ => F; rename News _ _ _ _ => N
    refine range1_rows F N ?_
    intro h₂ tk₂ t₁ u₁ v₁ hr' F N _
    refine loop_range (n := 8) (fun j m nx => m (Str.ofString "sums") = some (.ref S) ∧ m (Str.ofString "sign") = some (.str ⟨#[c]⟩ u) ∧ ∃ t oc, nx = (L + 1, oc) :: (S, listOf vs.toArray k) :: own ∧ oc.data = .cell (some (.int (mfeed (mreg (x.cps.toList.take i)) c j : Nat) t))) rfl hr' (by decide) (by decide) F (news := (L + 1, oc) :: (S, listOf vs.toArray k) :: own) (cb_drop N (by intro p hp; simp only [List.mem_cons, List.mem_append, List.cons_append, List.nil_append] at hp ⊢; rcases hp with h | h | h <;> simp [h])) ⟨hm, rfl, _, _, rfl, hoc⟩ ?_ ?_
    · rintro j u' m₂ nx h tk own₂ hj ⟨hm₁, hm₂, t, oc, rfl, hoc⟩ hoff₂ F N
      walk_at "goN"
      rename Fr _ _ _ _ => F; rename News _ _ _ _ => N
      refine' storeX_C (v₀ := some (.int (mfeed (mreg (x.cps.toList.take i)) c j : Nat) t)) F N ?k1 (UpdF.head ?k2) ?k3 ?_ ?k4 ?k5
      case k1 => exact rfl
      case k2 =>
        intro p hp
        rcases List.mem_append.mp hp with hp | hp
        · rcases List.mem_cons.mp hp with rfl | hp
          · exact Nat.ne_of_gt hLS
          · exact (hoff _ (.tail _ (.head _)) p hp).symm
        · exact (hoff₂ _ (.head _) p hp).symm
      case k3 => exact hoc
      case k4 => exact rfl
      case k5 => exact rfl
      intro h o' F N ho'
      walk_at "goN"
      rw [mstep_int] at ho'
      refine EndG.intro (nx := (L + 1, o') :: (S, listOf vs.toArray k) :: own) F N ⟨?_, ?_, _, o', rfl, ho'⟩ ?_ ?_ ?_
      · walk_at "m fact"
      · walk_at "m fact"
      · intro p hp
        exact List.mem_append_left _ hp
      · intro p hp
        exact .tail _ (List.mem_append_right _ hp)
      · intro p hp q hq
        rcases List.mem_cons.mp hp with rfl | hp
        · exact hoff₂ _ (.head _) q hq
        · exact hoff₂ p (.tail _ hp) q hq
    · rintro m₂ nx h tk ⟨hm₁, hm₂, t, oc, rfl, hoc⟩ F N
      dsimp only
      walk_at "goN"
      generalize hre : mfeed (mreg (x.cps.toList.take i)) c 8 = r at hoc
      have hcl : ∀ h', Keep h h' → h'.IsCell (L + 1) (some (.int (r : Nat) t)) := fun h' hk => ⟨oc, hk _ _ (N _ (.head _)).1, hoc⟩
      refine ListComp_DCr (h₀ := s.heap) (L := L) (m := m₂) (pz := fun k => (r >>> (31 - k.toNat)) % 2 == 0) (d := fun k => .int (2 ^ k.toNat)) rfl rfl (by decide) rfl (by decide) rfl ?_ (by intro _; rfl)
      walk_at "goN"
      refine range1_rows F N ?_
      intro h₃ tk₃ t₃ u₃ v₃ hr₃ F N hk₃
      refine ⟨_, _, _, _, _, _, _, _, 32, rfl, hr₃, by decide, by decide, by decide, F, N, ?_, ?_, ?_⟩
      · intro C a v s₂ m₃ E' hC ha hv hns hmv hk₂
        obtain ⟨tv, rfl⟩ := hv
        have hb := mem_rangeInts ha
        have hcl₂ := hcl _ (Keep.trans hk₃ hk₂)
        refine wpAny_tests_one ?_
        walk_at "goN"
        · rw [show (31 - a).toNat = 31 - a.toNat by omega, shr_nat, and_one_nat]
          rcases Nat.mod_two_eq_zero_or_one (r >>> (31 - a.toNat)) with e | e <;> rw [e] <;> rfl
        · exact ⟨_, _, rfl, fun _ _ e => e⟩
      · intro C a v s₂ m₃ E' hC ha hv hpz hns hmv hk₂
        obtain ⟨tv, rfl⟩ := hv
        have hb := mem_rangeInts ha
        have hcl₂ := hcl _ (Keep.trans hk₃ hk₂)
        walk_at "goN"
        · rw [Int.one_mul]
          exact .int _ _
        · exact ⟨_, _, rfl, fun _ _ e => e⟩
      · intro D ys h₄ tk₄ F N hD hl hpl hcar
        dsimp only
        walk_at "goN"
        refine sum_here rfl hl (IntsAre.ofCarried (ns := ((rangeInts 0 1 32).filter fun k => (r >>> (31 - k.toNat)) % 2 == 0).map fun k => (2 : Int) ^ k.toNat) (by rw [List.map_map]; exact hcar)) ?_
        intro h₅ tk₅ t₅ hk₅
        rw [mval_int]
        replace F := F.keeps hk₅
        replace N := News.grown N hk₅
        walk_at "goN"
        refine' append_K F N (Upd.tail ?k1 (Upd.head ?k2)) ?_ ?k3
        case k1 => exact Nat.ne_of_lt hLS
        case k2 => exact fun p hp => (hoff _ (.head _) p hp).symm
        case k3 =>
          have := hvs.length
          rw [List.size_toArray, this, sizeLine_eq]
          simp only [msums, List.length_cons, List.length_map, List.length_range, List.length_take, Array.length_toList]
          omega
        intro h₆ F N
        walk_at "goN"
        rw [List.push_toArray] at N
        refine EndG.intro (nx := [(S, listOf (vs ++ [Value.int (mval r : Nat) t₅]).toArray (k + 1)), (L + 1, oc)]) F N ⟨hm₁, t, oc, _, _, rfl, ?_, ?_⟩ ?_ ?_ ?_
        · rw [show x.cps.toList.take (i + 1) = x.cps.toList.take i ++ [c] by rw [List.take_add_one, hc']; rfl, mreg_snoc, hre]
          exact hoc
        · rw [msums_snoc hc', hre]
          exact hvs.snoc _ _
        · intro p hp
          rcases List.mem_cons.mp hp with rfl | hp
          · exact .tail _ (.head _)
          · rcases List.mem_cons.mp hp with rfl | hp
            · exact .head _
            · cases hp
        · intro p hp
          exact .tail _ (.tail _ hp)
        · intro p hp q hq
          rcases List.mem_cons.mp hp with rfl | hp
          · exact hoff _ (.head _) q hq
          · rcases List.mem_cons.mp hp with rfl | hp
            · exact hoff _ (.tail _ (.head _)) q hq
            · cases hp
  · rintro m₁ nx h tk ⟨hm, t, oc, vs, k, rfl, hoc, hvs⟩ F N
    dsimp only
    walk_at "goN"
    refine Back.intro rfl F.keep ⟨S, vs, k, rfl, ?_, (N _ (.head _)).1, (N _ (.head _)).2.2⟩
    rwa [List.take_of_length_le (by simp)] at hvs
end Mine

namespace Mine
theorem rangeNats {a n : Nat} {ys : List Value} (h : CarriedAll ys ((rangeInts (a : Nat) 1 n).map PyData.int)) : NatsAre ys (List.range' a n) := by
  have h1 := IntsAre.ofCarried h
  have e : rangeInts (a : Nat) 1 n = (List.range' a n).map Int.ofNat := by
    rw [rangeInts, List.range'_eq_map_range, List.map_map]
    apply List.map_congr_left
    intro i _
    show (a : Int) + (i : Nat) * 1 = Int.ofNat (a + i)
    simp
  rw [e] at h1
  exact h1
theorem news_plain {h₀ h : Heap} {L D : Addr} {m : Str → Option Value} {news : List (Addr × Obj)} {items : Array Value} (F : Fr h₀ L h m) (N : News h₀ L h news) (hp : NewPlain h news D items) (hD : h₀.get? D = none) :
    ∃ k, News h₀ L h ((D, listOf items k) :: news) := by
  have hL := hp.ne_locals F
  obtain ⟨⟨k, e⟩, _⟩ := hp
  refine ⟨k, fun p hp => ?_⟩
  rcases List.mem_cons.mp hp with rfl | hp
  · exact ⟨e, hL, hD⟩
  · exact N p hp
section
variable {prog : Program} {w : World} {A : Around} {E : Value → Shared → Prop} {s : Shared} {h₀ : Heap} {L : Addr} {m : Str → Option Value} {news : List (Addr × Obj)}
theorem len_here {l : Addr} {vs : List Value} {n : Nat} {Q : Value → Shared → Prop} (hl : s.heap.IsList l vs.toArray) (hn : vs.length = n) (hz : n ≤ 100000) (h : ∀ tk t, Q (.int (n : Nat) t) { s with toks := tk }) :
    wpAny (model prog w) A (call (.builtin "len") [.ref l]) Q E s := by
  refine len_list hl (by rw [List.size_toArray, hn]; omega) ?_
  rw [List.size_toArray, hn]
  exact h _ _
theorem min_here {l : Addr} {vs : List Value} {ns : List Nat} {Q : Value → Shared → Prop} (hh : A.handled = none) (hl : s.heap.IsList l vs.toArray) (hi : NatsAre vs ns) (hne : 0 < ns.length)
    (h : ∀ h' tk t' M, Keep s.heap h' → M ∈ ns → (∀ a ∈ ns, M ≤ a) → Q (.int (M : Nat) t') { s with heap := h', toks := tk }) : wpAny (model prog w) A (call (.builtin "min") [.ref l]) Q E s := by
  obtain ⟨xs, e⟩ := IntsAre.allInts hi |>.items
  have hn : numsOf vs = ns.map Int.ofNat := IntsAre.numsOf hi
  have hlen := hi.length
  have hsz : xs.size = vs.length := by
    have := congrArg Array.size e
    simpa [intItems] using this.symm
  have e2 : xs.toList.map (·.1) = ns.map Int.ofNat := by rw [← hn, ← nums_intItems, ← e]
  rw [e] at hl
  refine min_intList hh hl (by omega) fun v h' tk hv hk => ?_
  obtain ⟨t, rfl⟩ := intItems_at hv
  obtain ⟨h1, h2⟩ := argBest_lt (numAt xs) (xs.size - 1)
  have m1 : numAt xs (argBest (fun i j => decide (numAt xs i < numAt xs j)) (xs.size - 1)) ∈ xs.toList.map (·.1) := by
    rw [numAt_eq]; exact getD_mem (by rw [List.length_map, Array.length_toList]; omega)
  rw [e2] at m1
  obtain ⟨M, hM, hMe⟩ := List.mem_map.mp m1
  rw [← hMe]
  refine h h' tk t M hk hM fun a ha => ?_
  have ha' : (Int.ofNat a) ∈ xs.toList.map (·.1) := by rw [e2]; exact List.mem_map.mpr ⟨a, ha, rfl⟩
  obtain ⟨j, hj, hje⟩ := mem_getD ha'
  rw [List.length_map, Array.length_toList] at hj
  have h3 := h2 j (by omega)
  rw [← hMe, numAt_eq, hje] at h3
  exact Int.ofNat_le.mp h3

theorem list_range_here {r : Addr} {a b : Nat} {t u v : Tok} {Q : Value → Shared → Prop} (hh : A.handled = none) (F : Fr h₀ L s.heap m) (N : News h₀ L s.heap news) (hr : IsRange s.heap r a b 1 t u v) (hb : b ≤ 100000) (hab : a ≤ b)
    (h : ∀ D h' tk ys k, Fr h₀ L h' m → News h₀ L h' ((D, listOf ys.toArray k) :: news) → (∀ p ∈ news, p.1 < D) → NatsAre ys (List.range' a (b - a)) → Q (.ref D) { s with heap := h', toks := tk }) :
    wpAny (model prog w) A (call (.type "list") [.ref r]) Q E s := by
  refine list_rangeD (n := b - a) hh F N hr (small_one (by omega) (by omega) (by omega) (by omega)) (by rw [rangeSize_nat]; omega) (by omega) ?_
  intro h' tk ys F' N' _ hD hl hpl hcar
  obtain ⟨k, N'⟩ := news_plain F' N' hpl hD
  exact h _ h' tk ys k F' N' (fun p hp => Heap.lt_size (N p hp).1) (rangeNats hcar)
theorem add_here {l b : Addr} {vs ws : List Value} {Q : Value → Shared → Prop} (F : Fr h₀ L s.heap m) (N : News h₀ L s.heap news) (hl : s.heap.IsList l vs.toArray) (hb : s.heap.IsList b ws.toArray)
    (h : ∀ D h', Fr h₀ L h' m → News h₀ L h' ((D, listOf (vs ++ ws).toArray 0) :: news) → (∀ p ∈ news, p.1 < D) → Q (.ref D) { s with heap := h' }) (hsz : vs.length + ws.length ≤ 100000) :
    wpAny (model prog w) A (binaryOp .Add (.ref l) (.ref b)) Q E s :=
  add_arrays F N hl hb (fun h' F' N' => h _ h' F' N' fun p hp => Heap.lt_size (N p hp).1) (by rw [List.size_toArray, List.size_toArray, sizeLine_eq]; omega)

theorem slice_keep {value slice : PySem.Expr} {l : Addr} {vs : List Value} {ns : List Int} {x y : Int} {tx ty : Tok} {ops : List Value} {Q : Value → Shared → Prop} (hl : s.heap.IsList l vs.toArray) (hi : IntsAre vs ns) (hx : 0 ≤ x) (hy : 0 ≤ y) (hz : ns.length ≤ 100000)
    (h : ∀ D h' ws, Keep s.heap h' → h'.IsList D ws.toArray → IntsAre ws ((ns.drop x.toNat).take (min y.toNat ns.length - x.toNat)) → Q (.ref D) { s with heap := h' })
    (hs : subscripted slice false (.ref l) (.ref s.heap.objs.size) = operate ops (getItem (.ref l) (.ref s.heap.objs.size))) (ht : ∀ r, letTemporaryGo value (.ref l) r = pure ()) :
    wpAny (model prog w) A (subscriptTail value slice (.ref l) (.ref s.heap.objs.size)) Q E { s with heap := s.heap.push { cls := .type "slice", data := .fields #[.int x tx, .int y ty, .none] } } := by
  have hsz : vs.toArray.size ≤ sizeLine := by rw [List.size_toArray, hi.length, sizeLine_eq]; omega
  refine subscriptTail_ops (Heap.IsList.typeIs (s := { s with heap := s.heap.push { cls := .type "slice", data := .fields #[.int x tx, .int y ty, .none] } }) (hl.push _)) list_getitem_lookup
    (wpAny_getItem_list_slice (lo := some x) (hi := some y) (st := none) (hl.push _) (Heap.IsSliceOf.new ..) (.int _ _) (.int _ _) .none (by simp) ?_ hsz) hs ht
  refine h _ _ _ ?_ ⟨_, Heap.get?_push_size _ rfl, rfl, 0, ?_⟩ (kmk_run hi hx hy)
  · exact fun b o e => Heap.get?_push_of_some _ (Heap.get?_push_of_some _ e)
  · rw [Array.toArray_toList]
theorem list_keep {vs : List Value} {Q : Value → Shared → Prop} (hz : vs.length ≤ 100000) (h : ∀ D h', Keep s.heap h' → h'.IsList D vs.toArray → Q (.ref D) { s with heap := h' }) : wpAny (model prog w) A (newList vs) Q E s := by
  refine wpAny_newObj_type (h _ _ (fun b o e => Heap.get?_push_of_some _ e) ⟨_, Heap.get?_push_size _ rfl, rfl, 0, rfl⟩) ?_
  show vs.toArray.size ≤ sizeLine
  rw [List.size_toArray, sizeLine_eq]
  omega
end
end Mine

namespace Mine
/- the walk keeps its table of lines by their number alone: this line makes the number another than that of the part before -/
local macro_rules | `(tactic| walk_at "pad") => `(tactic| skip)
local macro_rules | `(tactic| walk_at "m fact") => `(tactic| first | exact rfl | assumption | ((repeat (first | exact if_pos rfl | refine (if_neg (by decide)).trans ?_)); first | exact rfl | assumption))
local macro_rules | `(tactic| walk_at "eval Name") => `(tactic| (k_here; k_dflt (refine' ld ?k1 ?k2 ?_; (case k1 => k_asm); (case k2 => walk_at "m fact"); k_whole)))
local macro_rules | `(tactic| walk_at "loadName") => `(tactic| (k_here; k_dflt (refine' ldn ?k1 ?k2 ?_; (case k1 => k_asm); (case k2 => walk_at "m fact"); k_whole)))
local macro_rules | `(tactic| walk_at "halt") => `(tactic| with_reducible (first | show wpAny _ _ (newList _) _ _ _ | show wpAny _ _ (pyIter _) _ _ _ | show wpAny _ _ (call (Value.type _) _) _ _ _ | show wpAny _ _ (call (Value.ref _) _) _ _ _ | show wpAny _ _ (call (Value.builtin "list.append") _) _ _ _ | show wpAny _ _ (call (Value.builtin "min") _) _ _ _ | show wpAny _ _ (call (Value.builtin "len") _) _ _ _ | show wpAny _ _ (binaryOp _ (Value.ref _) (Value.ref _)) _ _ _ | show wpAny _ _ (subscriptTail _ _ (Value.ref _) _) _ _ _ | show wpAny _ _ (compareOp CmpOp.Eq (Value.ref _) (Value.ref _)) _ _ _ | show wpAny _ _ (exec (Stmt.For _ _ _ _ _) _) _ _ _ | show wpAny _ _ (eval (Expr.ListComp _ _ _ _) _) _ _ _ | show wpAny _ _ (exec (Stmt.Assign _ (Expr.ListComp _ _ _ _) _) _) _ _ _))
local macro_rules | `(tactic| walk_at "goN") => `(tactic| repeat' (first | (k_unfold; (try dsimp only)) | ((fail_if_success (walk_at "halt")); walk1) | (dsimp only; (fail_if_success (walk_at "halt")); walk1)))
local macro_rules | `(tactic| walk_at "eval Name") => `(tactic| (k_here; k_dflt (refine' nameX_L ?k1 ?k2 ?_; (case k1 => k_asm); (case k2 => walk_at "m fact"); k_whole)))

local macro_rules | `(tactic| walk_at "eval Name") => `(tactic| (k_dflt (first | (refine' wpAny_Name (wpAny_loadName_local ?a1 ?a2 ?a3 ?a4 ?_) ?a5; (case a1 => exact rfl); (case a2 => exact rfl); (case a3 => first | k_asm | exact Heap.Ns.keeps (by k_asm) (by k_asm)); (case a4 => walk_at "m fact"); (case a5 => decide)) | (refine' wpAny_Name (wpAny_loadName_cell ?a1 ?a2 ?a3 ?a4 ?_) ?a5; (case a1 => exact rfl); (case a2 => exact rfl); (case a3 => exact rfl); (case a4 => first | with_reducible assumption | exact Heap.IsCell.keeps (by with_reducible assumption) (by k_asm)); (case a5 => decide)))))

def lowest (ends : List Nat) (n : Nat) : Nat := ends.foldl min n
def endStep (sums : List Nat) (ends : List Nat) (st : Nat × Nat) : List Nat :=
  if st.1 = 0 then List.range' (lowest ends sums.length) (sums.length - lowest ends sums.length)
  else (ends.filter fun i => sums[i + st.1]? == some (ahead st.1 (sums.getD i 0) ^^^ st.2)).map fun i => i + st.1
def endsOf (sums : List Nat) (start : Nat) (steps : List (Nat × Nat)) : List Nat := steps.foldl (endStep sums) [start]

theorem lowest_le (ends : List Nat) (n : Nat) : lowest ends n ≤ n := by
  unfold lowest
  induction ends generalizing n with
  | nil => exact Nat.le_refl _
  | cons a l ih => exact Nat.le_trans (ih _) (Nat.min_le_left _ _)
theorem lowest_spec (ends : List Nat) (n : Nat) : lowest ends n ∈ ends ++ [n] ∧ ∀ a ∈ ends ++ [n], lowest ends n ≤ a := by
  unfold lowest
  induction ends generalizing n with
  | nil => exact ⟨.head _, fun a ha => by rw [List.mem_singleton.mp ha]; exact Nat.le_refl _⟩
  | cons b l ih =>
    obtain ⟨h1, h2⟩ := ih (min n b)
    constructor
    · rcases List.mem_append.mp h1 with h | h
      · exact .tail _ (List.mem_append_left _ h)
      · have e := List.mem_singleton.mp h
        rw [List.foldl_cons, e]
        rcases Nat.le_total n b with q | q
        · rw [Nat.min_eq_left q]; simp
        · rw [Nat.min_eq_right q]; simp
    · intro a ha
      have h3 := h2 (min n b) (List.mem_append_right _ (.head _))
      rw [List.foldl_cons]
      rcases List.mem_cons.mp ha with rfl | ha
      · exact Nat.le_trans h3 (Nat.min_le_right _ _)
      · rcases List.mem_append.mp ha with h | h
        · exact h2 a (List.mem_append_left _ h)
        · rw [List.mem_singleton.mp h]; exact Nat.le_trans h3 (Nat.min_le_left _ _)
theorem lowest_eq {ends : List Nat} {n M : Nat} (h1 : M ∈ ends ++ [n]) (h2 : ∀ a ∈ ends ++ [n], M ≤ a) : lowest ends n = M :=
  Nat.le_antisymm ((lowest_spec ends n).2 M h1) (h2 _ (lowest_spec ends n).1)
theorem endsOf_snoc {sums : List Nat} {start : Nat} {steps : List (Nat × Nat)} {i : Nat} {p : Nat × Nat} (h : steps[i]? = some p) : endsOf sums start (steps.take (i + 1)) = endStep sums (endsOf sums start (steps.take i)) p := by
  rw [List.take_add_one, h]; simp [endsOf]
theorem endStep_lt {sums ends : List Nat} {st : Nat × Nat} (_h : ∀ x ∈ ends, x < sums.length) : ∀ x ∈ endStep sums ends st, x < sums.length := by
  intro x hx
  unfold endStep at hx
  split at hx
  · rw [List.mem_range'_1] at hx
    omega
  · obtain ⟨i, hi, rfl⟩ := List.mem_map.mp hx
    have := (List.mem_filter.mp hi).2
    rw [beq_iff_eq] at this
    exact (List.getElem?_eq_some_iff.mp this).1
theorem endsOf_lt {sums : List Nat} {start : Nat} (h : start < sums.length) : ∀ (steps : List (Nat × Nat)), ∀ x ∈ endsOf sums start steps, x < sums.length := by
  intro steps
  unfold endsOf
  have key : ∀ (steps : List (Nat × Nat)) (ends : List Nat), (∀ x ∈ ends, x < sums.length) → ∀ x ∈ steps.foldl (endStep sums) ends, x < sums.length := by
    intro steps
    induction steps with
    | nil => exact fun ends he => he
    | cons p r ih => exact fun ends he => ih _ (endStep_lt he)
  exact key steps _ (by intro x hx; rw [List.mem_singleton.mp hx]; exact h)
theorem endsOf_length {sums : List Nat} {start : Nat} (h : start < sums.length) : ∀ (steps : List (Nat × Nat)), (endsOf sums start steps).length ≤ sums.length := by
  intro steps
  unfold endsOf
  have key : ∀ (steps : List (Nat × Nat)) (ends : List Nat), ends.length ≤ sums.length → (steps.foldl (endStep sums) ends).length ≤ sums.length := by
    intro steps
    induction steps with
    | nil => exact fun ends he => he
    | cons p r ih =>
      refine fun ends he => ih _ ?_
      unfold endStep
      split
      · rw [List.length_range']; omega
      · rw [List.length_map]; exact Nat.le_trans (List.length_filter_le _ _) he
  exact key steps _ (by simp; omega)
theorem slice_test (sums : List Nat) (n sz x : Nat) :
    decide (List.take (min ((n : Int) + (sz : Int) + 1).toNat (List.map Int.ofNat sums).length - ((n : Int) + (sz : Int)).toNat) (List.drop ((n : Int) + (sz : Int)).toNat (List.map Int.ofNat sums)) = [((x : Nat) : Int)]) = (sums[n + sz]? == some x) := by
  rw [show ((n : Int) + (sz : Int) + 1).toNat = n + sz + 1 by omega, show ((n : Int) + (sz : Int)).toNat = n + sz by omega, List.length_map, ← List.map_drop, ← List.map_take]
  by_cases h : n + sz < sums.length
  · rw [Nat.min_eq_left (by omega), show n + sz + 1 - (n + sz) = 1 by omega, List.drop_eq_getElem_cons h, List.take_succ_cons, List.take_zero, List.getElem?_eq_getElem h]
    rw [Bool.eq_iff_iff, decide_eq_true_eq, beq_iff_eq]
    simp only [List.map_cons, List.map_nil, List.cons.injEq, and_true, Option.some.injEq]
    constructor
    · exact fun e => Int.ofNat.inj e
    · exact fun e => by rw [e]; rfl
  · rw [Nat.min_eq_right (by omega), show sums.length - (n + sz) = 0 by omega, List.take_zero, List.getElem?_eq_none (by omega)]
    simp
theorem paired_nats {cond : Nat → Bool} {sz : Nat} {pv : Value → Bool} {Fv : Value → Value → Prop} (hp : ∀ (n : Nat) t, pv (.int (n : Nat) t) = cond n) (hF : ∀ (n : Nat) t y, Fv (.int (n : Nat) t) y → ∃ t', y = .int ((n + sz : Nat) : Int) t') :
    ∀ {ns : List Nat} {ws ys : List Value}, NatsAre ws ns → Paired Fv (ws.filter pv) ys → NatsAre ys ((ns.filter cond).map fun i => i + sz) := by
  intro ns
  induction ns with
  | nil =>
    intro ws ys h q
    obtain rfl := IntsAre.nil_inv h
    rw [List.filter_nil] at q
    cases q
    exact .nil
  | cons n ns ih =>
    intro ws ys h q
    obtain ⟨t, ws', rfl, h'⟩ := IntsAre.cons_inv h
    rw [List.filter_cons, show pv (.int (Int.ofNat n) t) = cond n from hp n t] at q
    rw [List.filter_cons]
    cases hc : cond n with
    | false =>
      rw [hc] at q
      exact ih h' q
    | true =>
      rw [hc] at q
      simp only [if_true] at q ⊢
      cases q with
      | cons hf q =>
        obtain ⟨t', rfl⟩ := hF n t _ hf
        exact IntsAre.cons _ _ (ih h' q)
theorem News.of_put {h₀ h h' : Heap} {L D : Addr} {news : List (Addr × Obj)} {items : Array Value} {k : Nat} (N : News h₀ L h news) (hk : ∀ b o, b ≠ L → h.get? b = some o → h'.get? b = some o) (hL : D ≠ L) (h0 : h₀.get? D = none) (hD : h'.get? D = some (listOf items k)) :
    News h₀ L h' ((D, listOf items.toList.toArray k) :: news) := fun p hp => by
  rcases List.mem_cons.mp hp with rfl | hp
  · exact ⟨by rw [hD], hL, h0⟩
  · exact ⟨hk _ _ (N p hp).2.1 (N p hp).1, (N p hp).2⟩
abbrev pairObj (a b : Nat) (t u : Tok) (k : Nat) : Obj := { cls := .type "tuple", data := .seq #[.int a t, .int b u] k }
/-- the steps, as the heap bears them -/
def StepsAt (h : Heap) (as : List Addr) (steps : List (Nat × Nat)) : Prop :=
  as.length = steps.length ∧ ∀ (j : Nat) (a : Addr), as[j]? = some a → ∃ x y t u k, steps[j]? = some (x, y) ∧ h.get? a = some (pairObj x y t u k)
def RowsAt (h : Heap) (as : List Addr) (rows : List (List Nat)) : Prop :=
  as.length = rows.length ∧ ∀ (j : Nat) (a : Addr), as[j]? = some a → ∃ r vs n, rows[j]? = some r ∧ h.get? a = some (listOf vs.toArray n) ∧ NatsAre vs r

set_option maxHeartbeats 4000000 in
theorem law_ends {w : World} {mean : ExcName → Option Value} {mg mb : Str → Option Value} {s : Shared} {start : Nat} {t : Tok} {P S O : Addr} {as rs : List Addr} {steps : List (Nat × Nat)} {sums : List Nat} {vs : List Value} {kP kO kS : Nat}
    (T : Top Mine.hd.view_39 (looseW Mine.hd.view_39 []) mean mg mb s.heap) (X : (Mine.hd.heap_39 w.params).In s.heap)
    (hP : s.heap.get? P = some (listOf (as.map Value.ref).toArray kP)) (hsteps : StepsAt s.heap as steps) (hS : s.heap.get? S = some (listOf vs.toArray kS)) (hvs : NatsAre vs sums)
    (hO : s.heap.get? O = some (listOf (rs.map Value.ref).toArray kO)) (hrs : RowsAt s.heap rs (sums.map (rowOf 4))) (hst : start < sums.length) (hz : sums.length ≤ 1000) (h4 : ∀ p ∈ steps, p.1 ≤ 4) :
    wpAny (model PySem.Challenge.rw_mr0068_01.row.prog w) (Ar 400 100) (call (.ref 66) [.int start t, .ref P, .ref S, .ref O]) (Back s fun v h => ∃ a ws k, v = .ref a ∧ NatsAre ws (endsOf sums start steps) ∧ h.get? a = some (listOf ws.toArray k) ∧ s.heap.get? a = none) (fun _ _ => False) s := by
  w_top off
  revert X; k_fill; intro X
  refine' enterC (binds := [(Str.ofString "start", .int start t), (Str.ofString "steps", .ref P), (Str.ofString "sums", .ref S), (Str.ofString "onward", .ref O)]) X T.nolimit ?k6 ?k7 ?k8 ?k9 ?kB ?kD ?_ ?c2 ?c3 ?c4
  case k6 => k_is
  case k7 => k_is
  case k8 => decide
  case k9 => exact BindsTo.of_eq rfl
  case kB => exact rfl
  case kD => decide +kernel
  case c2 => exact rfl
  case c3 => exact rfl
  case c4 => exact rfl
  intro L h₁ tk cells hL F N Y
  obtain ⟨o4, o3, o2, o1, rfl, h4', h3', h2', h1'⟩ := CellsAre.four Y
  clear Y
  walk_at "goN"
  refine newList_K F N ?_
  intro e h F N he
  walk_at "goN"
  rename Fr _ _ _ _ => F; rename News _ _ _ _ => N
  refine For_invT (h₀ := s.heap) ?_ (by intro _; rfl)
  walk_at "goN"
  refine loop_argT (vs := (as.map Value.ref).toArray) (fun i m nx => ∃ e ws k o4 o3 o2 o1 v4 v3, m (Str.ofString "ends") = some (.ref e) ∧
    nx = [(e, listOf ws.toArray k), (L + 1 + 1 + 1 + 1, o4), (L + 1 + 1 + 1, o3), (L + 1 + 1, o2), (L + 1, o1)] ∧ o4.data = .cell v4 ∧ o3.data = .cell v3 ∧ o2.data = .cell (some (.ref O)) ∧ o1.data = .cell (some (.ref S)) ∧
    (e ≠ L + 1 ∧ e ≠ L + 1 + 1 ∧ e ≠ L + 1 + 1 + 1 ∧ e ≠ L + 1 + 1 + 1 + 1) ∧ NatsAre ws (endsOf sums start (steps.take i))) rfl ⟨_, hP, rfl, _, rfl⟩ F N ?_ ?_ ?_
  · refine ⟨e, _, _, o4, o3, o2, o1, _, _, rfl, rfl, h4', h3', h2', h1', ?_, IntsAre.cons _ _ .nil⟩
    have q1 := he _ (.head _)
    have q2 := he _ (.tail _ (.head _))
    have q3 := he _ (.tail _ (.tail _ (.head _)))
    have q4 := he _ (.tail _ (.tail _ (.tail _ (.head _))))
    dsimp only at q1 q2 q3 q4
    exact ⟨Nat.ne_of_gt q4, Nat.ne_of_gt q3, Nat.ne_of_gt q2, Nat.ne_of_gt q1⟩
  · rintro i v m₁ nx s₁ own hv ⟨e, ws, k, o4, o3, o2, o1, v4, v3, hm, rfl, d4, d3, d2, d1, hne, hws⟩ hoff F N
    obtain ⟨a, ha, rfl⟩ : ∃ a, as[i]? = some a ∧ v = .ref a := by
      rw [List.getElem?_toArray, List.getElem?_map] at hv
      obtain ⟨a, h1, h2⟩ := Option.map_eq_some_iff.mp hv
      exact ⟨a, h1, h2.symm⟩
    obtain ⟨sz, ow, tz, tw, kp, hst', hpair⟩ := hsteps.2 i a ha
    have htup : IsTup s.heap a #[.int (sz : Nat) tz, .int (ow : Nat) tw] := ⟨_, hpair, rfl, _, rfl⟩
    have hown : ∀ p ∈ own, p.1 ≠ L + 1 + 1 + 1 ∧ p.1 ≠ L + 1 + 1 + 1 + 1 ∧ p.1 ≠ e := fun p hp =>
      ⟨(hoff _ (.tail _ (.tail _ (.head _))) p hp).symm, (hoff _ (.tail _ (.head _)) p hp).symm, (hoff _ (.head _) p hp).symm⟩
    (try k_fold)
    walk_at "goN"
    rename Fr _ _ _ _ => F; rename News _ _ _ _ => N
    refine' storeX_C (v₀ := v3) F N ?k1 (UpdF.tail ?k2 (UpdF.tail ?k3 (UpdF.head ?k4))) ?k5 ?_ ?k6 ?k7
    case k1 => exact rfl
    case k2 => exact hne.2.2.1
    case k3 => exact Nat.ne_of_gt (Nat.lt_succ_self _)
    case k4 =>
      intro p hp
      rcases List.mem_cons.mp hp with rfl | hp
      · exact Nat.ne_of_lt (Nat.lt_succ_self _)
      rcases List.mem_cons.mp hp with rfl | hp
      · exact Nat.ne_of_lt (Nat.lt_succ_of_lt (Nat.lt_succ_self _))
      exact (hown p hp).1
    case k5 => exact d3
    case k6 => exact rfl
    case k7 => exact rfl
    intro h o3' F N d3'
    walk_at "goN"
    refine' storeX_C (v₀ := v4) F N ?k1 (UpdF.tail ?k2 (UpdF.head ?k4)) ?k5 ?_ ?k6 ?k7
    case k1 => exact rfl
    case k2 => exact hne.2.2.2
    case k4 =>
      intro p hp
      rcases List.mem_cons.mp hp with rfl | hp
      · exact Nat.ne_of_lt (Nat.lt_succ_self _)
      rcases List.mem_cons.mp hp with rfl | hp
      · exact Nat.ne_of_lt (Nat.lt_succ_of_lt (Nat.lt_succ_self _))
      rcases List.mem_cons.mp hp with rfl | hp
      · exact Nat.ne_of_lt (Nat.lt_succ_of_lt (Nat.lt_succ_of_lt (Nat.lt_succ_self _)))
      exact (hown p hp).2.1
    case k5 => exact d4
    case k6 => exact rfl
    case k7 => exact rfl
    intro h o4' F N d4'
    have hSl : s.heap.IsList S vs.toArray := ⟨_, hS, rfl, _, rfl⟩
    have hlt : ∀ x ∈ endsOf sums start (steps.take i), x < sums.length := endsOf_lt hst _
    walk_at "goN"
    · have hsz : ((sz : Nat) : Int) = 0 := by assumption
      refine len_here (hSl.at fun o e => F.keep _ _ e) hvs.length (by omega) ?_
      intro tk t₁
      walk_at "goN"
      refine newList_K F N ?_
      intro b h F N hb
      walk_at "goN"
      refine' add_here F N (News.listAt N (.tail _ (.head _))) (News.listAt N (.head _)) ?_ ?_
      · intro c h F N hc
        walk_at "goN"
        refine min_here (ns := endsOf sums start (steps.take i) ++ [sums.length]) rfl (News.listAt (n := 0) N (.head _)) (hws.snoc _ _) (by simp) ?_
        intro h tk t₂ M hk hM hle
        replace F := F.keeps hk
        replace N := News.grown N hk
        walk_at "goN"
        refine len_here (hSl.at fun o e => F.keep _ _ e) hvs.length (by omega) ?_
        intro tk t₃
        walk_at "goN"
        refine range2_rows F N ?_
        intro h tk t₄ u₄ v₄ hr F N _
        have hlo := lowest_eq hM hle
        have hMle : M ≤ sums.length := hlo ▸ lowest_le _ _
        walk_at "goN"
        refine list_range_here rfl F N hr (by omega) hMle ?_
        intro D h tk ys kD F N hD hys
        walk_at "goN"
        rename Fr _ _ _ _ => F; rename News _ _ _ _ => N
        have r1 := hD _ (.tail _ (.tail _ (.tail _ (.head _))))
        have r2 := hD _ (.tail _ (.tail _ (.tail _ (.tail _ (.head _)))))
        have r3 := hD _ (.tail _ (.tail _ (.tail _ (.tail _ (.tail _ (.head _))))))
        have r4 := hD _ (.tail _ (.tail _ (.tail _ (.tail _ (.tail _ (.tail _ (.head _)))))))
        have r5 : ∀ p ∈ own, p.1 < D := fun p hp => hD _ (.tail _ (.tail _ (.tail _ (.tail _ (.tail _ (.tail _ (.tail _ hp)))))))
        dsimp only at r1 r2 r3 r4
        refine EndG.intro (nx := [(D, listOf ys.toArray kD), (L + 1 + 1 + 1 + 1, o4'), (L + 1 + 1 + 1, o3'), (L + 1 + 1, o2), (L + 1, o1)]) F N ⟨D, ys, kD, o4', o3', o2, o1, _, _, if_pos rfl, rfl, d4', d3', d2, d1, ?_, ?_⟩ ?_ ?_ ?_
        · exact ⟨Nat.ne_of_gt r4, Nat.ne_of_gt r3, Nat.ne_of_gt r2, Nat.ne_of_gt r1⟩
        · rw [endsOf_snoc hst', endStep, if_pos (by show sz = 0; omega), hlo]
          exact hys
        · intro p hp
          rcases List.mem_cons.mp hp with rfl | hp
          · exact .head _
          · exact .tail _ (.tail _ (.tail _ (.tail _ (List.mem_append_left own hp))))
        · intro p hp
          exact .tail _ (.tail _ (.tail _ (.tail _ (List.mem_append_right [(L + 1 + 1 + 1 + 1, o4'), (L + 1 + 1 + 1, o3'), (L + 1 + 1, o2), (L + 1, o1)] hp))))
        · intro p hp q hq
          rcases List.mem_cons.mp hp with rfl | hp
          · exact Nat.ne_of_gt (r5 q hq)
          rcases List.mem_cons.mp hp with rfl | hp
          · exact hoff _ (.tail _ (.head _)) q hq
          rcases List.mem_cons.mp hp with rfl | hp
          · exact hoff _ (.tail _ (.tail _ (.head _))) q hq
          · exact hoff p (.tail _ (.tail _ (.tail _ hp))) q hq
      · have h1 := hws.length
        have h2 := endsOf_length hst (steps.take i)
        simp only [List.length_cons, List.length_nil]
        omega
    · have hsz : ((sz : Nat) : Int) ≠ 0 := by assumption
      have hsz4 : sz ≤ 4 := h4 (sz, ow) (List.mem_of_getElem? hst')
      rename Fr _ _ _ _ => F; rename News _ _ _ _ => N
      let cond : Nat → Bool := fun i => sums[i + sz]? == some (ahead sz (sums.getD i 0) ^^^ ow)
      let pv : Value → Bool := fun v => match v with | .int i _ => cond i.toNat | _ => false
      let Fv : Value → Value → Prop := fun v y => ∃ (i : Nat) (t t' : Tok), v = .int i t ∧ y = .int ((i + sz : Nat) : Int) t'
      refine wpAny_Assign_ListComp_free (cl := _) pv Fv rfl rfl (by decide) rfl (by decide) rfl rfl rfl ?_ (by intro _; rfl)
      walk_at "goN"
      have hel : h.IsList e ws.toArray := News.listAt N (.head _)
      refine wpAny_pyIter_list hel ?_
      have hSh : h.IsList S vs.toArray := hSl.at fun o e => F.keep _ _ e
      have c1 : h.IsCell (L + 1) (some (.ref S)) := ⟨_, (N _ (.tail _ (.tail _ (.tail _ (.tail _ (.head _)))))).1, d1⟩
      have c2 : h.IsCell (L + 1 + 1) (some (.ref O)) := ⟨_, (N _ (.tail _ (.tail _ (.tail _ (.head _))))).1, d2⟩
      have c3 : h.IsCell (L + 1 + 1 + 1) (some (.int (sz : Nat) tz)) := ⟨_, (N _ (.tail _ (.tail _ (.head _)))).1, d3'⟩
      have c4 : h.IsCell (L + 1 + 1 + 1 + 1) (some (.int (ow : Nat) tw)) := ⟨_, (N _ (.tail _ (.head _))).1, d4'⟩
      have Th := T.keeps F.keep
      have hkh : Keep s.heap h := F.keep
      have Xh := X.keeps F.keep
      obtain ⟨oe, hoe, _⟩ := id hel
      have hei : e < h.objs.size := Heap.lt_size hoe
      refine ⟨h.objs.size, [h.objs.size, e], [h.objs.size], ws.toArray.size, _, _, m₁, rfl, Walks.list (prog := _) (w := w) rfl h.objs.size e (Nat.ne_of_lt hei) ws.toArray, ?_, ⟨⟨_, Heap.get?_push_size _ rfl, rfl, rfl⟩, hel.at fun o e => Heap.get?_push_of_some _ e⟩, ?_, ?_, F.ns.keeps fun _ _ e => Heap.get?_push_of_some _ e, ⟨?_, ?_⟩, ?_⟩
      · rw [List.size_toArray, hws.length, sizeLine_eq]
        have := endsOf_length hst (steps.take i)
        omega
      · intro b hb
        show b < (h.push _).objs.size
        rw [Heap.size_push]
        rcases List.mem_cons.mp hb with rfl | hb
        · exact Nat.lt_succ_self _
        · rw [List.mem_singleton.mp hb]; exact Nat.lt_succ_of_lt hei
      · intro hm
        exact absurd F.ns.lt ((List.mem_singleton.mp hm) ▸ Nat.lt_irrefl _)
      · intro C j v s₃ m₃ E' hC hPv hns hmv hk htk
        obtain ⟨n, tn, rfl, hn⟩ := hws.at (by simpa using hPv)
        have hk' : Keep h s₃.heap := fun b o e => hk b o (fun hm => Nat.ne_of_lt (Heap.lt_size e) (List.mem_singleton.mp hm)) (Heap.get?_push_of_some _ e)
        have hC' : h.objs.size ≤ C := by
          have hC2 : (h.push _).objs.size ≤ C := hC
          rw [Heap.size_push] at hC2
          exact Nat.le_of_succ_le hC2
        have hnl : n < sums.length := hlt n (List.mem_of_getElem? hn)
        obtain ⟨ra, hra⟩ : ∃ ra, rs[n]? = some ra := ⟨_, List.getElem?_eq_getElem (by rw [hrs.1, List.length_map]; exact hnl)⟩
        obtain ⟨row, rvs, kr, hrow, hrg, hrn⟩ := hrs.2 n ra hra
        have hsn : sums[n]? = some sums[n] := List.getElem?_eq_getElem hnl
        rw [List.getElem?_map, hsn] at hrow
        obtain rfl : rowOf 4 sums[n] = row := Option.some.inj hrow
        obtain ⟨tr, hri⟩ := hrn.get (rowOf_get (n := sums[n]) hsz4)
        have hO₃ : s₃.heap.IsList O (rs.map Value.ref).toArray := ⟨_, hk' _ _ (hkh _ _ hO), rfl, _, rfl⟩
        have hr₃ : s₃.heap.IsList ra rvs.toArray := ⟨_, hk' _ _ (hkh _ _ hrg), rfl, _, rfl⟩
        have hS₃ : s₃.heap.IsList S vs.toArray := hSh.at fun o e => hk' _ _ e
        replace c1 := c1.keeps hk'
        replace c2 := c2.keeps hk'
        replace c3 := c3.keeps hk'
        replace c4 := c4.keeps hk'
        clear N F hk hel hSh
        refine wpAny_tests_one ?_
        walk_at "goN"
        refine' slice_keep hS₃ hvs ?k1 ?k2 ?k3 ?_ ?k4 ?k5
        case k1 => omega
        case k2 => omega
        case k3 => rw [List.length_map]; omega
        case k4 => with_unfolding_all rfl
        case k5 => intro _; with_unfolding_all rfl
        intro D h ws' kk hD hI
        walk_at "goN"
        refine' item_pos (vs := (rs.map Value.ref).toArray) (v := .ref ra) ?k1 ?k2 ?k3 ?k4 ?_ ?k5
        case k1 => exact hO₃.at fun o e => kk _ _ e
        case k2 => omega
        case k3 => omega
        case k4 => simp [hra]
        case k5 => with_unfolding_all rfl
        walk_at "goN"
        refine' item_pos (vs := rvs.toArray) (v := .int (ahead sz sums[n] : Nat) tr) ?k1 ?k2 ?k3 ?k4 ?_ ?k5
        case k1 => exact hr₃.at fun o e => kk _ _ e
        case k2 => omega
        case k3 => omega
        case k4 => simp [hri]
        case k5 => with_unfolding_all rfl
        walk_at "goN"
        refine list_keep (by simp) ?_
        intro b h' kk' hb
        rw [bitXor_nat] at hb
        walk_at "goN"
        refine eq_intsK (hD.at fun o e => kk' _ _ e) hI hb (IntsAre.cons _ _ .nil) (Nat.le_of_ble_eq_true rfl) ?_
        walk_at "goN"
        · rw [slice_test]
          show _ = (sums[(Int.ofNat n).toNat + sz]? == some (ahead sz (sums.getD (Int.ofNat n).toNat 0) ^^^ ow))
          rw [show (Int.ofNat n).toNat = n from rfl, List.getD_eq_getElem?_getD, hsn]
          rfl
        · exact ⟨_, _, rfl, kk.trans kk'⟩
      · intro C j v s₃ m₃ E' hC hPv hpv hns hmv hk htk
        obtain ⟨n, tn, rfl, hn⟩ := hws.at (by simpa using hPv)
        have hk' : Keep h s₃.heap := fun b o e => hk b o (fun hm => Nat.ne_of_lt (Heap.lt_size e) (List.mem_singleton.mp hm)) (Heap.get?_push_of_some _ e)
        replace c3 := c3.keeps hk'
        clear N F hk hel hSh
        walk_at "goN"
        exact ⟨_, _, rfl, fun _ _ e => e⟩
      · intro D h' tk' ys zs hD hlD hpl hlen hPz hpair hns hkz
        dsimp only at hns hkz ⊢
        have hzs : zs = ws := by
          apply List.ext_getElem?
          intro j
          by_cases hj : j < zs.length
          · obtain ⟨v, hv⟩ : ∃ v, zs[j]? = some v := ⟨_, List.getElem?_eq_getElem hj⟩
            have := hPz j v hv
            rw [hv]
            simpa using this.symm
          · rw [List.getElem?_eq_none (by omega), List.getElem?_eq_none (by simp at hlen; omega)]
        subst hzs
        have hnats := paired_nats (cond := cond) (sz := sz) (fun n t => rfl) (fun n t y hy => by obtain ⟨i, t1, t2, e1, e2⟩ := hy; cases e1; exact ⟨t2, e2⟩) hws hpair
        have hLs : L < h.objs.size := F.ns.lt
        have hkb : ∀ b o, b ≠ L → h.get? b = some o → h'.get? b = some o := fun b o hb eb =>
          hkz b o hb (fun hm => Nat.ne_of_lt (Heap.lt_size eb) (List.mem_singleton.mp hm)) (Heap.get?_push_of_some _ eb)
        have F' : Fr s.heap L h' (fun z => if z = Str.ofString "ends" then some (.ref D) else m₁ z) :=
          ⟨hns, fun b o eb => hkb b o (Nat.ne_of_lt (Nat.lt_of_lt_of_le (Heap.lt_size eb) F.above)) (F.keep b o eb), F.above⟩
        obtain ⟨kD, hDk⟩ := hpl
        have hDn : h.get? D = none := by
          cases q : h.get? D with
          | none => rfl
          | some o => have := Heap.get?_push_of_some (o := { cls := .type "list_iterator", data := .fields #[.ref e, .int 0 0] }) q; rw [this] at hD; cases hD
        have hDL : D ≠ L := by
          rintro rfl
          obtain ⟨o, _, _, ho, _⟩ := F.ns
          rw [ho] at hDn; cases hDn
        have hDs : s.heap.get? D = none := by
          cases q : s.heap.get? D with
          | none => rfl
          | some o => rw [F.keep _ _ q] at hDn; cases hDn
        have N' := News.of_put N hkb hDL hDs hDk
        have hDne : ∀ p ∈ [(e, listOf zs.toArray k), (L + 1 + 1 + 1 + 1, o4'), (L + 1 + 1 + 1, o3'), (L + 1 + 1, o2), (L + 1, o1)] ++ own, D ≠ p.1 := fun p hp q => by
          rw [q, (N p hp).1] at hDn; cases hDn
        walk_at "goN"
        refine EndG.intro (nx := [(D, listOf ys.toList.toArray kD), (L + 1 + 1 + 1 + 1, o4'), (L + 1 + 1 + 1, o3'), (L + 1 + 1, o2), (L + 1, o1)]) F' N' ⟨D, ys.toList, kD, o4', o3', o2, o1, _, _, if_pos rfl, rfl, d4', d3', d2, d1, ?_, ?_⟩ ?_ ?_ ?_
        · exact ⟨hDne _ (.tail _ (.tail _ (.tail _ (.tail _ (.head _))))), hDne _ (.tail _ (.tail _ (.tail _ (.head _)))), hDne _ (.tail _ (.tail _ (.head _))), hDne _ (.tail _ (.head _))⟩
        · rw [endsOf_snoc hst', endStep, if_neg (by show ¬ sz = 0; omega)]
          exact hnats
        · intro p hp
          rcases List.mem_cons.mp hp with rfl | hp
          · exact .head _
          · exact .tail _ (.tail _ (List.mem_append_left own hp))
        · intro p hp
          exact .tail _ (.tail _ (List.mem_append_right [(L + 1 + 1 + 1 + 1, o4'), (L + 1 + 1 + 1, o3'), (L + 1 + 1, o2), (L + 1, o1)] hp))
        · intro p hp q hq
          rcases List.mem_cons.mp hp with rfl | hp
          · exact hDne q (List.mem_append_right [(e, listOf zs.toArray k), (L + 1 + 1 + 1 + 1, o4'), (L + 1 + 1 + 1, o3'), (L + 1 + 1, o2), (L + 1, o1)] hq)
          rcases List.mem_cons.mp hp with rfl | hp
          · exact hoff _ (.tail _ (.head _)) q hq
          rcases List.mem_cons.mp hp with rfl | hp
          · exact hoff _ (.tail _ (.tail _ (.head _))) q hq
          · exact hoff p (.tail _ (.tail _ (.tail _ hp))) q hq
  · rintro m₁ nx h tk ⟨e, ws, k, o4, o3, o2, o1, v4, v3, hm, rfl, d4, d3, d2, d1, hne, hws⟩ F N
    dsimp only
    walk_at "goN"
    refine Back.intro rfl F.keep ⟨e, ws, k, rfl, ?_, (N _ (.head _)).1, (N _ (.head _)).2.2⟩
    rwa [List.take_of_length_le (by simp [hsteps.1])] at hws
end Mine

namespace Mine
open Builtin Builtin.Str

theorem gives_find4 (x y : Str) (i j : Int) (t u v z : Tok) : Gives («str.find» ⟨[.str x t, .str y u, .int i v, .int j z], []⟩) (.int (match occurrences x y (fromIndex x.length i) (min (fromIndex x.length j) x.length) 1 with | k :: _ => (k : Int) | [] => -1)) := by
  show Gives (match occurrences x y (fromIndex x.length i) (min (fromIndex x.length j) x.length) 1 with | k :: _ => retInt k | [] => (do rule "str.find.not-found"; retInt (-1))) _
  cases occurrences x y (fromIndex x.length i) (min (fromIndex x.length j) x.length) 1 with
  | nil => exact .rule (.of_eq rfl)
  | cons k _ => exact .of_eq rfl

section
variable {prog : Program} {w : World} {A : Around} {E : Value → Shared → Prop} {s : Shared}
theorem find_here {x y : Str} {i j : Nat} {t u v z : Tok} {Q : Value → Shared → Prop} (hj : j ≤ x.length)
    (h : Q (.int (match occurrences x y i j 1 with | k :: _ => (k : Int) | [] => -1) s.toks) { s with toks := s.toks + 1 }) :
    wpAny (model prog w) A (call (.builtin "str.find") [.str x t, .str y u, .int (i : Nat) v, .int (j : Nat) z]) Q E s := by
  refine call_gives F.slot_str_find (typeIs_str _ _ _) F.entry_str_find (F.args_str_find_4 _ _ _ _) (gives_find4 x y i j t u v z) ?_
  have e1 : fromIndex x.length (i : Int) = i := by
    unfold fromIndex
    rw [if_neg (by omega)]; omega
  have e2 : min (fromIndex x.length (j : Int)) x.length = j := by
    unfold fromIndex
    rw [if_neg (by omega)]; omega
  rw [e1, e2]
  exact h
end

theorem strs_get : ∀ {vs : List Value} {ys : List Str}, StrsAre vs ys → ∀ {i : Nat} {y : Str}, ys[i]? = some y → ∃ t, vs[i]? = some (.str y t)
  | _, _, .nil, i, y, h => by simp at h
  | _, _, .cons z t r, 0, y, h => by simp at h; exact ⟨t, by simp [h]⟩
  | _, _, .cons z t r, i + 1, y, h => by simpa using strs_get r (by simpa using h)
theorem strs_at : ∀ {vs : List Value} {ys : List Str}, StrsAre vs ys → ∀ {i : Nat} {v : Value}, vs[i]? = some v → ∃ y t, v = .str y t ∧ ys[i]? = some y
  | _, _, .nil, i, y, h => by simp at h
  | _, _, .cons z t r, 0, v, h => by simp at h; exact ⟨z, t, h.symm, by simp⟩
  | _, _, .cons z t r, i + 1, v, h => by simpa using strs_at r (by simpa using h)
theorem strs_length : ∀ {vs : List Value} {ys : List Str}, StrsAre vs ys → vs.length = ys.length
  | _, _, .nil => rfl
  | _, _, .cons _ _ r => by simp [strs_length r]
theorem strs_tail : ∀ {vs : List Value} {ys : List Str}, StrsAre vs ys → StrsAre vs.tail ys.tail
  | _, _, .nil => .nil
  | _, _, .cons _ _ r => r
theorem strs_dropLast : ∀ {vs : List Value} {ys : List Str}, StrsAre vs ys → StrsAre vs.dropLast ys.dropLast
  | _, _, .nil => .nil
  | _, _, .cons _ _ .nil => .nil
  | _, _, .cons y t (.cons z u r) => .cons y t (strs_dropLast (.cons z u r))
theorem eraseIdx_last {α : Type} : ∀ l : List α, l.eraseIdx (l.length - 1) = l.dropLast
  | [] => rfl
  | [_] => rfl
  | a :: b :: r => by
    have := eraseIdx_last (b :: r)
    simp only [List.length_cons, Nat.add_sub_cancel] at this ⊢
    rw [List.eraseIdx_cons_succ, this]
    rfl
section
variable {prog : Program} {w : World} {A : Around} {E : Value → Shared → Prop} {s : Shared} {h₀ : Heap} {L : Addr} {m : Str → Option Value} {news : List (Addr × Obj)}
theorem split_here {x y : Str} {t u : Tok} {Q : Value → Shared → Prop} (F : Fr h₀ L s.heap m) (N : News h₀ L s.heap news) (hy : (y.length == 0) = false) (hx : x.length ≤ 100000)
    (h : ∀ W h' tk vals, Fr h₀ L h' m → News h₀ L h' ((W, listOf vals.toArray 0) :: news) → (∀ p ∈ news, p.1 < W) → StrsAre vals (Txt.split x y) → Q (.ref W) { s with heap := h', toks := tk }) :
    wpAny (model prog w) A (call (.builtin "str.split") [.str x t, .str y u]) Q E s := by
  refine splitN1A F N hy ?_ (by rw [sizeLine_eq]; omega)
  intro l h' k e hs _ _ F' N'
  rw [e] at hs
  exact h _ h' k _ F' N' (fun p hp => Heap.lt_size (N p hp).1) hs
theorem del_first {D : Addr} {vals : List Value} {n : Nat} {u : Tok} {rest : List (Addr × Obj)} {Q : Unit → Shared → Prop} (F : Fr h₀ L s.heap m) (N : News h₀ L s.heap ((D, listOf vals.toArray n) :: rest)) (hap : ∀ p ∈ rest, p.1 ≠ D) (hv : 0 < vals.length) (hz : vals.length ≤ 100000)
    (h : ∀ h', Fr h₀ L h' m → News h₀ L h' ((D, listOf vals.tail.toArray (n + 1)) :: rest) → Q () { s with heap := h' }) : wpAny (model prog w) A (delItem (.ref D) (.int 0 u)) Q E s := by
  refine delItem_head (k := 0) F N hap (by decide) ?_ ?_ (by rw [List.size_toArray, sizeLine_eq]; omega)
  · unfold seqIndex?
    rw [List.size_toArray]
    rw [if_pos (by simp only [Bool.and_eq_true, decide_eq_true_eq]; exact ⟨by show (0 : Int) ≤ 0; decide, by show ((0 : Int)) < (vals.length : Int); omega⟩)]
    rfl
  · intro h' F' N'
    rw [show vals.toArray.toList.eraseIdx 0 = vals.tail by simp] at N'
    exact h h' F' N'
theorem del_last {D : Addr} {vals : List Value} {n : Nat} {u : Tok} {rest : List (Addr × Obj)} {Q : Unit → Shared → Prop} (F : Fr h₀ L s.heap m) (N : News h₀ L s.heap ((D, listOf vals.toArray n) :: rest)) (hap : ∀ p ∈ rest, p.1 ≠ D) (hv : 0 < vals.length) (hz : vals.length ≤ 100000)
    (h : ∀ h', Fr h₀ L h' m → News h₀ L h' ((D, listOf vals.dropLast.toArray (n + 1)) :: rest) → Q () { s with heap := h' }) : wpAny (model prog w) A (delItem (.ref D) (.int (-1) u)) Q E s := by
  refine delItem_head (k := vals.length - 1) F N hap (by decide) ?_ ?_ (by rw [List.size_toArray, sizeLine_eq]; omega)
  · rw [List.size_toArray, seqIndex_neg (by decide) (by omega), show ((-1 : Int) + (vals.length : Int)).toNat = vals.length - 1 by omega]
  · intro h' F' N'
    rw [show vals.toArray.toList.eraseIdx (vals.length - 1) = vals.dropLast by simp [eraseIdx_last]] at N'
    exact h h' F' N'
end

abbrev dots : Str := Str.ofString "..."
def fgo (got : Str) (ep : Nat) : Nat → List Str → Bool
  | _, [] => true
  | sp, w :: r => match occurrences got w sp ep 1 with
    | k :: _ => fgo got ep (k + w.length) r
    | [] => false
def after1 (got : Str) (ps : List Str) : Option (Nat × List Str) :=
  if (ps.headD Str.empty).length = 0 then some (0, ps) else if Txt.startswith got (ps.headD Str.empty) then some ((ps.headD Str.empty).length, ps.tail) else none
def after2 (got : Str) (ps : List Str) : Option (Nat × List Str) :=
  if (ps.getLastD Str.empty).length = 0 then some (0, ps) else if Txt.endswith got (ps.getLastD Str.empty) then some ((ps.getLastD Str.empty).length, ps.dropLast) else none
def etail2 (got : Str) (sp : Nat) (ps : List Str) : Bool :=
  match after2 got ps with
  | none => false
  | some q => if sp + q.1 > got.length then false else fgo got (got.length - q.1) sp q.2
def etail (got : Str) (ps : List Str) : Bool :=
  match after1 got ps with
  | none => false
  | some q => etail2 got q.1 q.2
def ematch (want got : Str) : Bool :=
  if (occurrences want dots 0 want.length 1).isEmpty then want == got else etail got (Txt.split want dots)
theorem etail_empty {got : Str} {ps : List Str} {y : Str} (h : ps[0]? = some y) (hy : y.length = 0) : etail got ps = etail2 got 0 ps := by
  have e : ps.headD Str.empty = y := by cases ps with | nil => simp at h | cons a r => simpa using h
  unfold etail after1
  rw [e, if_pos hy]
theorem etail_start {got : Str} {ps : List Str} {y : Str} (h : ps[0]? = some y) (hy : ¬ y.length = 0) (hs : Txt.startswith got y = true) : etail got ps = etail2 got y.length ps.tail := by
  have e : ps.headD Str.empty = y := by cases ps with | nil => simp at h | cons a r => simpa using h
  unfold etail after1
  rw [e, if_neg hy, if_pos hs]
theorem etail_no {got : Str} {ps : List Str} {y : Str} (h : ps[0]? = some y) (hy : ¬ y.length = 0) (hs : Txt.startswith got y = false) : etail got ps = false := by
  have e : ps.headD Str.empty = y := by cases ps with | nil => simp at h | cons a r => simpa using h
  unfold etail after1
  rw [e, if_neg hy, if_neg (by rw [hs]; simp)]
theorem last_is {ps : List Str} {y : Str} (h : ps[ps.length - 1]? = some y) : ps.getLastD Str.empty = y := by
  rw [List.getLastD_eq_getLast?, List.getLast?_eq_getElem?, h]; rfl
theorem etail2_empty {got : Str} {sp : Nat} {ps : List Str} {y : Str} (h : ps[ps.length - 1]? = some y) (hy : y.length = 0) : etail2 got sp ps = if sp > got.length then false else fgo got got.length sp ps := by
  unfold etail2 after2
  rw [last_is h, if_pos hy]
  rfl
theorem etail2_end {got : Str} {sp : Nat} {ps : List Str} {y : Str} (h : ps[ps.length - 1]? = some y) (hy : ¬ y.length = 0) (hs : Txt.endswith got y = true) : etail2 got sp ps = if sp + y.length > got.length then false else fgo got (got.length - y.length) sp ps.dropLast := by
  unfold etail2 after2
  rw [last_is h, if_neg hy, if_pos hs]
theorem etail2_no {got : Str} {sp : Nat} {ps : List Str} {y : Str} (h : ps[ps.length - 1]? = some y) (hy : ¬ y.length = 0) (hs : Txt.endswith got y = false) : etail2 got sp ps = false := by
  unfold etail2 after2
  rw [last_is h, if_neg hy, if_neg (by rw [hs]; simp)]

theorem split_two {want : Str} (h : (occurrences want dots 0 want.length 1).isEmpty = false) : 2 ≤ (Txt.split want dots).length := by
  have h1 := (StrLaws.found_iff want dots).mp (by rw [h]; rfl)
  obtain ⟨i, hi, hs⟩ := h1
  have hd : dots.length = 3 := by decide +kernel
  obtain ⟨f, hf, hn⟩ := StrLaws.occ_tight want dots (by rw [hd]; decide)
  unfold Txt.split
  have hk : Builtin.Str.strKind dots = 1 := by decide +kernel
  have hk1 : ∀ x : Str, 1 ≤ Builtin.Str.strKind x := by
    intro x
    unfold Builtin.Str.strKind
    split <;> (try split) <;> decide
  rw [if_neg (by simp only [Bool.or_eq_true, decide_eq_true_eq, not_or]; exact ⟨by omega, by have := hk1 want; omega⟩)]
  cases hc : occurrences want dots 0 want.length (want.length + 1) with
  | nil =>
    rw [hc] at hf
    cases hf
    exact absurd ⟨hi, hs⟩ (hn i (Nat.zero_le _))
  | cons a r =>
    rw [if_neg (by simp), StrLaws.partsBetween_eq, StrLaws.partsFrom]
    obtain ⟨p, q, e⟩ := StrLaws.partsFrom_ne want dots.length (a + dots.length) r
    rw [e]
    simp

/-- the first place of a text in a window -/
theorem occ_window (x y : Str) (lo hi : Nat) :
    (occurrences x y lo hi 1 = [] ∧ ∀ i, lo ≤ i → ¬ StrLaws.At x y hi i) ∨
    ∃ i r, occurrences x y lo hi 1 = i :: r ∧ lo ≤ i ∧ StrLaws.At x y hi i ∧ ∀ k, lo ≤ k → k < i → ¬ StrLaws.At x y hi k := by
  rw [StrLaws.occ_eq]
  rcases StrLaws.occ_first x y hi 1 (Nat.le_refl _) (List.range' lo (hi + 1 - lo)) lo (fun i hi => by have := List.mem_range'_1.mp hi; omega) with ⟨h0, hn⟩ | ⟨pre, a, post, e, h0, ha, hn⟩
  · exact .inl ⟨by rw [h0], fun i hlo hi' => hn i (by have := hi'.1; rw [List.mem_range'_1]; omega) hi'⟩
  · have hs := StrLaws.range'_split_from e
    have h1 : ((forIn (List.range' lo (hi + 1 - lo)) ((#[] : Array Nat), lo) (StrLaws.occBody x y hi 1)).run.fst.toList)[0]? = some a := by simpa using h0
    cases hL : (forIn (List.range' lo (hi + 1 - lo)) ((#[] : Array Nat), lo) (StrLaws.occBody x y hi 1)).run.fst.toList with
    | nil => rw [hL] at h1; cases h1
    | cons b t =>
      rw [hL] at h1
      obtain rfl : b = a := by simpa using h1
      exact .inr ⟨b, t, rfl, hs.1, ha, fun k hk0 hk => hn k (hs.2 k hk0 hk)⟩
theorem occ_some {x y : Str} {lo hi k : Nat} {r : List Nat} (h : occurrences x y lo hi 1 = k :: r) : lo ≤ k ∧ k + y.length ≤ hi := by
  rcases occ_window x y lo hi with ⟨e, _⟩ | ⟨i, r', e, h1, h2, _⟩
  · rw [e] at h; cases h
  · rw [e] at h; cases h; exact ⟨h1, h2.1⟩
theorem endswith_le {x y : Str} (h : Txt.endswith x y = true) : y.length ≤ x.length := by
  unfold Txt.endswith at h
  simp only [Bool.and_eq_true, decide_eq_true_eq] at h
  omega
end Mine

namespace Mine
open Builtin Builtin.Str
local macro_rules | `(tactic| walk_at "m fact") => `(tactic| first | exact rfl | assumption | ((repeat (first | exact if_pos rfl | refine (if_neg (by decide)).trans ?_)); first | exact rfl | assumption))
local macro_rules | `(tactic| walk_at "eval Name") => `(tactic| (k_here; k_dflt (refine' ld ?k1 ?k2 ?_; (case k1 => k_asm); (case k2 => walk_at "m fact"); k_whole)))
local macro_rules | `(tactic| walk_at "loadName") => `(tactic| (k_here; k_dflt (refine' ldn ?k1 ?k2 ?_; (case k1 => k_asm); (case k2 => walk_at "m fact"); k_whole)))
local macro_rules | `(tactic| walk_at "halt") => `(tactic| with_reducible (first | show wpAny _ _ (newList _) _ _ _ | show wpAny _ _ (pyIter _) _ _ _ | show wpAny _ _ (call (Value.type _) _) _ _ _ | show wpAny _ _ (call (Value.ref _) _) _ _ _ | show wpAny _ _ (call (Value.builtin "str.split") _) _ _ _ | show wpAny _ _ (call (Value.builtin "str.find") _) _ _ _ | show wpAny _ _ (call (Value.builtin "len") [Value.ref _]) _ _ _ | show wpAny _ _ (delItem _ _) _ _ _ | show wpAny _ _ (truthy (Value.str _ _)) _ _ _ | show wpAny _ _ (subscriptTail _ _ (Value.ref _) _) _ _ _ | show wpAny _ _ (exec (Stmt.For _ _ _ _ _) _) _ _ _))
local macro_rules | `(tactic| walk_at "goN") => `(tactic| repeat' (first | (k_unfold; (try dsimp only)) | ((fail_if_success (walk_at "halt")); walk1) | (dsimp only; (fail_if_success (walk_at "halt")); walk1)))

set_option maxHeartbeats 4000000 in
theorem ellipsis {w : World} {mean : ExcName → Option Value} {mg mb : Str → Option Value} {s : Shared} {want got : Str} {t u : Tok}
    (T : Top Mine.hd.view_39 (looseW Mine.hd.view_39 []) mean mg mb s.heap) (X : (Mine.hd.heap_39 w.params).In s.heap) (hw : want.length ≤ 1000) (hg : got.length ≤ 1000) :
    wpAny (model PySem.Challenge.rw_mr0068_01.row.prog w) (Ar 400 100) (call (.ref 21) [.str want t, .str got u]) (Back s fun v h => v = .bool (ematch want got)) (fun _ _ => False) s := by
  w_top off
  revert X; k_fill; intro X
  refine' enter (binds := [(Str.ofString "want", .str want t), (Str.ofString "got", .str got u)]) X T.nolimit ?k6 ?k7 ?k8 ?k9 ?kB ?_ ?c2 ?c3 ?c4 ?c5
  case k6 => k_is
  case k7 => k_is
  case k8 => decide
  case k9 => exact BindsTo.of_eq rfl
  case kB => exact locs rfl
  case c2 => exact rfl
  case c3 => exact rfl
  case c4 => exact rfl
  case c5 => decide
  intro L h₁ hL F N
  walk_at "goN"
  · have hocc : (occurrences want (Str.ofString "...") 0 want.length 1).isEmpty = true := by assumption
    refine Back.intro rfl F.keep ?_
    rw [ematch, if_pos hocc]
  · have hocc : (occurrences want (Str.ofString "...") 0 want.length 1).isEmpty = false := by assumption
    have hps2 := split_two hocc
    have hpsle := split_le want dots
    refine split_here F N (by decide +kernel) (by omega) ?_
    intro W h tk vals F N hW hvals
    have hem : ematch want got = etail got (Txt.split want dots) := by rw [ematch, if_neg (by rw [hocc]; simp)]
    have hshort : ∀ y ∈ Txt.split want dots, y.length ≤ 1000 := fun y hy => Nat.le_trans (part_short hy) hw
    generalize Txt.split want dots = ps at hem hvals hps2 hpsle hshort
    have hlen := strs_length hvals
    walk_at "goN"
    rename Fr _ _ _ _ => F; rename News _ _ _ _ => N
    refine len_here (News.listAt N (.head _)) hlen (by omega) ?_
    intro tk t₁
    obtain ⟨y, hy⟩ : ∃ y, ps[0]? = some y := ⟨_, List.getElem?_eq_getElem (by omega)⟩
    obtain ⟨ty, hvy⟩ := strs_get hvals hy
    have hyl := hshort y (List.mem_of_getElem? hy)
    walk_at "goN"
    rename Fr _ _ _ _ => F; rename News _ _ _ _ => N
    replace N := cb_drop N (fun p hp => List.Mem.tail _ hp)
    refine' item_pos (vs := vals.toArray) (v := .str y ty) ?k1 ?k2 ?k3 ?k4 ?_ ?k5
    case k1 => exact News.listAt N (.head _)
    case k2 => decide
    case k3 => decide
    case k4 => simpa using hvy
    case k5 => with_unfolding_all rfl
    walk_at "goN"
    refine P.truthy_str (by omega) ?_
    walk_at "goN"
    · have hy0 : ((y.length : Nat) : Int) ≠ 0 := by assumption
      have hss : Txt.startswith got y = true := by assumption
      rename Fr _ _ _ _ => F; rename News _ _ _ _ => N
      refine del_first F N (fun p hp => nomatch hp) (by omega) (by omega) ?_
      intro h F N
      obtain ⟨m, F, mgot, ⟨tsp, msp⟩, ⟨te, mep⟩, mws⟩ : ∃ m', Fr s.heap L _ m' ∧ m' (Str.ofString "got") = some (.str got u) ∧ (∃ t, m' (Str.ofString "startpos") = some (.int (y.length : Nat) t)) ∧ (∃ t, m' (Str.ofString "endpos") = some (.int (got.length : Nat) t)) ∧ m' (Str.ofString "ws") = some (.ref W) := ⟨_, F, by walk_at "m fact", ⟨_, by walk_at "m fact"⟩, ⟨_, by walk_at "m fact"⟩, by walk_at "m fact"⟩
      have hem1 := hem.trans (etail_start hy (by omega) hss)
      have hv1 := strs_tail hvals
      have hne1 : 0 < ps.tail.length := by rw [List.length_tail]; omega
      have hle1 : ps.tail.length ≤ 2000 := by rw [List.length_tail]; omega
      have hsh1 : ∀ z ∈ ps.tail, z.length ≤ 1000 := fun z hz => hshort z (List.mem_of_mem_tail hz)
      generalize hsp : y.length = sp at msp hem1
      clear hsp
      generalize vals.tail = vals1 at N hv1
      generalize ps.tail = ps1 at hv1 hem1 hne1 hsh1 hle1
      walk_at "goN"
      obtain ⟨z, hz⟩ : ∃ z, ps1[ps1.length - 1]? = some z := ⟨_, List.getElem?_eq_getElem (by omega)⟩
      obtain ⟨tz, hvz⟩ := strs_get hv1 hz
      have hlen1 := strs_length hv1
      have hzl := hsh1 z (List.mem_of_getElem? hz)
      refine' item_last (vs := vals1.toArray) (v := .str z tz) ?k1 ?k2 ?_ ?k5
      case k1 => exact News.listAt N (.head _)
      case k2 => simpa [hlen1] using hvz
      case k5 => with_unfolding_all rfl
      walk_at "goN"
      refine P.truthy_str (by omega) ?_
      walk_at "goN"
      · have hz0 : ((z.length : Nat) : Int) ≠ 0 := by assumption
        have hes : Txt.endswith got z = true := by assumption
        have hzg := endswith_le hes
        rename Fr _ _ _ _ => F; rename News _ _ _ _ => N
        refine del_last F N (fun p hp => nomatch hp) (by omega) (by omega) ?_
        intro h F N
        obtain ⟨m, F, mgot, msp, ⟨te', mep⟩, mws⟩ : ∃ m', Fr s.heap L h m' ∧ m' (Str.ofString "got") = some (.str got u) ∧ m' (Str.ofString "startpos") = some (.int (sp : Nat) tsp) ∧ (∃ te', m' (Str.ofString "endpos") = some (.int ((got.length - z.length : Nat) : Int) te')) ∧ m' (Str.ofString "ws") = some (.ref W) := ⟨_, F, by walk_at "m fact", by walk_at "m fact", ⟨_, (if_pos rfl).trans (some_int (by omega))⟩, by walk_at "m fact"⟩
        have hem2 := hem1.trans (etail2_end hz (by omega) hes)
        have hv2 := strs_dropLast hv1
        have hsh2 : ∀ y ∈ ps1.dropLast, y.length ≤ 1000 := fun y hy => hsh1 y ((List.dropLast_sublist ps1).subset hy)
        generalize hep : got.length - z.length = ep at mep hem2
        have hepl : ep ≤ got.length := by omega
        generalize vals1.dropLast = vals2 at N hv2
        generalize ps1.dropLast = ps2 at hv2 hem2 hsh2
        walk_at "goN"
        · have hgt : ((sp : Nat) : Int) > ((ep : Nat) : Int) := by omega
          refine Back.intro rfl F.keep ?_
          rw [hem2, if_pos (by omega)]
        · have hspe : sp ≤ ep := by omega
          rw [if_neg (by omega)] at hem2
          refine For_invV (h₀ := s.heap) rfl rfl ?_
          walk_at "goN"
          refine' loop_list (vs := vals2.toArray) (news := []) (fun i m nx => nx = [] ∧ m (Str.ofString "got") = some (.str got u) ∧ (∃ t, m (Str.ofString "endpos") = some (.int (ep : Nat) t)) ∧ ∃ (sp' : Nat) (t : Tok), m (Str.ofString "startpos") = some (.int (sp' : Nat) t) ∧ sp' ≤ ep ∧ fgo got ep sp ps2 = fgo got ep sp' (ps2.drop i)) ?l1 ?l2 ?l3 ?l4 ?l5 ?l6 ?l7 ?l8 ?l9
          case l1 => exact rfl
          case l2 => exact News.listAt N (.head _)
          case l3 => exact (N _ (.head _)).2.1.symm
          case l4 => exact F
          case l5 => exact News.nil
          case l6 => exact fun p hp => nomatch hp
          case l7 => exact ⟨rfl, mgot, ⟨_, mep⟩, sp, _, msp, hspe, rfl⟩
          case l8 =>
            rintro i v m₁ nx h tk own hv ⟨rfl, mgot, ⟨te, mep⟩, sp', ts, msp, hle, hgo⟩ _ F N
            obtain ⟨x, tx, rfl, hx⟩ := strs_at hv2 (by simpa using hv)
            have hxl := hsh2 x (List.mem_of_getElem? hx)
            have hdrop : ps2.drop i = x :: ps2.drop (i + 1) := by
              obtain ⟨hi', e⟩ := List.getElem?_eq_some_iff.mp hx
              rw [List.drop_eq_getElem_cons hi', e]
            rw [hdrop] at hgo
            walk_at "goN"
            refine find_here hepl ?_
            cases hocx : occurrences got x sp' ep 1 with
            | nil =>
              dsimp only
              walk_at "goN"
              rename Fr _ _ _ _ => F
              (try dsimp only [PostG])
              refine Back.intro rfl F.keep ?_
              rw [hem2, hgo, fgo, hocx]
            | cons k r =>
              have hk := occ_some hocx
              dsimp only
              walk_at "goN"
              refine EndG.intro (nx := []) (by assumption) (by assumption) ⟨rfl, ?_, ⟨te, ?_⟩, k + x.length, _, (if_pos rfl).trans (some_int (Int.natCast_add k x.length).symm), hk.2, ?_⟩ (by simp) (by simp) (by simp)
              · walk_at "m fact"
              · walk_at "m fact"
              · rw [hgo, fgo, hocx]
          case l9 =>
            rintro m₁ nx h tk ⟨rfl, mgot, ⟨te, mep⟩, sp', ts, msp, hle, hgo⟩ F N
            dsimp only
            walk_at "goN"
            refine Back.intro rfl F.keep ?_
            rw [hem2, hgo, List.drop_eq_nil_of_le (by rw [List.size_toArray, strs_length hv2]; exact Nat.le_refl _)]
            rfl
      · have hz0 : ((z.length : Nat) : Int) ≠ 0 := by assumption
        have hes : Txt.endswith got z = false := by assumption
        rename Fr _ _ _ _ => F
        refine Back.intro rfl F.keep ?_
        rw [hem1, etail2_no hz (by omega) hes]
      · have hz0 : ((z.length : Nat) : Int) = 0 := by assumption
        have hgt : ((sp : Nat) : Int) > ((got.length : Nat) : Int) := by omega
        rename Fr _ _ _ _ => F
        refine Back.intro rfl F.keep ?_
        rw [hem1, etail2_empty hz (by omega), if_pos (by omega)]
      · have hz0 : ((z.length : Nat) : Int) = 0 := by assumption
        rename Fr _ _ _ _ => F; rename News _ _ _ _ => N
        obtain ⟨m, F, mgot, msp, mep, mws⟩ : ∃ m', Fr s.heap L _ m' ∧ m' (Str.ofString "got") = some (.str got u) ∧ m' (Str.ofString "startpos") = some (.int (sp : Nat) tsp) ∧ m' (Str.ofString "endpos") = some (.int (got.length : Nat) te) ∧ m' (Str.ofString "ws") = some (.ref W) := ⟨_, F, by walk_at "m fact", by walk_at "m fact", by walk_at "m fact", by walk_at "m fact"⟩
        have hem2 := hem1.trans (etail2_empty hz (by omega))
        have hspe' : sp ≤ got.length := by omega
        rw [if_neg (by omega)] at hem2
        generalize hep : got.length = ep at mep hem2
        have hepl : ep ≤ got.length := by omega
        have hspe : sp ≤ ep := by omega
        have hv2 := hv1
        have hsh2 := hsh1
        generalize vals1 = vals2 at N hv2
        generalize ps1 = ps2 at hv2 hem2 hsh2
        refine For_invV (h₀ := s.heap) rfl rfl ?_
        walk_at "goN"
        refine' loop_list (vs := vals2.toArray) (news := []) (fun i m nx => nx = [] ∧ m (Str.ofString "got") = some (.str got u) ∧ (∃ t, m (Str.ofString "endpos") = some (.int (ep : Nat) t)) ∧ ∃ (sp' : Nat) (t : Tok), m (Str.ofString "startpos") = some (.int (sp' : Nat) t) ∧ sp' ≤ ep ∧ fgo got ep sp ps2 = fgo got ep sp' (ps2.drop i)) ?l1 ?l2 ?l3 ?l4 ?l5 ?l6 ?l7 ?l8 ?l9
        case l1 => exact rfl
        case l2 => exact News.listAt N (.head _)
        case l3 => exact (N _ (.head _)).2.1.symm
        case l4 => exact F
        case l5 => exact News.nil
        case l6 => exact fun p hp => nomatch hp
        case l7 => exact ⟨rfl, mgot, ⟨_, mep⟩, sp, _, msp, hspe, rfl⟩
        case l8 =>
          rintro i v m₁ nx h tk own hv ⟨rfl, mgot, ⟨te, mep⟩, sp', ts, msp, hle, hgo⟩ _ F N
          obtain ⟨x, tx, rfl, hx⟩ := strs_at hv2 (by simpa using hv)
          have hxl := hsh2 x (List.mem_of_getElem? hx)
          have hdrop : ps2.drop i = x :: ps2.drop (i + 1) := by
            obtain ⟨hi', e⟩ := List.getElem?_eq_some_iff.mp hx
            rw [List.drop_eq_getElem_cons hi', e]
          rw [hdrop] at hgo
          walk_at "goN"
          refine find_here hepl ?_
          cases hocx : occurrences got x sp' ep 1 with
          | nil =>
            dsimp only
            walk_at "goN"
            rename Fr _ _ _ _ => F
            (try dsimp only [PostG])
            refine Back.intro rfl F.keep ?_
            rw [hem2, hgo, fgo, hocx]
          | cons k r =>
            have hk := occ_some hocx
            dsimp only
            walk_at "goN"
            refine EndG.intro (nx := []) (by assumption) (by assumption) ⟨rfl, ?_, ⟨te, ?_⟩, k + x.length, _, (if_pos rfl).trans (some_int (Int.natCast_add k x.length).symm), hk.2, ?_⟩ (by simp) (by simp) (by simp)
            · walk_at "m fact"
            · walk_at "m fact"
            · rw [hgo, fgo, hocx]
        case l9 =>
          rintro m₁ nx h tk ⟨rfl, mgot, ⟨te, mep⟩, sp', ts, msp, hle, hgo⟩ F N
          dsimp only
          walk_at "goN"
          refine Back.intro rfl F.keep ?_
          rw [hem2, hgo, List.drop_eq_nil_of_le (by rw [List.size_toArray, strs_length hv2]; exact Nat.le_refl _)]
          rfl
    · have hy0 : ((y.length : Nat) : Int) ≠ 0 := by assumption
      have hss : Txt.startswith got y = false := by assumption
      rename Fr _ _ _ _ => F
      refine Back.intro rfl F.keep ?_
      rw [hem, etail_no hy (by omega) hss]
    · have hy0 : ((y.length : Nat) : Int) = 0 := by assumption
      rename Fr _ _ _ _ => F; rename News _ _ _ _ => N
      obtain ⟨m, F, mgot, ⟨tsp, msp⟩, ⟨te, mep⟩, mws⟩ : ∃ m', Fr s.heap L _ m' ∧ m' (Str.ofString "got") = some (.str got u) ∧ (∃ t, m' (Str.ofString "startpos") = some (.int ((0 : Nat) : Int) t)) ∧ (∃ t, m' (Str.ofString "endpos") = some (.int (got.length : Nat) t)) ∧ m' (Str.ofString "ws") = some (.ref W) := ⟨_, F, by walk_at "m fact", ⟨_, by walk_at "m fact"⟩, ⟨_, by walk_at "m fact"⟩, by walk_at "m fact"⟩
      have hem1 := hem.trans (etail_empty hy (by omega))
      have hv1 := hvals
      have hne1 : 0 < ps.length := by omega
      have hle1 : ps.length ≤ 2000 := by omega
      have hsh1 := hshort
      generalize hsp : (0 : Nat) = sp at msp hem1
      clear hsp
      generalize vals = vals1 at N hv1
      generalize ps = ps1 at hv1 hem1 hne1 hsh1 hle1
      obtain ⟨z, hz⟩ : ∃ z, ps1[ps1.length - 1]? = some z := ⟨_, List.getElem?_eq_getElem (by omega)⟩
      obtain ⟨tz, hvz⟩ := strs_get hv1 hz
      have hlen1 := strs_length hv1
      have hzl := hsh1 z (List.mem_of_getElem? hz)
      refine' item_last (vs := vals1.toArray) (v := .str z tz) ?k1 ?k2 ?_ ?k5
      case k1 => exact News.listAt N (.head _)
      case k2 => simpa [hlen1] using hvz
      case k5 => with_unfolding_all rfl
      walk_at "goN"
      refine P.truthy_str (by omega) ?_
      walk_at "goN"
      · have hz0 : ((z.length : Nat) : Int) ≠ 0 := by assumption
        have hes : Txt.endswith got z = true := by assumption
        have hzg := endswith_le hes
        rename Fr _ _ _ _ => F; rename News _ _ _ _ => N
        refine del_last F N (fun p hp => nomatch hp) (by omega) (by omega) ?_
        intro h F N
        obtain ⟨m, F, mgot, msp, ⟨te', mep⟩, mws⟩ : ∃ m', Fr s.heap L h m' ∧ m' (Str.ofString "got") = some (.str got u) ∧ m' (Str.ofString "startpos") = some (.int (sp : Nat) tsp) ∧ (∃ te', m' (Str.ofString "endpos") = some (.int ((got.length - z.length : Nat) : Int) te')) ∧ m' (Str.ofString "ws") = some (.ref W) := ⟨_, F, by walk_at "m fact", by walk_at "m fact", ⟨_, (if_pos rfl).trans (some_int (by omega))⟩, by walk_at "m fact"⟩
        have hem2 := hem1.trans (etail2_end hz (by omega) hes)
        have hv2 := strs_dropLast hv1
        have hsh2 : ∀ y ∈ ps1.dropLast, y.length ≤ 1000 := fun y hy => hsh1 y ((List.dropLast_sublist ps1).subset hy)
        generalize hep : got.length - z.length = ep at mep hem2
        have hepl : ep ≤ got.length := by omega
        generalize vals1.dropLast = vals2 at N hv2
        generalize ps1.dropLast = ps2 at hv2 hem2 hsh2
        walk_at "goN"
        · have hgt : ((sp : Nat) : Int) > ((ep : Nat) : Int) := by omega
          refine Back.intro rfl F.keep ?_
          rw [hem2, if_pos (by omega)]
        · have hspe : sp ≤ ep := by omega
          rw [if_neg (by omega)] at hem2
          refine For_invV (h₀ := s.heap) rfl rfl ?_
          walk_at "goN"
          refine' loop_list (vs := vals2.toArray) (news := []) (fun i m nx => nx = [] ∧ m (Str.ofString "got") = some (.str got u) ∧ (∃ t, m (Str.ofString "endpos") = some (.int (ep : Nat) t)) ∧ ∃ (sp' : Nat) (t : Tok), m (Str.ofString "startpos") = some (.int (sp' : Nat) t) ∧ sp' ≤ ep ∧ fgo got ep sp ps2 = fgo got ep sp' (ps2.drop i)) ?l1 ?l2 ?l3 ?l4 ?l5 ?l6 ?l7 ?l8 ?l9
          case l1 => exact rfl
          case l2 => exact News.listAt N (.head _)
          case l3 => exact (N _ (.head _)).2.1.symm
          case l4 => exact F
          case l5 => exact News.nil
          case l6 => exact fun p hp => nomatch hp
          case l7 => exact ⟨rfl, mgot, ⟨_, mep⟩, sp, _, msp, hspe, rfl⟩
          case l8 =>
            rintro i v m₁ nx h tk own hv ⟨rfl, mgot, ⟨te, mep⟩, sp', ts, msp, hle, hgo⟩ _ F N
            obtain ⟨x, tx, rfl, hx⟩ := strs_at hv2 (by simpa using hv)
            have hxl := hsh2 x (List.mem_of_getElem? hx)
            have hdrop : ps2.drop i = x :: ps2.drop (i + 1) := by
              obtain ⟨hi', e⟩ := List.getElem?_eq_some_iff.mp hx
              rw [List.drop_eq_getElem_cons hi', e]
            rw [hdrop] at hgo
            walk_at "goN"
            refine find_here hepl ?_
            cases hocx : occurrences got x sp' ep 1 with
            | nil =>
              dsimp only
              walk_at "goN"
              rename Fr _ _ _ _ => F
              (try dsimp only [PostG])
              refine Back.intro rfl F.keep ?_
              rw [hem2, hgo, fgo, hocx]
            | cons k r =>
              have hk := occ_some hocx
              dsimp only
              walk_at "goN"
              refine EndG.intro (nx := []) (by assumption) (by assumption) ⟨rfl, ?_, ⟨te, ?_⟩, k + x.length, _, (if_pos rfl).trans (some_int (Int.natCast_add k x.length).symm), hk.2, ?_⟩ (by simp) (by simp) (by simp)
              · walk_at "m fact"
              · walk_at "m fact"
              · rw [hgo, fgo, hocx]
          case l9 =>
            rintro m₁ nx h tk ⟨rfl, mgot, ⟨te, mep⟩, sp', ts, msp, hle, hgo⟩ F N
            dsimp only
            walk_at "goN"
            refine Back.intro rfl F.keep ?_
            rw [hem2, hgo, List.drop_eq_nil_of_le (by rw [List.size_toArray, strs_length hv2]; exact Nat.le_refl _)]
            rfl
      · have hz0 : ((z.length : Nat) : Int) ≠ 0 := by assumption
        have hes : Txt.endswith got z = false := by assumption
        rename Fr _ _ _ _ => F
        refine Back.intro rfl F.keep ?_
        rw [hem1, etail2_no hz (by omega) hes]
      · have hz0 : ((z.length : Nat) : Int) = 0 := by assumption
        have hgt : ((sp : Nat) : Int) > ((got.length : Nat) : Int) := by omega
        rename Fr _ _ _ _ => F
        refine Back.intro rfl F.keep ?_
        rw [hem1, etail2_empty hz (by omega), if_pos (by omega)]
      · have hz0 : ((z.length : Nat) : Int) = 0 := by assumption
        rename Fr _ _ _ _ => F; rename News _ _ _ _ => N
        obtain ⟨m, F, mgot, msp, mep, mws⟩ : ∃ m', Fr s.heap L _ m' ∧ m' (Str.ofString "got") = some (.str got u) ∧ m' (Str.ofString "startpos") = some (.int (sp : Nat) tsp) ∧ m' (Str.ofString "endpos") = some (.int (got.length : Nat) te) ∧ m' (Str.ofString "ws") = some (.ref W) := ⟨_, F, by walk_at "m fact", by walk_at "m fact", by walk_at "m fact", by walk_at "m fact"⟩
        have hem2 := hem1.trans (etail2_empty hz (by omega))
        have hspe' : sp ≤ got.length := by omega
        rw [if_neg (by omega)] at hem2
        generalize hep : got.length = ep at mep hem2
        have hepl : ep ≤ got.length := by omega
        have hspe : sp ≤ ep := by omega
        have hv2 := hv1
        have hsh2 := hsh1
        generalize vals1 = vals2 at N hv2
        generalize ps1 = ps2 at hv2 hem2 hsh2
        refine For_invV (h₀ := s.heap) rfl rfl ?_
        walk_at "goN"
        refine' loop_list (vs := vals2.toArray) (news := []) (fun i m nx => nx = [] ∧ m (Str.ofString "got") = some (.str got u) ∧ (∃ t, m (Str.ofString "endpos") = some (.int (ep : Nat) t)) ∧ ∃ (sp' : Nat) (t : Tok), m (Str.ofString "startpos") = some (.int (sp' : Nat) t) ∧ sp' ≤ ep ∧ fgo got ep sp ps2 = fgo got ep sp' (ps2.drop i)) ?l1 ?l2 ?l3 ?l4 ?l5 ?l6 ?l7 ?l8 ?l9
        case l1 => exact rfl
        case l2 => exact News.listAt N (.head _)
        case l3 => exact (N _ (.head _)).2.1.symm
        case l4 => exact F
        case l5 => exact News.nil
        case l6 => exact fun p hp => nomatch hp
        case l7 => exact ⟨rfl, mgot, ⟨_, mep⟩, sp, _, msp, hspe, rfl⟩
        case l8 =>
          rintro i v m₁ nx h tk own hv ⟨rfl, mgot, ⟨te, mep⟩, sp', ts, msp, hle, hgo⟩ _ F N
          obtain ⟨x, tx, rfl, hx⟩ := strs_at hv2 (by simpa using hv)
          have hxl := hsh2 x (List.mem_of_getElem? hx)
          have hdrop : ps2.drop i = x :: ps2.drop (i + 1) := by
            obtain ⟨hi', e⟩ := List.getElem?_eq_some_iff.mp hx
            rw [List.drop_eq_getElem_cons hi', e]
          rw [hdrop] at hgo
          walk_at "goN"
          refine find_here hepl ?_
          cases hocx : occurrences got x sp' ep 1 with
          | nil =>
            dsimp only
            walk_at "goN"
            rename Fr _ _ _ _ => F
            (try dsimp only [PostG])
            refine Back.intro rfl F.keep ?_
            rw [hem2, hgo, fgo, hocx]
          | cons k r =>
            have hk := occ_some hocx
            dsimp only
            walk_at "goN"
            refine EndG.intro (nx := []) (by assumption) (by assumption) ⟨rfl, ?_, ⟨te, ?_⟩, k + x.length, _, (if_pos rfl).trans (some_int (Int.natCast_add k x.length).symm), hk.2, ?_⟩ (by simp) (by simp) (by simp)
            · walk_at "m fact"
            · walk_at "m fact"
            · rw [hgo, fgo, hocx]
        case l9 =>
          rintro m₁ nx h tk ⟨rfl, mgot, ⟨te, mep⟩, sp', ts, msp, hle, hgo⟩ F N
          dsimp only
          walk_at "goN"
          refine Back.intro rfl F.keep ?_
          rw [hem2, hgo, List.drop_eq_nil_of_le (by rw [List.size_toArray, strs_length hv2]; exact Nat.le_refl _)]
          rfl
end Mine

namespace Mine
section
variable {prog : Program} {w : World} {A : Around} {s : Shared} {env : Env} {h₀ : Heap}

/-- a loop that unpacks pairs, its ledger may grow -/
theorem forLoop_pair {E : Value → Shared → Prop} {Q : Flow → Shared → Prop} {xi xc : Str} {pk pv pt : Pos} {x1 : Nat} {body : List Stmt} {I : Addr} {fp wr : List Addr} {n : Nat} {Pt : Nat → Array Value → Prop} {St : Nat → Heap → Prop} {Mid : Nat → Addr → Heap → Prop}
    {P2 : Nat → Value → Value → Prop} {m : Str → Option Value} {news : List (Addr × Obj)} (hh : A.handled = none) (W : WalksT prog w A I fp wr n Pt St Mid) (h2 : ∀ i vals, Pt i vals → ∃ v0 v1, vals = #[v0, v1] ∧ P2 i v0 v1)
    (hI : ∀ i h, St i h → ∀ b ∈ fp, ∃ o, h.get? b = some o)
    (hxi : env.kindOf xi = some .local) (hxc : env.kindOf xc = some .local)
    (hp : (env.scope.kind == .class || (env.scope.kind == .module && env.locals != env.globals)) = false)
    (hLf : env.locals ∉ fp) (hwr : ∀ b ∈ wr, h₀.get? b = none) (hnw : ∀ p ∈ news, p.1 ∉ fp)
    (hst : St 0 s.heap) (F : Fr h₀ env.locals s.heap m) (N : News h₀ env.locals s.heap news)
    (J : Nat → (Str → Option Value) → List (Addr × Obj) → Prop) (h0 : J 0 m news)
    (hE : PassesOwn (model prog w) A env E)
    (step : ∀ i v0 v1 m₁ nx h tk own, i < n → P2 i v0 v1 → J i m₁ nx → (∀ p ∈ nx, ∀ q ∈ own, p.1 ≠ q.1) →
      Fr h₀ env.locals h (fun y => if y = xc then some v1 else if y = xi then some v0 else m₁ y) → News h₀ env.locals h (nx ++ own) →
      wpAny (model prog w) A (execs body env) (PostG h₀ env.locals (J (i + 1)) own { s with heap := h, toks := tk } Q) E { s with heap := h, toks := tk })
    (done : ∀ m₁ nx h tk, J n m₁ nx → Fr h₀ env.locals h m₁ → News h₀ env.locals h nx → Q .next { s with heap := h, toks := tk }) :
    codeAny (model prog w) A (.forLoop (.Tuple [.Name xi pk, .Name xc pv] x1 pt) (.ref I) body [] env) (fun r s' => match r with | .ok f => Q f s' | .error e => cameBackBy (model prog w) A env E e s') s := by
  have hLw : env.locals ∉ wr := fun h => hLf (W.sub _ h)
  have old : ∀ b o, h₀.get? b = some o → b ∉ wr := fun b o e hb => by rw [hwr b hb] at e; cases e
  refine codeAny_forLoop_any
    (fun k s' => ∃ h' tk m' news' i, s' = { s with heap := h', toks := tk } ∧ St i h' ∧ Fr h₀ env.locals h' m' ∧ News h₀ env.locals h' news' ∧ (∀ p ∈ news', p.1 ∉ fp) ∧ J i m' news' ∧ i ≤ n ∧ k = n + 1 - i) ?_ (n + 1)
    ⟨s.heap, s.toks, m, news, 0, rfl, hst, F, N, hnw, h0, Nat.zero_le _, rfl⟩
  rintro k s' ⟨H, tk, m', news', i, rfl, hst', F', N', ha', hJ, hi, rfl⟩
  have next : ∀ h₁ : Heap, (∀ b o, b ∉ wr → H.get? b = some o → h₁.get? b = some o) → Fr h₀ env.locals h₁ m' ∧ News h₀ env.locals h₁ news' := fun h₁ hk₁ =>
    ⟨⟨F'.ns.at' fun o e => hk₁ _ o hLw e, fun b o e => hk₁ b o (old b o e) (F'.keep b o e), F'.above⟩, fun p hp => ⟨hk₁ _ _ (fun q => ha' p hp (W.sub _ q)) (N' p hp).1, (N' p hp).2⟩⟩
  by_cases hlt : i < n
  · refine W.item i _ _ _ hlt hst' fun T vals h₁ tk₁ hPt _ hT hMid hk₁ => ?_
    obtain ⟨v0, v1, rfl, hP2⟩ := h2 i vals hPt
    refine W.go _ x1 pt i T _ _ _ hMid fun h₂ hst₂ hk₂ => ?_
    have ht₂ : h₂.IsTuple T #[v0, v1] := hT.at fun o e => hk₂ T o (W.apart i T h₁ hMid) e
    refine wpAny_assign_Tuple hh ht₂ rfl rfl fun h₃ hx₃ => ?_
    replace hx₃ : Heap.ExtBut h₂.objs.size h₂ h₃ := hx₃
    have up₃ : ∀ b o, h₂.get? b = some o → h₃.get? b = some o := fun b o x => hx₃ b o (Nat.ne_of_lt (Heap.lt_size x)) x
    obtain ⟨F₃, N₃⟩ := next h₃ fun b o hb x => up₃ b o (hk₂ b o hb (hk₁ b o hb x))
    show wpAny _ A (do holding [v1] (assign (.Name xi pk) env v0); do holding [] (assign (.Name xc pv) env v1); pure ()) _ _ _
    refine wpAny_bind (wpAny_holding (wpAny_assign_Name (wpAny_storeName_local hxi F₃.ns (fun h₄ hn₄ hs₄ => ?_) hp)))
    replace hs₄ : Heap.SameBut env.locals h₃ h₄ := hs₄
    have F₄ := F₃.set hn₄ hs₄
    refine wpAny_bind (wpAny_holding (wpAny_assign_Name (wpAny_storeName_local hxc F₄.ns (fun h₅ hn₅ hs₅ => wpAny_pure ?_) hp)))
    replace hs₅ : Heap.SameBut env.locals h₄ h₅ := hs₅
    have F₅ := F₄.set hn₅ hs₅
    have N₅ : News h₀ env.locals h₅ news' := (N₃.set hs₄).set hs₅
    have hst₅ : St (i + 1) h₅ := W.frame _ _ _ hst₂ fun b hb o e => hs₅.extBut b o (fun q => hLf (q ▸ hb)) (hs₄.extBut b o (fun q => hLf (q ▸ hb)) (up₃ b o e))
    have Nown : News h₀ env.locals h₅ (ownOf h₀ fp h₅) := news_ownOf hLf
    have N₆ : News h₀ env.locals h₅ (news' ++ ownOf h₀ fp h₅) := fun p hp => (List.mem_append.mp hp).elim (N₅ p) (Nown p)
    refine wpAny_mono (wpAny_passesOwn hE (step i v0 v1 m' news' h₅ _ (ownOf h₀ fp h₅) hlt hP2 hJ (fun p hp q hq e => ha' p hp (e ▸ ownOf_sub q hq)) F₅ N₆)) (fun f s₃ h₆ => ?_) fun _ _ e => e
    have fin : ∀ tk₅, EndG h₀ env.locals (J (i + 1)) (ownOf h₀ fp h₅) { s with heap := h₅, toks := tk₅ } s₃ → ∃ m, m < n + 1 - i ∧ ∃ h' tk m' news' j, s₃ = { s with heap := h', toks := tk } ∧ St j h' ∧ Fr h₀ env.locals h' m' ∧ News h₀ env.locals h' news' ∧ (∀ p ∈ news', p.1 ∉ fp) ∧ J j m' news' ∧ j ≤ n ∧ m = n + 1 - j := by
      rintro _ ⟨h', tk', m'', nw, nx', rfl, F₆, N₇, hn, ho, hoff', hm⟩
      refine ⟨n + 1 - (i + 1), by omega, h', tk', m'', nx', i + 1, rfl, ?_, F₆, fun p hp => N₇ p (hn p hp), ?_, hm, hlt, rfl⟩
      · refine W.frame _ _ _ hst₅ fun b hb o e => ?_
        cases hn' : h₀.get? b with
        | some o₀ =>
          have : o₀ = o := by have q := F₅.keep b o₀ hn'; rw [e] at q; exact (Option.some.inj q).symm
          exact this ▸ F₆.keep b o₀ hn'
        | none => exact (N₇ _ (ho _ (mem_ownOf hb hn' e))).1
      · intro p hp hq
        obtain ⟨o, ho'⟩ := hI _ _ hst₅ _ hq
        exact hoff' p hp _ (mem_ownOf hq (N₇ p (hn p hp)).2.2 ho') rfl
    cases f with
    | ret v => exact h₆
    | brk => exact h₆
    | cont => exact fin _ h₆
    | next => exact fin _ h₆
  · have hin : i = n := by omega
    subst hin
    refine W.done _ _ _ hst' fun h₁ tk₁ hk₁ => wpAny_execs_nil ?_
    obtain ⟨F₁, N₁⟩ := next h₁ hk₁
    exact done m' news' h₁ tk₁ hJ F₁ N₁

/-- for k, v in enumerate(xs), xs a list of the heap -/
theorem loop_enum {E : Value → Shared → Prop} {Q : Flow → Shared → Prop} {xi xc : Str} {pk pv pt : Pos} {x1 : Nat} {body : List Stmt} {l : Addr} {vs : Array Value} {m : Str → Option Value} {news : List (Addr × Obj)}
    (J : Nat → (Str → Option Value) → List (Addr × Obj) → Prop) (hh : A.handled = none) (hl : s.heap.IsList l vs) (hLl : env.locals ≠ l) (F : Fr h₀ env.locals s.heap m) (N : News h₀ env.locals s.heap news) (hnl : ∀ p ∈ news, p.1 ≠ l) (h0 : J 0 m news)
    (hxi : env.kindOf xi = some .local) (hxc : env.kindOf xc = some .local)
    (hp : (env.scope.kind == .class || (env.scope.kind == .module && env.locals != env.globals)) = false)
    (hE : PassesOwn (model prog w) A env E)
    (step : ∀ i t v m₁ nx h tk own, vs[i]? = some v → J i m₁ nx → (∀ p ∈ nx, ∀ q ∈ own, p.1 ≠ q.1) →
      Fr h₀ env.locals h (fun y => if y = xc then some v else if y = xi then some (.int (i : Nat) t) else m₁ y) → News h₀ env.locals h (nx ++ own) →
      wpAny (model prog w) A (execs body env) (PostG h₀ env.locals (J (i + 1)) own { s with heap := h, toks := tk } Q) E { s with heap := h, toks := tk })
    (done : ∀ m₁ nx h tk, J vs.size m₁ nx → Fr h₀ env.locals h m₁ → News h₀ env.locals h nx → Q .next { s with heap := h, toks := tk }) :
    wpAny (model prog w) A (call (.type "enumerate") [.ref l]) (fun xv s₁ => wpAny (model prog w) A (pyIter xv) (fun it s₂ =>
      codeAny (model prog w) A (.forLoop (.Tuple [.Name xi pk, .Name xc pv] x1 pt) it body [] env) (fun r s' => match r with | .ok f => Q f s' | .error e => cameBackBy (model prog w) A env E e s') s₂) E s₁) E s := by
  obtain ⟨ol, hol, _⟩ := id hl
  have hls : l < s.heap.objs.size := Heap.lt_size hol
  have hLs : env.locals < s.heap.objs.size := F.ns.lt
  have hab : h₀.objs.size ≤ env.locals := F.above
  refine call_enumerate_list hl fun h' he hit hsz hk => ?_
  refine wpAny_pyIter_enum he ?_
  have hef : s.heap.objs.size + 1 ∉ [s.heap.objs.size, l] := fun hm => by
    rcases List.mem_cons.mp hm with e | hm
    · exact Nat.succ_ne_self _ e
    · exact Nat.ne_of_gt (Nat.lt_succ_of_lt hls) (List.mem_singleton.mp hm)
  refine forLoop_pair (P2 := fun i v0 v1 => ∃ t, v0 = .int (i : Nat) t ∧ vs[i]? = some v1) hh
    (WalksT.enumerateD (Draws.list (A := A.in1) hh s.heap.objs.size l (Nat.ne_of_lt hls) vs) (s.heap.objs.size + 1) (Nat.succ_ne_self _) hef (by simp)) ?_ ?_ hxi hxc hp ?_ ?_ ?_ ⟨⟨_, by simpa using he⟩, hit, hl.at fun o e => hk _ o e⟩ (F.keeps hk) (News.grown N hk) J h0 hE
    (fun i v0 v1 m₁ nx h tk own hi hP => by obtain ⟨t, rfl, hv⟩ := hP; exact step i t v1 m₁ nx h tk own hv) done
  · rintro i vals ⟨t, x, hP, rfl⟩
    exact ⟨_, _, rfl, t, rfl, hP⟩
  · rintro i h ⟨⟨old, h1⟩, ⟨o2, h2, _⟩, ⟨o3, h3, _⟩⟩ b hb
    rcases List.mem_cons.mp hb with rfl | hb
    · exact ⟨_, h1⟩
    · rcases List.mem_cons.mp hb with rfl | hb
      · exact ⟨_, h2⟩
      · exact ⟨o3, (List.mem_singleton.mp hb) ▸ h3⟩
  · intro hm
    rcases List.mem_cons.mp hm with e | hm
    · exact Nat.ne_of_lt (Nat.lt_succ_of_lt hLs) e
    · rcases List.mem_cons.mp hm with e | hm
      · exact Nat.ne_of_lt hLs e
      · exact hLl (List.mem_singleton.mp hm)
  · intro b hb
    rcases List.mem_cons.mp hb with rfl | hb
    · exact Heap.get?_none_of_le (Nat.le_trans hab (Nat.le_of_lt (Nat.lt_succ_of_lt hLs)))
    · rw [List.mem_singleton.mp hb]; exact Heap.get?_none_of_le (Nat.le_trans hab (Nat.le_of_lt hLs))
  · intro p hp hm
    have hp1 := Heap.lt_size (N p hp).1
    rcases List.mem_cons.mp hm with e | hm
    · exact Nat.ne_of_lt (Nat.lt_succ_of_lt hp1) e
    · rcases List.mem_cons.mp hm with e | hm
      · exact Nat.ne_of_lt hp1 e
      · exact hnl p hp (List.mem_singleton.mp hm)
end
end Mine

namespace Mine
open Builtin Builtin.Str

theorem strSlice_clamp (a b len : Nat) : strSliceIndices (some (a : Int)) (some (b : Int)) 1 len = strSliceIndices (some ((min a len : Nat) : Int)) (some ((min b len : Nat) : Int)) 1 len := by
  have h1 : ¬ ((a : Int) < 0) := by omega
  have h2 : ¬ ((b : Int) < 0) := by omega
  have h3 : ¬ (((min a len : Nat) : Int) < 0) := by omega
  have h4 : ¬ (((min b len : Nat) : Int) < 0) := by omega
  have e1 : max (0 : Int) (min (a : Int) (len : Int)) = ((min a len : Nat) : Int) := by omega
  have e2 : max (0 : Int) (min (b : Int) (len : Int)) = ((min b len : Nat) : Int) := by omega
  have e3 : max (0 : Int) (min ((min a len : Nat) : Int) (len : Int)) = ((min a len : Nat) : Int) := by omega
  have e4 : max (0 : Int) (min ((min b len : Nat) : Int) (len : Int)) = ((min b len : Nat) : Int) := by omega
  simp only [strSliceIndices, sliceRange, h1, h2, h3, h4, if_false, e1, e2, e3, e4, show ((1 : Int) > 0) = True from by simp, if_true]
theorem drop_take_clamp {α : Type} (l : List α) (a b : Nat) (h : a ≤ b) : (l.drop (min a l.length)).take (min b l.length - min a l.length) = (l.drop a).take (b - a) := by
  by_cases ha : a ≤ l.length
  · rw [Nat.min_eq_left ha]
    by_cases hb : b ≤ l.length
    · rw [Nat.min_eq_left hb]
    · rw [Nat.min_eq_right (by omega), List.take_of_length_le (by rw [List.length_drop]; exact Nat.le_refl _), List.take_of_length_le (by rw [List.length_drop]; omega)]
  · have e : min a l.length = l.length := by omega
    rw [e, List.drop_eq_nil_of_le (Nat.le_refl _), List.drop_eq_nil_of_le (by omega)]
    simp
theorem slice_list (x : Str) (a b : Nat) (h : a ≤ b) : (Txt.slice x (some (a : Int)) (some (b : Int))).cps.toList = (x.cps.toList.drop a).take (b - a) := by
  have key : (strSliceIndices (some (a : Int)) (some (b : Int)) 1 x.length).filterMap (x.cps[·]?) = (x.cps.toList.drop a).take (b - a) := by
    rw [strSlice_clamp, StrLaws.sliced_plain x (by omega) (by omega)]
    have := drop_take_clamp x.cps.toList a b h
    rw [Array.length_toList] at this
    exact this
  unfold Txt.slice
  split
  · rename_i hc
    simp only [beq_self_eq_true, Bool.true_and, beq_iff_eq] at hc
    rw [strSlice_clamp, StrLaws.strSliceIndices_plain (by omega) (by omega), List.length_map, List.length_range] at hc
    have hx : x.cps.toList.length = x.length := Array.length_toList
    have e := drop_take_clamp x.cps.toList a b h
    rw [hx] at e
    rw [← e]
    by_cases h0 : x.length = 0
    · rw [List.eq_nil_of_length_eq_zero (by omega : x.cps.toList.length = 0)]; simp
    · rw [show min a x.length = 0 by omega, List.drop_zero, List.take_of_length_le (by omega)]
  · exact key
theorem item_list' {x : Str} {i c : Nat} (h : x.cps.toList[i]? = some c) : Txt.item x (i : Int) = ⟨#[c]⟩ := by
  have hi : i < x.length := by
    have := (List.getElem?_eq_some_iff.mp h).1
    simpa [Str.length] using this
  have e : seqIndex? (i : Int) x.length = some i := by
    have e0 : (if (i : Int) < 0 then (i : Int) + x.length else (i : Int)) = (i : Int) := if_neg (by omega)
    unfold seqIndex?
    simp only [e0]
    rw [if_pos (by simp only [Bool.and_eq_true, decide_eq_true_eq]; omega)]
    rfl
  have hc : x.cps[i]? = some c := by simpa using h
  unfold Txt.item Txt.charAt
  rw [e]
  simp [hc]
theorem setL_last (v : Value) : ∀ vals : List Value, 0 < vals.length → ki_setL vals (vals.length - 1) v = some (vals.dropLast ++ [v])
  | [], h => by simp at h
  | [_], _ => rfl
  | a :: b :: r, _ => by
    have ih := setL_last v (b :: r) (by simp)
    simp only [List.length_cons, Nat.add_sub_cancel] at ih ⊢
    unfold ki_setL
    rw [ih]
    rfl
theorem strs_snoc {vs : List Value} {ys : List Str} (h : StrsAre vs ys) (y : Str) (t : Tok) : StrsAre (vs ++ [.str y t]) (ys ++ [y]) := StrsAre.append' h (.cons y t .nil)

/-- one turn of the scan -/
def pstep (want : Str) (st : List Str × Nat) (k : Nat) : List Str × Nat :=
  if 0 < st.2 then (st.1, st.2 - 1)
  else if (want.cps.toList.drop k).take 3 = [46, 46, 46] then (st.1 ++ [Str.empty], 2)
  else (st.1.dropLast ++ [st.1.getLastD Str.empty ++ ⟨#[want.cps.getD k 0]⟩], 0)
def pscan (want : Str) (n : Nat) : List Str × Nat := (List.range n).foldl (pstep want) ([Str.empty], 0)
theorem pscan_succ (want : Str) (n : Nat) : pscan want (n + 1) = pstep want (pscan want n) n := by
  rw [pscan, List.range_succ, List.foldl_append]; rfl
def piecesOf (want : Str) : List Str := (pscan want want.length).1
theorem pstep_pos (want : Str) (st : List Str × Nat) (k : Nat) (h : 1 ≤ st.1.length) : 1 ≤ (pstep want st k).1.length := by
  unfold pstep
  split
  · exact h
  · split <;> simp
theorem pscan_pos (want : Str) (n : Nat) : 1 ≤ (pscan want n).1.length := by
  induction n with
  | zero => simp [pscan]
  | succ n ih => rw [pscan_succ]; exact pstep_pos _ _ _ ih
theorem getLastD_mem {l : List Str} (h : 1 ≤ l.length) : l.getLastD Str.empty ∈ l := by
  have e : l[l.length - 1]? = some l[l.length - 1] := List.getElem?_eq_getElem (by omega)
  rw [last_is e]
  exact List.mem_of_getElem? e
theorem pstep_len (want : Str) (st : List Str × Nat) (k B : Nat) (h : ∀ y ∈ st.1, y.length ≤ B) (h1 : 1 ≤ st.1.length) : (∀ y ∈ (pstep want st k).1, y.length ≤ B + 1) ∧ (pstep want st k).1.length ≤ st.1.length + 1 := by
  unfold pstep
  split
  · exact ⟨fun y hy => Nat.le_succ_of_le (h y hy), Nat.le_succ _⟩
  · split
    · refine ⟨fun y hy => ?_, by simp⟩
      rcases List.mem_append.mp hy with hy | hy
      · exact Nat.le_succ_of_le (h y hy)
      · rw [List.mem_singleton.mp hy]; exact Nat.zero_le _
    · refine ⟨fun y hy => ?_, by simp only [List.length_append, List.length_dropLast, List.length_cons, List.length_nil]; omega⟩
      rcases List.mem_append.mp hy with hy | hy
      · exact Nat.le_succ_of_le (h y ((List.dropLast_sublist _).subset hy))
      · rw [List.mem_singleton.mp hy, Str.length_append]
        have hm : st.1.getLastD Str.empty ∈ st.1 := getLastD_mem h1
        have := h _ hm
        show _ + 1 ≤ _
        omega
theorem pscan_len (want : Str) (n : Nat) : (∀ y ∈ (pscan want n).1, y.length ≤ n) ∧ (pscan want n).1.length ≤ n + 1 := by
  induction n with
  | zero => refine ⟨fun y hy => ?_, by simp [pscan]⟩; rw [show (pscan want 0).1 = [Str.empty] from rfl, List.mem_singleton] at hy; rw [hy]; exact Nat.zero_le _
  | succ n ih =>
    rw [pscan_succ]
    obtain ⟨a, b⟩ := pstep_len want (pscan want n) n n ih.1 (pscan_pos want n)
    exact ⟨a, by omega⟩

section
variable {M : Model} {A : Around} {E : Value → Shared → Prop} {s : Shared} {h₀ : Heap} {L : Addr} {m : Str → Option Value} {news : List (Addr × Obj)}
theorem tuple_here {vs : List Value} {Q : Value → Shared → Prop} (F : Fr h₀ L s.heap m) (N : News h₀ L s.heap news) (hz : vs.length ≤ 1000)
    (h : ∀ D h', Fr h₀ L h' m → News h₀ L h' ((D, { cls := .type "tuple", data := .seq vs.toArray }) :: news) → (∀ p ∈ news, p.1 < D) → Q (.ref D) { s with heap := h' }) : wpAny M A (newTuple vs) Q E s :=
  newTuple_N F N (fun h' F' N' => h _ h' F' N' fun p hp => Heap.lt_size (N p hp).1) (by rw [sizeLine_eq]; omega)
end
def ones : Nat := 4294967295
def stepOf (run : List Nat) : Nat × Nat := (run.length, crcOn ones run ^^^ ones)
def cutsUpTo (cs : List Nat) (n : Nat) : List (Nat × Nat) := (List.range n).map fun j => stepOf ((cs.drop (4 * j)).take 4)
def cutsOf (cs : List Nat) : List (Nat × Nat) := cutsUpTo cs ((cs.length + 3) / 4)
theorem cutsUpTo_succ (cs : List Nat) (n : Nat) : cutsUpTo cs (n + 1) = cutsUpTo cs n ++ [stepOf ((cs.drop (4 * n)).take 4)] := by simp [cutsUpTo, List.range_succ]
def headOf (i : Nat) : List (Nat × Nat) := if 0 < i then [(0, 0)] else []
def stepsAt (ps : List Str) : Nat → List (Nat × Nat)
  | 0 => []
  | i + 1 => stepsAt ps i ++ headOf i ++ cutsOf (ps.getD i Str.empty).cps.toList
def stepsOf (want : Str) : List (Nat × Nat) := stepsAt (piecesOf want) (piecesOf want).length
def StepsIn (objs : List (Addr × Obj)) (as : List Addr) (steps : List (Nat × Nat)) : Prop :=
  as.length = steps.length ∧ ∀ (j : Nat) (a : Addr), as[j]? = some a → ∃ x y t u, steps[j]? = some (x, y) ∧ (a, pairObj x y t u 0) ∈ objs
theorem StepsIn.snoc {objs : List (Addr × Obj)} {as : List Addr} {steps : List (Nat × Nat)} (h : StepsIn objs as steps) {D : Addr} {x y : Nat} {t u : Tok} :
    StepsIn ((D, pairObj x y t u 0) :: objs) (as ++ [D]) (steps ++ [(x, y)]) := by
  refine ⟨by simp [h.1], fun j a ha => ?_⟩
  by_cases hj : j < as.length
  · rw [List.getElem?_append_left hj] at ha
    obtain ⟨x', y', t', u', h1, h2⟩ := h.2 j a ha
    exact ⟨x', y', t', u', by rw [List.getElem?_append_left (h.1 ▸ hj)]; exact h1, .tail _ h2⟩
  · have hj' : j = as.length := by
      have := (List.getElem?_eq_some_iff.mp ha).1
      simp at this
      omega
    subst hj'
    simp at ha
    subst ha
    exact ⟨x, y, t, u, by rw [h.1]; simp, .head _⟩
theorem cuts_len (cs : List Nat) (n : Nat) : (cutsUpTo cs n).length = n := by simp [cutsUpTo]
theorem stepsAt_len (ps : List Str) (B : Nat) (hB : ∀ y ∈ ps, y.length ≤ B) : ∀ i, i ≤ ps.length → (stepsAt ps i).length ≤ i * (B + 2)
  | 0, _ => by simp [stepsAt]
  | i + 1, h => by
    have ih := stepsAt_len ps B hB i (by omega)
    have h1 : (headOf i).length ≤ 1 := by unfold headOf; split <;> simp
    have h2 : (cutsOf (ps.getD i Str.empty).cps.toList).length ≤ B + 1 := by
      rw [cutsOf, cuts_len, Array.length_toList]
      have : (ps.getD i Str.empty).length ≤ B := by
        rw [List.getD_eq_getElem?_getD, List.getElem?_eq_getElem (by omega)]
        exact hB _ (List.getElem_mem _)
      have e : (ps.getD i Str.empty).cps.size = (ps.getD i Str.empty).length := rfl
      omega
    simp only [stepsAt, List.length_append]
    rw [Nat.succ_mul]
    omega
end Mine

namespace Mine
open Builtin Builtin.Str
/- the walk keeps its table of lines by their number alone: this line makes the number another than that of the part before -/
local macro_rules | `(tactic| walk_at "pad") => `(tactic| skip)
local macro_rules | `(tactic| walk_at "m fact") => `(tactic| first | exact rfl | assumption | ((repeat (first | exact if_pos rfl | refine (if_neg (by decide)).trans ?_)); first | exact rfl | assumption))
local macro_rules | `(tactic| walk_at "eval Name") => `(tactic| (k_here; k_dflt (refine' ld ?k1 ?k2 ?_; (case k1 => k_asm); (case k2 => walk_at "m fact"); k_whole)))
local macro_rules | `(tactic| walk_at "loadName") => `(tactic| (k_here; k_dflt (refine' ldn ?k1 ?k2 ?_; (case k1 => k_asm); (case k2 => walk_at "m fact"); k_whole)))
local macro_rules | `(tactic| walk_at "halt") => `(tactic| with_reducible (first | show wpAny _ _ (newList _) _ _ _ | show wpAny _ _ (newTuple _) _ _ _ | show wpAny _ _ (pyIter _) _ _ _ | show wpAny _ _ (call (Value.type _) _) _ _ _ | show wpAny _ _ (call (Value.ref _) _) _ _ _ | show wpAny _ _ (call (Value.builtin "list.append") _) _ _ _ | show wpAny _ _ (call (Value.builtin "len") [Value.ref _]) _ _ _ | show wpAny _ _ (subscriptTail _ _ (Value.ref _) _) _ _ _ | show wpAny _ _ (setItem _ _ _) _ _ _ | show wpAny _ _ (exec (Stmt.For _ _ _ _ _) _) _ _ _))
local macro_rules | `(tactic| walk_at "goN") => `(tactic| repeat' (first | (k_unfold; (try dsimp only)) | ((fail_if_success (walk_at "halt")); walk1) | (dsimp only; (fail_if_success (walk_at "halt")); walk1)))

theorem range4_size (n : Nat) : Builtin.Range.rangeSize 0 (n : Int) 4 = (((n + 3) / 4 : Nat) : Int) := by
  unfold Builtin.Range.rangeSize
  rw [if_pos (by decide)]
  split <;> omega
theorem fits_long {x : Int} (h1 : 0 ≤ x) (h2 : x ≤ 1000000) : Builtin.Range.rangeFitsLong x = true := by
  unfold Builtin.Range.rangeFitsLong
  rw [Bool.and_eq_true, decide_eq_true_eq, decide_eq_true_eq]
  omega
theorem range4_small {n : Nat} (h : n ≤ 100000) : Builtin.Range.small 0 (n : Int) 4 = true := by
  unfold Builtin.Range.small
  rw [range4_size, fits_long (by omega) (by omega), fits_long (by omega) (by omega), fits_long (by omega) (by omega), fits_long (by omega) (by omega), if_pos (by decide), fits_long (by omega) (by omega)]
  simp

set_option maxHeartbeats 4000000 in
theorem law_steps {w : World} {mean : ExcName → Option Value} {mg mb : Str → Option Value} {s : Shared} {want : Str} {t : Tok}
    (T : Top Mine.hd.view_39 (looseW Mine.hd.view_39 []) mean mg mb s.heap) (X : (Mine.hd.heap_39 w.params).In s.heap) (hw : want.length ≤ 1000) :
    wpAny (model PySem.Challenge.rw_mr0068_01.row.prog w) (Ar 400 100) (call (.ref 61) [.str want t]) (Back s fun v h => ∃ b as k objs, v = .ref b ∧ StepsIn objs as (stepsOf want) ∧ News s.heap b h objs ∧ h.get? b = some (listOf (as.map Value.ref).toArray k) ∧ s.heap.get? b = none) (fun _ _ => False) s := by
  w_top off
  revert X; k_fill; intro X
  refine' enter (binds := [(Str.ofString "want", .str want t)]) X T.nolimit ?k6 ?k7 ?k8 ?k9 ?kB ?_ ?c2 ?c3 ?c4 ?c5
  case k6 => k_is
  case k7 => k_is
  case k8 => decide
  case k9 => exact BindsTo.of_eq rfl
  case kB => exact locs rfl
  case c2 => exact rfl
  case c3 => exact rfl
  case c4 => exact rfl
  case c5 => decide
  intro L h₁ hL F N
  walk_at "goN"
  refine newList_K F N ?_
  intro P h F N hP
  walk_at "goN"
  refine newTuple_N F N ?_
  intro h F N
  walk_at "goN"
  rename Fr _ _ _ _ => F; rename News _ _ _ _ => N
  replace N := cb_drop N (fun p hp => List.Mem.tail _ hp)
  refine For_invV (h₀ := s.heap) rfl rfl ?_
  walk_at "goN"
  refine range1_rows F N ?_
  intro h₂ tk₂ t₁ u₁ v₁ hr F N _
  refine loop_range (n := want.length) (fun i m nx => m (Str.ofString "want") = some (.str want t) ∧ m (Str.ofString "pieces") = some (.ref P) ∧ ∃ (tk : Tok) (vals : List Value) (k : Nat), m (Str.ofString "skip") = some (.int ((pscan want i).2 : Nat) tk) ∧ nx = [(P, listOf vals.toArray k)] ∧ StrsAre vals (pscan want i).1) rfl hr ?_ ?_ F N ?_ ?_ ?_
  · exact small_one (by omega) (by omega) (by omega) (by omega)
  · rw [rangeSize_nat]; omega
  · exact ⟨rfl, rfl, _, _, _, rfl, rfl, .cons _ _ .nil⟩
  · rintro i u m₁ nx h tk own hi ⟨hm1, hm2, tsk, vals, k, hm3, rfl, hvals⟩ hoff F N
    have hiw : i < want.length := hi
    have hlen := strs_length hvals
    have hpos := pscan_pos want i
    obtain ⟨hsh, hct⟩ := pscan_len want i
    have hpn := pscan_succ want i
    obtain ⟨c, hc⟩ : ∃ c, want.cps.toList[i]? = some c := ⟨_, List.getElem?_eq_getElem (by simpa [Str.length] using hiw)⟩
    have hcd : want.cps.getD i 0 = c := StrLaws.getD_of_getElem? hc
    have hi0 : (0 + (i : Int) * 1) = (i : Int) := by omega
    rw [hi0] at F
    have hownP : ∀ p ∈ own, p.1 ≠ P := fun p hp => (hoff _ (.head _) p hp).symm
    walk_at "goN"
    · have hsk : (0 : Int) < ((pscan want i).2 : Int) := by assumption
      have e : pscan want (i + 1) = ((pscan want i).1, (pscan want i).2 - 1) := by rw [hpn, pstep, if_pos (by omega)]
      refine EndG.intro (nx := [(P, listOf vals.toArray k)]) (by assumption) (by assumption) ⟨?_, ?_, _, vals, k, (if_pos rfl).trans (some_int ?_), rfl, ?_⟩ (fun p hp => List.mem_append_left _ hp) (fun p hp => List.mem_append_right _ hp) hoff
      · walk_at "m fact"
      · walk_at "m fact"
      · rw [e]; show _ = (((pscan want i).2 - 1 : Nat) : Int); omega
      · rw [e]; exact hvals
    · have hsk : ¬ (0 : Int) < ((pscan want i).2 : Int) := by omega
      have hsl : (Txt.slice want (some (i : Int)) (some ((i : Int) + 3)) == Str.ofString "...") = true := by assumption
      rw [beq_iff_eq] at hsl
      have hd : (want.cps.toList.drop i).take 3 = [46, 46, 46] := by
        have := slice_list want i (i + 3) (by omega)
        rw [show ((i + 3 : Nat) : Int) = (i : Int) + 3 by omega, hsl, show i + 3 - i = 3 by omega] at this
        rw [← this]; decide +kernel
      have e : pscan want (i + 1) = ((pscan want i).1 ++ [Str.empty], 2) := by rw [hpn, pstep, if_neg (by omega), if_pos hd]
      rename Fr _ _ _ _ => F; rename News _ _ _ _ => N
      refine' append_K F N (Upd.head ?_) ?_ ?_
      · exact hownP
      · intro h F N
        walk_at "goN"
        rename Fr _ _ _ _ => F; rename News _ _ _ _ => N
        rw [List.push_toArray] at N
        obtain ⟨te, N⟩ : ∃ te, News s.heap L _ ((P, listOf (vals ++ [Value.str Str.empty te]).toArray (k + 1)) :: own) := ⟨_, N⟩
        refine EndG.intro (nx := [(P, listOf (vals ++ [Value.str Str.empty te]).toArray (k + 1))]) F N ⟨?_, ?_, _, _, _, (if_pos rfl).trans (some_int ?_), rfl, ?_⟩ ?_ ?_ ?_
        · walk_at "m fact"
        · walk_at "m fact"
        · rw [e]; rfl
        · rw [e]; exact strs_snoc hvals _ _
        · intro p hp; rw [List.mem_singleton.mp hp]; exact .head _
        · exact fun p hp => .tail _ hp
        · intro p hp q hq; rw [List.mem_singleton.mp hp]; exact hoff _ (.head _) q hq
      · rw [List.size_toArray, sizeLine_eq]; omega
    · have hsk : ¬ (0 : Int) < ((pscan want i).2 : Int) := by omega
      have hsl : (Txt.slice want (some (i : Int)) (some ((i : Int) + 3)) == Str.ofString "...") = false := by assumption
      have hd : ¬ (want.cps.toList.drop i).take 3 = [46, 46, 46] := by
        intro hd
        have := slice_list want i (i + 3) (by omega)
        rw [show ((i + 3 : Nat) : Int) = (i : Int) + 3 by omega, show i + 3 - i = 3 by omega, hd] at this
        have e2 : Txt.slice want (some (i : Int)) (some ((i : Int) + 3)) = Str.ofString "..." := Str.ext' (Array.toList_inj.mp (this.trans (by decide +kernel)))
        rw [e2] at hsl
        simp at hsl
      have e : pscan want (i + 1) = ((pscan want i).1.dropLast ++ [(pscan want i).1.getLastD Str.empty ++ ⟨#[c]⟩], 0) := by rw [hpn, pstep, if_neg (by omega), if_neg hd, hcd]
      obtain ⟨z, hz⟩ : ∃ z, (pscan want i).1[(pscan want i).1.length - 1]? = some z := ⟨_, List.getElem?_eq_getElem (by omega)⟩
      obtain ⟨tz, hvz⟩ := strs_get hvals hz
      have hzl := hsh z (List.mem_of_getElem? hz)
      rename Fr _ _ _ _ => F; rename News _ _ _ _ => N
      refine' item_last (vs := vals.toArray) (v := .str z tz) ?k1 ?k2 ?_ ?k5
      case k1 => exact News.listAt N (.head _)
      case k2 => simpa [hlen] using hvz
      case k5 => with_unfolding_all rfl
      have hit : Txt.item want (i : Int) = ⟨#[c]⟩ := item_list' hc
      have hzd : (pscan want i).1.getLastD Str.empty = z := last_is hz
      walk_at "goN"
      rw [hit]
      refine' ki_setNeg F N ?k1 ?k2 ?k3 (setL_last _ vals (by omega)) (Upd.head hownP) ?_
      case k1 => decide
      case k2 => decide
      case k3 => rw [List.size_toArray, seqIndex_neg (by decide) (by omega), show ((-1 : Int) + (vals.length : Int)).toNat = vals.length - 1 by omega]
      intro h F N
      walk_at "goN"
      obtain ⟨te, N⟩ : ∃ te, News s.heap L _ ((P, listOf (vals.dropLast ++ [Value.str (z ++ ⟨#[c]⟩) te]).toArray k) :: own) := ⟨_, N⟩
      refine EndG.intro (nx := [(P, listOf (vals.dropLast ++ [Value.str (z ++ ⟨#[c]⟩) te]).toArray k)]) F N ⟨?_, ?_, tsk, _, _, ?_, rfl, ?_⟩ ?_ ?_ ?_
      · walk_at "m fact"
      · walk_at "m fact"
      · refine (if_neg (by decide)).trans (hm3.trans (some_int ?_))
        rw [e]
        show (((pscan want i).2 : Nat) : Int) = ((0 : Nat) : Int)
        omega
      · rw [e, hzd]; exact strs_snoc (strs_dropLast hvals) _ _
      · intro p hp; rw [List.mem_singleton.mp hp]; exact .head _
      · exact fun p hp => .tail _ hp
      · intro p hp q hq; rw [List.mem_singleton.mp hp]; exact hoff _ (.head _) q hq
  · rintro m₁ nx h tk ⟨hm1, hm2, tsk, vals, k, hm3, rfl, hvals⟩ F N
    dsimp only
    walk_at "goN"
    rename Fr _ _ _ _ => F; rename News _ _ _ _ => N
    refine newList_K F N ?_
    intro Sx h F N hS
    walk_at "goN"
    refine newTuple_N F N ?_
    intro h F N
    walk_at "goN"
    rename Fr _ _ _ _ => F; rename News _ _ _ _ => N
    replace N := cb_drop N (fun p hp => List.Mem.tail _ hp)
    have hlen := strs_length hvals
    obtain ⟨hsh, hct⟩ := pscan_len want want.length
    have hps : (pscan want want.length).1 = piecesOf want := rfl
    rw [hps] at hvals hlen hsh hct
    have hl := News.listAt N (.tail _ (.head _))
    have hSP : P ≠ Sx := Nat.ne_of_lt (hS _ (.head _))
    have hLP : L ≠ P := fun e => (N _ (.tail _ (.head _))).2.1 e.symm
    replace N := cb_drop N (news := [(Sx, listOf #[] 0)]) (fun p hp => by rw [List.mem_singleton.mp hp]; exact .head _)
    refine wpAny_For ?_
    walk_at "goN"
    rename Fr _ _ _ _ => F; rename News _ _ _ _ => N
    refine loop_enum (vs := vals.toArray) (fun i m nx => m (Str.ofString "steps") = some (.ref Sx) ∧ (∃ t, m (Str.ofString "ones") = some (.int (ones : Nat) t)) ∧ ∃ as k objs, nx = (Sx, listOf (as.map Value.ref).toArray k) :: objs ∧ (∀ p ∈ objs, p.1 ≠ Sx) ∧ StepsIn objs as (stepsAt (piecesOf want) i)) rfl ?q1 ?q2 F N ?q3 ?q4 ?q5 ?q6 ?q7 PassesOwn.never ?q8 ?q9
    case q1 => exact hl.at fun o e => by first | exact e | skip
    case q2 => exact hLP
    case q3 => intro p hp; rw [List.mem_singleton.mp hp]; exact hSP.symm
    case q4 => exact ⟨rfl, ⟨_, rfl⟩, [], _, [], rfl, by simp, rfl, by simp⟩
    case q5 => exact rfl
    case q6 => exact rfl
    case q7 => exact rfl
    case q8 =>
      rintro i t' v m₂ nx h tk own hv ⟨hm1, ⟨tn, hm2⟩, as, k', objs, rfl, hobj, hst⟩ hoff F N
      obtain ⟨y, ty, rfl, hy⟩ := strs_at hvals (by simpa using hv)
      have hyl := hsh y (List.mem_of_getElem? hy)
      have hil : i < (piecesOf want).length := (List.getElem?_eq_some_iff.mp hy).1
      have hsl := stepsAt_len (piecesOf want) want.length hsh i (by omega)
      have hown : ∀ p ∈ own, p.1 ≠ Sx := fun p hp => (hoff _ (.head _) p hp).symm
      walk_at "goN"
      case' _ =>
        have hip : 0 < i := by have : (0 : Int) < (i : Int) := by assumption
                               omega
        rename Fr _ _ _ _ => F; rename News _ _ _ _ => N
        refine tuple_here F N (by show 2 ≤ 1000; decide) ?_
        intro D h F N hD
        have hDS : D ≠ Sx := Nat.ne_of_gt (hD _ (.head _))
        walk_at "goN"
        rename Fr _ _ _ _ => F; rename News _ _ _ _ => N
        refine' append_K (news' := _ :: ((Sx, listOf ((as.map Value.ref).toArray.push (.ref D)) (k' + 1)) :: objs ++ own)) F N (Upd.tail hDS (Upd.head ?_)) ?_ ?_
        case' refine'_1 =>
          intro p hp
          rcases List.mem_append.mp hp with hp | hp
          · exact hobj p hp
          · exact hown p hp
        case' refine'_3 =>
          rw [List.size_toArray, List.length_map, hst.1, sizeLine_eq]
          have := Nat.mul_le_mul (show i ≤ 1001 by omega) (show want.length + 2 ≤ 1002 by omega)
          omega
        intro h F N
        walk_at "goN"
        rename Fr _ _ _ _ => F; rename News _ _ _ _ => N
        obtain ⟨ta, tb, N⟩ : ∃ ta tb, News s.heap L h ((D, pairObj 0 0 ta tb 0) :: ((Sx, listOf ((as.map Value.ref).toArray.push (.ref D)) (k' + 1)) :: objs ++ own)) := ⟨_, _, N⟩
        obtain ⟨as', k'', objs', N, hobj', hoff', hst'⟩ : ∃ as' k'' objs', News s.heap L h ((Sx, listOf (as'.map Value.ref).toArray k'') :: objs' ++ own) ∧ (∀ p ∈ objs', p.1 ≠ Sx) ∧ (∀ p ∈ objs', ∀ q ∈ own, p.1 ≠ q.1) ∧ StepsIn objs' as' (stepsAt (piecesOf want) i ++ headOf i) := by
          refine ⟨as ++ [D], k' + 1, (D, pairObj 0 0 ta tb 0) :: objs, cb_drop N ?_, ?_, ?_, ?_⟩
          · rw [List.push_toArray]
            intro p hp
            rcases List.mem_cons.mp hp with rfl | hp
            · refine .tail _ ?_; simp only [List.map_append, List.map_cons, List.map_nil]; exact .head _
            · rcases List.mem_cons.mp hp with rfl | hp
              · exact .head _
              · exact .tail _ (.tail _ hp)
          · intro p hp
            rcases List.mem_cons.mp hp with rfl | hp
            · exact hDS
            · exact hobj p hp
          · intro p hp q hq
            rcases List.mem_cons.mp hp with rfl | hp
            · exact Nat.ne_of_gt (hD q (.tail _ (List.mem_append_right _ hq)))
            · exact hoff p (.tail _ hp) q hq
          · rw [headOf, if_pos hip]
            exact hst.snoc
      rotate_left
      case' _ =>
        have hip : ¬ 0 < i := by have : ¬ (0 : Int) < (i : Int) := by assumption
                                 omega
        rename Fr _ _ _ _ => F; rename News _ _ _ _ => N
        obtain ⟨as', k'', objs', N, hobj', hoff', hst'⟩ : ∃ as' k'' objs', News s.heap L h ((Sx, listOf (as'.map Value.ref).toArray k'') :: objs' ++ own) ∧ (∀ p ∈ objs', p.1 ≠ Sx) ∧ (∀ p ∈ objs', ∀ q ∈ own, p.1 ≠ q.1) ∧ StepsIn objs' as' (stepsAt (piecesOf want) i ++ headOf i) := by
          refine ⟨as, k', objs, N, hobj, fun p hp => hoff p (.tail _ hp), ?_⟩
          rw [headOf, if_neg hip, List.append_nil]
          exact hst
      all_goals (
        have hyd : (piecesOf want).getD i Str.empty = y := by rw [List.getD_eq_getElem?_getD, hy]; rfl
        refine For_invV (h₀ := s.heap) rfl rfl ?_
        walk_at "goN"
        rename Fr _ _ _ _ => F; rename News _ _ _ _ => N
        refine range3_rows F N (by decide) ?_
        intro h₂ tk₂ t₁ u₁ v₁ hr F N _
        refine loop_range (n := (y.length + 3) / 4) (fun j m nx => m (Str.ofString "steps") = some (.ref Sx) ∧ m (Str.ofString "piece") = some (.str y ty) ∧ (∃ t, m (Str.ofString "ones") = some (.int (ones : Nat) t)) ∧ ∃ as k objs, nx = (Sx, listOf (as.map Value.ref).toArray k) :: objs ++ own ∧ (∀ p ∈ objs, p.1 ≠ Sx) ∧ (∀ p ∈ objs, ∀ q ∈ own, p.1 ≠ q.1) ∧ StepsIn objs as (stepsAt (piecesOf want) i ++ headOf i ++ cutsUpTo y.cps.toList j)) rfl hr (range4_small (by omega)) (range4_size _) F N ⟨?_, ?_, ⟨tn, ?_⟩, as', k'', objs', rfl, hobj', hoff', ?_⟩ ?_ ?_
        · walk_at "m fact"
        · walk_at "m fact"
        · walk_at "m fact"
        · simpa [cutsUpTo] using hst'
        · rintro j u m₃ nx h tk own₂ hj ⟨hm1', hm3', ⟨tn', hm2'⟩, as, k', objs, rfl, hobj, hoffo, hst⟩ hoff₂ F N
          have hj4 : (0 + (j : Int) * 4) = ((4 * j : Nat) : Int) := by omega
          rw [hj4] at F
          have hrun := slice_list y (4 * j) (4 * j + 4) (by omega)
          rw [show ((4 * j + 4 : Nat) : Int) = ((4 * j : Nat) : Int) + 4 by omega, show 4 * j + 4 - 4 * j = 4 by omega] at hrun
          walk_at "goN"
          rename Fr _ _ _ _ => F; rename News _ _ _ _ => N
          generalize Txt.slice y (some ((4 * j : Nat) : Int)) (some (((4 * j : Nat) : Int) + 4)) = z at hrun F ⊢
          refine use_back F N (law_on (T.keeps F.keep) (X.keeps F.keep)) rfl (Nat.le_of_ble_eq_true rfl) (Nat.le_of_ble_eq_true rfl) ?_
          rintro _ h tk _ F N ⟨tq, rfl⟩
          walk_at "goN"
          rename Fr _ _ _ _ => F; rename News _ _ _ _ => N
          rw [bitXor_nat]
          refine tuple_here F N (by show 2 ≤ 1000; decide) ?_
          intro D h F N hD
          have hDS : D ≠ Sx := Nat.ne_of_gt (hD _ (List.mem_append_left _ (.head _)))
          walk_at "goN"
          rename Fr _ _ _ _ => F; rename News _ _ _ _ => N
          refine' append_K (news' := _ :: (((Sx, listOf ((as.map Value.ref).toArray.push (.ref D)) (k' + 1)) :: objs ++ own) ++ own₂)) F N (Upd.tail hDS (Upd.head ?_)) ?_ ?_
          · intro p hp
            rcases List.mem_append.mp hp with hp | hp
            · rcases List.mem_append.mp hp with hp | hp
              · exact hobj p hp
              · exact hown p hp
            · exact (hoff₂ _ (.head _) p hp).symm
          · intro h F N
            walk_at "goN"
            rename Fr _ _ _ _ => F; rename News _ _ _ _ => N
            obtain ⟨ta, tb, N⟩ : ∃ ta tb, News s.heap L h ((D, pairObj z.length (crcOn ones z.cps.toList ^^^ ones) ta tb 0) :: (((Sx, listOf ((as.map Value.ref).toArray.push (.ref D)) (k' + 1)) :: objs ++ own) ++ own₂)) := ⟨_, _, N⟩
            rw [List.push_toArray] at N
            refine EndG.intro (nx := (Sx, listOf ((as ++ [D]).map Value.ref).toArray (k' + 1)) :: ((D, pairObj z.length (crcOn ones z.cps.toList ^^^ ones) ta tb 0) :: objs) ++ own) F N ⟨?_, ?_, ⟨tn', ?_⟩, as ++ [D], k' + 1, (D, pairObj z.length (crcOn ones z.cps.toList ^^^ ones) ta tb 0) :: objs, rfl, ?_, ?_, ?_⟩ ?_ ?_ ?_
            · walk_at "m fact"
            · walk_at "m fact"
            · walk_at "m fact"
            · intro p hp
              rcases List.mem_cons.mp hp with rfl | hp
              · exact hDS
              · exact hobj p hp
            · intro p hp q hq
              rcases List.mem_cons.mp hp with rfl | hp
              · exact Nat.ne_of_gt (hD q (List.mem_append_left _ (List.mem_append_right _ hq)))
              · exact hoffo p hp q hq
            · rw [cutsUpTo_succ, ← List.append_assoc, ← hrun, stepOf, Array.length_toList]
              exact hst.snoc
            · intro p hp
              rcases List.mem_append.mp hp with hp | hp
              · rcases List.mem_cons.mp hp with rfl | hp
                · refine .tail _ ?_; simp only [List.map_append, List.map_cons, List.map_nil]; exact .head _
                · rcases List.mem_cons.mp hp with rfl | hp
                  · exact .head _
                  · exact .tail _ (List.mem_append_left _ (List.mem_append_left _ (.tail _ hp)))
              · exact .tail _ (List.mem_append_left _ (List.mem_append_right _ hp))
            · exact fun p hp => .tail _ (List.mem_append_right _ hp)
            · intro p hp q hq
              rcases List.mem_append.mp hp with hp | hp
              · rcases List.mem_cons.mp hp with rfl | hp
                · exact hoff₂ _ (.head _) q hq
                · rcases List.mem_cons.mp hp with rfl | hp
                  · exact Nat.ne_of_gt (hD q (List.mem_append_right _ hq))
                  · exact hoff₂ p (List.mem_append_left _ (.tail _ hp)) q hq
              · exact hoff₂ p (List.mem_append_right _ hp) q hq
          · rw [List.size_toArray, List.length_map, hst.1, sizeLine_eq, List.length_append, List.length_append, cuts_len]
            have := Nat.mul_le_mul (show i ≤ 1001 by omega) (show want.length + 2 ≤ 1002 by omega)
            have h1 : (headOf i).length ≤ 1 := by unfold headOf; split <;> simp
            omega
        · rintro m₃ nx h tk ⟨hm1', hm3', hm2', as, k', objs, rfl, hobj, hoffo, hst⟩ F N
          dsimp only
          walk_at "goN"
          refine EndG.intro (nx := (Sx, listOf (as.map Value.ref).toArray k') :: objs) F N ⟨hm1', hm2', as, k', objs, rfl, hobj, ?_⟩ ?_ ?_ ?_
          · rw [stepsAt, hyd]; exact hst
          · exact fun p hp => List.mem_append_left _ hp
          · exact fun p hp => List.mem_append_right _ hp
          · intro p hp q hq
            rcases List.mem_cons.mp hp with rfl | hp
            · exact (hown q hq).symm
            · exact hoffo p hp q hq)
    case q9 =>
      rintro m₂ nx h tk ⟨hm1, _, as, k', objs, rfl, hobj, hst⟩ F N
      dsimp only
      walk_at "goN"
      refine Back.intro rfl F.keep ⟨Sx, as, k', objs, rfl, ?_, ?_, ?_, ?_⟩
      · rw [List.size_toArray, hlen] at hst; exact hst
      · exact fun p hp => ⟨(N p (.tail _ hp)).1, hobj p hp, (N p (.tail _ hp)).2.2⟩
      · exact (N _ (.head _)).1
      · exact (N _ (.head _)).2.2
end Mine

namespace Mine
open Builtin Builtin.Str
local macro_rules | `(tactic| walk_at "m fact") => `(tactic| first | exact rfl | assumption | ((repeat (first | exact if_pos rfl | refine (if_neg (by decide)).trans ?_)); first | exact rfl | assumption))
local macro_rules | `(tactic| walk_at "eval Name") => `(tactic| (k_here; k_dflt (refine' ld ?k1 ?k2 ?_; (case k1 => k_asm); (case k2 => walk_at "m fact"); k_whole)))
local macro_rules | `(tactic| walk_at "loadName") => `(tactic| (k_here; k_dflt (refine' ldn ?k1 ?k2 ?_; (case k1 => k_asm); (case k2 => walk_at "m fact"); k_whole)))
local macro_rules | `(tactic| walk_at "halt") => `(tactic| with_reducible (first | show wpAny _ _ (newList _) _ _ _ | show wpAny _ _ (newTuple _) _ _ _ | show wpAny _ _ (pyIter _) _ _ _ | show wpAny _ _ (call (Value.type _) _) _ _ _ | show wpAny _ _ (call (Value.ref _) _) _ _ _ | show wpAny _ _ (call (Value.builtin "sum") _) _ _ _ | show wpAny _ _ (subscriptTail _ _ (Value.ref _) _) _ _ _ | show wpAny _ _ (setItem _ _ _) _ _ _ | show wpAny _ _ (exec (Stmt.For _ _ _ _ _) _) _ _ _))
local macro_rules | `(tactic| walk_at "goN") => `(tactic| repeat' (first | (k_unfold; (try dsimp only)) | ((fail_if_success (walk_at "halt")); walk1) | (dsimp only; (fail_if_success (walk_at "halt")); walk1)))

local macro_rules | `(tactic| walk_at "haltM") => `(tactic| with_reducible (first | show wpAny _ _ (newList _) _ _ _ | show wpAny _ _ (pyIter _) _ _ _ | show wpAny _ _ (call (Value.type _) _) _ _ _ | show wpAny _ _ (call (Value.ref _) _) _ _ _ | show wpAny _ _ (subscriptTail _ _ _ _) _ _ _ | show wpAny _ _ (call (Value.builtin "chr") _) _ _ _ | show wpAny _ _ (exec (Stmt.For _ _ _ _ _) _) _ _ _))
local macro_rules | `(tactic| walk_at "goM") => `(tactic| repeat' (first | (k_unfold; (try dsimp only)) | ((fail_if_success (walk_at "haltM")); walk1) | (dsimp only; (fail_if_success (walk_at "haltM")); walk1)))
abbrev Octets (x : Str) : Prop := ∀ c ∈ x.cps.toList, c < 256
theorem oct_app {x y : Str} (hx : Octets x) (hy : Octets y) : Octets (x ++ y) := fun c hc => by
  have e : (x ++ y).cps.toList = x.cps.toList ++ y.cps.toList := Array.toList_append
  rw [e] at hc
  exact (List.mem_append.mp hc).elim (hx c) (hy c)
theorem oct_item {x : Str} (hx : Octets x) (i : Int) : Octets (Txt.item x i) := fun c hc => by
  have hc' : c = (Txt.charAt x i).getD 0 := by simpa [Txt.item] using hc
  cases h : Txt.charAt x i with
  | none => rw [h] at hc'; rw [hc']; decide
  | some d =>
    rw [h] at hc'
    rw [hc']
    unfold Txt.charAt at h
    obtain ⟨j, _, hj⟩ := Option.bind_eq_some_iff.mp h
    exact hx d (List.mem_of_getElem? (i := j) (by simpa using hj))
theorem oct_slice {x : Str} (hx : Octets x) (i j : Option Int) : Octets (Txt.slice x i j) := fun c hc => by
  unfold Txt.slice at hc
  split at hc
  · exact hx c hc
  · obtain ⟨k, _, hk⟩ := List.mem_filterMap.mp (by simpa using hc)
    exact hx c (List.mem_of_getElem? (i := k) (by simpa using hk))
theorem oct_one {c : Nat} (h : c < 256) : Octets ⟨#[c]⟩ := fun d hd => by
  have : d = c := by simpa using hd
  rw [this]; exact h
theorem flip_nat {a b : Int} {q e : Nat} (ha : a = q) (hb : b = e) : bitXor a (1 * 2 ^ b.toNat) = ((q ^^^ 2 ^ e : Nat) : Int) := by
  rw [ha, hb, Int.toNat_natCast, Int.one_mul, show ((2 : Int) ^ e) = ((2 ^ e : Nat) : Int) by simp, bitXor_nat]
theorem flip_lt {q e : Nat} (hq : q < 256) (he : e < 8) : q ^^^ 2 ^ e < 256 := Nat.xor_lt_two_pow (n := 8) hq (Nat.pow_lt_pow_right (by decide) he)
theorem pair_to {h₀ : Heap} {L : Addr} {h' : Heap} {m' : Str → Option Value} {own news' : List (Addr × Obj)} {s₁ : Shared} {tk : Nat} {sum : Int} {b : Nat} {t0 t u : Tok} {want got : Str} (F : Fr h₀ L h' m') (N : News h₀ L h' news')
    (e1 : m' (Str.ofString "total") = some (.int sum t0)) (e2 : m' (Str.ofString "want") = some (.str want t)) (e3 : m' (Str.ofString "got") = some (.str got u)) (hw : Octets want) (hg : Octets got) (hwl : want.length ≤ b) (hgl : got.length ≤ b) (ho : ∀ p ∈ own, p ∈ news') :
    EndG h₀ L (fun m nx => nx = [] ∧ (∃ t, m (Str.ofString "total") = some (.int sum t)) ∧ ∃ want got t u, m (Str.ofString "want") = some (.str want t) ∧ m (Str.ofString "got") = some (.str got u) ∧ Octets want ∧ Octets got ∧ want.length ≤ b ∧ got.length ≤ b) own s₁ { s₁ with heap := h', toks := tk } :=
  EndG.intro (nx := []) F N ⟨rfl, ⟨_, e1⟩, _, _, _, _, e2, e3, hw, hg, hwl, hgl⟩ (fun _ hp => nomatch hp) ho (fun _ hp => nomatch hp)
local macro_rules | `(tactic| walk_at "m fact2") => `(tactic| ((try dsimp only); (repeat (first | exact if_pos rfl | refine (if_neg (by decide)).trans ?_)); first | done | assumption | exact rfl))
local macro_rules | `(tactic| walk_at "pair end") => `(tactic| ((rename Fr _ _ _ _ => F); (rename News _ _ _ _ => N); (refine' pair_to F N ?e1 ?e2 ?e3 ?f1 ?f2 ?f3 ?f4 ?f5); (case e1 => walk_at "m fact2"); (case e2 => walk_at "m fact2"); (case e3 => walk_at "m fact2"); (case f5 => (intro p hp; repeat (first | exact hp | apply List.Mem.tail)))))
theorem fmod_few (a : Int) {n : Nat} (h : 0 < n) : ∃ k : Nat, k < n ∧ a.fmod n = (k : Int) := by
  have h1 := Int.fmod_nonneg_of_pos a (show (0 : Int) < n by omega)
  have h2 := Int.fmod_lt_of_pos a (show (0 : Int) < n by omega)
  exact ⟨(a.fmod n).toNat, by omega, by omega⟩

theorem slice_short (x : Str) {i j : Int} (h0 : 0 ≤ i) (hij : i ≤ j) (hj : j ≤ i + 3) : (Txt.slice x (some i) (some j)).length ≤ 3 := by
  obtain ⟨a, rfl⟩ : ∃ a : Nat, i = (a : Int) := ⟨i.toNat, by omega⟩
  obtain ⟨b, rfl⟩ : ∃ b : Nat, j = (b : Int) := ⟨j.toNat, by omega⟩
  have := slice_list x a b (by omega)
  rw [Str.length, ← Array.length_toList, this, List.length_take]
  omega
/-- a short slice of an octet text, its signs forgotten -/
theorem slice_few {prog : Program} {w : World} {A : Around} {E : Value → Shared → Prop} {s : Shared} {Q : Value → Shared → Prop} {h₀ : Heap} {L : Addr} {m : Str → Option Value} {news : List (Addr × Obj)} {value slice : PySem.Expr} {x : Str} {t : Tok} {i j : Int} {ui uj : Tok}
    (hF : Fr h₀ L s.heap m) (hN : News h₀ L s.heap news) (hx : Octets x) (h0 : 0 ≤ i) (hij : i ≤ j) (hj : j ≤ i + 3) (hsz : x.length ≤ sizeLine)
    (h : ∀ z h' t' k, z.length ≤ 3 → Octets z → Fr h₀ L h' m → News h₀ L h' news → Q (.str z t') { s with heap := h', toks := k })
    (hs : subscripted slice false (.str x t) (.ref s.heap.objs.size) = operate [.ref s.heap.objs.size, .str x t] (getItem (.str x t) (.ref s.heap.objs.size)) := by with_unfolding_all rfl)
    (ht : ∀ r, letTemporaryGo value (.str x t) r = pure () := by intro _; with_unfolding_all rfl) :
    wpAny (model prog w) A (subscriptTail value slice (.str x t) (.ref s.heap.objs.size)) Q E { s with heap := s.heap.push { cls := .type "slice", data := .fields #[.int i ui, .int j uj, .none] } } :=
  slice_strN_ss hF hN (fun h' t' k F N => h _ h' t' k (slice_short x h0 hij hj) (oct_slice hx _ _) F N) hs ht hsz
/-- the remainder by 256, stated with the written number itself: to unify it with a cast of 256 costs most of a minute -/
theorem fmod_octet (a : Int) : ∃ q : Nat, q < 256 ∧ a.fmod 256 = (q : Int) := by
  have h1 := Int.fmod_nonneg_of_pos a (show (0 : Int) < 256 by decide)
  have h2 := Int.fmod_lt_of_pos a (show (0 : Int) < 256 by decide)
  exact ⟨(a.fmod 256).toNat, by omega, by omega⟩
set_option maxHeartbeats 40000000 in
theorem law_pair {w : World} {mean : ExcName → Option Value} {mg mb : Str → Option Value} {s : Shared} {a : Addr} {vs : List Value} {ns : List Int}
    (T : Top Mine.hd.view_39 (looseW Mine.hd.view_39 []) mean mg mb s.heap) (X : (Mine.hd.heap_39 w.params).In s.heap) (hl : s.heap.IsList a vs.toArray) (hi : IntsAre vs ns) (hz : ns.length ≤ 6) :
    wpAny (model PySem.Challenge.rw_mr0068_01.row.prog w) (Ar 400 100) (call (.ref 35) [.ref a]) (Back s fun v h => ∃ D want got t u k, v = .ref D ∧ h.get? D = some { cls := .type "tuple", data := .seq #[.str want t, .str got u] k } ∧ s.heap.get? D = none ∧ Octets want ∧ Octets got ∧ want.length ≤ 40 ∧ got.length ≤ 40) (fun _ _ => False) s := by
  w_top off
  revert X; k_fill; intro X
  refine' enter (binds := [(Str.ofString "numbers", .ref a)]) X T.nolimit ?k6 ?k7 ?k8 ?k9 ?kB ?_ ?c2 ?c3 ?c4 ?c5
  case k6 => k_is
  case k7 => k_is
  case k8 => decide
  case k9 => exact BindsTo.of_eq rfl
  case kB => exact locs rfl
  case c2 => exact rfl
  case c3 => exact rfl
  case c4 => exact rfl
  case c5 => decide
  intro L h₁ hL F N
  walk_at "goN"
  refine sum_here rfl (hl.at fun o e => F.keep _ _ e) hi ?_
  intro h tk tt hk
  replace F := F.keeps hk
  replace N := News.grown N hk
  walk_at "goN"
  rename Fr _ _ _ _ => F; rename News _ _ _ _ => N
  refine tuple_here F N (by show 2 ≤ 1000; decide) ?_
  intro D1 h F N hD1
  walk_at "goN"
  rename Fr _ _ _ _ => F; rename News _ _ _ _ => N
  refine tuple_here F N (by show 2 ≤ 1000; decide) ?_
  intro D2 h F N hD2
  walk_at "goN"
  rename Fr _ _ _ _ => F; rename News _ _ _ _ => N
  refine tuple_here F N (by show 2 ≤ 1000; decide) ?_
  intro D3 h F N hD3
  walk_at "goN"
  rename Fr _ _ _ _ => F; rename News _ _ _ _ => N
  refine newList_K F N ?_
  intro R h F N hR
  walk_at "goN"
  rename Fr _ _ _ _ => F; rename News _ _ _ _ => N
  obtain ⟨q, hq3, hq⟩ : ∃ q : Nat, q < 3 ∧ ns.sum.fmod 3 = (q : Int) := fmod_few ns.sum (n := 3) (by decide)
  rw [hq]
  obtain ⟨D, want, got, t, u, hDq, hDN, hw, hg, hwl, hgl⟩ : ∃ D want got t u, #[Value.ref D1, .ref D2, .ref D3][q]? = some (.ref D) ∧ News s.heap L h [(D, { cls := .type "tuple", data := .seq #[.str want t, .str got u] })] ∧ Octets want ∧ Octets got ∧ want.length ≤ 5 ∧ got.length ≤ 5 := by
    have e1 : Octets (Str.ofString "aa...") := by decide +kernel
    have e2 : Octets (Str.ofString "aa") := by decide +kernel
    have e3 : Octets (Str.ofString "...") := by decide +kernel
    have e4 : Octets (Str.ofString "") := by decide +kernel
    match q, hq3 with
    | 0, _ => exact ⟨D1, _, _, _, _, rfl, cb_drop N (fun p hp => by rw [List.mem_singleton.mp hp]; exact .tail _ (.tail _ (.tail _ (.head _)))), e1, e2, by decide +kernel, by decide +kernel⟩
    | 1, _ => exact ⟨D2, _, _, _, _, rfl, cb_drop N (fun p hp => by rw [List.mem_singleton.mp hp]; exact .tail _ (.tail _ (.head _))), e3, e4, by decide +kernel, by decide +kernel⟩
    | 2, _ => exact ⟨D3, _, _, _, _, rfl, cb_drop N (fun p hp => by rw [List.mem_singleton.mp hp]; exact .tail _ (.head _)), e4, e4, by decide +kernel, by decide +kernel⟩
    | q + 3, h => exact absurd h (by omega)
  have hRl := News.listAt N (.head _)
  refine' item_pos hRl ?k1 ?k2 hDq ?_ ?k3
  case k1 => omega
  case k2 => omega
  case k3 => with_unfolding_all rfl
  clear N
  have N := hDN
  walk_at "goN"
  rename Fr _ _ _ _ => F; rename News _ _ _ _ => N
  replace N := cb_drop N (news := []) (by simp)
  refine For_invV (h₀ := s.heap) rfl rfl ?_
  walk_at "goN"
  rename Fr _ _ _ _ => F; rename News _ _ _ _ => N
  refine loop_arg (vs := vs.toArray) (fun i m nx => nx = [] ∧ (∃ t, m (Str.ofString "total") = some (.int ns.sum t)) ∧ ∃ want got t u, m (Str.ofString "want") = some (.str want t) ∧ m (Str.ofString "got") = some (.str got u) ∧ Octets want ∧ Octets got ∧ want.length ≤ 5 + 3 * i ∧ got.length ≤ 5 + 3 * i) rfl hl F N ⟨rfl, ⟨tt, ?_⟩, want, got, t, u, ?_, ?_, hw, hg, hwl, hgl⟩ ?_ ?_
  · walk_at "m fact"
  · walk_at "m fact"
  · walk_at "m fact"
  · clear N F
    rintro i v m₁ nx h tk own hv ⟨rfl, ⟨t', hm1⟩, want, got, t, u, hm2, hm3, hw, hg, hwl, hgl⟩ hoff F N
    obtain ⟨x, tx, rfl, hn⟩ := IntsAre.at hi i v (by simpa using hv)
    have hwl' : want.length ≤ 30 := by have := (List.getElem?_eq_some_iff.mp hn).1; omega
    have hgl' : got.length ≤ 30 := by have := (List.getElem?_eq_some_iff.mp hn).1; omega
    have hi6 : i < 6 := by have := (List.getElem?_eq_some_iff.mp hn).1; omega
    walk_at "goM"
    · have hk : x.fmod 10 < 3 := by assumption
      obtain ⟨k, hk10, ek⟩ : ∃ q : Nat, q < 10 ∧ x.fmod 10 = (q : Int) := fmod_few x (n := 10) (by decide)
      have h3 : (Str.ofString "ab.").length = 3 := by decide +kernel
      have ho := oct_item (x := Str.ofString "ab.") (by decide +kernel) (x.fmod 10)
      refine item_str (fitsSsize_of (N := 9223372036854775808) (by omega) (by omega) (Int.le_refl _)) (by omega) (by omega) ?_
      intro hlen
      walk_at "goM"
      refine item_str (fitsSsize_of (N := 9223372036854775808) (by omega) (by omega) (Int.le_refl _)) (by omega) (by omega) ?_
      intro _
      walk_at "goM"
      walk_at "pair end"
      · exact oct_app hw ho
      · exact oct_app hg ho
      · rw [Str.length_append]; omega
      · rw [Str.length_append]; omega
    · obtain ⟨k, hk, ek⟩ : ∃ q : Nat, q < 256 ∧ (x.fdiv 10).fmod 256 = (q : Int) := fmod_octet _
      rw [ek]
      refine chr_of_range (by omega) (by omega) ?_
      rw [Int.toNat_natCast]
      have hlen : Str.length ⟨#[k]⟩ = 1 := rfl
      have hlen' : Str.length ⟨#[k]⟩ ≤ 1 := Nat.le_refl _
      walk_at "goM"
      rw [ek]
      refine chr_of_range (by omega) (by omega) ?_
      rw [Int.toNat_natCast]
      walk_at "goM"
      walk_at "pair end"
      · exact oct_app hw (oct_one hk)
      · exact oct_app hg (oct_one hk)
      · rw [Str.length_append]; omega
      · rw [Str.length_append]; omega
    · rename Fr _ _ _ _ => F; rename News _ _ _ _ => N
      have h4 : (Str.ofString "ab.a").length ≤ 4 := by decide +kernel
      have hr0 := Int.fmod_nonneg_of_pos (x.fdiv 10) (show (0 : Int) < 3 by decide)
      have hr1 := Int.fmod_lt_of_pos (x.fdiv 10) (show (0 : Int) < 3 by decide)
      have hk0 := Int.fmod_nonneg_of_pos x (show (0 : Int) < 10 by decide)
      have hk3 : ¬ x.fmod 10 < 3 := by assumption
      have hk3' : x.fmod 10 ≠ 3 := by assumption
      refine slice_few (s := ⟨_, _, _, _, _⟩) F N (by decide +kernel) (by omega) (by omega) (by omega) (by rw [sizeLine_eq]; omega) ?_
      intro z h' t' tk' hlen ho F N
      walk_at "goM"
      walk_at "pair end"
      · exact oct_app hw (by decide +kernel)
      · exact oct_app hg ho
      · rw [Str.length_append, show (Str.ofString "...").length = 3 by decide +kernel]; omega
      · rw [Str.length_append]; omega
    · walk_at "pair end"
      · exact hw
      · exact oct_app hg (by decide +kernel)
      · omega
      · rw [Str.length_append, show (Str.ofString "a").length = 1 by decide +kernel]; omega
    · walk_at "pair end"
      · exact oct_app hw (by decide +kernel)
      · exact hg
      · rw [Str.length_append, show (Str.ofString "b").length = 1 by decide +kernel]; omega
      · omega
    · walk_at "pair end"
      · exact oct_app hw (by decide +kernel)
      · exact oct_app hg (by decide +kernel)
      · rw [Str.length_append, show (Str.ofString "..").length = 2 by decide +kernel]; omega
      · rw [Str.length_append, show (Str.ofString ".").length = 1 by decide +kernel]; omega
    · obtain ⟨k, hk, ek⟩ : ∃ q : Nat, q < 256 ∧ (x.fdiv 10).fmod 256 = (q : Int) := fmod_octet _
      obtain ⟨e, he, ee⟩ : ∃ q : Nat, q < 8 ∧ ((x.fdiv 10).fdiv 256).fmod 8 = (q : Int) := fmod_few _ (n := 8) (by decide)
      obtain ⟨f, hf, ef⟩ : ∃ f : Nat, f < 256 ∧ bitXor ((x.fdiv 10).fmod 256) (1 * 2 ^ (((x.fdiv 10).fdiv 256).fmod 8).toNat) = (f : Int) := ⟨_, flip_lt hk he, flip_nat ek ee⟩
      rw [ef]
      refine chr_of_range (by omega) (by omega) ?_
      rw [Int.toNat_natCast]
      have hlen1 : Str.length ⟨#[f]⟩ = 1 := rfl
      have hlen1' : Str.length ⟨#[f]⟩ ≤ 1 := Nat.le_refl _
      have hlen : Str.length ⟨#[k]⟩ = 1 := rfl
      have hlen' : Str.length ⟨#[k]⟩ ≤ 1 := Nat.le_refl _
      walk_at "goM"
      rw [ek]
      refine chr_of_range (by omega) (by omega) ?_
      rw [Int.toNat_natCast]
      walk_at "goM"
      walk_at "pair end"
      · exact oct_app hw (oct_one hf)
      · exact oct_app hg (oct_one hk)
      · rw [Str.length_append]; omega
      · rw [Str.length_append]; omega
  · rintro m₁ nx h tk ⟨rfl, ⟨t', hm1⟩, want, got, t, u, hm2, hm3, hw, hg, hwl, hgl⟩ F N
    dsimp only
    walk_at "goM"
    rename Fr _ _ _ _ => F; rename News _ _ _ _ => N
    refine newList_K F N ?_
    intro R h F N hR
    walk_at "goM"
    obtain ⟨q, hq2, hq⟩ : ∃ q : Nat, q < 2 ∧ (ns.sum.fdiv 6).fmod 2 = (q : Int) := fmod_few _ (n := 2) (by decide)
    rw [hq]
    obtain ⟨z, tz, hzq, hzo, hzl⟩ : ∃ z tz, #[Value.str (Str.ofString "aa") tk, Value.str (Str.ofString "") (tk + 1)][q]? = some (.str z tz) ∧ Octets z ∧ z.length ≤ 2 := by
      match q, hq2 with
      | 0, _ => exact ⟨_, _, rfl, by decide +kernel, by decide +kernel⟩
      | 1, _ => exact ⟨_, _, rfl, by decide +kernel, by decide +kernel⟩
      | q + 2, h => exact absurd h (by omega)
    refine' item_pos (News.listAt N (.head _)) ?k1 ?k2 hzq ?_ ?k3
    case k1 => omega
    case k2 => omega
    case k3 => with_unfolding_all rfl
    have hwl' : want.length ≤ 30 := by rw [List.size_toArray, hi.length] at hwl; omega
    have hgl' : got.length ≤ 30 := by rw [List.size_toArray, hi.length] at hgl; omega
    walk_at "goM"
    rename Fr _ _ _ _ => F; rename News _ _ _ _ => N
    refine Back.intro rfl F.keep ⟨_, _, _, _, _, _, rfl, (N _ (.head _)).1, (N _ (.head _)).2.2, oct_app hw hzo, oct_app hg hzo, ?_, ?_⟩
    · rw [Str.length_append]; omega
    · rw [Str.length_append]; omega
end Mine

namespace Mine
theorem xor_mod2 (a b : Nat) : (a ^^^ b) % 2 = (a % 2 + b % 2) % 2 := by
  have h := @Nat.xor_mod_two_pow a b 1
  simp only [Nat.pow_one] at h
  rw [h]
  rcases Nat.mod_two_eq_zero_or_one a with p | p <;> rcases Nat.mod_two_eq_zero_or_one b with q | q <;> rw [p, q] <;> rfl
theorem fstep_xor (a b : Nat) : fstep (a ^^^ b) = fstep a ^^^ fstep b := by
  have h1 : (a ^^^ b) / 2 = (a / 2) ^^^ (b / 2) := Nat.xor_div_two
  have h2 := xor_mod2 a b
  unfold fstep
  rw [h1]
  generalize (3988292384 : Nat) = p
  rcases Nat.mod_two_eq_zero_or_one a with ha | ha <;> rcases Nat.mod_two_eq_zero_or_one b with hb | hb <;> rw [ha, hb] at h2 <;> rw [h2, ha, hb]
  · rfl
  · show _ = a / 2 ^^^ (b / 2 ^^^ p); rw [Nat.xor_assoc]; rfl
  · show (a / 2 ^^^ b / 2) ^^^ p = (a / 2 ^^^ p) ^^^ (b / 2)
    rw [Nat.xor_assoc, Nat.xor_comm (b / 2) p, ← Nat.xor_assoc]
  · show a / 2 ^^^ b / 2 = (a / 2 ^^^ p) ^^^ (b / 2 ^^^ p)
    rw [Nat.xor_comm (b / 2) p, Nat.xor_assoc, ← Nat.xor_assoc p p, Nat.xor_self, Nat.zero_xor]
theorem fsteps_xor (n a b : Nat) : fsteps n (a ^^^ b) = fsteps n a ^^^ fsteps n b := by
  induction n with
  | zero => rfl
  | succ n ih => rw [fsteps, ih, fstep_xor]; rfl
theorem fstep_lt {a : Nat} (h : a < 2 ^ 32) : fstep a < 2 ^ 32 := by
  unfold fstep
  split
  · exact Nat.xor_lt_two_pow (by omega) (by decide)
  · omega
theorem fsteps_lt (n : Nat) {a : Nat} (h : a < 2 ^ 32) : fsteps n a < 2 ^ 32 := by
  induction n with
  | zero => exact h
  | succ n ih => exact fstep_lt ih
theorem xor_eq_zero' {a b : Nat} (h : a ^^^ b = 0) : a = b := by
  have := congrArg (· ^^^ b) h
  simpa [Nat.xor_assoc] using this
theorem fstep_zero {a : Nat} (h : a < 2 ^ 32) (e : fstep a = 0) : a = 0 := by
  unfold fstep at e
  split at e
  · have := xor_eq_zero' e
    omega
  · omega
theorem fsteps_zero (n : Nat) {a : Nat} (h : a < 2 ^ 32) (e : fsteps n a = 0) : a = 0 := by
  induction n with
  | zero => exact e
  | succ n ih => exact ih (fstep_zero (fsteps_lt n h) e)
theorem fsteps_inj (n : Nat) {a b : Nat} (ha : a < 2 ^ 32) (hb : b < 2 ^ 32) (e : fsteps n a = fsteps n b) : a = b := by
  apply xor_eq_zero'
  refine fsteps_zero n (Nat.xor_lt_two_pow ha hb) ?_
  rw [fsteps_xor, e, Nat.xor_self]
theorem fsteps_shift (n y : Nat) : fsteps n (y * 2 ^ n) = y := by
  induction n generalizing y with
  | zero => rw [fsteps]; omega
  | succ n ih =>
    rw [fsteps, show y * 2 ^ (n + 1) = (y * 2) * 2 ^ n by rw [Nat.pow_succ, Nat.mul_assoc, Nat.mul_comm 2], ih, fstep, if_neg (by omega)]
    omega
theorem fsteps_add (m n a : Nat) : fsteps m (fsteps n a) = fsteps (m + n) a := by
  induction m with
  | zero => rw [Nat.zero_add]; rfl
  | succ m ih => rw [Nat.succ_add, fsteps, fsteps, ih]
theorem split8 (x : Nat) : x = (x >>> 8) * 2 ^ 8 ^^^ (x &&& 255) := by
  apply Nat.eq_of_testBit_eq
  intro i
  rw [Nat.testBit_xor, Nat.testBit_and, show (255 : Nat) = 2 ^ 8 - 1 from rfl, Nat.testBit_two_pow_sub_one, Nat.testBit_mul_two_pow, Nat.testBit_shiftRight]
  by_cases h : i < 8
  · simp [h, Nat.not_le.mpr h]
  · have h8 : 8 ≤ i := by omega
    simp [h, h8]
theorem crcOne_eq {st c : Nat} (h : c < 256) : crcOne st c = fsteps 8 (st ^^^ c) := by
  have h1 : (st ^^^ c) >>> 8 = st >>> 8 := by
    rw [Nat.shiftRight_xor_distrib, show c >>> 8 = 0 by rw [Nat.shiftRight_eq_div_pow]; omega, Nat.xor_zero]
  have h2 := split8 (st ^^^ c)
  rw [h1] at h2
  rw [crcOne]
  conv => rhs; rw [h2]
  rw [fsteps_xor, fsteps_shift]
def word : List Nat → Nat
  | [] => 0
  | c :: r => c ^^^ (word r * 2 ^ 8)
theorem crcOn_cons (st c : Nat) (r : List Nat) : crcOn st (c :: r) = crcOn (crcOne st c) r := rfl
theorem crcOn_eq (run : List Nat) (h : ∀ c ∈ run, c < 256) (st : Nat) : crcOn st run = fsteps (8 * run.length) (st ^^^ word run) := by
  induction run generalizing st with
  | nil => show st = fsteps 0 (st ^^^ 0); rw [Nat.xor_zero]; rfl
  | cons c r ih =>
    rw [crcOn_cons, ih (fun d hd => h d (.tail _ hd)), crcOne_eq (h c (.head _)), List.length_cons, show 8 * (r.length + 1) = 8 * r.length + 8 by omega, ← fsteps_add]
    congr 1
    conv => lhs; rw [← fsteps_shift 8 (word r)]
    rw [← fsteps_xor, word, Nat.xor_assoc]
theorem ahead_eq (k n : Nat) : ahead k n = fsteps (8 * k) n := by
  induction k with
  | zero => rfl
  | succ k ih => rw [ahead, ih, crcOn_cons, crcOne_eq (by decide), Nat.xor_zero, fsteps_add]; show fsteps (8 + 8 * k) n = _; congr 1; omega
theorem word_lt (run : List Nat) (h : ∀ c ∈ run, c < 256) : word run < 2 ^ (8 * run.length) := by
  induction run with
  | nil => decide
  | cons c r ih =>
    have h1 := ih (fun d hd => h d (.tail _ hd))
    have h2 := h c (.head _)
    rw [word, List.length_cons, show 8 * (r.length + 1) = 8 * r.length + 8 by omega]
    refine Nat.xor_lt_two_pow ?_ ?_
    · exact Nat.lt_of_lt_of_le (show c < 2 ^ 8 from h2) (Nat.pow_le_pow_right (by decide) (by omega))
    · rw [Nat.pow_add]; exact Nat.mul_lt_mul_of_pos_right h1 (by decide)
theorem word_inj : ∀ (a b : List Nat), a.length = b.length → (∀ c ∈ a, c < 256) → (∀ c ∈ b, c < 256) → word a = word b → a = b
  | [], [], _, _, _, _ => rfl
  | [], _ :: _, h, _, _, _ => by simp at h
  | _ :: _, [], h, _, _, _ => by simp at h
  | c :: a, d :: b, h, ha, hb, e => by
    have hc := ha c (.head _)
    have hd := hb d (.head _)
    have key : ∀ x w : Nat, x < 256 → (x ^^^ (w * 2 ^ 8)) % 2 ^ 8 = x ∧ (x ^^^ (w * 2 ^ 8)) / 2 ^ 8 = w := by
      intro x w hx
      constructor
      · rw [Nat.xor_mod_two_pow, Nat.mul_mod_left, Nat.xor_zero]; exact Nat.mod_eq_of_lt hx
      · rw [Nat.xor_div_two_pow, Nat.mul_div_cancel _ (by decide), Nat.div_eq_of_lt (show x < 2 ^ 8 from hx), Nat.zero_xor]
    simp only [word] at e
    have e1 := key c (word a) hc
    have e2 := key d (word b) hd
    rw [e] at e1
    have h1 : c = d := e1.1.symm.trans e2.1
    have h2 : word a = word b := e1.2.symm.trans e2.2
    rw [h1, word_inj a b (by simpa using h) (fun x hx => ha x (.tail _ hx)) (fun x hx => hb x (.tail _ hx)) h2]
theorem crcOn_lt (run : List Nat) (h : ∀ c ∈ run, c < 256) {st : Nat} (hs : st < 2 ^ 32) : crcOn st run < 2 ^ 32 := by
  induction run generalizing st with
  | nil => exact hs
  | cons c r ih =>
    rw [crcOn_cons, crcOne_eq (h c (.head _))]
    have hc : c < 256 := h c (.head _)
    exact ih (fun d hd => h d (.tail _ hd)) (fsteps_lt 8 (Nat.xor_lt_two_pow hs (by omega)))
theorem crcOn_inj {a b : List Nat} (hl : a.length = b.length) (h4 : a.length ≤ 4) (ha : ∀ c ∈ a, c < 256) (hb : ∀ c ∈ b, c < 256) (e : crcOn ones a = crcOn ones b) : a = b := by
  rw [crcOn_eq a ha, crcOn_eq b hb, hl] at e
  have wa : word a < 2 ^ 32 := Nat.lt_of_lt_of_le (word_lt a ha) (Nat.pow_le_pow_right (by decide) (by omega))
  have wb : word b < 2 ^ 32 := Nat.lt_of_lt_of_le (word_lt b hb) (Nat.pow_le_pow_right (by decide) (by omega))
  have h1 := fsteps_inj _ (Nat.xor_lt_two_pow (show ones < 2 ^ 32 by decide) wa) (Nat.xor_lt_two_pow (show ones < 2 ^ 32 by decide) wb) e
  refine word_inj a b hl ha hb ?_
  have := congrArg (ones ^^^ ·) h1
  simpa [← Nat.xor_assoc] using this

/-- q is r read from the other end -/
def Rev (r q : Nat) : Prop := r < 2 ^ 32 ∧ q < 2 ^ 32 ∧ ∀ k, k < 32 → q.testBit k = r.testBit (31 - k)
theorem fstep_bit (x k : Nat) : (fstep x).testBit k = (x.testBit (k + 1) ^^ (x.testBit 0 && (3988292384 : Nat).testBit k)) := by
  have h0 : x.testBit 0 = decide (x % 2 = 1) := Nat.testBit_zero ..
  unfold fstep
  split
  · rename_i h
    rw [Nat.testBit_xor, h0, decide_eq_true h, Nat.testBit_succ, Bool.true_and]
  · rename_i h
    rw [h0, decide_eq_false h, Nat.testBit_succ, Bool.false_and, Bool.xor_false]
theorem poly_rev : ∀ k, k < 32 → (79764919 : Nat).testBit (31 - k) = (3988292384 : Nat).testBit k := by decide
theorem rev_step {r q b : Nat} (h : Rev r q) (hb : b < 2) : Rev (mstep r b) (fstep (q ^^^ b)) := by
  obtain ⟨h1, h2, h3⟩ := h
  refine ⟨mstep_lt h1 hb, fstep_lt (Nat.xor_lt_two_pow h2 (by omega)), fun k hk => ?_⟩
  have hq0 : (q ^^^ b).testBit 0 = (r.testBit 31 ^^ decide (b = 1)) := by
    rw [Nat.testBit_xor, h3 0 (by decide), Nat.testBit_zero (x := b)]
    congr 1
    rw [show b % 2 = b by omega]
  have hbk : b.testBit (k + 1) = false := Nat.testBit_lt_two_pow (Nat.lt_of_lt_of_le hb (by rw [Nat.pow_succ]; have := Nat.one_le_two_pow (n := k); omega))
  have hlead : r >>> 31 ^^^ b = (r.testBit 31 ^^ decide (b = 1)).toNat := by
    have e : r >>> 31 = (r.testBit 31).toNat := by
      rw [Nat.toNat_testBit, Nat.shiftRight_eq_div_pow, Nat.mod_eq_of_lt]
      omega
    rw [e]
    rcases (by omega : b = 0 ∨ b = 1) with rfl | rfl <;> cases r.testBit 31 <;> rfl
  rw [fstep_bit, hq0, Nat.testBit_xor, hbk, Bool.xor_false, mstep, Nat.testBit_xor, hlead, ← poly_rev k hk]
  have hA : (r * 2 % 2 ^ 32).testBit (31 - k) = q.testBit (k + 1) := by
    rw [Nat.testBit_mod_two_pow, show r * 2 = r * 2 ^ 1 from rfl, Nat.testBit_mul_two_pow]
    by_cases hk1 : k + 1 < 32
    · rw [h3 _ hk1, show 31 - (k + 1) = 31 - k - 1 by omega, decide_eq_true (by omega), decide_eq_true (by omega)]; simp
    · rw [Nat.testBit_lt_two_pow (x := q) (Nat.lt_of_lt_of_le h2 (Nat.pow_le_pow_right (by decide) (by omega))), decide_eq_false (p := 31 - k ≥ 1) (by omega)]; simp
  rw [hA]
  congr 1
  cases (r.testBit 31 ^^ decide (b = 1)) <;> simp
theorem mod_bit (c j : Nat) : c % 2 ^ (j + 1) = c % 2 ^ j ^^^ (((c >>> j) &&& 1) * 2 ^ j) := by
  apply Nat.eq_of_testBit_eq
  intro i
  rw [Nat.testBit_xor, Nat.testBit_mod_two_pow, Nat.testBit_mod_two_pow, Nat.testBit_mul_two_pow, Nat.testBit_and, Nat.testBit_shiftRight, show (1 : Nat) = 2 ^ 1 - 1 from rfl, Nat.testBit_two_pow_sub_one]
  rcases Nat.lt_trichotomy i j with h | h | h
  · simp [h, show i < j + 1 by omega, show ¬ j ≤ i by omega]
  · subst h; simp
  · simp [show ¬ i < j by omega, show ¬ i < j + 1 by omega, show j ≤ i by omega, show ¬ i - j < 1 by omega]
theorem rev_feed {r q c : Nat} (h : Rev r q) : ∀ j, Rev (mfeed r c j) (fsteps j (q ^^^ (c % 2 ^ j)))
  | 0 => by
    rw [Nat.pow_zero, Nat.mod_one, Nat.xor_zero]; exact h
  | j + 1 => by
    have ih := rev_feed (c := c) h j
    have hb : (c >>> j) &&& 1 < 2 := by rw [Nat.and_one_is_mod]; omega
    have := rev_step ih hb
    rw [mfeed, fsteps]
    have e : q ^^^ c % 2 ^ (j + 1) = (q ^^^ c % 2 ^ j) ^^^ (((c >>> j) &&& 1) * 2 ^ j) := by
      rw [Nat.xor_assoc]
      congr 1
      exact mod_bit c j
    rw [e, fsteps_xor, fsteps_shift]
    exact this
theorem rev_reg (cs : List Nat) (h : ∀ c ∈ cs, c < 256) {r q : Nat} (hr : Rev r q) : Rev (cs.foldl (fun r c => mfeed r c 8) r) (crcOn q cs) := by
  induction cs generalizing r q with
  | nil => exact hr
  | cons c cs ih =>
    have hc : c < 256 := h c (.head _)
    rw [List.foldl_cons, crcOn_cons, crcOne_eq hc]
    refine ih (fun d hd => h d (.tail _ hd)) ?_
    have := rev_feed (c := c) hr 8
    rwa [Nat.mod_eq_of_lt (show c < 2 ^ 8 from hc)] at this
theorem rev_ones : Rev (2 ^ 32 - 1) ones := by
  refine ⟨by decide, by decide, fun k hk => ?_⟩
  rw [show ones = 2 ^ 32 - 1 from rfl, Nat.testBit_two_pow_sub_one, Nat.testBit_two_pow_sub_one, decide_eq_true hk, decide_eq_true (by omega)]
theorem rev_mreg (cs : List Nat) (h : ∀ c ∈ cs, c < 256) : Rev (mreg cs) (crcOn ones cs) := rev_reg cs h rev_ones
theorem bits_sum (x n : Nat) : (((List.range n).filter fun k => x.testBit k).map fun k => 2 ^ k).sum = x % 2 ^ n := by
  induction n with
  | zero => rw [Nat.pow_zero, Nat.mod_one]; rfl
  | succ n ih =>
    rw [List.range_succ, List.filter_append, List.map_append, List.sum_append, ih, Nat.pow_succ, Nat.mod_mul]
    have hb : x.testBit n = decide (x / 2 ^ n % 2 = 1) := Nat.testBit_eq_decide_div_mod_eq
    rcases Nat.mod_two_eq_zero_or_one (x / 2 ^ n) with e | e
    · simp [hb, e]
    · simp [hb, e]
theorem mval_rev {r q : Nat} (h : Rev r q) : mval r = q ^^^ ones := by
  obtain ⟨h1, h2, h3⟩ := h
  have hx : q ^^^ ones < 2 ^ 32 := Nat.xor_lt_two_pow h2 (by decide)
  rw [← Nat.mod_eq_of_lt hx, ← bits_sum, mval]
  congr 2
  apply List.filter_congr
  intro k hk
  have hk' : k < 32 := List.mem_range.mp hk
  rw [Nat.testBit_xor, h3 k hk', show ones = 2 ^ 32 - 1 from rfl, Nat.testBit_two_pow_sub_one, decide_eq_true hk', Bool.xor_true, Nat.testBit_eq_decide_div_mod_eq, Nat.shiftRight_eq_div_pow]
  rcases Nat.mod_two_eq_zero_or_one (r / 2 ^ (31 - k)) with e | e <;> simp [e]
theorem msums_get (cs : List Nat) (h : ∀ c ∈ cs, c < 256) (k : Nat) : (msums cs)[k]? = if k ≤ cs.length then some (crcOn ones (cs.take k) ^^^ ones) else none := by
  cases k with
  | zero => rw [if_pos (Nat.zero_le _)]; show some 0 = _; rw [List.take_zero]; show some 0 = some (ones ^^^ ones); rw [Nat.xor_self]
  | succ k =>
    rw [msums, List.getElem?_cons_succ, List.getElem?_map]
    by_cases hk : k < cs.length
    · rw [List.getElem?_range hk, if_pos (show k + 1 ≤ cs.length from hk), Option.map_some, mval_rev (rev_mreg _ fun c hc => h c (List.mem_of_mem_take hc))]
    · rw [List.getElem?_eq_none (by rw [List.length_range]; omega), if_neg (by omega)]; rfl
theorem ahead_xor (n a b : Nat) : ahead n (a ^^^ b) = ahead n a ^^^ ahead n b := by rw [ahead_eq, ahead_eq, ahead_eq, fsteps_xor]
theorem xor_lc {a b c : Nat} (h : a ^^^ b = a ^^^ c) : b = c := by
  have := congrArg (a ^^^ ·) h
  simpa [← Nat.xor_assoc] using this
theorem xor_rc {a b c : Nat} (h : b ^^^ a = c ^^^ a) : b = c := xor_lc (a := a) (by rw [Nat.xor_comm a b, Nat.xor_comm a c]; exact h)
/-- the test of a step -/
theorem step_test {cs run : List Nat} (h : ∀ c ∈ cs, c < 256) (hr : ∀ c ∈ run, c < 256) (h4 : run.length ≤ 4) {i : Nat} (hi : i ≤ cs.length) :
    ((msums cs)[i + run.length]? == some (ahead run.length ((msums cs).getD i 0) ^^^ (crcOn ones run ^^^ ones))) = decide ((cs.drop i).take run.length = run) := by
  rw [List.getD_eq_getElem?_getD, msums_get cs h, msums_get cs h, if_pos hi, Option.getD_some]
  by_cases hn : i + run.length ≤ cs.length
  · rw [if_pos hn]
    have hs : ((cs.drop i).take run.length).length = run.length := by rw [List.length_take, List.length_drop]; omega
    have ho : ∀ c ∈ (cs.drop i).take run.length, c < 256 := fun c hc => h c (List.mem_of_mem_drop (List.mem_of_mem_take hc))
    have e1 : cs.take (i + run.length) = cs.take i ++ (cs.drop i).take run.length := by rw [List.take_add]
    have e2 : crcOn ones (cs.take (i + run.length)) = crcOn (crcOn ones (cs.take i)) ((cs.drop i).take run.length) := by rw [e1, crcOn, crcOn, crcOn, List.foldl_append]
    have e3 : ∀ st l, (∀ c ∈ l, c < 256) → crcOn st l = ahead l.length (st ^^^ ones) ^^^ crcOn ones l := by
      intro st l hl
      rw [crcOn_eq l hl, crcOn_eq l hl, ahead_eq, ← fsteps_xor]
      congr 1
      rw [Nat.xor_assoc, ← Nat.xor_assoc ones, Nat.xor_self, Nat.zero_xor]
    rw [e2, e3 _ _ ho, hs]
    generalize ahead run.length (crcOn ones (cs.take i) ^^^ ones) = A
    rw [Bool.eq_iff_iff, beq_iff_eq, decide_eq_true_eq]
    constructor
    · intro e
      have e' := Option.some.inj e
      rw [Nat.xor_assoc] at e'
      have e4 : crcOn ones ((cs.drop i).take run.length) ^^^ ones = crcOn ones run ^^^ ones := xor_lc e'
      exact crcOn_inj hs (by omega) ho hr (xor_rc e4)
    · intro e
      rw [e, Nat.xor_assoc]
  · rw [if_neg hn, decide_eq_false]
    · rfl
    · intro e
      have := congrArg List.length e
      rw [List.length_take, List.length_drop] at this
      omega
end Mine

namespace Mine
open Builtin Builtin.Str
abbrev tl (x : Str) : List Nat := x.cps.toList
theorem tl_len (x : Str) : (tl x).length = x.length := Array.length_toList
def AtL (l p : List Nat) (i j : Nat) : Prop := j = i + p.length ∧ j ≤ l.length ∧ (l.drop i).take p.length = p
def GL (l : List Nat) : List (List Nat) → Nat → Nat → Prop
  | [], a, x => a = x
  | p :: r, a, x => ∃ i j, a ≤ i ∧ AtL l p i j ∧ GL l r j x
theorem GL_snoc {l : List Nat} {r : List (List Nat)} {p : List Nat} : ∀ {a x : Nat}, GL l (r ++ [p]) a x ↔ ∃ y i, GL l r a y ∧ y ≤ i ∧ AtL l p i x := by
  induction r with
  | nil =>
    intro a x
    constructor
    · rintro ⟨i, j, h1, h2, rfl⟩
      exact ⟨a, i, rfl, h1, h2⟩
    · rintro ⟨y, i, rfl, h1, h2⟩
      exact ⟨i, x, h1, h2, rfl⟩
  | cons q r ih =>
    intro a x
    constructor
    · rintro ⟨i, j, h1, h2, h3⟩
      obtain ⟨y, k, h4, h5, h6⟩ := ih.mp h3
      exact ⟨y, k, ⟨i, j, h1, h2, h4⟩, h5, h6⟩
    · rintro ⟨y, k, ⟨i, j, h1, h2, h4⟩, h5, h6⟩
      exact ⟨i, j, h1, h2, ih.mpr ⟨y, k, h4, h5, h6⟩⟩
theorem GL_le {l : List Nat} {r : List (List Nat)} : ∀ {a x : Nat}, GL l r a x → a ≤ x := by
  induction r with
  | nil => intro a x h; exact Nat.le_of_eq h
  | cons q r ih =>
    rintro a x ⟨i, j, h1, h2, h3⟩
    have := ih h3
    have := h2.1
    omega
theorem at_of {l p : List Nat} {i x : Nat} (hi : i ≤ l.length) : (x = i + p.length ∧ (l.drop i).take p.length = p) ↔ AtL l p i x := by
  constructor
  · rintro ⟨h1, h2⟩
    refine ⟨h1, ?_, h2⟩
    have := congrArg List.length h2
    rw [List.length_take, List.length_drop] at this
    omega
  · rintro ⟨h1, _, h2⟩
    exact ⟨h1, h2⟩
section
variable {cs : List Nat}
theorem mem_run {ends run : List Nat} (h : ∀ c ∈ cs, c < 256) (hr : ∀ c ∈ run, c < 256) (h1 : 1 ≤ run.length) (h4 : run.length ≤ 4) (he : ∀ i ∈ ends, i ≤ cs.length) {x : Nat} :
    x ∈ endStep (msums cs) ends (stepOf run) ↔ ∃ i ∈ ends, x = i + run.length ∧ (cs.drop i).take run.length = run := by
  unfold endStep stepOf
  rw [if_neg (by show ¬ run.length = 0; omega), List.mem_map]
  constructor
  · rintro ⟨i, hi, rfl⟩
    obtain ⟨hi, ht⟩ := List.mem_filter.mp hi
    dsimp only at ht
    rw [step_test h hr h4 (he i hi), decide_eq_true_eq] at ht
    exact ⟨i, hi, rfl, ht⟩
  · rintro ⟨i, hi, rfl, ht⟩
    refine ⟨i, List.mem_filter.mpr ⟨hi, ?_⟩, rfl⟩
    dsimp only
    rw [step_test h hr h4 (he i hi), decide_eq_true_eq]
    exact ht
theorem msums_len (cs : List Nat) : (msums cs).length = cs.length + 1 := by simp [msums]
theorem mem_dots {ends : List Nat} {x : Nat} : x ∈ endStep (msums cs) ends (0, 0) ↔ x ≤ cs.length ∧ ∃ i ∈ ends, i ≤ x := by
  obtain ⟨h1, h2⟩ := lowest_spec ends (msums cs).length
  have h3 := lowest_le ends (msums cs).length
  unfold endStep
  rw [if_pos rfl, List.mem_range'_1]
  rw [msums_len] at *
  constructor
  · rintro ⟨ha, hb⟩
    refine ⟨by omega, ?_⟩
    rcases List.mem_append.mp h1 with h | h
    · exact ⟨_, h, ha⟩
    · have := List.mem_singleton.mp h
      omega
  · rintro ⟨ha, i, hi, hb⟩
    have := h2 i (List.mem_append_left _ hi)
    omega
theorem fold_le {ends : List Nat} (he : ∀ i ∈ ends, i ≤ cs.length) (steps : List (Nat × Nat)) : ∀ x ∈ steps.foldl (endStep (msums cs)) ends, x ≤ cs.length := by
  induction steps generalizing ends with
  | nil => exact he
  | cons p r ih =>
    refine ih fun i hi => ?_
    have := endStep_lt (sums := msums cs) (ends := ends) (st := p) (fun y hy => by have := he y hy; rw [msums_len]; omega) i hi
    rw [msums_len] at this
    omega
theorem take_split {l p : List Nat} {a m : Nat} (hp : a + m ≤ p.length) : (l.take a = p.take a ∧ (l.drop a).take m = (p.drop a).take m) ↔ l.take (a + m) = p.take (a + m) := by
  rw [List.take_add, List.take_add (l := p)]
  constructor
  · rintro ⟨h1, h2⟩; rw [h1, h2]
  · intro h
    have hl := congrArg List.length h
    simp only [List.length_append, List.length_take, List.length_drop] at hl
    exact List.append_inj h (by rw [List.length_take, List.length_take]; omega)
theorem mem_cutsUpTo {ends p : List Nat} (h : ∀ c ∈ cs, c < 256) (hp : ∀ c ∈ p, c < 256) (he : ∀ i ∈ ends, i ≤ cs.length) : ∀ (k : Nat), k ≤ (p.length + 3) / 4 → ∀ x,
    (x ∈ (cutsUpTo p k).foldl (endStep (msums cs)) ends ↔ ∃ i ∈ ends, x = i + min (4 * k) p.length ∧ (cs.drop i).take (min (4 * k) p.length) = p.take (min (4 * k) p.length))
  | 0, _, x => by
    rw [show cutsUpTo p 0 = [] from rfl, List.foldl_nil, show min (4 * 0) p.length = 0 by omega]
    constructor
    · intro hx; exact ⟨x, hx, rfl, by rw [List.take_zero, List.take_zero]⟩
    · rintro ⟨i, hi, rfl, _⟩; exact hi
  | k + 1, hk, x => by
    have ih := mem_cutsUpTo h hp he k (by omega)
    have hk4 : 4 * k < p.length := by omega
    have hrl : ((p.drop (4 * k)).take 4).length = min 4 (p.length - 4 * k) := by rw [List.length_take, List.length_drop]
    have hro : ∀ c ∈ (p.drop (4 * k)).take 4, c < 256 := fun c hc => hp c (List.mem_of_mem_drop (List.mem_of_mem_take hc))
    have hrun : (p.drop (4 * k)).take 4 = (p.drop (4 * k)).take (min 4 (p.length - 4 * k)) := by
      by_cases h4 : 4 ≤ p.length - 4 * k
      · rw [Nat.min_eq_left h4]
      · rw [Nat.min_eq_right (by omega), List.take_of_length_le (by rw [List.length_drop]; omega), List.take_of_length_le (by rw [List.length_drop]; omega)]
    rw [cutsUpTo_succ, List.foldl_append, List.foldl_cons, List.foldl_nil, mem_run h hro (by omega) (by omega) (fold_le he _), hrl]
    rw [show min (4 * k) p.length = 4 * k by omega] at ih
    have hm : min (4 * (k + 1)) p.length = 4 * k + min 4 (p.length - 4 * k) := by omega
    have key : ∀ i, ((cs.drop i).take (4 * k) = p.take (4 * k) ∧ (cs.drop (i + 4 * k)).take (min 4 (p.length - 4 * k)) = (p.drop (4 * k)).take 4) ↔ (cs.drop i).take (4 * k + min 4 (p.length - 4 * k)) = p.take (4 * k + min 4 (p.length - 4 * k)) := by
      intro i
      rw [hrun, ← take_split (by omega), List.drop_drop]
    rw [hm]
    constructor
    · rintro ⟨y, hy, rfl, ht⟩
      obtain ⟨i, hi, rfl, ht'⟩ := (ih y).mp hy
      exact ⟨i, hi, by omega, (key i).mp ⟨ht', ht⟩⟩
    · rintro ⟨i, hi, rfl, ht⟩
      obtain ⟨h1, h2⟩ := (key i).mpr ht
      exact ⟨i + 4 * k, (ih _).mpr ⟨i, hi, rfl, h1⟩, by omega, h2⟩
theorem mem_cuts {ends p : List Nat} (h : ∀ c ∈ cs, c < 256) (hp : ∀ c ∈ p, c < 256) (he : ∀ i ∈ ends, i ≤ cs.length) {x : Nat} :
    x ∈ (cutsOf p).foldl (endStep (msums cs)) ends ↔ ∃ i ∈ ends, AtL cs p i x := by
  rw [cutsOf, mem_cutsUpTo h hp he _ (Nat.le_refl _) x, show min (4 * ((p.length + 3) / 4)) p.length = p.length by omega, List.take_length]
  constructor
  · rintro ⟨i, hi, h1⟩; exact ⟨i, hi, (at_of (he i hi)).mp h1⟩
  · rintro ⟨i, hi, h1⟩; exact ⟨i, hi, (at_of (he i hi)).mpr h1⟩
theorem mem_steps (ps : List Str) (h : ∀ c ∈ cs, c < 256) (hps : ∀ y ∈ ps, ∀ c ∈ tl y, c < 256) {start : Nat} (hs : start ≤ cs.length) : ∀ (k : Nat), k < ps.length → ∀ x,
    (x ∈ endsOf (msums cs) start (stepsAt ps (k + 1)) ↔ ∃ j, AtL cs (tl (ps.getD 0 Str.empty)) start j ∧ GL cs (((ps.take (k + 1)).tail).map tl) j x) := by
  have hget : ∀ k, k < ps.length → ∀ c ∈ tl (ps.getD k Str.empty), c < 256 := fun k hk => by
    rw [List.getD_eq_getElem?_getD, List.getElem?_eq_getElem hk]; exact hps _ (List.getElem_mem _)
  have hst : ∀ i ∈ [start], i ≤ cs.length := fun i hi => by rw [List.mem_singleton.mp hi]; exact hs
  intro k
  induction k with
  | zero =>
    intro hk x
    rw [stepsAt, stepsAt, headOf, if_neg (by decide), List.append_nil, List.nil_append, endsOf, mem_cuts h (hget 0 hk) hst]
    have e : (ps.take (0 + 1)).tail = [] := by cases ps <;> simp
    rw [e]
    constructor
    · rintro ⟨i, hi, h1⟩; rw [List.mem_singleton.mp hi] at h1; exact ⟨x, h1, rfl⟩
    · rintro ⟨j, h1, rfl⟩; exact ⟨start, .head _, h1⟩
  | succ k ih =>
    intro hk x
    have e : (ps.take (k + 1 + 1)).tail = (ps.take (k + 1)).tail ++ [ps.getD (k + 1) Str.empty] := by
      rw [List.take_add_one (i := k + 1), List.getElem?_eq_getElem hk, List.getD_eq_getElem?_getD, List.getElem?_eq_getElem hk]
      cases ps with
      | nil => simp at hk
      | cons a r => simp
    rw [stepsAt, headOf, if_pos (by omega), endsOf, List.foldl_append, List.foldl_append, List.foldl_cons, List.foldl_nil, mem_cuts h (hget _ hk) ?_, e, List.map_append]
    · constructor
      · rintro ⟨i, hi, h1⟩
        obtain ⟨hin, y, hy, hyi⟩ := mem_dots.mp hi
        obtain ⟨j, hj, hg⟩ := (ih (by omega) y).mp hy
        exact ⟨j, hj, GL_snoc.mpr ⟨y, i, hg, hyi, h1⟩⟩
      · rintro ⟨j, hj, hg⟩
        obtain ⟨y, i, hg, hyi, h1⟩ := GL_snoc.mp hg
        refine ⟨i, mem_dots.mpr ⟨?_, y, (ih (by omega) y).mpr ⟨j, hj, hg⟩, hyi⟩, h1⟩
        have := h1.1
        have := h1.2.1
        omega
    · intro i hi
      exact (mem_dots.mp hi).1
end
/-- a stretch of the text -/
theorem at_sub {cs p : List Nat} {i0 m a b : Nat} (hm : i0 + m ≤ cs.length) (hb : b ≤ m) : AtL ((cs.drop i0).take m) p a b ↔ AtL cs p (i0 + a) (i0 + b) := by
  have hl : ((cs.drop i0).take m).length = m := by rw [List.length_take, List.length_drop]; omega
  have e : ∀ n, a + n ≤ m → (((cs.drop i0).take m).drop a).take n = (cs.drop (i0 + a)).take n := by
    intro n hn
    rw [List.drop_take, List.drop_drop, List.take_take, Nat.min_eq_left (by omega)]
  constructor
  · rintro ⟨h1, _, h3⟩
    rw [e _ (by omega)] at h3
    exact ⟨by omega, by omega, h3⟩
  · rintro ⟨h1, _, h3⟩
    rw [← e _ (by omega)] at h3
    exact ⟨by omega, by omega, h3⟩
theorem gl_sub {cs : List Nat} {i0 m : Nat} (hm : i0 + m ≤ cs.length) {r : List (List Nat)} : ∀ {a x : Nat}, x ≤ m → (GL ((cs.drop i0).take m) r a x ↔ GL cs r (i0 + a) (i0 + x)) := by
  induction r with
  | nil => intro a x _; show a = x ↔ i0 + a = i0 + x; omega
  | cons p r ih =>
    intro a x hx
    constructor
    · rintro ⟨i, j, h1, h2, h3⟩
      have := GL_le h3
      exact ⟨i0 + i, i0 + j, by omega, (at_sub hm (by omega)).mp h2, (ih hx).mp h3⟩
    · rintro ⟨i, j, h1, h2, h3⟩
      have h4 := GL_le h3
      have h5 := h2.1
      obtain ⟨i', rfl⟩ : ∃ i', i = i0 + i' := ⟨i - i0, by omega⟩
      obtain ⟨j', rfl⟩ : ∃ j', j = i0 + j' := ⟨j - i0, by omega⟩
      exact ⟨i', j', by omega, (at_sub hm (by omega)).mpr h2, (ih hx).mpr h3⟩
end Mine

namespace Mine
open Builtin Builtin.Str
/-- the pieces in a row, each behind the one before, none beyond ep -/
def Chain (l : List Nat) (ep : Nat) : List (List Nat) → Nat → Prop
  | [], a => a ≤ ep
  | w :: r, a => ∃ i, a ≤ i ∧ i + w.length ≤ ep ∧ (l.drop i).take w.length = w ∧ Chain l ep r (i + w.length)
theorem Chain.mono {l : List Nat} {ep : Nat} : ∀ {r : List (List Nat)} {a a' : Nat}, a' ≤ a → Chain l ep r a → Chain l ep r a'
  | [], _, _, h, c => Nat.le_trans h c
  | _ :: _, _, _, h, ⟨i, h1, h2⟩ => ⟨i, Nat.le_trans h h1, h2⟩
theorem Chain.le {l : List Nat} {ep : Nat} : ∀ {r : List (List Nat)} {a : Nat}, Chain l ep r a → a ≤ ep
  | [], _, c => c
  | _ :: _, _, ⟨i, h1, h2, _⟩ => by omega
theorem chain_nil {l : List Nat} {ep a : Nat} {r : List (List Nat)} : Chain l ep ([] :: r) a ↔ Chain l ep r a := by
  constructor
  · rintro ⟨i, h1, h2, h3, h4⟩
    exact Chain.mono h1 h4
  · intro h
    exact ⟨a, Nat.le_refl _, h.le, by simp, h⟩
theorem chain_last {l : List Nat} {ep : Nat} : ∀ {r : List (List Nat)} {a : Nat}, Chain l ep (r ++ [[]]) a ↔ Chain l ep r a
  | [], a => chain_nil
  | w :: r, a => by
    constructor
    · rintro ⟨i, h1, h2, h3, h4⟩
      exact ⟨i, h1, h2, h3, chain_last.mp h4⟩
    · rintro ⟨i, h1, h2, h3, h4⟩
      exact ⟨i, h1, h2, h3, chain_last.mpr h4⟩
theorem chain_gl {l : List Nat} {ep : Nat} (he : ep ≤ l.length) : ∀ {r : List (List Nat)} {a : Nat}, (∃ y, GL l r a y ∧ y ≤ ep) ↔ Chain l ep r a
  | [], a => by
    constructor
    · rintro ⟨y, h, hy⟩; have : a = y := h; show a ≤ ep; omega
    · intro h; exact ⟨a, rfl, h⟩
  | w :: r, a => by
    constructor
    · rintro ⟨y, ⟨i, j, h1, h2, h3⟩, hy⟩
      have h4 := GL_le h3
      obtain ⟨e1, e2, e3⟩ := h2
      subst e1
      exact ⟨i, h1, by omega, e3, (chain_gl he).mp ⟨y, h3, hy⟩⟩
    · rintro ⟨i, h1, h2, h3, h4⟩
      obtain ⟨y, h5, h6⟩ := (chain_gl he).mpr h4
      exact ⟨y, ⟨i, i + w.length, h1, ⟨rfl, by omega, h3⟩, h5⟩, h6⟩
theorem at_iff (x y : Str) (hi i : Nat) : StrLaws.At x y hi i ↔ i + (tl y).length ≤ hi ∧ ((tl x).drop i).take (tl y).length = tl y := by
  unfold StrLaws.At
  rw [StrLaws.subAt_eq, beq_iff_eq, tl_len]
theorem fgo_chain {got : Str} {ep : Nat} : ∀ {ws : List Str} {sp : Nat}, sp ≤ ep → (fgo got ep sp ws = true ↔ Chain (tl got) ep (ws.map tl) sp)
  | [], sp, h => by
    constructor
    · intro _; exact h
    · intro _; rfl
  | w :: r, sp, h => by
    rw [List.map_cons]
    rcases occ_window got w sp ep with ⟨e, hn⟩ | ⟨i, r', e, h1, h2, hn⟩
    · rw [fgo, e]
      constructor
      · intro hh; simp at hh
      · rintro ⟨i, h1, h2, h3, _⟩
        exact absurd ((at_iff got w ep i).mpr ⟨h2, h3⟩) (hn i h1)
    · rw [fgo, e]
      obtain ⟨h3, h4⟩ := (at_iff got w ep i).mp h2
      show fgo got ep (i + w.length) r = true ↔ _
      rw [← tl_len w, fgo_chain h3]
      constructor
      · intro hc; exact ⟨i, h1, h3, h4, hc⟩
      · rintro ⟨k, k1, k2, k3, k4⟩
        refine Chain.mono ?_ k4
        rcases Nat.lt_or_ge k i with q | q
        · exact absurd ((at_iff got w ep k).mpr ⟨k2, k3⟩) (hn k k1 q)
        · omega
theorem starts_iff (x y : Str) : Txt.startswith x y = true ↔ ∃ j, AtL (tl x) (tl y) 0 j := by
  unfold Txt.startswith
  rw [Bool.and_eq_true, decide_eq_true_eq, StrLaws.subAt_eq, beq_iff_eq, ← tl_len y, ← tl_len x]
  constructor
  · rintro ⟨h1, h2⟩; exact ⟨_, rfl, h1, h2⟩
  · rintro ⟨j, rfl, h1, h2⟩; exact ⟨h1, h2⟩
theorem ends_iff (x y : Str) : Txt.endswith x y = true ↔ ∃ i, AtL (tl x) (tl y) i x.length := by
  unfold Txt.endswith
  rw [Bool.and_eq_true, decide_eq_true_eq, StrLaws.subAt_eq, beq_iff_eq, ← tl_len y, ← tl_len x]
  constructor
  · rintro ⟨h1, h2⟩; exact ⟨_, by omega, Nat.le_refl _, h2⟩
  · rintro ⟨i, h0, _, h2⟩
    refine ⟨by omega, ?_⟩
    rw [show (tl x).length - (tl y).length = i by omega]
    exact h2
/-- the last piece and the middle -/
theorem etail2_iff {got : Str} {sp : Nat} {mid : List Str} {z : Str} : etail2 got sp (mid ++ [z]) = true ↔ ∃ i, AtL (tl got) (tl z) i got.length ∧ Chain (tl got) i (mid.map tl) sp := by
  have hz : (mid ++ [z])[(mid ++ [z]).length - 1]? = some z := by simp
  have hlt := tl_len got
  by_cases h0 : z.length = 0
  · rw [etail2_empty hz h0]
    have ez : tl z = [] := List.eq_nil_of_length_eq_zero (by rw [tl_len, h0])
    rw [ez]
    by_cases hs : sp > got.length
    · rw [if_pos hs]
      constructor
      · intro h; simp at h
      · rintro ⟨i, ⟨h1, h2, _⟩, hc⟩
        have := hc.le
        omega
    · rw [if_neg hs, fgo_chain (by omega), List.map_append, List.map_cons, List.map_nil, ez, chain_last]
      constructor
      · intro hc; exact ⟨got.length, ⟨rfl, by omega, by simp⟩, hc⟩
      · rintro ⟨i, ⟨h1, h2, _⟩, hc⟩
        have : got.length = i := by simpa using h1
        rw [this]; exact hc
  · cases he : Txt.endswith got z with
    | false =>
      rw [etail2_no hz h0 he]
      constructor
      · intro h; simp at h
      · rintro ⟨i, h1, _⟩
        rw [(ends_iff got z).mpr ⟨i, h1⟩] at he
        cases he
    | true =>
      rw [etail2_end hz h0 he, List.dropLast_concat]
      obtain ⟨i, hi⟩ := (ends_iff got z).mp he
      have hi1 := hi.1
      rw [tl_len] at hi1
      have huni : ∀ k, AtL (tl got) (tl z) k got.length → k = i := fun k hk => by
        have := hk.1
        rw [tl_len] at this
        omega
      by_cases hs : sp + z.length > got.length
      · rw [if_pos hs]
        constructor
        · intro h; simp at h
        · rintro ⟨k, hk, hc⟩
          have := hc.le
          have := huni k hk
          omega
      · rw [if_neg hs, show got.length - z.length = i by omega, fgo_chain (by omega)]
        constructor
        · intro hc; exact ⟨i, hi, hc⟩
        · rintro ⟨k, hk, hc⟩
          rw [← huni k hk]; exact hc
theorem etail_iff {got y z : Str} {mid : List Str} : etail got (y :: (mid ++ [z])) = true ↔ ∃ j i, AtL (tl got) (tl y) 0 j ∧ AtL (tl got) (tl z) i got.length ∧ Chain (tl got) i (mid.map tl) j := by
  have hy : (y :: (mid ++ [z]))[0]? = some y := rfl
  by_cases h0 : y.length = 0
  · have ey : tl y = [] := List.eq_nil_of_length_eq_zero (by rw [tl_len, h0])
    rw [etail_empty hy h0, show y :: (mid ++ [z]) = (y :: mid) ++ [z] from rfl, etail2_iff, List.map_cons, ey]
    constructor
    · rintro ⟨i, h1, h2⟩; exact ⟨0, i, ⟨rfl, Nat.zero_le _, by simp⟩, h1, chain_nil.mp h2⟩
    · rintro ⟨j, i, h1, h2, h3⟩
      have : j = 0 := by simpa using h1.1
      subst this
      exact ⟨i, h2, chain_nil.mpr h3⟩
  · cases hs : Txt.startswith got y with
    | false =>
      rw [etail_no hy h0 hs]
      constructor
      · intro h; simp at h
      · rintro ⟨j, i, h1, _⟩
        rw [(starts_iff got y).mpr ⟨j, h1⟩] at hs
        cases hs
    | true =>
      rw [etail_start hy h0 hs, List.tail_cons, etail2_iff]
      obtain ⟨j, hj⟩ := (starts_iff got y).mp hs
      have hj1 := hj.1
      rw [Nat.zero_add, tl_len] at hj1
      subst hj1
      constructor
      · rintro ⟨i, h1, h2⟩; exact ⟨_, i, hj, h1, h2⟩
      · rintro ⟨k, i, h1, h2, h3⟩
        have : k = y.length := by have := h1.1; rw [Nat.zero_add, tl_len] at this; exact this
        subst this
        exact ⟨i, h2, h3⟩
theorem etail_glob {got y z : Str} {mid : List Str} : etail got (y :: (mid ++ [z])) = true ↔ ∃ j, AtL (tl got) (tl y) 0 j ∧ GL (tl got) ((mid ++ [z]).map tl) j got.length := by
  rw [etail_iff]
  constructor
  · rintro ⟨j, i, h1, h2, h3⟩
    have hi : i ≤ (tl got).length := by have := h2.1; have := tl_len got; omega
    obtain ⟨y', h4, h5⟩ := (chain_gl hi).mpr h3
    rw [List.map_append]
    exact ⟨j, h1, GL_snoc.mpr ⟨y', i, h4, h5, h2⟩⟩
  · rintro ⟨j, h1, h2⟩
    rw [List.map_append] at h2
    obtain ⟨y', i, h4, h5, h6⟩ := GL_snoc.mp h2
    have hi : i ≤ (tl got).length := by have := h6.1; have := tl_len got; omega
    exact ⟨j, i, h1, h6, (chain_gl hi).mp ⟨y', h4, h5⟩⟩

/-- the pieces, as the scan counts them off, are those of split -/
theorem at_dots (want : Str) (k : Nat) : (want.cps.toList.drop k).take 3 = [46, 46, 46] ↔ StrLaws.At want dots want.length k := by
  have ed : tl dots = [46, 46, 46] := by decide +kernel
  rw [at_iff, ed]
  show _ ↔ k + 3 ≤ want.length ∧ (List.drop k (tl want)).take 3 = [46, 46, 46]
  constructor
  · intro h
    refine ⟨?_, h⟩
    have := congrArg List.length h
    rw [List.length_take, List.length_drop, tl_len] at this
    have e3 : ([46, 46, 46] : List Nat).length = 3 := rfl
    omega
  · exact fun h => h.2
theorem sub_snoc {want : Str} {a b : Nat} (ha : a ≤ b) (hb : b < want.length) : strSub want a (b + 1) = strSub want a b ++ ⟨#[want.cps.getD b 0]⟩ := by
  have hb' : b < want.cps.toList.length := by rw [Array.length_toList]; exact hb
  have hc : want.cps.toList[b]? = some want.cps.toList[b] := List.getElem?_eq_getElem hb'
  have hcd : want.cps.getD b 0 = want.cps.toList[b] := StrLaws.getD_of_getElem? hc
  refine Str.ext' (Array.toList_inj.mp ?_)
  have e : (strSub want a b ++ ⟨#[want.cps.getD b 0]⟩).cps.toList = (strSub want a b).cps.toList ++ [want.cps.getD b 0] := Array.toList_append
  rw [e, StrLaws.strSub_toList, StrLaws.strSub_toList, show b + 1 - a = (b - a) + 1 by omega, List.take_add_one, List.getElem?_drop, show a + (b - a) = b by omega, hc, hcd]
  rfl
theorem sub_self (want : Str) (a : Nat) : strSub want a a = Str.empty := by
  refine Str.ext' (Array.toList_inj.mp ?_)
  rw [StrLaws.strSub_toList, Nat.sub_self, List.take_zero]
  rfl
theorem scan_run {want : Str} {acc : List Str} {a : Nat} (h0 : pscan want a = (acc ++ [Str.empty], 0)) : ∀ (b : Nat), a ≤ b → b ≤ want.length → (∀ k, a ≤ k → k < b → ¬ StrLaws.At want dots want.length k) → pscan want b = (acc ++ [strSub want a b], 0) := by
  intro b
  induction b with
  | zero => intro h1 _ _; have : a = 0 := by omega
            subst this; rw [h0, sub_self]
  | succ b ih =>
    intro h1 h2 h3
    by_cases hab : a = b + 1
    · rw [← hab, h0, sub_self]
    · rw [pscan_succ, ih (by omega) (by omega) (fun k k1 k2 => h3 k k1 (by omega)), pstep, if_neg (by simp), if_neg]
      · simp only [List.dropLast_concat, List.getLastD_concat]
        rw [sub_snoc (by omega) (by omega)]
      · rw [at_dots]
        exact h3 b (by omega) (by omega)
theorem scan_parts {want : Str} : ∀ (cuts : List Nat) (acc : List Str) (a f : Nat), a ≤ want.length → StrLaws.ChainG want dots want.length a cuts f → (∀ k, f ≤ k → ¬ StrLaws.At want dots want.length k) → pscan want a = (acc ++ [Str.empty], 0) →
    (pscan want want.length).1 = acc ++ StrLaws.partsFrom want 3 a cuts
  | [], acc, a, f, ha, hc, hf, h0 => by
    have e : f = a := hc
    subst e
    rw [scan_run h0 want.length ha (Nat.le_refl _) (fun k k1 _ => hf k k1)]
    rfl
  | c :: r, acc, a, f, ha, hc, hf, h0 => by
    obtain ⟨h1, h2, h3, h4⟩ := hc
    have hd : dots.length = 3 := by decide +kernel
    rw [hd] at h4
    have hc3 : c + 3 ≤ want.length := by have := h2.1; rw [hd] at this; exact this
    have e0 := scan_run h0 c h1 (by omega) h3
    have e1 : pscan want (c + 1) = (acc ++ [strSub want a c] ++ [Str.empty], 2) := by
      rw [pscan_succ, e0, pstep, if_neg (by simp), if_pos ((at_dots want c).mpr h2)]
    have e2 : pscan want (c + 2) = (acc ++ [strSub want a c] ++ [Str.empty], 1) := by
      rw [show c + 2 = (c + 1) + 1 from rfl, pscan_succ, e1, pstep, if_pos (show 0 < 2 by decide)]
      rfl
    have e3 : pscan want (c + 3) = (acc ++ [strSub want a c] ++ [Str.empty], 0) := by
      rw [show c + 3 = (c + 2) + 1 from rfl, pscan_succ, e2, pstep, if_pos (show 0 < 1 by decide)]
      rfl
    rw [scan_parts r (acc ++ [strSub want a c]) (c + 3) f hc3 h4 hf e3, StrLaws.partsFrom, List.append_assoc]
    rfl
theorem scan_zero (want : Str) : pscan want 0 = ([] ++ [Str.empty], 0) := rfl
theorem sub_whole (want : Str) : strSub want 0 want.length = want := by
  refine Str.ext' (Array.toList_inj.mp ?_)
  rw [StrLaws.strSub_toList, List.drop_zero, List.take_of_length_le]
  rw [Array.length_toList]; exact Nat.le_refl _
theorem pieces_none {want : Str} (h : (occurrences want dots 0 want.length 1).isEmpty = true) : piecesOf want = [want] := by
  have hn : ∀ i, 0 ≤ i → ¬ StrLaws.At want dots want.length i := by
    rcases occ_window want dots 0 want.length with ⟨_, hn⟩ | ⟨i, r, e, _⟩
    · exact hn
    · rw [e] at h; simp at h
  rw [piecesOf, scan_parts [] [] 0 0 (Nat.zero_le _) rfl hn (scan_zero want)]
  show [strSub want 0 want.length] = _
  rw [sub_whole]
theorem pieces_split {want : Str} (h : (occurrences want dots 0 want.length 1).isEmpty = false) : Txt.split want dots = piecesOf want := by
  obtain ⟨i, hi, hs⟩ := (StrLaws.found_iff want dots).mp (by rw [h]; rfl)
  have hd : dots.length = 3 := by decide +kernel
  obtain ⟨f, hf, hn⟩ := StrLaws.occ_tight want dots (by rw [hd]; decide)
  have hp := scan_parts _ [] 0 f (Nat.zero_le _) hf hn (scan_zero want)
  rw [piecesOf, hp, List.nil_append]
  unfold Txt.split
  have hk : Builtin.Str.strKind dots = 1 := by decide +kernel
  have hk1 : ∀ x : Str, 1 ≤ Builtin.Str.strKind x := by
    intro x
    unfold Builtin.Str.strKind
    split <;> (try split) <;> decide
  rw [if_neg (by simp only [Bool.or_eq_true, decide_eq_true_eq, not_or]; exact ⟨by omega, by have := hk1 want; omega⟩)]
  cases hc : occurrences want dots 0 want.length (want.length + 1) with
  | nil =>
    rw [hc] at hf
    cases hf
    exact absurd ⟨hi, hs⟩ (hn i (Nat.zero_le _))
  | cons a r => rw [if_neg (by simp), StrLaws.partsBetween_eq, hd]
theorem pstep_oct {want : Str} (hw : ∀ c ∈ tl want, c < 256) (st : List Str × Nat) (k : Nat) (h1 : 1 ≤ st.1.length) (h : ∀ y ∈ st.1, ∀ c ∈ tl y, c < 256) : ∀ y ∈ (pstep want st k).1, ∀ c ∈ tl y, c < 256 := by
  unfold pstep
  split
  · exact h
  · split
    · intro y hy
      rcases List.mem_append.mp hy with hy | hy
      · exact h y hy
      · rw [List.mem_singleton.mp hy]; intro c hc; exact nomatch hc
    · intro y hy
      rcases List.mem_append.mp hy with hy | hy
      · exact h y ((List.dropLast_sublist _).subset hy)
      · rw [List.mem_singleton.mp hy]
        intro c hc
        have e : tl (st.1.getLastD Str.empty ++ ⟨#[want.cps.getD k 0]⟩) = tl (st.1.getLastD Str.empty) ++ [want.cps.getD k 0] := Array.toList_append
        rw [e] at hc
        rcases List.mem_append.mp hc with hc | hc
        · exact h _ (getLastD_mem h1) c hc
        · rw [List.mem_singleton.mp hc]
          by_cases hk : k < (tl want).length
          · have e2 : want.cps.getD k 0 = (tl want)[k] := StrLaws.getD_of_getElem? (List.getElem?_eq_getElem hk)
            rw [e2]; exact hw _ (List.getElem_mem _)
          · have e2 : want.cps.getD k 0 = 0 := by
              rw [Array.getD_eq_getD_getElem?, Array.getElem?_eq_none (by rw [← Array.length_toList]; exact Nat.le_of_not_lt hk)]; rfl
            rw [e2]; decide
theorem pscan_oct {want : Str} (hw : ∀ c ∈ tl want, c < 256) (n : Nat) : ∀ y ∈ (pscan want n).1, ∀ c ∈ tl y, c < 256 := by
  induction n with
  | zero => intro y hy; rw [show (pscan want 0).1 = [Str.empty] from rfl, List.mem_singleton] at hy; rw [hy]; intro c hc; exact nomatch hc
  | succ n ih => rw [pscan_succ]; exact pstep_oct hw _ _ (pscan_pos want n) ih
theorem ends_split : ∀ {l : List Str}, 2 ≤ l.length → ∃ y mid z, l = y :: (mid ++ [z])
  | y :: a :: r, _ => by
    refine ⟨y, (a :: r).dropLast, (a :: r).getLast (by simp), ?_⟩
    rw [List.dropLast_concat_getLast]
  | [], h => by simp at h
  | [_], h => by simp at h
/-- the plain law -/
theorem plain {want got : Str} {i j : Nat} (hw : ∀ c ∈ want.cps.toList, c < 256) (hg : ∀ c ∈ got.cps.toList, c < 256) (hi : i ≤ j) (hj : j ≤ got.length) :
    ematch want (Txt.slice got (some (i : Int)) (some (j : Int))) = decide (j ∈ endsOf (msums got.cps.toList) i (stepsOf want)) := by
  have ht : tl (Txt.slice got (some (i : Int)) (some (j : Int))) = ((tl got).drop i).take (j - i) := slice_list got i j hi
  generalize Txt.slice got (some (i : Int)) (some (j : Int)) = text at ht
  have hgl := tl_len got
  have htl : text.length = j - i := by rw [← tl_len, ht, List.length_take, List.length_drop]; omega
  have hpos : 1 ≤ (piecesOf want).length := pscan_pos want want.length
  have hmem := mem_steps (cs := tl got) (piecesOf want) hg (pscan_oct hw want.length) (start := i) (by omega) ((piecesOf want).length - 1) (by omega) j
  rw [show (piecesOf want).length - 1 + 1 = (piecesOf want).length by omega, List.take_length] at hmem
  have hglob : (j ∈ endsOf (msums (tl got)) i (stepsOf want)) ↔ ∃ a, AtL (tl text) (tl ((piecesOf want).getD 0 Str.empty)) 0 a ∧ GL (tl text) ((piecesOf want).tail.map tl) a text.length := by
    rw [stepsOf, hmem, ht, htl]
    constructor
    · rintro ⟨b, h1, h2⟩
      have h3 := GL_le h2
      have h4 := h1.1
      obtain ⟨a, rfl⟩ : ∃ a, b = i + a := ⟨b - i, by omega⟩
      refine ⟨a, (at_sub (by omega) (by omega)).mpr h1, (gl_sub (by omega) (Nat.le_refl _)).mpr ?_⟩
      rw [show i + (j - i) = j by omega]
      exact h2
    · rintro ⟨a, h1, h2⟩
      have h3 := GL_le h2
      have h5 := (gl_sub (by omega) (Nat.le_refl _)).mp h2
      rw [show i + (j - i) = j by omega] at h5
      exact ⟨i + a, (at_sub (by omega) (by omega)).mp h1, h5⟩
  rw [Bool.eq_iff_iff, decide_eq_true_eq]
  refine Iff.trans ?_ hglob.symm
  unfold ematch
  cases ho : (occurrences want dots 0 want.length 1).isEmpty with
  | true =>
    rw [if_pos rfl, pieces_none ho]
    show (want == text) = true ↔ ∃ a, AtL (tl text) (tl want) 0 a ∧ a = text.length
    rw [beq_iff_eq]
    constructor
    · intro e
      rw [e]
      exact ⟨text.length, ⟨by rw [Nat.zero_add, tl_len], by rw [tl_len]; exact Nat.le_refl _, by rw [List.drop_zero, List.take_length]⟩, rfl⟩
    · rintro ⟨a, ⟨h1, h2, h3⟩, rfl⟩
      rw [Nat.zero_add] at h1
      rw [List.drop_zero, ← h1, ← tl_len, List.take_length] at h3
      exact (Str.ext' (Array.toList_inj.mp h3)).symm
  | false =>
    rw [if_neg (by simp)]
    have h2 := split_two ho
    rw [pieces_split ho] at h2 ⊢
    obtain ⟨y, mid, z, e⟩ := ends_split h2
    rw [e]
    exact etail_glob
end Mine

namespace Mine
local macro_rules | `(tactic| walk_at "m fact") => `(tactic| first | exact rfl | assumption | ((repeat (first | exact if_pos rfl | refine (if_neg (by decide)).trans ?_)); first | exact rfl | assumption))
local macro_rules | `(tactic| walk_at "eval Name") => `(tactic| (k_here; k_dflt (refine' ld ?k1 ?k2 ?_; (case k1 => k_asm); (case k2 => walk_at "m fact"); k_whole)))
local macro_rules | `(tactic| walk_at "loadName") => `(tactic| (k_here; k_dflt (refine' ldn ?k1 ?k2 ?_; (case k1 => k_asm); (case k2 => walk_at "m fact"); k_whole)))
local macro_rules | `(tactic| walk_at "halt") => `(tactic| with_reducible (first | show wpAny _ _ (newList _) _ _ _ | show wpAny _ _ (newTuple _) _ _ _ | show wpAny _ _ (pyIter _) _ _ _ | show wpAny _ _ (call (Value.type _) _) _ _ _ | show wpAny _ _ (call (Value.ref _) _) _ _ _ | show wpAny _ _ (call (Value.builtin "len") [Value.ref _]) _ _ _ | show wpAny _ _ (setItem _ _ _) _ _ _ | show wpAny _ _ (exec (Stmt.For _ _ _ _ _) _) _ _ _))
local macro_rules | `(tactic| walk_at "goN") => `(tactic| repeat' (first | (k_unfold; (try dsimp only)) | ((fail_if_success (walk_at "halt")); walk1) | (dsimp only; (fail_if_success (walk_at "halt")); walk1)))
theorem fresh_news {h₀ h h' : Heap} {L D : Addr} {m : Str → Option Value} {news : List (Addr × Obj)} {o : Obj} (F : Fr h₀ L h m) (N : News h₀ L h' news) (hD : h.get? D = none) (ho : h'.get? D = some o) : News h₀ L h' ((D, o) :: news) := fun p hp => by
  rcases List.mem_cons.mp hp with rfl | hp
  · refine ⟨ho, fun e => ?_, ?_⟩
    · have e' : D = L := e
      obtain ⟨o', _, _, ho', _⟩ := F.ns
      rw [← e', hD] at ho'
      cases ho'
    · cases hc : h₀.get? D with
      | none => rfl
      | some o' => have := F.keep _ _ hc; rw [hD] at this; cases this
  · exact N p hp
theorem fresh_all {h₀ h h' : Heap} {L b : Addr} {m : Str → Option Value} {news objs : List (Addr × Obj)} (F : Fr h₀ L h m) (N : News h₀ L h' news) (No : News h b h' objs) : News h₀ L h' (objs ++ news) := fun p hp => by
  rcases List.mem_append.mp hp with hp | hp
  · exact fresh_news F N (No p hp).2.2 (No p hp).1 _ (.head _)
  · exact N p hp
theorem StepsIn.at {h₀ h : Heap} {L : Addr} {objs news : List (Addr × Obj)} {as : List Addr} {steps : List (Nat × Nat)} (hs : StepsIn objs as steps) (N : News h₀ L h news) (hsub : ∀ p ∈ objs, p ∈ news) : StepsAt h as steps :=
  ⟨hs.1, fun j a ha => by
    obtain ⟨x, y, t, u, h1, h2⟩ := hs.2 j a ha
    exact ⟨x, y, t, u, 0, h1, (N _ (hsub _ h2)).1⟩⟩
theorem RowsIn.at {h₀ h : Heap} {L : Addr} {objs news : List (Addr × Obj)} {as : List Addr} {rows : List (List Nat)} (hs : RowsIn objs as rows) (N : News h₀ L h news) (hsub : ∀ p ∈ objs, p ∈ news) : RowsAt h as rows :=
  ⟨hs.1, fun j a ha => by
    obtain ⟨r, vs, n, h1, h2, h3⟩ := hs.2 j a ha
    exact ⟨r, vs, n, h1, (N _ (hsub _ h2)).1, h3⟩⟩
theorem msums_length (cs : List Nat) : (msums cs).length = cs.length + 1 := by simp [msums]
theorem stepOf_le (run : List Nat) (h : run.length ≤ 4) : (stepOf run).1 ≤ 4 := h
theorem cuts_le (cs : List Nat) (n : Nat) : ∀ p ∈ cutsUpTo cs n, p.1 ≤ 4 := by
  intro p hp
  obtain ⟨j, _, rfl⟩ := List.mem_map.mp hp
  exact stepOf_le _ (by rw [List.length_take]; omega)
theorem stepsAt_le (ps : List Str) : ∀ i, ∀ p ∈ stepsAt ps i, p.1 ≤ 4
  | 0, p, hp => nomatch hp
  | i + 1, p, hp => by
    rw [stepsAt] at hp
    rcases List.mem_append.mp hp with hp | hp
    · rcases List.mem_append.mp hp with hp | hp
      · exact stepsAt_le ps i p hp
      · unfold headOf at hp
        split at hp
        · rw [List.mem_singleton.mp hp]; exact Nat.zero_le _
        · exact nomatch hp
    · exact cuts_le _ _ p hp
theorem any_mem (ns : List Nat) (j : Nat) : ((ns.map Int.ofNat).any fun x => x == (j : Int)) = decide (j ∈ ns) := by
  rw [Bool.eq_iff_iff, List.any_eq_true, decide_eq_true_eq]
  constructor
  · rintro ⟨x, hx, e⟩
    obtain ⟨n, hn, rfl⟩ := List.mem_map.mp hx
    have : (n : Int) = (j : Int) := by simpa using e
    rw [← Int.ofNat.inj this]
    exact hn
  · intro hj
    exact ⟨_, List.mem_map.mpr ⟨j, hj, rfl⟩, by simp⟩
set_option maxHeartbeats 40000000 in
theorem row_holds : PySem.Challenge.rw_mr0068_01.Holds := Mine.hd (by
  w_top off
  k_go0
  (all_goals try k_fold)
  walk_at "goN"
  rename Shared => s₁
  rename Top _ _ _ _ _ _ => T
  rename Frag.In _ _ => KX
  rename Fr _ _ _ _ => F; rename News _ _ _ _ => N
  rename IntsAre _ (List.take 6 _) => hI
  have F0 := F
  refine use_back F N (law_pair (T.keeps F.keep) (KX.keeps F.keep) (News.listAt N (.head _)) hI (by rw [List.length_take]; omega)) rfl (Nat.le_of_ble_eq_true rfl) (Nat.le_of_ble_eq_true rfl) ?_
  rintro _ h tk _ F N ⟨D, want, got, t, u, k, rfl, hD, hDf, hw, hg, hwl, hgl⟩
  replace N := fresh_news F0 N hDf hD
  walk_at "goN"
  rename Fr _ _ _ _ => F; rename News _ _ _ _ => N
  replace N := cb_drop N (news := []) (by simp)
  have F0 := F
  refine use_back F N (law_sums (T.keeps F.keep) (KX.keeps F.keep) (by have e : got.cps.size = got.length := rfl
                                                                       omega)) rfl (Nat.le_of_ble_eq_true rfl) (Nat.le_of_ble_eq_true rfl) ?_
  rintro _ h tk _ F N ⟨S, vs, kS, rfl, hvs, hS, hSf⟩
  replace N := fresh_news F0 N hSf hS
  walk_at "goN"
  rename Fr _ _ _ _ => F; rename News _ _ _ _ => N
  have F0 := F
  refine use_back F N (law_steps (T.keeps F.keep) (KX.keeps F.keep) (by omega)) rfl (Nat.le_of_ble_eq_true rfl) (Nat.le_of_ble_eq_true rfl) ?_
  rintro _ h tk _ F N ⟨P, as, kP, objP, rfl, hst, hNP, hP, hPf⟩
  replace N := fresh_all F0 (fresh_news F0 N hPf hP) hNP
  walk_at "goN"
  rename Fr _ _ _ _ => F; rename News _ _ _ _ => N
  have hml : (msums got.cps.toList).length = got.length + 1 := by rw [msums_length, Array.length_toList]; rfl
  have F0 := F
  refine use_back F N (law_onward (T.keeps F.keep) (KX.keeps F.keep) (News.listAt N (List.mem_append_right _ (.tail _ (.head _)))) hvs (by omega)) rfl (Nat.le_of_ble_eq_true rfl) (Nat.le_of_ble_eq_true rfl) ?_
  rintro _ h tk _ F N ⟨O, rs, kO, objO, rfl, hrw, hNO, hO, hOf⟩
  replace N := fresh_all F0 (fresh_news F0 N hOf hO) hNO
  walk_at "goN"
  refine newTuple_N F N ?_
  intro h F N
  walk_at "goN"
  rename Fr _ _ _ _ => F; rename News _ _ _ _ => N
  replace N := cb_drop N (fun p hp => List.Mem.tail _ hp)
  have iP : ∀ p ∈ objP, p ∈ objO ++ (O, listOf (rs.map Value.ref).toArray kO) :: (objP ++ [(P, listOf (as.map Value.ref).toArray kP), (S, listOf vs.toArray kS)]) := fun p hp => by simp [hp]
  have iO : ∀ p ∈ objO, p ∈ objO ++ (O, listOf (rs.map Value.ref).toArray kO) :: (objP ++ [(P, listOf (as.map Value.ref).toArray kP), (S, listOf vs.toArray kS)]) := fun p hp => by simp [hp]
  have jP : (P, listOf (as.map Value.ref).toArray kP) ∈ objO ++ (O, listOf (rs.map Value.ref).toArray kO) :: (objP ++ [(P, listOf (as.map Value.ref).toArray kP), (S, listOf vs.toArray kS)]) := by simp
  have jS : (S, listOf vs.toArray kS) ∈ objO ++ (O, listOf (rs.map Value.ref).toArray kO) :: (objP ++ [(P, listOf (as.map Value.ref).toArray kP), (S, listOf vs.toArray kS)]) := by simp
  have jO : (O, listOf (rs.map Value.ref).toArray kO) ∈ objO ++ (O, listOf (rs.map Value.ref).toArray kO) :: (objP ++ [(P, listOf (as.map Value.ref).toArray kP), (S, listOf vs.toArray kS)]) := by simp
  generalize objO ++ (O, listOf (rs.map Value.ref).toArray kO) :: (objP ++ [(P, listOf (as.map Value.ref).toArray kP), (S, listOf vs.toArray kS)]) = led at N iP iO jP jS jO
  have hvl : vs.length = got.length + 1 := hvs.length.trans hml
  refine For_invV (h₀ := s₁.heap) rfl rfl ?_
  walk_at "goN"
  rename Fr _ _ _ _ => F; rename News _ _ _ _ => N
  refine len_here (News.listAt N jS) hvl (by omega) ?_
  intro tk tl
  walk_at "goN"
  rename Fr _ _ _ _ => F; rename News _ _ _ _ => N
  refine range1_rows F N ?_
  intro h₂ tk₂ t₁ u₁ v₁ hr F N _
  refine loop_range (n := got.length + 1) (fun i m nx => m (Str.ofString "want") = some (.str want t) ∧ m (Str.ofString "got") = some (.str got u) ∧ m (Str.ofString "sums") = some (.ref S) ∧ m (Str.ofString "steps") = some (.ref P) ∧ m (Str.ofString "onward") = some (.ref O) ∧ nx = led) rfl hr ?_ ?_ F N ⟨?_, ?_, ?_, ?_, ?_, rfl⟩ ?_ ?_
  · exact small_one (by omega) (by omega) (by omega) (by omega)
  · rw [rangeSize_nat]; omega
  · walk_at "m fact"
  · walk_at "m fact"
  · walk_at "m fact"
  · walk_at "m fact"
  · walk_at "m fact"
  · rintro i ti m₁ nx h tk own hi ⟨hm1, hm2, hm3, hm4, hm5, rfl⟩ hoff F N
    have hi0 : (0 + (i : Int) * 1) = (i : Int) := by omega
    rw [hi0] at F
    walk_at "goN"
    rename Fr _ _ _ _ => F; rename News _ _ _ _ => N
    have F0 := F
    have N0 := cb_drop N (news := nx) (fun p hp => List.mem_append_left _ hp)
    refine use_back F N (law_ends (T.keeps F.keep) (KX.keeps F.keep) (N0 _ jP).1 (hst.at N0 iP) (N0 _ jS).1 hvs (N0 _ jO).1 (hrw.at N0 iO) (by omega) (by omega) (stepsAt_le _ _)) rfl (Nat.le_of_ble_eq_true rfl) (Nat.le_of_ble_eq_true rfl) ?_
    rintro _ h tk _ F N ⟨En, ws, kE, rfl, hws, hE, hEf⟩
    replace N := fresh_news F0 N hEf hE
    walk_at "goN"
    rename Fr _ _ _ _ => F; rename News _ _ _ _ => N
    refine For_invV (h₀ := s₁.heap) rfl rfl ?_
    walk_at "goN"
    rename Fr _ _ _ _ => F; rename News _ _ _ _ => N
    refine len_here (News.listAt N (.tail _ (List.mem_append_left _ jS))) hvl (by omega) ?_
    intro tk tl
    walk_at "goN"
    rename Fr _ _ _ _ => F; rename News _ _ _ _ => N
    refine range2_rows F N ?_
    intro h₂ tk₂ t₁ u₁ v₁ hr F N _
    refine loop_range (n := got.length + 1 - i) (fun j m nx' => m (Str.ofString "want") = some (.str want t) ∧ m (Str.ofString "got") = some (.str got u) ∧ m (Str.ofString "sums") = some (.ref S) ∧ m (Str.ofString "steps") = some (.ref P) ∧ m (Str.ofString "onward") = some (.ref O) ∧ m (Str.ofString "i") = some (.int (i : Nat) ti) ∧ m (Str.ofString "ends") = some (.ref En) ∧ nx' = (En, listOf ws.toArray kE) :: (nx ++ own)) rfl hr ?_ ?_ F N ⟨?_, ?_, ?_, ?_, ?_, ?_, ?_, rfl⟩ ?_ ?_
    · exact small_one (by omega) (by omega) (by omega) (by omega)
    · rw [rangeSize_nat]; omega
    · walk_at "m fact"
    · walk_at "m fact"
    · walk_at "m fact"
    · walk_at "m fact"
    · walk_at "m fact"
    · walk_at "m fact"
    · walk_at "m fact"
    · rintro j tj m₂ nx₂ h tk own₂ hj ⟨hm1, hm2, hm3, hm4, hm5, hm6, hm7, rfl⟩ hoff₂ F N
      have hj0 : ((i : Int) + (j : Int) * 1) = ((i + j : Nat) : Int) := by omega
      rw [hj0] at F
      have key := plain (i := i) (j := i + j) hw hg (by omega) (by omega)
      walk_at "goN"
      rename Fr _ _ _ _ => F; rename News _ _ _ _ => N
      refine use_back F N (ellipsis (T.keeps F.keep) (KX.keeps F.keep) (by omega) (by omega)) rfl (Nat.le_of_ble_eq_true rfl) (Nat.le_of_ble_eq_true rfl) ?_
      rintro _ h tk _ F N rfl
      rw [key]
      walk_at "goN"
      · have hc : (decide (i + j ∈ endsOf (msums got.cps.toList) i (stepsOf want)) != (List.map Int.ofNat (endsOf (msums got.cps.toList) i (stepsOf want))).any fun x => x == ((i + j : Nat) : Int)) = true := by assumption
        rw [any_mem] at hc
        simp at hc
      · rename Fr _ _ _ _ => F; rename News _ _ _ _ => N
        refine EndG.intro (nx := (En, listOf ws.toArray kE) :: (nx ++ own)) F N ⟨?_, ?_, ?_, ?_, ?_, ?_, ?_, rfl⟩ (fun p hp => List.mem_append_left _ hp) (fun p hp => List.mem_append_right _ hp) hoff₂
        · walk_at "m fact"
        · walk_at "m fact"
        · walk_at "m fact"
        · walk_at "m fact"
        · walk_at "m fact"
        · walk_at "m fact"
        · walk_at "m fact"
    · rintro m₂ nx₂ h tk ⟨hm1, hm2, hm3, hm4, hm5, hm6, hm7, rfl⟩ F N
      dsimp only
      walk_at "goN"
      exact EndG.intro (nx := nx) F N ⟨hm1, hm2, hm3, hm4, hm5, rfl⟩ (fun p hp => .tail _ (List.mem_append_left _ hp)) (fun p hp => .tail _ (List.mem_append_right _ hp)) hoff
  · rintro m₁ nx h tk ⟨hm1, hm2, hm3, hm4, hm5, rfl⟩ F N
    dsimp only
    walk_at "goN"
    dsimp only
    wrow_close)
end Mine

theorem PySem.Challenge.cw_mr0068_01_holds : PySem.Challenge.rw_mr0068_01.Holds :=
  Mine.row_holds
