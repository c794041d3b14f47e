import PyProof.Rows.All
import Wide.All
import OpenK.AllK
import Wide.FinOn
import PySem.Challenge.RW_wr0021_01
set_option Elab.async false
set_option linter.all false
set_option compiler.extract_closed false
section
open PySem PySem.W PyProof.Rows
set_option maxRecDepth 100000
set_option maxHeartbeats 8000000
namespace Mine
noncomputable abbrev Led := List (Addr × Obj)
noncomputable def DN (news : Led) : Prop := (news.map (·.1)).Nodup
/-- what a call does: for whatever frame and base, from the ledger `news` to a value and a ledger told by `post` -/
noncomputable def Does (prog : Program) (w : World) (K : Frag) (p : Program) (f : Value) (d u : Nat) (vs : List Value) (news : Led) (post : Value → Led → Prop) : Prop :=
  ∀ (loose : List Str) (mean : ExcName → Option Value) (mg mb : Str → Option Value) (dp un : Nat) (gd : Option (List Code)) (cn : Str) (cs : Scope) (a : Addr) (ccd : Value) (cl : List (Str × Addr)) (outer : List Env) (A₀ : Around) (base h₀ : Heap) (L : Addr) (m : Str → Option Value) (s : Shared) (rest : Led) (Q E : Value → Shared → Prop),
    Below A₀ base outer h₀ → Fr h₀ L s.heap m → K.In h₀ → News h₀ L s.heap (news ++ rest) → Top p loose mean mg mb h₀ → cs.kind = .function → AllBare s.gens → DN (news ++ rest) →
      dp + d < recursionLimit → un + u < cLine → (∀ v (s' : Shared) (news' : Led), Fr h₀ L s'.heap m → News h₀ L s'.heap (news' ++ rest) → AllBare s'.gens → s'.os = s.os → DN (news' ++ rest) → post v news' → Q v s') →
      wpAny (model prog w) (ktrTop dp un gd cn cs L a ccd cl outer) (call f vs) Q E s
/-- the end of a body -/
noncomputable def BodyPost (g : Heap) (L : Addr) (os : OsState) (rest : Led) (post : Value → Led → Prop) (fl : Flow) (s' : Shared) : Prop :=
  ∃ m' news', Fr g L s'.heap m' ∧ News g L s'.heap (news' ++ rest) ∧ AllBare s'.gens ∧ s'.os = os ∧ DN (news' ++ rest) ∧ post (match fl with | .ret v => v | _ => .none) news'
theorem BodyPost.mk {g : Heap} {L : Addr} {os : OsState} {rest : Led} {post : Value → Led → Prop} {fl : Flow} {s' : Shared} {m' : Str → Option Value} (news' : Led) (F : Fr g L s'.heap m') (N : News g L s'.heap (news' ++ rest)) (G : AllBare s'.gens) (ho : s'.os = os) (D : DN (news' ++ rest))
    (h : post (match fl with | .ret v => v | _ => .none) news') : BodyPost g L os rest post fl s' := ⟨m', news', F, N, G, ho, D, h⟩
section
variable {prog : Program} {w : World} {K : Frag} {p : Program} {f : Addr} {d u : Nat} {vs : List Value} {news : Led} {post : Value → Led → Prop}
  {name qual : Str} {params : Arguments} {body : List Stmt} {scope : Scope} {dV kV doc pm cdv ct oc : Value} {an od : Option Addr} {osl : Array (Option Value)} {binds : List (Str × Value)}
theorem does_of (ho : K.lookup f = some ⟨oc, od, .func (fnOf name qual params body scope dV kV doc pm an cdv ct), osl⟩) (hcd : codeIn K cdv qual = true)
    (hbind : ∀ (s : Shared), K.In s.heap → BindsTo s (fnOf name qual params body scope dV kV doc pm an cdv ct) ⟨vs, []⟩ binds) (hloc : ∀ y ∈ binds, scope.names.lookup y.1 = some .local)
    (hd : 1 ≤ d) (_hu : 3 ≤ u)
    (h : ∀ (loose : List Str) (mean : ExcName → Option Value) (mg mb : Str → Option Value) (dp un : Nat) (gd : Option (List Code)) (outer : List Env) (A₀ : Around) (base g : Heap) (L' : Addr) (s₁ : Shared) (rest : Led),
      Below A₀ base outer g → Fr g L' s₁.heap (fun y => binds.reverse.lookup y) → K.In g → News g L' s₁.heap (news ++ rest) → Top p loose mean mg mb g → AllBare s₁.gens → DN (news ++ rest) → AllLt L' (news ++ rest) →
      dp + d < recursionLimit + 1 → un + u < cLine + 3 →
      wpAny (model prog w) (ktrTop dp un gd qual scope L' f cdv [] outer) (execs body (envX qual scope L' f cdv [])) (BodyPost g L' s₁.os rest post) (fun _ _ => False) s₁)
    (hcell : ∀ x ∈ scope.names, x.2 ≠ .cell) (hco : scope.isCoroutine = false) (hgen : scope.isGenerator = false) (hk : scope.kind = .function) : Does prog w K p (.ref f) d u vs news post := by
  intro loose mean mg mb dp un gd cn cs a ccd cl outer A₀ base h₀ L m s rest Q E B F X N T hkc G D hdp hun hret
  refine wpAny_call ?_
  refine callX_plain (cl := []) B F N T.nolimit rfl rfl hkc ((X.keeps F.keep) _ _ ho) rfl (codeRec_of (X.keeps F.keep) hcd) (show dp < _ by (first | lia | omega)) (hbind s (X.keeps F.keep)) hloc (fun g L' h₁ FG F' N' B' st l => ?_) hcell hco hgen hk
  refine wpAny_mono (h loose mean mg mb (dp + 1) (un + 3) gd _ _ base g L' _ rest B' F' (X.keeps st) N' (T.keeps st) G D (allLt_of l) (by (first | lia | omega)) (by (first | lia | omega))) (fun fl s' hb => ?_) (fun _ _ e => e.elim)
  obtain ⟨m', news', F2, N2, G2, ho2, D2, hp⟩ := hb
  exact leaveK_ F2 N2 fun F3 N3 => hret _ s' news' F3 N3 G2 ho2 D2 hp
theorem does_ofC (ho : K.lookup f = some ⟨oc, od, .func (fnOf name qual params body scope dV kV doc pm an cdv ct), osl⟩) (hcd : codeIn K cdv qual = true)
    (hbind : ∀ (s : Shared), K.In s.heap → BindsTo s (fnOf name qual params body scope dV kV doc pm an cdv ct) ⟨vs, []⟩ binds) (hkind : (binds.all fun y => scope.names.lookup y.1 == some .local || scope.names.lookup y.1 == some .cell) = true)
    (hnd : ((cellsFrom 0 scope.names []).map (·.1)).Nodup)
    (hd : 1 ≤ d) (_hu : 3 ≤ u)
    (h : ∀ (loose : List Str) (mean : ExcName → Option Value) (mg mb : Str → Option Value) (dp un : Nat) (gd : Option (List Code)) (outer : List Env) (A₀ : Around) (base g : Heap) (L' : Addr) (s₁ : Shared) (cells rest : Led),
      Below A₀ base outer g → Fr g L' s₁.heap (bindL (envOfC qual scope L' f cdv).kindOf binds fun _ => none) → K.In g → News g L' s₁.heap (cells ++ (news ++ rest)) →
      CellsAre (bindC (envOfC qual scope L' f cdv).kindOf binds fun _ => none) (cellsFrom (L' + 1) scope.names []) cells → Top p loose mean mg mb g → AllBare s₁.gens → DN (news ++ rest) → AllLt L' (news ++ rest) →
      dp + d < recursionLimit + 1 → un + u < cLine + 3 →
      wpAny (model prog w) (ktrTop dp un gd qual scope L' f cdv (cellsFrom (L' + 1) scope.names []) outer) (execs body (envOfC qual scope L' f cdv)) (BodyPost g L' s₁.os rest post) (fun _ _ => False) s₁)
    (hco : scope.isCoroutine = false) (hgen : scope.isGenerator = false) (hk : scope.kind = .function) : Does prog w K p (.ref f) d u vs news post := by
  intro loose mean mg mb dp un gd cn cs a ccd cl outer A₀ base h₀ L m s rest Q E B F X N T hkc G D hdp hun hret
  refine wpAny_call ?_
  refine callX_cells B F N T.nolimit rfl rfl hkc ((X.keeps F.keep) _ _ ho) rfl (codeRec_of (X.keeps F.keep) hcd) (show dp < _ by (first | lia | omega)) (hbind s (X.keeps F.keep)) (kindsX hkind) hnd (fun g L' h₁ tk cells FG F' N' Y B' st l => ?_) hco hgen hk
  refine wpAny_mono (h loose mean mg mb (dp + 1) (un + 3) gd _ _ base g L' _ cells rest B' F' (X.keeps st) N' Y (T.keeps st) G D (allLt_of l) (by (first | lia | omega)) (by (first | lia | omega))) (fun fl s' hb => ?_) (fun _ _ e => e.elim)
  obtain ⟨m', news', F2, N2, G2, ho2, D2, hp⟩ := hb
  exact leaveK_ F2 N2 fun F3 N3 => hret _ s' news' F3 N3 G2 ho2 D2 hp
end
section
variable {prog : Program} {w : World} {K : Frag} {p : Program} {f : Value} {d u : Nat} {vs : List Value} {news led : Led} {post : Value → Led → Prop}
theorem Does.use {loose : List Str} {mean : ExcName → Option Value} {mg mb : Str → Option Value} {dp un : Nat} {gd : Option (List Code)} {cn : Str} {cs : Scope} {a : Addr} {ccd : Value} {cl : List (Str × Addr)} {outer : List Env} {A₀ : Around} {base h₀ : Heap} {L : Addr} {m : Str → Option Value} {s : Shared} {rest : Led} {Q E : Value → Shared → Prop}
    (D : Does prog w K p f d u vs news post) (B : Below A₀ base outer h₀) (F : Fr h₀ L s.heap m) (X : K.In h₀) (N : News h₀ L s.heap (news ++ rest)) (T : Top p loose mean mg mb h₀) (hk : cs.kind = .function) (G : AllBare s.gens) (dn : DN (news ++ rest))
    (hd : dp + d < recursionLimit) (hu : un + u < cLine) (ret : ∀ v (s' : Shared) (news' : Led), Fr h₀ L s'.heap m → News h₀ L s'.heap (news' ++ rest) → AllBare s'.gens → s'.os = s.os → DN (news' ++ rest) → post v news' → Q v s') :
    wpAny (model prog w) (ktrTop dp un gd cn cs L a ccd cl outer) (call f vs) Q E s :=
  D loose mean mg mb dp un gd cn cs a ccd cl outer A₀ base h₀ L m s rest Q E B F X N T hk G dn hd hu ret
end
/-- a gate: the walk stops where a line of mine finds its gate in the context -/
structure Gate (s : String) : Prop where
noncomputable def Stop (P : Prop) : Prop := P
theorem stop_here {P : Prop} (h : Stop P) : P := h
theorem Stop.go {P : Prop} (h : P) : Stop P := h

/-! ## for loops -/
section
variable {prog : Program} {w : World}
/-- an iterator that hands on no tuple of its own -/
noncomputable def PlainIt (o : Obj) : Prop := ∃ n, o.cls = .type n ∧ (["enumerate", "zip", "dict_itemiterator", "dict_reverseitemiterator", "odict_iterator", "itertools.zip_longest", "itertools.pairwise"] : List String).contains n = false
/-- what walking over v yields at s: n items told by P; besides its own iterator it leans on the objects at kp -/
noncomputable def SrcOf (prog : Program) (w : World) (v : Value) (kp : List Addr) (n : Nat) (P : Nat → Value → Prop) (s : Shared) : Prop :=
  ∀ (A : Around) (Q E : Value → Shared → Prop), A.handled = none →
    (∀ (o : Obj) (St : Nat → Heap → Prop), o.isFreed = false → (∀ A' : Around, A'.handled = none → Walks prog w A' s.heap.objs.size (s.heap.objs.size :: kp) [s.heap.objs.size] n P St) → St 0 (s.heap.push o) → (∀ i h, St i h → ∃ o', h.get? s.heap.objs.size = some o' ∧ PlainIt o') →
      Q (.ref s.heap.objs.size) { s with heap := s.heap.push o }) → wpAny (model prog w) A (pyIter v) Q E s
theorem src_list {l : Addr} {items : Array Value} {s : Shared} (hl : s.heap.IsList l items) : SrcOf prog w (.ref l) [l] items.size (fun i v => items[i]? = some v) s := by
  intro A Q E hh hQ
  have hlt : l < s.heap.objs.size := by obtain ⟨o, ho, _⟩ := hl; exact Heap.lt_size ho
  exact wpAny_pyIter_list hl (hQ _ _ rfl (fun A' hA => Walks.list hA _ l (Nat.ne_of_lt hlt) items) ⟨⟨_, Heap.get?_push_size _ rfl, rfl, rfl⟩, hl.at fun o e => Heap.get?_push_of_some _ e⟩
    (fun i h st => by obtain ⟨⟨o, ho, hc, _⟩, _⟩ := st; exact ⟨o, ho, _, hc, by decide⟩))
theorem src_tuple {l : Addr} {items : Array Value} {s : Shared} (hl : s.heap.IsTuple l items) : SrcOf prog w (.ref l) [l] items.size (fun i v => items[i]? = some v) s := by
  intro A Q E hh hQ
  have hlt : l < s.heap.objs.size := by obtain ⟨o, ho, _⟩ := hl; exact Heap.lt_size ho
  exact wpAny_pyIter_tuple hl (hQ _ _ rfl (fun A' hA => Walks.tuple hA _ l (Nat.ne_of_lt hlt) items) ⟨⟨_, Heap.get?_push_size _ rfl, rfl, rfl⟩, hl.at fun o e => Heap.get?_push_of_some _ e⟩
    (fun i h st => by obtain ⟨⟨o, ho, hc, _⟩, _⟩ := st; exact ⟨o, ho, _, hc, by decide⟩))
theorem src_str {x : Str} {t : Tok} {s : Shared} : SrcOf prog w (.str x t) [] x.cps.size (SignAt x) s := by
  intro A Q E hh hQ
  cases ha : x.cps.all (· < 128)
  · exact wpAny_pyIter_wide ha (hQ _ _ rfl (fun A' hA => Walks.strWide hA _ x t) ⟨_, Heap.get?_push_size _ rfl, rfl, rfl⟩ (fun i h st => by obtain ⟨o, ho, hc, _⟩ := st; exact ⟨o, ho, _, hc, by decide⟩))
  · exact wpAny_pyIter_ascii ha (hQ _ _ rfl (fun A' hA => Walks.strAscii hA _ x t) ⟨_, Heap.get?_push_size _ rfl, rfl, rfl⟩ (fun i h st => by obtain ⟨o, ho, hc, _⟩ := st; exact ⟨o, ho, _, hc, by decide⟩))
theorem src_range {r : Addr} {a b c : Int} {t u v : Tok} {s : Shared} (hr : IsRange s.heap r a b c t u v) (hsmall : Builtin.Range.small a b c = true) (n : Nat) (hn : Builtin.Range.rangeSize a b c = n) :
    SrcOf prog w (.ref r) [] n (fun i v => ∃ t, v = .int (a + i * c) t) s := by
  intro A Q E hh hQ
  refine wpAny_pyIter_range hr hsmall (hQ _ _ rfl (fun A' hA => Walks.range hA _ a c n) ?_ (fun i h st => ⟨_, st, _, rfl, by decide⟩))
  show (s.heap.push _).get? _ = _
  rw [Heap.get?_push_size _ rfl, hn]
  simp [rawInt]

variable {A : Around} {E : Value → Shared → Prop} {s : Shared} {env : Env} {h₀ : Heap} {target iter : Expr} {body : List Stmt} {pos : Pos} {Q : Flow → Shared → Prop}
/-- between the turns -/
structure LoopSt (h₀ : Heap) (L : Addr) (os : OsState) (s : Shared) (m : Str → Option Value) (news : Led) : Prop where
  fr : Fr h₀ L s.heap m
  nw : News h₀ L s.heap news
  bare : AllBare s.gens
  os : s.os = os
  dn : DN news
/-- a turn's end -/
noncomputable def TurnPost (h₀ : Heap) (L : Addr) (os : OsState) (own : Led) (J : (Str → Option Value) → Led → Prop) (Q : Flow → Shared → Prop) (f : Flow) (s₃ : Shared) : Prop :=
  match f with
  | .next => ∃ m news, LoopSt h₀ L os s₃ m (own ++ news) ∧ J m news
  | .cont => ∃ m news, LoopSt h₀ L os s₃ m (own ++ news) ∧ J m news
  | .brk => Q .next s₃
  | .ret r => Q (.ret r) s₃
/-- what a for asks for, v being what it walks over -/
noncomputable def ForObl (prog : Program) (w : World) (A : Around) (h₀ : Heap) (env : Env) (target : Expr) (body : List Stmt) (Q : Flow → Shared → Prop) (v : Value) (s₁ : Shared) : Prop :=
  ∃ (kp : List Addr) (keep : Led) (n : Nat) (P : Nat → Value → Prop) (m : Str → Option Value) (news : Led) (J : Nat → (Str → Option Value) → Led → Prop) (up : Nat → Value → (Str → Option Value) → (Str → Option Value)),
    SrcOf prog w v kp n P s₁ ∧ (∀ b ∈ kp, b ∈ keep.map (·.1) ∨ h₀.get? b ≠ none) ∧ LoopSt h₀ env.locals s₁.os s₁ m (keep ++ news) ∧ J 0 m news ∧
    (∀ (I : Addr) (o : Obj) i u m' news' s₂ (Q' : Unit → Shared → Prop), P i u → i < n → J i m' news' → LoopSt h₀ env.locals s₁.os s₂ m' ((I, o) :: keep ++ news') → PlainIt o →
      (∀ s₃, LoopSt h₀ env.locals s₁.os s₃ (up i u m') ((I, o) :: keep ++ news') → Q' () s₃) → wpAny (model prog w) A (letOwnedTupleGo target (.ref I) u) (fun _ s₂' => wpAny (model prog w) A (assign target env u) Q' (fun _ _ => False) s₂') (fun _ _ => False) s₂) ∧
    (∀ (I : Addr) (o : Obj) i u m' news' s₂, P i u → i < n → J i m' news' → LoopSt h₀ env.locals s₁.os s₂ (up i u m') ((I, o) :: keep ++ news') →
      wpAny (model prog w) A (execs body env) (TurnPost h₀ env.locals s₁.os ((I, o) :: keep) (J (i + 1)) Q) (fun _ _ => False) s₂) ∧
    (∀ m' news' s₂, J n m' news' → LoopSt h₀ env.locals s₁.os s₂ m' (keep ++ news') → Q .next s₂)
theorem DN.cons_of {a : Addr} {o : Obj} {news : Led} (D : DN news) (h : ∀ q ∈ news, q.1 < a) : DN ((a, o) :: news) :=
  List.nodup_cons.mpr ⟨fun hm => by obtain ⟨q, hq, e⟩ := List.mem_map.mp hm; exact absurd (h q hq) (by rw [e]; exact Nat.lt_irrefl _), D⟩
theorem DN.ne {a : Addr} {o : Obj} {news : Led} (D : DN ((a, o) :: news)) : ∀ q ∈ news, q.1 ≠ a := fun q hq e => (List.nodup_cons.mp D).1 (List.mem_map.mpr ⟨q, hq, e⟩)
theorem DN.tail {p : Addr × Obj} {news : Led} (D : DN (p :: news)) : DN news := (List.nodup_cons.mp D).2
theorem DN.set {a : Addr} {o o' : Obj} {news : Led} (D : DN ((a, o) :: news)) : DN ((a, o') :: news) := D
theorem LoopSt.keeps {L : Addr} {os : OsState} {m : Str → Option Value} {news : Led} {h' : Heap} {tk : Nat} {s : Shared} {I : Addr} (S : LoopSt h₀ L os s m news) (hI : I ≠ L) (hI0 : h₀.get? I = none) (hIn : ∀ q ∈ news, q.1 ≠ I)
    (hk : ∀ b o, b ≠ I → s.heap.get? b = some o → h'.get? b = some o) : LoopSt h₀ L os { s with heap := h', toks := tk } m news where
  fr := ⟨S.fr.ns.at' fun o e => hk _ o (Ne.symm hI) e, fun b o e => hk b o (fun q => by rw [q, hI0] at e; cases e) (S.fr.keep b o e), S.fr.above⟩
  nw := fun q hq => ⟨hk _ _ (hIn q hq) (S.nw q hq).1, (S.nw q hq).2⟩
  bare := S.bare
  os := S.os
  dn := S.dn
theorem For_obl (hh : A.handled = none) (h : wpAny (model prog w) A (eval iter env) (fun v s₁ => ForObl prog w A h₀ env target body Q v s₁) E s)
    (hs : ∀ x, foldedSetIterable iter env x = pure x) : wpAny (model prog w) A (exec (.For target iter body [] pos) env) Q E s := by
  refine wpAny_For (wpAny_mono h (fun v s₁ ob => ?_) fun _ _ e => e) hs
  obtain ⟨kp, keep, n, P, m, news, J, up, src, hkp, S, hJ, asg, turn, done⟩ := ob
  refine src A _ _ hh fun o St hof W hst hlive => ?_
  generalize hIe : s₁.heap.objs.size = I at W hst hlive
  have hIL : I ≠ env.locals := by rw [← hIe]; exact Nat.ne_of_gt S.fr.ns.lt
  have hI0 : h₀.get? I = none := Heap.get?_none_of_le (by rw [← hIe]; exact Nat.le_trans S.fr.above (Nat.le_of_lt S.fr.ns.lt))
  have hIn : ∀ q ∈ keep ++ news, q.1 ≠ I := fun q hq => by rw [← hIe]; exact Nat.ne_of_lt (Heap.lt_size (S.nw q hq).1)
  have S0 : LoopSt h₀ env.locals s₁.os { s₁ with heap := s₁.heap.push o } m (keep ++ news) := S.keeps (tk := s₁.toks) hIL hI0 hIn fun b o' _ e => Heap.get?_push_of_some _ e
  have W' := W A hh
  refine codeAny_forLoop_any (fun k s' => ∃ i m' news', i ≤ n ∧ k = n + 1 - i ∧ St i s'.heap ∧ LoopSt h₀ env.locals s₁.os s' m' (keep ++ news') ∧ (∀ q ∈ keep ++ news', q.1 ≠ I) ∧ J i m' news') ?_ (n + 1) ⟨0, m, news, Nat.zero_le _, rfl, hst, S0, hIn, hJ⟩
  rintro k s' ⟨i, m', news', hi, rfl, hst', S', hIn', hJ'⟩
  by_cases hlt : i < n
  · refine W'.item i _ _ _ hlt hst' fun u h₁ tk₁ hP hst₁ hk₁ => ?_
    have S₁ := S'.keeps (tk := tk₁) hIL hI0 hIn' (h' := h₁) fun b o' hb e => hk₁ b o' (by simpa using hb) e
    obtain ⟨oI, hoI, hpl⟩ := hlive _ _ hst₁
    have S₂ : LoopSt h₀ env.locals s₁.os { s' with heap := h₁, toks := tk₁ } m' ((I, oI) :: keep ++ news') := ⟨S₁.fr, fun q hq => by
        rcases List.mem_cons.mp hq with rfl | hq
        · exact ⟨hoI, hIL, hI0⟩
        · exact S₁.nw q hq, S₁.bare, S₁.os, List.nodup_cons.mpr ⟨fun hm => by obtain ⟨q, hq, e⟩ := List.mem_map.mp hm; exact hIn' q hq e, S₁.dn⟩⟩
    have frame : ∀ s₃ m₃ news₃, LoopSt h₀ env.locals s₁.os s₃ m₃ ((I, oI) :: keep ++ news₃) → St (i + 1) s₃.heap := fun s₃ m₃ news₃ S₃ => by
      refine W'.frame _ _ _ hst₁ fun b hb o' e => ?_
      rcases List.mem_cons.mp hb with rfl | hb
      · have e' : h₁.get? b = some o' := e
        rw [hoI] at e'; cases e'
        exact (S₃.nw _ (List.mem_append_left _ (.head _))).1
      · rcases hkp b hb with hm | hm
        · obtain ⟨q, hq, rfl⟩ := List.mem_map.mp hm
          have e1 := (S₂.nw q (List.mem_append_left _ (.tail _ hq))).1
          have e' : h₁.get? q.1 = some o' := e
          have e1' : h₁.get? q.1 = some q.2 := e1
          rw [e1'] at e'; cases e'
          exact (S₃.nw q (List.mem_append_left _ (.tail _ hq))).1
        · cases hq : h₀.get? b with
          | none => exact absurd hq hm
          | some o₀ =>
            have e1 : h₁.get? b = some o₀ := S₂.fr.keep b o₀ hq
            have e' : h₁.get? b = some o' := e
            rw [e1] at e'; cases e'
            exact S₃.fr.keep b _ hq
    have two := asg I oI i u m' news' _ (fun _ s₃ => wpAny (model prog w) A (execs body env) (fun f s₃ => match f with
          | .next | .cont => ∃ m, m < n + 1 - i ∧ ∃ i m' news', i ≤ n ∧ m = n + 1 - i ∧ St i s₃.heap ∧ LoopSt h₀ env.locals s₁.os s₃ m' (keep ++ news') ∧ (∀ q ∈ keep ++ news', q.1 ≠ I) ∧ J i m' news'
          | .brk => Q .next s₃
          | .ret v => Q (.ret v) s₃) (notedBy (model prog w) A env fun e s' => cameBackBy (model prog w) A env E e s') s₃) hP hlt hJ' S₂ hpl fun s₃ S₃ => ?_
    · exact wpAny_mono two (fun _ _ h => wpAny_mono h (fun _ _ h => h) fun _ _ h => h.elim) fun _ _ h => h.elim
    · refine wpAny_mono (turn I oI i u m' news' s₃ hP hlt hJ' S₃) (fun f s₄ hf => ?_) fun _ _ e => e.elim
      cases f with
      | ret r => exact hf
      | brk => exact hf
      | next =>
        obtain ⟨m₄, news₄, S₄, hJ₄⟩ := hf
        refine ⟨n + 1 - (i + 1), by (first | lia | omega), i + 1, m₄, news₄, hlt, rfl, frame _ _ _ S₄, ⟨S₄.fr, fun q hq => S₄.nw q (.tail _ hq), S₄.bare, S₄.os, S₄.dn.tail⟩, S₄.dn.ne, hJ₄⟩
      | cont =>
        obtain ⟨m₄, news₄, S₄, hJ₄⟩ := hf
        refine ⟨n + 1 - (i + 1), by (first | lia | omega), i + 1, m₄, news₄, hlt, rfl, frame _ _ _ S₄, ⟨S₄.fr, fun q hq => S₄.nw q (.tail _ hq), S₄.bare, S₄.os, S₄.dn.tail⟩, S₄.dn.ne, hJ₄⟩
  · have hin : i = n := by (first | lia | omega)
    subst hin
    refine W'.done _ _ _ hst' fun h₁ tk₁ hk₁ => wpAny_execs_nil ?_
    exact done m' news' _ hJ' (S'.keeps (tk := tk₁) hIL hI0 hIn' fun b o' hb e => hk₁ b o' (by simpa using hb) e)
end
/-! ## while loops, cuts, lists of the ledger -/
section
variable {prog : Program} {w : World} {A : Around} {E : Value → Shared → Prop} {s : Shared} {env : Env} {h₀ : Heap} {test : Expr} {body : List Stmt} {pos : Pos} {Q : Flow → Shared → Prop}
theorem While_obl {L : Addr} {os : OsState} {m₀ : Str → Option Value} {news₀ : Led} (J : Nat → (Str → Option Value) → Led → Prop) (k₀ : Nat) (S : LoopSt h₀ L os s m₀ news₀) (hJ : J k₀ m₀ news₀)
    (turn : ∀ k m news s₂, J k m news → LoopSt h₀ L os s₂ m news → wpAny (model prog w) A (isTrue test env (eval test env)) (fun b s₃ => if b = true then wpAny (model prog w) A (execs body env) (TurnPost h₀ L os [] (fun m' news' => ∃ k' < k, J k' m' news') Q) (fun _ _ => False) s₃ else Q .next s₃) (fun _ _ => False) s₂) :
    wpAny (model prog w) A (exec (.While test body [] pos) env) Q E s := by
  refine wpAny_While (codeAny_whileLoop (fun k s' => ∃ m news, LoopSt h₀ L os s' m news ∧ J k m news) (fun k s' hk => ?_) k₀ ⟨m₀, news₀, S, hJ⟩)
  obtain ⟨m, news, S', hJ'⟩ := hk
  refine wpAny_mono (turn k m news s' hJ' S') (fun b s₃ hb => ?_) fun _ _ e => e.elim
  cases b with
  | false => exact wpAny_execs_nil hb
  | true =>
    refine wpAny_mono (show wpAny (model prog w) A (execs body env) (TurnPost h₀ L os [] (fun m' news' => ∃ k' < k, J k' m' news') Q) (fun _ _ => False) s₃ from hb) (fun f s₄ hf => ?_) fun _ _ e => e.elim
    cases f with
    | ret r => exact hf
    | brk => exact hf
    | next => obtain ⟨m₄, news₄, S₄, k', hk', hJ₄⟩ := hf; exact ⟨k', hk', m₄, news₄, S₄, hJ₄⟩
    | cont => obtain ⟨m₄, news₄, S₄, k', hk', hJ₄⟩ := hf; exact ⟨k', hk', m₄, news₄, S₄, hJ₄⟩
/-- a cut behind a statement: it falls through with C, or it returns with R -/
noncomputable def Cut (C : Shared → Prop) (R : Flow → Shared → Prop) (f : Flow) (s' : Shared) : Prop := match f with
  | .next => C s'
  | f => R f s'
theorem cut_at {α : Type} {M : Model} {A : Around} {t : Sem Flow} {E : Value → Shared → Prop} {s : Shared} {k : Shared → Prop} {R : Flow → Shared → Prop} (C : Shared → Prop) (h : wpAny M A t (Cut C R) E s) (hc : ∀ s', C s' → k s') (_ : α) :
    wpAny M A t (fun f s' => match f with | .next => k s' | f => R f s') E s :=
  wpAny_mono h (fun f s' hf => by cases f <;> first | exact hc _ hf | exact hf) fun _ _ e => e
theorem Cut.next {C : Shared → Prop} {R : Flow → Shared → Prop} {s' : Shared} (h : C s') : Cut C R .next s' := h
end
section
variable {prog : Program} {w : World} {A : Around} {E : Value → Shared → Prop} {s : Shared} {value slice : PySem.Expr} {l : Addr} {vs : List Value} {k : Int} {u : Tok} {v : Value} {Q : Value → Shared → Prop}
theorem item_at (hl : s.heap.IsList l vs.toArray) (h0 : 0 ≤ k) (hhi : k < 2 ^ 63) (hx : vs[k.toNat]? = some v) (h : Q v s)
    (hs : subscripted slice false (.ref l) (.int k u) = operate [.ref l, .int k u] (getItem (.ref l) (.int k u))) : wpAny (model prog w) A (subscriptTail value slice (.ref l) (.int k u)) Q E s :=
  tail_any hl.typeIs slot_list_getitem.lookup (wpAny_getItem_list hl h0 hhi (by simpa using hx) h) hs
theorem item_last {ini : List Value} (hl : s.heap.IsList l (ini ++ [v]).toArray) (h : Q v s)
    (hs : subscripted slice false (.ref l) (.int (-1) u) = operate [.ref l, .int (-1) u] (getItem (.ref l) (.int (-1) u))) : wpAny (model prog w) A (subscriptTail value slice (.ref l) (.int (-1) u)) Q E s :=
  tail_any hl.typeIs slot_list_getitem.lookup (wpAny_getItem_list_neg hl (by decide) (by simp; (first | lia | omega)) (by decide) (by simp; rw [show (-1 + ((ini.length : Int) + 1)).toNat = ini.length by (first | lia | omega)]; simp) h) hs
end
/-- like Upd, but for what the ledger's own distinctness tells -/
inductive UpdM (d : Addr) (o o' : Obj) : Led → Led → Prop
  | head {r} : UpdM d o o' ((d, o) :: r) ((d, o') :: r)
  | tail {p r r'} : UpdM d o o' r r' → UpdM d o o' (p :: r) (p :: r')
theorem UpdM.mem {d : Addr} {o o' : Obj} : ∀ {l l' : Led}, UpdM d o o' l l' → d ∈ l.map (·.1)
  | _, _, .head => .head _
  | _, _, .tail h => .tail _ h.mem
theorem upd_dn {d : Addr} {o o' : Obj} : ∀ {l l' : Led}, DN l → UpdM d o o' l l' → Upd d o o' l l'
  | _, _, D, .head => .head D.ne
  | p :: _, _, D, .tail h => .tail (fun e => (List.nodup_cons.mp D).1 (by show p.1 ∈ _; rw [e]; exact h.mem)) (upd_dn D.tail h)
theorem dn_upd {d : Addr} {o o' : Obj} : ∀ {l l' : Led}, UpdM d o o' l l' → l'.map (·.1) = l.map (·.1)
  | _, _, .head => rfl
  | _, _, .tail h => by simp [dn_upd h]
theorem DN.upd {d : Addr} {o o' : Obj} {l l' : Led} (D : DN l) (h : UpdM d o o' l l') : DN l' := by unfold DN; rw [dn_upd h]; exact D
noncomputable def AllNe (d : Addr) : Led → Prop
  | [] => True
  | p :: r => p.1 ≠ d ∧ AllNe d r
theorem allNe_of {d : Addr} {l : Led} (h : AllNe d l) : ∀ p ∈ l, p.1 ≠ d := by
  induction l with
  | nil => intro p hp; cases hp
  | cons q r ih =>
    intro p hp
    cases hp with
    | head => exact h.1
    | tail _ hp => exact ih h.2 p hp
theorem allLt_all {d : Addr} {l : Led} (h : AllLt d l) : ∀ p ∈ l, p.1 < d := by
  induction l with
  | nil => intro p hp; cases hp
  | cons q r ih =>
    intro p hp
    cases hp with
    | head => exact h.1
    | tail _ hp => exact ih h.2 p hp
theorem allNe_mk {d : Addr} : ∀ {l : Led}, (∀ p ∈ l, p.1 ≠ d) → AllNe d l
  | [], _ => trivial
  | _ :: _, h => ⟨h _ (.head _), allNe_mk fun p hp => h p (.tail _ hp)⟩
theorem AllLt.ne {d d' : Addr} {l : Led} (h : AllLt d l) (hd : d ≤ d') : AllNe d' l := allNe_mk fun p hp => Nat.ne_of_lt (Nat.lt_of_lt_of_le (allLt_all h p hp) hd)
theorem AllNe.cons {d : Addr} {p : Addr × Obj} {r : Led} (h1 : p.1 ≠ d) (h2 : AllNe d r) : AllNe d (p :: r) := ⟨h1, h2⟩
theorem dn_cons {p : Addr × Obj} {r : Led} (h : AllNe p.1 r) (D : DN r) : DN (p :: r) := List.nodup_cons.mpr ⟨fun hm => by obtain ⟨q, hq, e⟩ := List.mem_map.mp hm; exact allNe_of h q hq e, D⟩
theorem DN.allNe {p : Addr × Obj} {r : Led} (D : DN (p :: r)) : AllNe p.1 r := allNe_mk D.ne
theorem dn_nil : DN [] := List.nodup_nil
/-- names of the frame -/
theorem nm_ne {x y : Str} {a : Option Value} {m : Str → Option Value} {v : Value} (h : (y == x) = false) (hm : m y = some v) : (fun z => if z = x then a else m z) y = some v := by
  have : ¬ y = x := by simpa using h
  simp [this, hm]
theorem nm_eq {x : Str} {m : Str → Option Value} {v : Value} : (fun z => if z = x then some v else m z) x = some v := by simp
section
variable {prog : Program} {w : World} {A : Around} {E : Value → Shared → Prop} {s : Shared} {h₀ : Heap} {L D : Addr} {m : Str → Option Value} {news news' : Led} {n : Nat} {u : Tok} {v : Value} {Q : Unit → Shared → Prop}
theorem del_first {rest : List Value} (F : Fr h₀ L s.heap m) (N : News h₀ L s.heap news) (U : Upd D (listOf (v :: rest).toArray n) (listOf rest.toArray (n + 1)) news news') (hz : rest.length < sizeLine)
    (h : ∀ h', Fr h₀ L h' m → News h₀ L h' news' → Q () { s with heap := h' }) : wpAny (model prog w) A (delItem (.ref D) (.int 0 u)) Q E s :=
  ki_del (k := 0) F N rfl (PySem.StrLaws.seqIndex_nonneg (by decide) (by simp)) rfl U (by simp; (first | lia | omega)) h
theorem ki_delL_last : ∀ (ini : List Value) (v : Value), ki_delL (ini ++ [v]) ini.length = some ini
  | [], _ => rfl
  | x :: r, v => by simp only [List.cons_append, List.length_cons, ki_delL, ki_delL_last r v]
theorem del_last {ini : List Value} (F : Fr h₀ L s.heap m) (N : News h₀ L s.heap news) (U : Upd D (listOf (ini ++ [v]).toArray n) (listOf ini.toArray (n + 1)) news news') (hz : ini.length < sizeLine)
    (h : ∀ h', Fr h₀ L h' m → News h₀ L h' news' → Q () { s with heap := h' }) : wpAny (model prog w) A (delItem (.ref D) (.int (-1) u)) Q E s :=
  ki_del (k := ini.length) F N rfl (by rw [PySem.seqIndex_neg (by decide) (by simp; (first | lia | omega))]; simp; (first | lia | omega)) (by simp [ki_delL_last]) U (by simp; (first | lia | omega)) h
end
section
variable {prog : Program} {w : World} {A : Around} {E : Value → Shared → Prop} {s : Shared} {l : Addr} {vs : List Value} {Q : Value → Shared → Prop}
theorem len_led {k : Nat} (hl : s.heap.IsList l vs.toArray) (e : vs.length = k) (hk : k < 2 ^ 62) (h : ∀ t u, Q (.int (k : Int) t) { s with toks := u }) : wpAny (model prog w) A (call (.builtin "len") [.ref l]) Q E s := by
  subst e
  refine Calls.call_len_list hl (by simp; (first | lia | omega)) ?_
  simpa using h _ _
end
section
open Builtin Builtin.Str
theorem gives_find4 (x y : Str) (lo hi : Nat) (t u v v' : Tok) (hh : hi ≤ x.length) : Gives («str.find» ⟨[.str x t, .str y u, .int (lo : Int) v, .int (hi : Int) v'], []⟩) (.int (match occurrences x y lo hi 1 with | k :: _ => (k : Int) | [] => -1)) := by
  have e1 : fromIndex x.length (lo : Int) = lo := by unfold fromIndex; rw [if_neg (by (first | lia | omega))]; (first | lia | omega)
  have e2 : fromIndex x.length (hi : Int) = hi := by unfold fromIndex; rw [if_neg (by (first | lia | omega))]; (first | lia | omega)
  show Gives (match occurrences x y (fromIndex x.length (lo : Int)) (min (fromIndex x.length (hi : Int)) x.length) 1 with | k :: _ => retInt k | [] => (do rule "str.find.not-found"; retInt (-1))) _
  rw [e1, e2, Nat.min_eq_left hh]
  cases occurrences x y lo hi 1 with
  | nil => exact .rule (.of_eq rfl)
  | cons k _ => exact .of_eq rfl
theorem args_find4 (a b c d : Value) : argsOk "str.find" ⟨[a, b, c, d], []⟩ := by unfold argsOk; kernel_rfl
variable {prog : Program} {w : World} {A : Around} {E : Value → Shared → Prop} {s : Shared} {x y : Str} {t u v v' : Tok} {lo hi : Nat} {Q : Value → Shared → Prop}
theorem find4 (hh : hi ≤ x.length) (hq : ∀ t' k, Q (.int (match occurrences x y lo hi 1 with | k :: _ => (k : Int) | [] => -1) t') { s with toks := k }) :
    wpAny (model prog w) A (call (.builtin "str.find") [.str x t, .str y u, .int (lo : Int) v, .int (hi : Int) v']) Q E s :=
  call_gives F.slot_str_find (typeIs_str _ _ _) F.entry_str_find (args_find4 _ _ _ _) (gives_find4 x y lo hi t u v v' hh) (hq _ _)
theorem find4_none (hh : hi ≤ x.length) (ho : occurrences x y lo hi 1 = []) (hq : ∀ t' k, Q (.int (-1) t') { s with toks := k }) :
    wpAny (model prog w) A (call (.builtin "str.find") [.str x t, .str y u, .int (lo : Int) v, .int (hi : Int) v']) Q E s := find4 hh (by rw [ho]; exact hq)
theorem find4_some {k : Nat} {r : List Nat} (hh : hi ≤ x.length) (ho : occurrences x y lo hi 1 = k :: r) (hq : ∀ t' u', Q (.int (k : Int) t') { s with toks := u' }) :
    wpAny (model prog w) A (call (.builtin "str.find") [.str x t, .str y u, .int (lo : Int) v, .int (hi : Int) v']) Q E s := find4 hh (by rw [ho]; exact hq)
end
section
variable {prog : Program} {w : World} {A : Around} {env : Env} {h₀ : Heap}
theorem asg_name {x : Str} {px : Pos} {os : OsState} {s₂ : Shared} {m : Str → Option Value} {led : Led} {I : Addr} {u : Value} {Q' : Unit → Shared → Prop} (hx : env.kindOf x = some .local) (hk : env.scope.kind = .function) (S : LoopSt h₀ env.locals os s₂ m led)
    (h : ∀ s₃, LoopSt h₀ env.locals os s₃ (fun y => if y = x then some u else m y) led → Q' () s₃) :
    wpAny (model prog w) A (letOwnedTupleGo (.Name x px) (.ref I) u) (fun _ s₂' => wpAny (model prog w) A (assign (.Name x px) env u) Q' (fun _ _ => False) s₂') (fun _ _ => False) s₂ := by
  refine wpAny_of_eq (show letOwnedTupleGo (.Name x px) (.ref I) u = pure () from rfl) ?_
  refine wpAny_assign_Name (wpAny_storeName_local hx S.fr.ns (fun h' hn hs => ?_) (by rw [hk]; rfl))
  exact h _ ⟨S.fr.set hn hs, S.nw.set hs, S.bare, S.os, S.dn⟩
end
section
variable {prog : Program} {w : World} {A : Around} {env : Env} {h₀ : Heap}
theorem letGo_plain {elts : List Expr} {k : Nat} {pos : Pos} {I T : Addr} {o : Obj} {s : Shared} {Q : Unit → Shared → Prop} {E : Value → Shared → Prop} (hg : s.heap.get? I = some o) (hp : PlainIt o) (h : Q () s) :
    wpAny (model prog w) A (letOwnedTupleGo (.Tuple elts k pos) (.ref I) (.ref T)) Q E s := by
  obtain ⟨n, hc, hn⟩ := hp
  unfold letOwnedTupleGo
  refine wpAny_bind (wpAny_load hg ?_)
  rw [hc]
  cases o.data with
  | fields vs =>
    show wpAny _ A (if ((["enumerate", "zip", "dict_itemiterator", "dict_reverseitemiterator", "odict_iterator", "itertools.zip_longest", "itertools.pairwise"] : List String).contains n && vs[0]? == some (rawInt T)) = true then _ else _) Q E s
    rw [if_neg (by rw [hn, Bool.false_and]; decide)]
    exact wpAny_pure h
  | _ => exact wpAny_pure h
theorem LoopSt.grow {L : Addr} {os : OsState} {s : Shared} {m : Str → Option Value} {led : Led} {h' : Heap} (S : LoopSt h₀ L os s m led) (hk : Heap.ExtBut s.heap.objs.size s.heap h') : LoopSt h₀ L os { s with heap := h' } m led :=
  ⟨S.fr.keeps fun b o e => hk b o (Nat.ne_of_lt (Heap.lt_size e)) e, fun q hq => ⟨hk _ _ (Nat.ne_of_lt (Heap.lt_size (S.nw q hq).1)) (S.nw q hq).1, (S.nw q hq).2⟩, S.bare, S.os, S.dn⟩
theorem asg_pair {x y : Str} {px py pos : Pos} {k : Nat} {os : OsState} {s₂ : Shared} {m : Str → Option Value} {led : Led} {I T : Addr} {o oT : Obj} {a b : Value} {Q' : Unit → Shared → Prop} (hh : A.handled = none) (hx : env.kindOf x = some .local) (hy : env.kindOf y = some .local) (hk : env.scope.kind = .function) (S : LoopSt h₀ env.locals os s₂ m ((I, o) :: led)) (hp : PlainIt o)
    (hT : (T, oT) ∈ led) (hc : oT.cls = .type "tuple") (hd : ∃ n, oT.data = .seq #[a, b] n)
    (h : ∀ s₃, LoopSt h₀ env.locals os s₃ (fun z => if z = y then some b else if z = x then some a else m z) ((I, o) :: led) → Q' () s₃) :
    wpAny (model prog w) A (letOwnedTupleGo (.Tuple [.Name x px, .Name y py] k pos) (.ref I) (.ref T)) (fun _ s₂' => wpAny (model prog w) A (assign (.Tuple [.Name x px, .Name y py] k pos) env (.ref T)) Q' (fun _ _ => False) s₂') (fun _ _ => False) s₂ := by
  refine letGo_plain (S.nw _ (.head _)).1 hp ?_
  refine wpAny_assign_Tuple hh ⟨oT, (S.nw _ (.tail _ hT)).1, hc, hd⟩ rfl rfl fun h' he => ?_
  have S₁ := S.grow he
  show wpAny _ A (assignInOrder [assign (.Name x px) env, assign (.Name y py) env] [a, b]) Q' _ _
  refine wpAny_assignInOrder_more (wpAny_assign_Name (wpAny_storeName_local hx S₁.fr.ns (fun h₂ hn hs => ?_) (by rw [hk]; rfl)))
  have S₂ : LoopSt h₀ env.locals os { s₂ with heap := h₂, toks := s₂.toks } (fun z => if z = x then some a else m z) ((I, o) :: led) := ⟨S₁.fr.set hn hs, S₁.nw.set hs, S₁.bare, S₁.os, S₁.dn⟩
  refine wpAny_assignInOrder_more (wpAny_assign_Name (wpAny_storeName_local hy hn (fun h₃ hn' hs' => wpAny_assignInOrder_none ?_) (by rw [hk]; rfl)))
  exact h _ ⟨S₂.fr.set hn' hs', S₂.nw.set hs', S₂.bare, S₂.os, S₂.dn⟩
end
theorem open_Q {α : Type} {M : Model} {A : Around} {t : Sem α} {Q₀ : α → Shared → Prop} {E : Value → Shared → Prop} {s : Shared} (h : ∀ Q : α → Shared → Prop, Q₀ = Q → wpAny M A t Q E s) : wpAny M A t Q₀ E s := h _ rfl
/-- where the walk stands, as a letter -/
theorem letA {α : Type} {M : Model} {A : Around} {t : Sem α} {Q : α → Shared → Prop} {E : Value → Shared → Prop} {s : Shared} (h : let B := A; wpAny M B t Q E s) : wpAny M A t Q E s := h
theorem room1 {a b c R : Nat} (h : a + b < R) (k : c ≤ b) : a + c < R := by (first | lia | omega)
theorem room2 {a b c R : Nat} (h : a + b < R + 1) (k : c + 1 ≤ b) : a + c < R := by (first | lia | omega)
theorem room3 {a b c R : Nat} (h : a + b < R + 3) (k : c + 3 ≤ b) : a + c < R := by (first | lia | omega)
end Mine
end
section
open PySem PySem.W PySem.Calls PyProof.Rows
set_option maxRecDepth 100000
set_option maxHeartbeats 8000000
namespace Mine
/-! ## list comprehensions with calls in their tests, one clause or two -/
noncomputable def compTests (ifs : List Expr) (env : Env) : Sem Bool := forIn ifs true fun c r => if r = true then do let ok ← isTrue c env (eval c env); pure (ForInStep.yield ok) else pure (ForInStep.yield r)
/-- what a turn does -/
noncomputable def turnIs (elt : Expr) (gens : List Comprehension) (scope : Scope) (pos p : Pos) (depth : Nat) (it acc : Value) (env : Env) (target : Expr) (ifs : List Expr) (body : Sem Unit) : Prop :=
  compTurn (.ListComp elt gens scope pos) depth it acc env = (do
      standAt p
      match ← pyNext it with
      | none => pure (.done .next)
      | some v =>
        letOwnedTupleGo target it v
        assign target env v
        let ok ← compTests ifs env
        if ok = true then do
          body
          again (.compLoop (.ListComp elt gens scope pos) depth it acc env)
        else again (.compLoop (.ListComp elt gens scope pos) depth it acc env))
noncomputable def emitOf (elt : Expr) (env : Env) (acc : Value) : Sem Unit := do
  let x ← eval elt env
  let _ ← call (.builtin "list.append") [acc, x]
  pure ()
theorem turn_one (elt target iter : Expr) (ifs : List Expr) (scope : Scope) (pos : Pos) (it acc : Value) (env : Env) :
    turnIs elt [⟨target, iter, ifs, 0⟩] scope pos iter.pos 0 it acc env target ifs (emitOf elt env acc) := by
  unfold turnIs compTurn compTests emitOf
  simp
  rfl
theorem turn_last2 (elt t0 i0 target iter : Expr) (ifs0 ifs : List Expr) (scope : Scope) (pos : Pos) (it acc : Value) (env : Env) :
    turnIs elt [⟨t0, i0, ifs0, 0⟩, ⟨target, iter, ifs, 0⟩] scope pos iter.pos 1 it acc env target ifs (emitOf elt env acc) := by
  unfold turnIs compTurn compTests emitOf
  simp
  rfl
noncomputable def innerOf (e : Expr) (iter : Expr) (env : Env) (acc : Value) : Sem Unit := do
  let x ← eval iter env
  standAt iter.pos
  let x ← foldedSetIterable iter env x
  let it ← holding [x] (pyIter x)
  let _ ← runOwn (.compStart e 1 it acc env) env
  pure ()
theorem turn_first2 (elt t0 i0 target iter : Expr) (ifs0 ifs : List Expr) (scope : Scope) (pos : Pos) (it acc : Value) (env : Env) :
    turnIs elt [⟨t0, i0, ifs0, 0⟩, ⟨target, iter, ifs, 0⟩] scope pos i0.pos 0 it acc env t0 ifs0 (innerOf (.ListComp elt [⟨t0, i0, ifs0, 0⟩, ⟨target, iter, ifs, 0⟩] scope pos) iter env acc) := by
  unfold turnIs compTurn compTests innerOf
  simp
  rfl
/-- a turn's end in a block -/
noncomputable def TurnEnd (h₀ : Heap) (L : Addr) (os : OsState) (m : Str → Option Value) (I : Addr) (o : Obj) (keep : Led) (J : Led → Prop) (s : Shared) : Prop := ∃ news, LoopSt h₀ L os s m ((I, o) :: keep ++ news) ∧ J news
section
variable {prog : Program} {w : World} {A : Around} {s : Shared} {h₀ : Heap}
theorem compLoop_obl {elt : Expr} {gens : List Comprehension} {scope : Scope} {pos p : Pos} {depth : Nat} {I : Addr} {acc : Value} {env : Env} {target : Expr} {ifs : List Expr} {body : Sem Unit} {R : Result → Shared → Prop}
    {L : Addr} {os : OsState} {m : Str → Option Value} {kp : List Addr} {keep : Led} {n : Nat} {P : Nat → Value → Prop} {St : Nat → Heap → Prop} {news : Led} (J : Nat → Led → Prop)
    (hturn : turnIs elt gens scope pos p depth (.ref I) acc env target ifs body)
    (W : Walks prog w A I (I :: kp) [I] n P St) (hst : St 0 s.heap) (hlive : ∀ i h, St i h → ∃ o, h.get? I = some o ∧ PlainIt o) (hkp : ∀ b ∈ kp, b ∈ keep.map (·.1) ∨ h₀.get? b ≠ none)
    (hIL : I ≠ L) (hI0 : h₀.get? I = none) (hIn : ∀ q ∈ keep ++ news, q.1 ≠ I)
    (S : LoopSt h₀ L os s m (keep ++ news)) (hJ : J 0 news)
    (turn : ∀ o i u news' s₂, P i u → i < n → J i news' → LoopSt h₀ L os s₂ m ((I, o) :: keep ++ news') → PlainIt o →
      wpAny (model prog w) A (letOwnedTupleGo target (.ref I) u) (fun _ s₂' => wpAny (model prog w) A (assign target env u) (fun _ s₃ => wpAny (model prog w) A (compTests ifs env) (fun ok s₄ =>
        if ok = true then wpAny (model prog w) A body (fun _ s₅ => TurnEnd h₀ L os m I o keep (J (i + 1)) s₅) (fun _ _ => False) s₄
        else TurnEnd h₀ L os m I o keep (J (i + 1)) s₄) (fun _ _ => False) s₃) (fun _ _ => False) s₂') (fun _ _ => False) s₂)
    (done : ∀ news' s₂, J n news' → LoopSt h₀ L os s₂ m (keep ++ news') → R (.ok .next) s₂) :
    codeAny (model prog w) A (.compLoop (.ListComp elt gens scope pos) depth (.ref I) acc env) R s := by
  refine codeAny_loop rfl (fun k s' => ∃ i news', i ≤ n ∧ k = n + 1 - i ∧ St i s'.heap ∧ LoopSt h₀ L os s' m (keep ++ news') ∧ (∀ q ∈ keep ++ news', q.1 ≠ I) ∧ J i news') ?_ (n + 1) ⟨0, news, Nat.zero_le _, rfl, hst, S, hIn, hJ⟩
  rintro k s' ⟨i, news', hi, rfl, hst', S', hIn', hJ'⟩
  show wpAny _ A ((compTurn (.ListComp elt gens scope pos) depth (.ref I) acc env).onRaise (fun x => do noteFrame x env; theTreesLotGoes x)) _ _ s'
  refine wpAny_noted ?_
  rw [hturn]
  refine wpAny_bind (wpAny_standAt (wpAny_bind ?_))
  by_cases hlt : i < n
  · refine W.item i _ _ _ hlt hst' fun u h₁ tk₁ hP hst₁ hk₁ => ?_
    have S₁ := S'.keeps (tk := tk₁) hIL hI0 hIn' (h' := h₁) fun b o' hb e => hk₁ b o' (by simpa using hb) e
    obtain ⟨oI, hoI, hpl⟩ := hlive _ _ hst₁
    have S₂ : LoopSt h₀ L os { s' with heap := h₁, toks := tk₁ } m ((I, oI) :: keep ++ news') := ⟨S₁.fr, fun q hq => by
        rcases List.mem_cons.mp hq with rfl | hq
        · exact ⟨hoI, hIL, hI0⟩
        · exact S₁.nw q hq, S₁.bare, S₁.os, List.nodup_cons.mpr ⟨fun hm => by obtain ⟨q, hq, e⟩ := List.mem_map.mp hm; exact hIn' q hq e, S₁.dn⟩⟩
    have frame : ∀ s₃ news₃, LoopSt h₀ L os s₃ m ((I, oI) :: keep ++ news₃) → St (i + 1) s₃.heap := fun s₃ news₃ S₃ => by
      refine W.frame _ _ _ hst₁ fun b hb o' e => ?_
      rcases List.mem_cons.mp hb with rfl | hb
      · have e' : h₁.get? b = some o' := e
        rw [hoI] at e'; cases e'
        exact (S₃.nw _ (List.mem_append_left _ (.head _))).1
      · rcases hkp b hb with hm | hm
        · obtain ⟨q, hq, rfl⟩ := List.mem_map.mp hm
          have e1 := (S₂.nw q (List.mem_append_left _ (.tail _ hq))).1
          have e' : h₁.get? q.1 = some o' := e
          have e1' : h₁.get? q.1 = some q.2 := e1
          rw [e1'] at e'; cases e'
          exact (S₃.nw q (List.mem_append_left _ (.tail _ hq))).1
        · cases hq : h₀.get? b with
          | none => exact absurd hq hm
          | some o₀ =>
            have e1 : h₁.get? b = some o₀ := S₂.fr.keep b o₀ hq
            have e' : h₁.get? b = some o' := e
            rw [e1] at e'; cases e'
            exact S₃.fr.keep b _ hq
    have fin : ∀ s₅, (∃ news₃, LoopSt h₀ L os s₅ m ((I, oI) :: keep ++ news₃) ∧ J (i + 1) news₃) → ∃ m', m' < n + 1 - i ∧ ∃ j news', j ≤ n ∧ m' = n + 1 - j ∧ St j s₅.heap ∧ LoopSt h₀ L os s₅ m (keep ++ news') ∧ (∀ q ∈ keep ++ news', q.1 ≠ I) ∧ J j news' := fun s₅ h => by
      obtain ⟨news₄, S₄, hJ₄⟩ := h
      exact ⟨n + 1 - (i + 1), by (first | lia | omega), i + 1, news₄, hlt, rfl, frame _ _ S₄, ⟨S₄.fr, fun q hq => S₄.nw q (.tail _ hq), S₄.bare, S₄.os, S₄.dn.tail⟩, S₄.dn.ne, hJ₄⟩
    refine wpAny_bind (wpAny_mono (turn oI i u news' _ hP hlt hJ' S₂ hpl) (fun _ s₂' h2 => ?_) fun _ _ e => e.elim)
    refine wpAny_bind (wpAny_mono h2 (fun _ s₃ h3 => ?_) fun _ _ e => e.elim)
    refine wpAny_bind (wpAny_mono h3 (fun ok s₄ h4 => ?_) fun _ _ e => e.elim)
    cases ok with
    | false => exact wpAny_pure ⟨rfl, fin _ h4⟩
    | true => exact wpAny_bind (wpAny_mono h4 (fun _ s₅ h5 => wpAny_pure ⟨rfl, fin _ h5⟩) fun _ _ e => e.elim)
  · have hin : i = n := by (first | lia | omega)
    subst hin
    refine W.done _ _ _ hst' fun h₁ tk₁ hk₁ => wpAny_pure ?_
    exact done news' _ hJ' (S'.keeps (tk := tk₁) hIL hI0 hIn' fun b o' hb e => hk₁ b o' (by simpa using hb) e)
theorem LoopSt.put {L D : Addr} {os : OsState} {s : Shared} {m : Str → Option Value} {o o' : Obj} {h' : Heap} : ∀ {pre post : Led}, LoopSt h₀ L os s m (pre ++ (D, o) :: post) → Heap.SameBut D s.heap h' → h'.get? D = some o' → ∀ tk, LoopSt h₀ L os { s with heap := h', toks := tk } m (pre ++ (D, o') :: post) := by
  intro pre post S hs hg tk
  have hD := S.nw (D, o) (List.mem_append_right _ (.head _))
  have hn : ∀ q ∈ pre ++ post, q.1 ≠ D := by
    intro q hq e
    have d := S.dn
    unfold DN at d
    rw [List.map_append, List.map_cons, List.nodup_append] at d
    rcases List.mem_append.mp hq with h | h
    · exact d.2.2 q.1 (List.mem_map.mpr ⟨q, h, rfl⟩) D (.head _) e
    · exact (List.nodup_cons.mp d.2.1).1 (List.mem_map.mpr ⟨q, h, e⟩)
  refine ⟨S.fr.change hs hD.2.1 hD.2.2, fun q hq => ?_, S.bare, S.os, ?_⟩
  · rcases List.mem_append.mp hq with h | h
    · have z := S.nw q (List.mem_append_left _ h)
      exact ⟨hs.extBut _ _ (hn q (List.mem_append_left _ h)) z.1, z.2⟩
    · rcases List.mem_cons.mp h with rfl | h
      · exact ⟨hg, hD.2⟩
      · have z := S.nw q (List.mem_append_right _ (.tail _ h))
        exact ⟨hs.extBut _ _ (hn q (List.mem_append_right _ h)) z.1, z.2⟩
  · have d := S.dn
    unfold DN at d ⊢
    simpa using d
/-- the end of an element -/
noncomputable def EltEnd (h₀ : Heap) (L : Addr) (os : OsState) (m : Str → Option Value) (I : Addr) (o : Obj) (keep : Led) (C D : Addr) (ys : List Value) (Z : (Str → Option Value) → Prop) (J : List Value → Led → Prop) (y : Value) (s : Shared) : Prop :=
  ∃ oC m₃ news, LCg.NsObj oC m₃ ∧ Z m₃ ∧ LoopSt h₀ L os s m ((I, o) :: keep ++ (C, oC) :: (D, LCg.lst ys) :: news) ∧ ys.length ≤ sizeLine ∧ J (ys ++ [y]) news
/-- the end of a turn without an element -/
noncomputable def SkipEnd (h₀ : Heap) (L : Addr) (os : OsState) (m : Str → Option Value) (I : Addr) (o : Obj) (keep : Led) (C D : Addr) (ys : List Value) (Z : (Str → Option Value) → Prop) (J : List Value → Led → Prop) (s : Shared) : Prop :=
  ∃ oC m₃ news, LCg.NsObj oC m₃ ∧ Z m₃ ∧ LoopSt h₀ L os s m ((I, o) :: keep ++ (C, oC) :: (D, LCg.lst ys) :: news) ∧ J ys news
/-- between the turns of a block: its names' object and its list head the ledger -/
noncomputable def BlockJ (C D : Addr) (Z : (Str → Option Value) → Prop) (J : List Value → Led → Prop) (news : Led) : Prop := ∃ oC m₃ ys n', news = (C, oC) :: (D, LCg.lst ys) :: n' ∧ LCg.NsObj oC m₃ ∧ Z m₃ ∧ J ys n'
theorem emit_obl {L : Addr} {os : OsState} {m : Str → Option Value} {I C D : Addr} {o : Obj} {keep : Led} {ys : List Value} {Z : (Str → Option Value) → Prop} {J : List Value → Led → Prop} {elt : Expr} {env : Env}
    (h : wpAny (model prog w) A (eval elt env) (EltEnd h₀ L os m I o keep C D ys Z J) (fun _ _ => False) s) :
    wpAny (model prog w) A (emitOf elt env (.ref D)) (fun _ s₅ => TurnEnd h₀ L os m I o keep (BlockJ C D Z J) s₅) (fun _ _ => False) s := by
  unfold emitOf
  refine wpAny_bind (wpAny_mono h (fun y s₁ h₁ => ?_) fun _ _ e => e)
  obtain ⟨oC, m₃, news, hC, hZ, S, hl, hJ⟩ := h₁
  have hD := S.nw (D, LCg.lst ys) (List.mem_append_right _ (.tail _ (.head _)))
  refine wpAny_bind (append_at (hsz := by show ys.toArray.size ≤ sizeLine; rw [List.size_toArray]; exact hl) hD.1 fun h₅ hs₅ hD₅ => wpAny_pure ?_)
  have S' : LoopSt h₀ L os s₁ m (((I, o) :: keep ++ [(C, oC)]) ++ (D, LCg.lst ys) :: news) := by simpa using S
  have S₂ := S'.put hs₅ (hD₅.trans (congrArg some (LCg.lst_snoc ys y))) s₁.toks
  exact ⟨(C, oC) :: (D, LCg.lst (ys ++ [y])) :: news, by simpa using S₂, oC, m₃, _, _, rfl, hC, hZ, hJ⟩
theorem emit_turn {L : Addr} {os : OsState} {m : Str → Option Value} {I C D : Addr} {o : Obj} {keep : Led} {ys : List Value} {Z : (Str → Option Value) → Prop} {J : List Value → Led → Prop} {J' : Led → Prop} {elt : Expr} {env : Env} (_F : Fr h₀ L s.heap m)
    (conv : ∀ news, BlockJ C D Z J news → J' (keep ++ news)) (h : wpAny (model prog w) A (eval elt env) (EltEnd h₀ L os m I o keep C D ys Z J) (fun _ _ => False) s) :
    wpAny (model prog w) A (emitOf elt env (.ref D)) (fun _ s₅ => TurnEnd h₀ L os m I o [] J' s₅) (fun _ _ => False) s :=
  wpAny_mono (emit_obl h) (fun _ _ h => by obtain ⟨news, S, hB⟩ := h; exact ⟨keep ++ news, by simpa using S, conv _ hB⟩) fun _ _ e => e
/-- what a block's clause asks for -/
noncomputable def ClauseObl (prog : Program) (w : World) (A : Around) (h₀ : Heap) (L : Addr) (os : OsState) (m : Str → Option Value) (target : Expr) (ifs : List Expr) (body : Sem Unit) (cenv : Env) (Q : Shared → Prop) (v : Value) (s₁ : Shared) : Prop :=
  ∃ (kp : List Addr) (keep : Led) (n : Nat) (P : Nat → Value → Prop) (news : Led) (J : Nat → Led → Prop),
    SrcOf prog w v kp n P s₁ ∧ (∀ b ∈ kp, b ∈ keep.map (·.1) ∨ h₀.get? b ≠ none) ∧ LoopSt h₀ L os s₁ m (keep ++ news) ∧ J 0 news ∧
    (∀ I o i u news' s₂, P i u → i < n → J i news' → LoopSt h₀ L os s₂ m ((I, o) :: keep ++ news') → PlainIt o →
      wpAny (model prog w) A (letOwnedTupleGo target (.ref I) u) (fun _ s₂' => wpAny (model prog w) A (assign target cenv u) (fun _ s₃ => wpAny (model prog w) A (compTests ifs cenv) (fun ok s₄ =>
        if ok = true then wpAny (model prog w) A body (fun _ s₅ => TurnEnd h₀ L os m I o keep (J (i + 1)) s₅) (fun _ _ => False) s₄
        else TurnEnd h₀ L os m I o keep (J (i + 1)) s₄) (fun _ _ => False) s₃) (fun _ _ => False) s₂') (fun _ _ => False) s₂) ∧
    (∀ news' s₂, J n news' → LoopSt h₀ L os s₂ m (keep ++ news') → Q s₂)
theorem codeAny_compStart_list1 {elt t0 i0 target iter ifs0 ifs rest scope pos it acc env} {R : Result → Shared → Prop}
    (h0 : codeAny (model prog w) A (.compLoop (.ListComp elt (⟨t0, i0, ifs0, 0⟩ :: ⟨target, iter, ifs, 0⟩ :: rest) scope pos) 1 it acc env) R s)
    (h : wpAny (model prog w) A (pyIter it) (fun it' s' => codeAny (model prog w) A (.compLoop (.ListComp elt (⟨t0, i0, ifs0, 0⟩ :: ⟨target, iter, ifs, 0⟩ :: rest) scope pos) 1 it' acc env) R s')
      (notedBy (model prog w) A env fun x s' => R (.error x) s') s) :
    codeAny (model prog w) A (.compStart (.ListComp elt (⟨t0, i0, ifs0, 0⟩ :: ⟨target, iter, ifs, 0⟩ :: rest) scope pos) 1 it acc env) R s := by
  refine codeAny_of_tree ?_
  show wpAny _ _ ((compStart (.ListComp elt (⟨t0, i0, ifs0, 0⟩ :: ⟨target, iter, ifs, 0⟩ :: rest) scope pos) 1 it acc env).onRaise (fun x => do noteFrame x env; standAt theWindowsPlace)) _ _ s
  refine wpAny_notedAt ?_
  unfold compStart
  show wpAny _ _ (ask >>= _) _ _ s
  refine wpAny_bind (wpAny_askSetting (wpAny_ite ?_))
  split
  · first
      | exact wpAny_bind (wpAny_pure (wpAny_pure (And.intro rfl h0)))
      | exact wpAny_pure (And.intro rfl h0)
  · first
      | exact wpAny_bind (wpAny_rule (wpAny_bind (wpAny_standAt (wpAny_bind (wpAny_mono h (fun it' s' h' => wpAny_pure (And.intro rfl h')) fun _ _ x => x)))))
      | (refine wpAny_bind (wpAny_rule ?_); show wpAny _ _ (standAt iter.pos >>= _) _ _ s; exact wpAny_bind (wpAny_standAt (wpAny_bind (wpAny_mono h (fun it' s' h' => wpAny_pure (And.intro rfl h')) fun _ _ x => x))))
theorem inner_obl {elt t0 i0 target iter : Expr} {ifs0 ifs : List Expr} {scope : Scope} {pos : Pos} {acc : Value} {cenv : Env} {L : Addr} {os : OsState} {m : Str → Option Value} {Q : Shared → Prop} {led : Led} (_S : LoopSt h₀ L os s m led) (hh : A.handled = none)
    (h : wpAny (model prog w) A (eval iter cenv) (ClauseObl prog w A h₀ L os m target ifs (emitOf elt cenv acc) cenv Q) (fun _ _ => False) s)
    (hs : ∀ x, foldedSetIterable iter cenv x = pure x) :
    wpAny (model prog w) A (innerOf (.ListComp elt [⟨t0, i0, ifs0, 0⟩, ⟨target, iter, ifs, 0⟩] scope pos) iter cenv acc) (fun _ s' => Q s') (fun _ _ => False) s := by
  unfold innerOf
  refine wpAny_bind (wpAny_mono h (fun v s₁ ob => ?_) fun _ _ e => e)
  obtain ⟨kp, keep, n, P, news, J, src, hkp, S, hJ, turn, done⟩ := ob
  refine wpAny_bind (wpAny_standAt (wpAny_bind (wpAny_of_eq (hs v) (wpAny_bind (wpAny_holding (src A _ _ hh fun o St hof W hst hlive => ?_))))))
  generalize hIe : s₁.heap.objs.size = I at W hst hlive
  have hIL : I ≠ L := by rw [← hIe]; exact Nat.ne_of_gt S.fr.ns.lt
  have hI0 : h₀.get? I = none := Heap.get?_none_of_le (by rw [← hIe]; exact Nat.le_trans S.fr.above (Nat.le_of_lt S.fr.ns.lt))
  have hIn : ∀ q ∈ keep ++ news, q.1 ≠ I := fun q hq => by rw [← hIe]; exact Nat.ne_of_lt (Heap.lt_size (S.nw q hq).1)
  have S0 : LoopSt h₀ L os { s₁ with heap := s₁.heap.push o } m (keep ++ news) := S.keeps (tk := s₁.toks) hIL hI0 hIn fun b o' _ e => Heap.get?_push_of_some _ e
  have W' := W A hh
  have loop : codeAny (model prog w) A (.compLoop (.ListComp elt [⟨t0, i0, ifs0, 0⟩, ⟨target, iter, ifs, 0⟩] scope pos) 1 (.ref I) acc cenv) (fun r s' => match r with | .ok f => wpAny (model prog w) A (pure ()) (fun _ s' => Q s') (fun _ _ => False) s' | .error e => cameBackBy (model prog w) A cenv (fun _ _ => False) e s') { s₁ with heap := s₁.heap.push o } :=
    compLoop_obl J (turn_last2 elt t0 i0 target iter ifs0 ifs scope pos (.ref I) acc cenv) W' hst hlive hkp hIL hI0 hIn S0 hJ (turn I) fun news' s₂ hJ' S' => wpAny_pure (done news' s₂ hJ' S')
  refine wpAny_bind (wpAny_runOwn ?_)
  exact codeAny_compStart_list1 loop (W'.self 0 _ _ _ hst loop)
/-- what a block asks for -/
noncomputable def BlockObl (prog : Program) (w : World) (A : Around) (h₀ : Heap) (L : Addr) (m : Str → Option Value) (env : Env) (scope : Scope) (cl : List (Str × Addr)) (target : Expr) (ifs : List Expr) (body : Env → Value → Sem Unit) (Fin : OsState → Addr → List Value → Led → Shared → Prop) (v : Value) (s₁ : Shared) : Prop :=
  ∃ (kp : List Addr) (keep : Led) (n : Nat) (P : Nat → Value → Prop) (news : Led) (J : Nat → List Value → Led → Prop),
    SrcOf prog w v kp n P s₁ ∧ (∀ b ∈ kp, b ∈ keep.map (·.1) ∨ h₀.get? b ≠ none) ∧ LoopSt h₀ L s₁.os s₁ m (keep ++ news) ∧ J 0 [] news ∧
    (∀ I o C D oC m₂ i u ys news' s₂, P i u → i < n → J i ys news' → LCg.NsObj oC m₂ → LoopSt h₀ L s₁.os s₂ m ((I, o) :: keep ++ (C, oC) :: (D, LCg.lst ys) :: news') → PlainIt o →
      wpAny (model prog w) A (letOwnedTupleGo target (.ref I) u) (fun _ s₂' => wpAny (model prog w) A (assign target (compEnvC scope cl C env) u) (fun _ s₃ => wpAny (model prog w) A (compTests ifs (compEnvC scope cl C env)) (fun ok s₄ =>
        if ok = true then wpAny (model prog w) A (body (compEnvC scope cl C env) (.ref D)) (fun _ s₅ => TurnEnd h₀ L s₁.os m I o keep (BlockJ C D (fun _ => True) (J (i + 1))) s₅) (fun _ _ => False) s₄
        else TurnEnd h₀ L s₁.os m I o keep (BlockJ C D (fun _ => True) (J (i + 1))) s₄) (fun _ _ => False) s₃) (fun _ _ => False) s₂') (fun _ _ => False) s₂) ∧
    (∀ D ys news' s₂, J n ys news' → LoopSt h₀ L s₁.os s₂ m (keep ++ (D, LCg.lst ys) :: news') → Fin s₁.os D ys (keep ++ (D, LCg.lst ys) :: news') s₂)
theorem block_obl {elt : Expr} {gens : List Comprehension} {scope : Scope} {cl : List (Str × Addr)} {pos p : Pos} {env : Env} {target : Expr} {ifs : List Expr} {body : Env → Value → Sem Unit} {L : Addr} {m : Str → Option Value} {Fin : OsState → Addr → List Value → Led → Shared → Prop}
    {v : Value} {E : Value → Shared → Prop} {RR : Value → Addr → Result → Shared → Prop} (hh : A.handled = none)
    (hgens : ∃ target iter ifs rest, gens = ⟨target, iter, ifs, 0⟩ :: rest)
    (hturn : ∀ I C D, turnIs elt gens scope pos p 0 (.ref I) (.ref D) (compEnvC scope cl C env) target ifs (body (compEnvC scope cl C env) (.ref D)))
    (hcell : ∀ y ∈ scope.names, y.2 ≠ .cell) (hkind : scope.kind = .function)
    (ob : BlockObl prog w A h₀ L m env scope cl target ifs body Fin v s)
    (hRR : ∀ D C ys led s' m', Fin s.os D ys led s' → s'.heap.Ns C m' → h₀.get? C = none → C ≠ L → (∀ q ∈ led, q.1 ≠ C) → LoopSt h₀ L s.os s' m led → (∀ s'', LoopSt h₀ L s.os s'' m led → Fin s.os D ys led s'') → RR (.ref D) C (.ok .next) s') :
    wpAny (model prog w) A (pyIter v) (fun it s₂ => wpAny (model prog w) A (newList []) (fun acc s₃ => wpAny (model prog w) A (newFunctionEnv scope env.globals cl [] env.qual none .none (some env)) (fun cenv s₄ =>
      codeAny (model prog w) A (.compStart (.ListComp elt gens scope pos) 0 it acc { cenv with scope := relabel scope env }) (RR acc cenv.locals) s₄) E s₃) E s₂) E s := by
  obtain ⟨kp, keep, n, P, news, J, src, hkp, S, hJ, turn, done⟩ := ob
  refine src A _ _ hh fun o St hof W hst hlive => ?_
  refine wpAny_newObj_type (wpAny_newFunctionEnv hcell (by intro y hy; simp at hy) (fun h₁ hns₁ hsb₁ => ?_) hkind)
  dsimp only at hns₁ hsb₁ ⊢
  have hIL : s.heap.objs.size ≠ L := Nat.ne_of_gt S.fr.ns.lt
  have hI0 : h₀.get? s.heap.objs.size = none := Heap.get?_none_of_le (Nat.le_trans S.fr.above (Nat.le_of_lt S.fr.ns.lt))
  have hIn : ∀ q ∈ keep ++ news, q.1 ≠ s.heap.objs.size := fun q hq => Nat.ne_of_lt (Heap.lt_size (S.nw q hq).1)
  generalize hH1 : s.heap.push o = H1 at hst hns₁ hsb₁ ⊢
  have hD : H1.objs.size = s.heap.objs.size + 1 := by rw [← hH1, Heap.size_push]
  generalize hH2 : H1.push { cls := .type "list", dict := none, data := .seq ([] : List Value).toArray } = H2 at hns₁ hsb₁ ⊢
  have hC : H2.objs.size = s.heap.objs.size + 2 := by rw [← hH2, Heap.size_push, hD]
  have hDC : H1.objs.size ≠ H2.objs.size := by rw [hD, hC]; exact Nat.ne_of_lt (Nat.lt_succ_self _)
  have below1 : ∀ b, b < H1.objs.size → b ≠ H2.objs.size := fun b hb => by rw [hC]; rw [hD] at hb; exact Nat.ne_of_lt (Nat.lt_succ_of_lt hb)
  have old1 : ∀ b o, H1.get? b = some o → h₁.get? b = some o := fun b o e => hsb₁.extBut b o (below1 b (Heap.lt_size e)) (Heap.get?_push_of_some _ (hH2 ▸ Heap.get?_push_of_some _ e))
  have old : ∀ b o, s.heap.get? b = some o → h₁.get? b = some o := fun b o e => old1 b o (hH1 ▸ Heap.get?_push_of_some _ e)
  have hgD : h₁.get? H1.objs.size = some (LCg.lst []) := hsb₁.extBut _ _ hDC (Heap.get?_push_of_some _ (hH2 ▸ Heap.get?_push_size _ rfl))
  have hst₁ : St 0 h₁ := (W A hh).frame _ _ _ hst fun b _ o e => old1 b o e
  have fresh : ∀ a, s.heap.objs.size ≤ a → h₀.get? a = none := fun a ha => Heap.get?_none_of_le (Nat.le_trans S.fr.above (Nat.le_trans (Nat.le_of_lt S.fr.ns.lt) ha))
  have hD0 := fresh H1.objs.size (by rw [hD]; exact Nat.le_succ _)
  have hC0 := fresh H2.objs.size (by rw [hC]; exact Nat.le_add_right _ _)
  have hLlt : L < s.heap.objs.size := S.fr.ns.lt
  have hDL : H1.objs.size ≠ L := by rw [hD]; exact Nat.ne_of_gt (Nat.lt_succ_of_lt hLlt)
  have hCL : H2.objs.size ≠ L := by rw [hC]; exact Nat.ne_of_gt (Nat.lt_succ_of_lt (Nat.lt_succ_of_lt hLlt))
  have hCI : H2.objs.size ≠ s.heap.objs.size := by rw [hC]; exact Nat.ne_of_gt (Nat.lt_succ_of_lt (Nat.lt_succ_self _))
  have hDI : H1.objs.size ≠ s.heap.objs.size := by rw [hD]; exact Nat.ne_of_gt (Nat.lt_succ_self _)
  obtain ⟨oC, hgC, hoC⟩ := LCg.ns_obj hns₁
  have hlt : ∀ q ∈ keep ++ news, q.1 < s.heap.objs.size := fun q hq => Heap.lt_size (S.nw q hq).1
  have led₁ : ∀ q ∈ keep ++ (H2.objs.size, oC) :: (H1.objs.size, LCg.lst []) :: news, q = (H2.objs.size, oC) ∨ q = (H1.objs.size, LCg.lst []) ∨ q ∈ keep ++ news := fun q hq => by
    rcases List.mem_append.mp hq with h | h
    · exact .inr (.inr (List.mem_append_left _ h))
    · rcases List.mem_cons.mp h with rfl | h
      · exact .inl rfl
      · rcases List.mem_cons.mp h with rfl | h
        · exact .inr (.inl rfl)
        · exact .inr (.inr (List.mem_append_right _ h))
  have S₁ : LoopSt h₀ L s.os { s with heap := h₁, toks := s.toks + ([] : List (Str × Value)).length } m (keep ++ (H2.objs.size, oC) :: (H1.objs.size, LCg.lst []) :: news) := by
    refine ⟨S.fr.keeps old, fun q hq => ?_, S.bare, S.os, ?_⟩
    · rcases led₁ q hq with rfl | rfl | h
      · exact ⟨hgC, hCL, hC0⟩
      · exact ⟨hgD, hDL, hD0⟩
      · exact ⟨old _ _ (S.nw q h).1, (S.nw q h).2⟩
    · have d : DN ((H2.objs.size, oC) :: (H1.objs.size, LCg.lst []) :: (keep ++ news)) := DN.cons_of (DN.cons_of S.dn fun q hq => by rw [hD]; exact Nat.lt_succ_of_lt (hlt q hq)) fun q hq => by
        rcases List.mem_cons.mp hq with rfl | hq
        · rw [hC, hD]; exact Nat.lt_succ_self _
        · rw [hC]; exact Nat.lt_succ_of_lt (Nat.lt_succ_of_lt (hlt q hq))
      unfold DN at d ⊢
      have pm : ((H2.objs.size, oC) :: (H1.objs.size, LCg.lst []) :: (keep ++ news)).Perm (keep ++ (H2.objs.size, oC) :: (H1.objs.size, LCg.lst []) :: news) := by simpa using (List.perm_append_comm (l₁ := [(H2.objs.size, oC), (H1.objs.size, LCg.lst [])]) (l₂ := keep)).append_right news
      exact (pm.map (·.1)).nodup_iff.mp d
  have hIn₁ : ∀ q ∈ keep ++ (H2.objs.size, oC) :: (H1.objs.size, LCg.lst []) :: news, q.1 ≠ s.heap.objs.size := fun q hq => by
    rcases led₁ q hq with rfl | rfl | h
    · exact hCI
    · exact hDI
    · exact hIn q h
  obtain ⟨tg, it0, if0, rst, rfl⟩ := hgens
  have loop : ∀ s₂ : Shared, s₂ = { s with heap := h₁, toks := s.toks + ([] : List (Str × Value)).length } →
      codeAny (model prog w) A (.compLoop (.ListComp elt (⟨tg, it0, if0, 0⟩ :: rst) scope pos) 0 (.ref s.heap.objs.size) (.ref H1.objs.size) (compEnvC scope cl H2.objs.size env)) (RR (.ref H1.objs.size) H2.objs.size) s₂ := by
    rintro s₂ rfl
    refine compLoop_obl (fun i led => BlockJ H2.objs.size H1.objs.size (fun _ => True) (J i) led) (hturn _ _ _) (W A hh) hst₁ hlive hkp hIL hI0 hIn₁ S₁ ⟨oC, _, [], news, rfl, hoC, trivial, hJ⟩ ?_ ?_
    · rintro o' i u news' s₂ hP hi ⟨oC', m₃, ys, n', rfl, hC', _, hJ'⟩ S' hpl
      exact turn _ o' _ _ oC' m₃ i u ys n' s₂ hP hi hJ' hC' S' hpl
    · rintro news' s₂ ⟨oC', m₃, ys, n', rfl, hC', _, hJ'⟩ S'
      have hCm := S'.nw (H2.objs.size, oC') (List.mem_append_right _ (.head _))
      have dn' := S'.dn
      have hnC : ∀ q ∈ keep ++ (H1.objs.size, LCg.lst ys) :: n', q.1 ≠ H2.objs.size := fun q hq e => by
        unfold DN at dn'
        rw [List.map_append, List.map_cons, List.nodup_append] at dn'
        rcases List.mem_append.mp hq with h | h
        · exact dn'.2.2 q.1 (List.mem_map.mpr ⟨q, h, rfl⟩) _ (.head _) e
        · exact (List.nodup_cons.mp dn'.2.1).1 (List.mem_map.mpr ⟨q, h, e⟩)
      have S₃ : ∀ s₃, LoopSt h₀ L s.os s₃ m (keep ++ (H2.objs.size, oC') :: (H1.objs.size, LCg.lst ys) :: n') → LoopSt h₀ L s.os s₃ m (keep ++ (H1.objs.size, LCg.lst ys) :: n') := fun s₃ T => ⟨T.fr, fun q hq => T.nw q (by
          rcases List.mem_append.mp hq with h | h
          · exact List.mem_append_left _ h
          · exact List.mem_append_right _ (.tail _ h)), T.bare, T.os, by
          have d := T.dn
          unfold DN at d ⊢
          rw [List.map_append, List.map_cons] at d
          rw [List.map_append]
          exact d.sublist (List.Sublist.append_left (List.sublist_cons_self _ _) _)⟩
      exact hRR _ _ ys _ s₂ _ (done _ ys n' s₂ hJ' (S₃ _ S')) (hC'.ns hCm.1) hCm.2.2 hCm.2.1 hnC (S₃ _ S') fun s'' h'' => done _ ys n' s'' hJ' h''
  exact codeAny_compStart_list (loop _ rfl) ((W A hh).self 0 _ _ _ hst₁ (loop _ rfl))
/-- a block as a value: Q of its list, whatever the heap is that keeps the ledger -/
theorem Comp_obl {elt : Expr} {target iter : Expr} {ifs : List Expr} {rest : List Comprehension} {scope : Scope} {cl : List (Str × Addr)} {pos p : Pos} {env : Env} {body : Env → Value → Sem Unit} {L : Addr} {m : Str → Option Value} {Q : Value → Shared → Prop} (_F : Fr h₀ L s.heap m) (hh : A.handled = none)
    (hclos : closureFor scope env = pure cl)
    (hturn : ∀ I C D, turnIs elt (⟨target, iter, ifs, 0⟩ :: rest) scope pos p 0 (.ref I) (.ref D) (compEnvC scope cl C env) target ifs (body (compEnvC scope cl C env) (.ref D)))
    (h : wpAny (model prog w) A (eval iter env) (fun v s₁ => BlockObl prog w A h₀ L m env scope cl target ifs body (fun os D _ led _ => ∀ s'', LoopSt h₀ L os s'' m led → Q (.ref D) s'') v s₁) E s)
    (hcell : ∀ y ∈ scope.names, y.2 ≠ .cell) (hkind : scope.kind = .function) (hnames : ∀ y ∈ scope.names, y.2 = .local → scope.names.lookup y.1 = some .local)
    (hs : ∀ x, foldedSetIterable iter env x = pure x) :
    wpAny (model prog w) A (eval (.ListComp elt (⟨target, iter, ifs, 0⟩ :: rest) scope pos) env) Q E s := by
  rw [eval_ListComp]
  refine wpAny_comprehension_free (use := none) rfl hs hclos hkind hnames (wpAny_mono h (fun v s₁ ob => ?_) fun _ _ e => e)
  refine block_obl hh ⟨_, _, _, _, rfl⟩ hturn hcell hkind ob fun D C ys led s' m' hf hn hC0 hCL hnC S _ => ?_
  exact ⟨m', hn, fun h' hs' => hf _ ⟨S.fr.change hs' hCL hC0, fun q hq => ⟨hs'.extBut _ _ (hnC q hq) (S.nw q hq).1, (S.nw q hq).2⟩, S.bare, S.os, S.dn⟩⟩
/-- a block that is stored into a name -/
theorem CompAssign_obl {elt : Expr} {target iter : Expr} {ifs : List Expr} {rest : List Comprehension} {scope : Scope} {cl : List (Str × Addr)} {pos p py spos : Pos} {y : Str} {env : Env} {body : Env → Value → Sem Unit} {m : Str → Option Value} {Q : Flow → Shared → Prop} (_F : Fr h₀ env.locals s.heap m) (hh : A.handled = none)
    (hsw : swapsWith (.ListComp elt (⟨target, iter, ifs, 0⟩ :: rest) scope pos) (some (.Name y py)) spos.line env = pure true)
    (hclos : closureFor scope env = pure cl)
    (hturn : ∀ I C D, turnIs elt (⟨target, iter, ifs, 0⟩ :: rest) scope pos p 0 (.ref I) (.ref D) (compEnvC scope cl C env) target ifs (body (compEnvC scope cl C env) (.ref D)))
    (h : wpAny (model prog w) A (eval iter env) (fun v s₁ => BlockObl prog w A h₀ env.locals m env scope cl target ifs body (fun os D _ led _ => ∀ s'', LoopSt h₀ env.locals os s'' (fun z => if z = y then some (.ref D) else m z) led → Q .next s'') v s₁) E s)
    (hy : env.kindOf y = some .local) (hp : (env.scope.kind == .class || (env.scope.kind == .module && env.locals != env.globals)) = false)
    (hcell : ∀ y ∈ scope.names, y.2 ≠ .cell) (hkind : scope.kind = .function) (hnames : ∀ y ∈ scope.names, y.2 = .local → scope.names.lookup y.1 = some .local)
    (hs : ∀ x, foldedSetIterable iter env x = pure x) :
    wpAny (model prog w) A (exec (.Assign [.Name y py] (.ListComp elt (⟨target, iter, ifs, 0⟩ :: rest) scope pos) spos) env) Q E s := by
  rw [exec_Assign_Name_used _ _ _ _ hsw]
  refine wpAny_bind (wpAny_standAt (wpAny_bind ?_))
  show wpAny _ A (do let _ ← comprehension (.ListComp elt (⟨target, iter, ifs, 0⟩ :: rest) scope pos) scope env _ (newList []) false (eval iter env) (some (assign (.Name y py) env))) _ _ s
  refine wpAny_bind (wpAny_mono (wpAny_comprehension_free (use := some (assign (.Name y py) env)) (Q := fun _ s' => Q .next s') rfl hs hclos hkind hnames
    (wpAny_mono h (fun v s₁ ob => ?_) fun _ _ e => e)) (fun _ s' hq => wpAny_pure (wpAny_pure hq)) fun _ _ e => e)
  refine block_obl hh ⟨_, _, _, _, rfl⟩ hturn hcell hkind ob fun D C ys led s' m' hf hn hC0 hCL hnC S _ => ?_
  show wpAny _ A (assign (.Name y py) env (.ref D)) _ _ _
  refine wpAny_assign_Name (wpAny_storeName_local hy S.fr.ns (fun h₂ hn₂ hs₂ => ?_) hp)
  have hL₀ : h₀.get? env.locals = none := Heap.get?_none_of_le S.fr.above
  have F₂ : Fr h₀ env.locals h₂ (fun z => if z = y then some (.ref D) else m z) := ⟨hn₂, fun b o e => hs₂.extBut b o (fun q => by rw [q, hL₀] at e; cases e) (S.fr.keep b o e), S.fr.above⟩
  refine ⟨m', hn.sameBut hs₂ hCL, fun h'' hs'' => hf _ ⟨F₂.change hs'' hCL hC0, fun q hq => ⟨hs''.extBut _ _ (hnC q hq) (hs₂.extBut _ _ (S.nw q hq).2.1 (S.nw q hq).1), (S.nw q hq).2⟩, S.bare, S.os, S.dn⟩⟩
/-- a target that is a name -/
theorem blk_name {x : Str} {px : Pos} {scope : Scope} {cl : List (Str × Addr)} {C I : Addr} {o : Obj} {env : Env} {u it : Value} {L : Addr} {os : OsState} {m m₂ : Str → Option Value} {keep tl : Led} {oC : Obj} {Q' : Unit → Shared → Prop} {E' : Value → Shared → Prop}
    (hx : scope.names.lookup x = some .local) (hk : scope.kind = .function) (hC : LCg.NsObj oC m₂) (S : LoopSt h₀ L os s m ((I, o) :: keep ++ (C, oC) :: tl))
    (h : ∀ oC' s₃, LCg.NsObj oC' (fun y => if y = x then some u else m₂ y) → LoopSt h₀ L os s₃ m ((I, o) :: keep ++ (C, oC') :: tl) → Q' () s₃) :
    wpAny (model prog w) A (letOwnedTupleGo (.Name x px) it u) (fun _ s₂' => wpAny (model prog w) A (assign (.Name x px) (compEnvC scope cl C env) u) Q' (fun _ _ => False) s₂') E' s := by
  refine wpAny_of_eq (show letOwnedTupleGo (.Name x px) it u = pure () from rfl) ?_
  have hCm := S.nw (C, oC) (List.mem_append_right _ (.head _))
  refine wpAny_assign_Name (wpAny_storeName_local (lookup_relabel_local hx) (hC.ns hCm.1) (fun h₃ hn₃ hs₃ => ?_) (by simp [compEnvC, relabel, hk]))
  obtain ⟨oC', hg, hC'⟩ := LCg.ns_obj hn₃
  exact h oC' _ hC' (S.put hs₃ hg _)
/-- a target that is a pair of names -/
theorem blk_pair {x y : Str} {px py pos : Pos} {k : Nat} {scope : Scope} {cl : List (Str × Addr)} {C I T : Addr} {o oT : Obj} {env : Env} {a b : Value} {L : Addr} {os : OsState} {m m₂ : Str → Option Value} {keep tl : Led} {oC : Obj} {Q' : Unit → Shared → Prop} (hh : A.handled = none)
    (hx : scope.names.lookup x = some .local) (hy : scope.names.lookup y = some .local) (hk : scope.kind = .function) (hC : LCg.NsObj oC m₂) (S : LoopSt h₀ L os s m ((I, o) :: keep ++ (C, oC) :: tl)) (hp : PlainIt o)
    (hT : (T, oT) ∈ keep ++ tl) (hc : oT.cls = .type "tuple") (hd : ∃ n, oT.data = .seq #[a, b] n)
    (h : ∀ oC' s₃, LCg.NsObj oC' (fun z => if z = y then some b else if z = x then some a else m₂ z) → LoopSt h₀ L os s₃ m ((I, o) :: keep ++ (C, oC') :: tl) → Q' () s₃) :
    wpAny (model prog w) A (letOwnedTupleGo (.Tuple [.Name x px, .Name y py] k pos) (.ref I) (.ref T)) (fun _ s₂' => wpAny (model prog w) A (assign (.Tuple [.Name x px, .Name y py] k pos) (compEnvC scope cl C env) (.ref T)) Q' (fun _ _ => False) s₂') (fun _ _ => False) s := by
  refine letGo_plain (S.nw _ (.head _)).1 hp ?_
  have hT' : (T, oT) ∈ (I, o) :: keep ++ (C, oC) :: tl := by
    rcases List.mem_append.mp hT with h | h
    · exact List.mem_append_left _ (.tail _ h)
    · exact List.mem_append_right _ (.tail _ h)
  refine wpAny_assign_Tuple hh ⟨oT, (S.nw _ hT').1, hc, hd⟩ rfl rfl fun h' he => ?_
  have S₁ := S.grow he
  have hCm := S₁.nw (C, oC) (List.mem_append_right _ (.head _))
  show wpAny _ A (assignInOrder [assign (.Name x px) (compEnvC scope cl C env), assign (.Name y py) (compEnvC scope cl C env)] [a, b]) Q' _ _
  refine wpAny_assignInOrder_more (wpAny_assign_Name (wpAny_storeName_local (lookup_relabel_local hx) (hC.ns hCm.1) (fun h₃ hn₃ hs₃ => ?_) (by simp [compEnvC, relabel, hk])))
  obtain ⟨oC', hg, hC'⟩ := LCg.ns_obj hn₃
  have S₂ := S₁.put hs₃ hg s.toks
  refine wpAny_assignInOrder_more (wpAny_assign_Name (wpAny_storeName_local (lookup_relabel_local hy) (hC'.ns hg) (fun h₄ hn₄ hs₄ => wpAny_assignInOrder_none ?_) (by simp [compEnvC, relabel, hk])))
  obtain ⟨oC2, hg2, hC2⟩ := LCg.ns_obj hn₄
  exact h oC2 _ hC2 (S₂.put hs₄ hg2 _)
theorem tests_none {env : Env} {Q : Bool → Shared → Prop} {E' : Value → Shared → Prop} (h : Q true s) : wpAny (model prog w) A (compTests [] env) Q E' s := wpAny_pure h
theorem tests_one {c : Expr} {env : Env} {Q : Bool → Shared → Prop} {E' : Value → Shared → Prop} (h : wpAny (model prog w) A (isTrue c env (eval c env)) Q E' s) : wpAny (model prog w) A (compTests [c] env) Q E' s := wpAny_tests_one h
/-- names that a block reads -/
theorem blk_own {x : Str} {pos : Pos} {scope : Scope} {cl : List (Str × Addr)} {C L : Addr} {env : Env} {news : Led} {oC : Obj} {m₂ : Str → Option Value} {v : Value} {Q : Value → Shared → Prop} {E' : Value → Shared → Prop} 
    (hk : (compEnvC scope cl C env).scope.kind = .function) (hl : (compEnvC scope cl C env).kindOf x = some .local) (hd : (x == ("__debug__" : Str)) = false) (N : News h₀ L s.heap news) (hm : (C, oC) ∈ news) (hC : LCg.NsObj oC m₂) (hx : m₂ x = some v) (h : Q v s) :
    wpAny (model prog w) A (eval (.Name x pos) (compEnvC scope cl C env)) Q E' s := ldVarK (hC.ns (N _ hm).1) hx h hk hl hd
end
end Mine
end
section
open PySem PySem.W PySem.Calls PyProof.Rows Builtin Builtin.ObjectAttr
set_option maxRecDepth 100000
set_option maxHeartbeats 8000000
namespace Mine
/-! ## objects of a class under list -/
noncomputable abbrev accO (C dx : Addr) (its : Array Value) (n : Nat) : Obj := { cls := .ref C, dict := some dx, data := .seq its n, slots := #[] }
/-- what a class under list answers -/
structure LCls (K : Frag) (C : Addr) : Prop where
  ga : findIn K (.ref C) "__getattribute__" = some (some (.builtin "list.__getattribute__"))
  hook : findIn K (.ref C) "__getattr__" = some none
  sub : mroIn K C (.type "list") = some true
  dict : hasDictIn K C = true
section
variable {prog : Program} {w : World} {A : Around} {E : Value → Shared → Prop} {s : Shared} {K : Frag} {x C : Addr} {ox : Obj} {od : Option Obj} {name : Str} {h : Heap}
theorem LCls.isList {M : Model} (c : LCls K C) (X : K.In h) (I : InstAt h x ox C od) : Looks M h (isInstance (.ref x) (.type "list")) true := I.type.andThen (looks_mroIn X c.sub)
theorem check_meth {M : Model} {i owner n : String} {self : Value} {rest : List Value} {kw : List (Str × Value)} {Q : Unit → Shared → Prop}
    (hk : builtinKind i = some .method) (hs : splitId i = some (owner, n)) (hi : Looks M s.heap (isInstance self (.type owner)) true) (ha : argsOk i ⟨self :: rest, kw⟩) (q : Q () s) :
    wpAny M A (checkBuiltinCall i ⟨self :: rest, kw⟩) Q E s := by
  simp only [checkBuiltinCall, hk, hs]
  refine wpAny_bind (hi.here ?_)
  simp only [Bool.not_true, Bool.false_eq_true, if_false]
  cases hsig : Manifest.signature? i with
  | none => exact wpAny_pure q
  | some sig =>
    simp only [argsOk, hsig] at ha
    have h2 : Bind.checkArgs i sig ⟨self :: rest, kw⟩ = pure () := ha
    show wpAny M A (Bind.checkArgs i sig ⟨self :: rest, kw⟩) Q E s
    rw [h2]; exact wpAny_pure q
/-- a call of a built-in of list with such an object ahead -/
theorem sub_slot {id n : String} {b : Builtin} {rest : List Value} {Q : Value → Shared → Prop} (c : LCls K C) (X : K.In s.heap) (I : InstAt s.heap x ox C od)
    (kd : builtinKind id = some .slot) (sp : splitId id = some ("list", n)) (hp : plainId id = true) (he : entryFor table id = some b) (ha : argsOk id ⟨.ref x :: rest, []⟩)
    (h : wpAny (model prog w) A.in1 (b ⟨.ref x :: rest, []⟩) (fun fin s' => ∃ v, fin = .done (.ret v) ∧ Q v s') E s) : wpAny (model prog w) A (call (.builtin id) (.ref x :: rest)) Q E s := by
  refine wpAny_call (codeAny_call_builtin hp he (check_slot kd sp (c.isList X I) ha (wpAny_mono h (fun fin s' h' => ?_) fun _ _ h' => h')))
  obtain ⟨v, rfl, hv⟩ := h'; exact hv
theorem sub_meth {id n : String} {b : Builtin} {rest : List Value} {Q : Value → Shared → Prop} (c : LCls K C) (X : K.In s.heap) (I : InstAt s.heap x ox C od)
    (kd : builtinKind id = some .method) (sp : splitId id = some ("list", n)) (hp : plainId id = true) (he : entryFor table id = some b) (ha : argsOk id ⟨.ref x :: rest, []⟩)
    (h : wpAny (model prog w) A.in1 (b ⟨.ref x :: rest, []⟩) (fun fin s' => ∃ v, fin = .done (.ret v) ∧ Q v s') E s) : wpAny (model prog w) A (call (.builtin id) (.ref x :: rest)) Q E s := by
  refine wpAny_call (codeAny_call_builtin hp he (check_meth kd sp (c.isList X I) ha (wpAny_mono h (fun fin s' h' => ?_) fun _ _ h' => h')))
  obtain ⟨v, rfl, hv⟩ := h'; exact hv
/-- x.name, own or of the class, that is bare -/
theorem acc_get {v : Value} {expr : Bool} {Q : Value → Shared → Prop} (c : LCls K C) (X : K.In s.heap) (I : InstAt s.heap x ox C od) (hf : findObj K C od name = some (.value v)) (hh : handedIn v = true)
    (h : Q v { s with toks := s.toks + 1 }) : wpAny (model prog w) A (getAttr (.ref x) name expr) Q E s := by
  obtain ⟨hp, g, d, t, os⟩ := s
  have L0 := I.type (M := model prog w)
  have L1 := looks_findIn (M := model prog w) X c.ga
  have L2 := looks_findIn (M := model prog w) X c.hook
  have L3 := looks_find (M := model prog w) X I hf
  unfold getAttr getAttrBy
  refine wpAny_bind (wpAny_mkText (wpAny_holding (wpAny_bind (L0.at (wpAny_bind (L1.at ?_))))))
  dsimp only
  rw [show (onTheHeap (.ref C) && Value.builtin "list.__getattribute__" == Value.builtin "object.__getattribute__") = false from by rw [show (Value.builtin "list.__getattribute__" == Value.builtin "object.__getattribute__") = false from by decide +kernel, Bool.and_false], if_neg (by decide)]
  unfold getAttrByItsOwn
  refine wpAny_bind (L2.at (wpAny_bind (wpAny_attempt (wpAny_holding ?_))))
  unfold callGetattribute
  rw [show (expr && onTheHeap (Value.builtin "list.__getattribute__")) = false from Bool.and_false _, if_neg (by decide)]
  unfold boundAndCalled
  refine wpAny_bind (wpAny_of_eq (PySem.F.slot_list_getattribute.bind _) ?_)
  refine wpAny_mono (Q := fun u s' => u = v ∧ s' = ⟨hp, g, d, t + 1, os⟩) (E := fun _ _ => False) ?_ (fun u s' hu => ?_) fun _ _ z => z.elim
  · refine sub_slot c X I (by decide +kernel) (n := "__getattribute__") (by decide +kernel) (by decide +kernel) PySem.F.entry_list_ga (PySem.F.args_list_getattribute_2 _ _) ?_
    refine wpAny_bind (wpAny_pure (wpAny_bind (wpAny_pure (wpAny_bind (L0.at (wpAny_bind (L3.at ?_)))))))
    exact wpAny_pure ⟨_, rfl, rfl, rfl⟩
  · obtain ⟨rfl, rfl⟩ := hu
    show wpAny _ _ (handedOut u) _ _ _
    rw [handedOut_of hh]; exact wpAny_pure h
/-- a method of the class, or of list, bound as a pair -/
theorem acc_method {pl : Sem Bool} {f tf : Value} {dx : Addr} {es : List DictEntry} {n : Nat} {Q : Value × List Value → Shared → Prop} (c : LCls K C) (X : K.In s.heap) (I : InstAt s.heap x ox C (some (dictOf es n))) (hd : ox.dict = some dx)
    (hf : findIn K (.ref C) name = some (some f)) (ht : typeIn K f = some tf) (hk : (tf != .type "function" && tf != .type "method_descriptor" && tf != .type "wrapper_descriptor") = false) (hl : getL name es = some none)
    (h : Q (f, [.ref x]) s) : wpAny (model prog w) A (getMethod (.ref x) name pl) Q E s := by
  have hcan := canon_list_getattribute
  unfold getMethod specialOf
  refine wpAny_bind (wpAny_bind (I.type.here ((looks_findIn X c.ga).here ?_)))
  dsimp only
  rw [hcan, if_neg (by decide)]
  refine wpAny_bind (wpAny_bind (I.type.here ((looks_findIn X c.hook).here ?_)))
  refine wpAny_bind (wpAny_bind (I.type.here ((looks_findIn X hf).here (wpAny_bind ((looks_typeIn X ht).here ?_)))))
  rw [if_neg (by rw [hk]; decide)]
  refine wpAny_bind (wpAny_loadPart I.at_ ?_)
  have hd' := I.dict
  rw [hd] at hd' ⊢
  refine wpAny_bind (wpAny_bind (wpAny_loadPart hd' ?_))
  rw [nsLook_of (r := none) (by show lookIn name (dictOf es n) = _; rw [lookIn_dict, hl])]
  exact wpAny_pure (wpAny_bind (wpAny_rule (wpAny_pure h)))
end
section
variable {prog : Program} {w : World} {M : Model} {A : Around} {E : Value → Shared → Prop} {s : Shared} {K : Frag} {h₀ : Heap} {L P C dx : Addr} {m : Str → Option Value} {news news' : Led} {its : List Value} {n n' : Nat} {od : Obj}
theorem acc_upd {f : Array Value → Array Value} {its' : Array Value} {Q : Unit → Shared → Prop} (F : Fr h₀ L s.heap m) (N : News h₀ L s.heap news) (U : Upd P (accO C dx its.toArray n) (accO C dx its' n') news news')
    (e : f its.toArray = its') (en : (if its'.size == its.length then n else n + 1) = n') (hz : its.length ≤ 1000) (hz' : its'.size ≤ 1001)
    (h : ∀ h', Fr h₀ L h' m → News h₀ L h' news' → Q () { s with heap := h' }) : wpAny M A (updateSeq P f) Q E s := by
  obtain ⟨pre, post, rfl, rfl, a, b⟩ := U.split
  have z := N (P, accO C dx its.toArray n) (List.mem_append.mpr (.inr (.head _)))
  subst e
  obtain ⟨F', N'⟩ := news_upd (f := Obj.mapSeq f) (o' := accO C dx (f its.toArray) n') F N a b (by
    show Obj.mk _ _ (Data.seq _ _) _ = _
    rw [← en]; simp) rfl
  refine wpAny_updateSeq z.1 rfl (h _ F' N') (by rw [sizeLine_eq]; simp; (first | lia | omega)) (by rw [sizeLine_eq]; (first | lia | omega))
theorem acc_inst (N : News h₀ L s.heap news) (h1 : (P, accO C dx its.toArray n) ∈ news) (h2 : (dx, od) ∈ news) : InstAt s.heap P (accO C dx its.toArray n) C (some od) := ⟨(N _ h1).1, rfl, rfl, (N _ h2).1⟩
theorem acc_append {v : Value} {Q : Value → Shared → Prop} (c : LCls K C) (X₀ : K.In h₀) (F : Fr h₀ L s.heap m) (N : News h₀ L s.heap news) (h2 : (dx, od) ∈ news) (U : Upd P (accO C dx its.toArray n) (accO C dx (its ++ [v]).toArray (n + 1)) news news')
    (hz : its.length ≤ 1000) (h : ∀ h', Fr h₀ L h' m → News h₀ L h' news' → Q .none { s with heap := h' }) : wpAny (model prog w) A (call (.builtin "list.append") [.ref P, v]) Q E s := by
  have hm : (P, accO C dx its.toArray n) ∈ news := by obtain ⟨pre, post, rfl, _⟩ := U.split; simp
  refine sub_meth c (X₀.keeps F.keep) (acc_inst N hm h2) (by decide +kernel) (n := "append") (by decide +kernel) (by decide +kernel) PySem.F.entry_list_append (args_list_append _ _) ?_
  show wpAny _ _ (updateSeq P (·.push v) >>= fun _ => ret .none) _ _ s
  refine wpAny_bind (acc_upd F N U (by simp) (by simp) hz (by simp; (first | lia | omega)) fun h' F' N' => wpAny_pure ⟨_, rfl, h h' F' N'⟩)
end
end Mine
end
section
open PySem PySem.W PySem.Calls PyProof.Rows Builtin Builtin.ObjectAttr
set_option maxRecDepth 100000
set_option maxHeartbeats 8000000
namespace Mine
theorem slot_md_get : Slot "method_descriptor" "__get__" "method_descriptor.__get__" := .of (owner := "method_descriptor") (n := "__get__") (by rw [typeLookup_type, builtinLookup_eq_fast]; kernel_rfl) (by decide +kernel) (by decide +kernel) (by decide +kernel)
  (by first | exact .inl (by decide +kernel) | exact .inr (by decide +kernel)) (by rw [isSubtype_type]; kernel_rfl)
theorem entry_md_get : entryFor table "method_descriptor.__get__" = some Builtin.«method_descriptor.__get__» := entryFor_of_tree (by kernel_rfl)
theorem args_md_get (a b c : Value) : argsOk "method_descriptor.__get__" ⟨[a, b, c], []⟩ := by unfold argsOk; kernel_rfl
theorem slot_wd_get : Slot "wrapper_descriptor" "__get__" "wrapper_descriptor.__get__" := .of (owner := "wrapper_descriptor") (n := "__get__") (by rw [typeLookup_type, builtinLookup_eq_fast]; kernel_rfl) (by decide +kernel) (by decide +kernel) (by decide +kernel)
  (by first | exact .inl (by decide +kernel) | exact .inr (by decide +kernel)) (by rw [isSubtype_type]; kernel_rfl)
theorem entry_wd_get : entryFor table "wrapper_descriptor.__get__" = some Builtin.«wrapper_descriptor.__get__» := entryFor_of_tree (by kernel_rfl)
theorem args_wd_get (a b c : Value) : argsOk "wrapper_descriptor.__get__" ⟨[a, b, c], []⟩ := by unfold argsOk; kernel_rfl
theorem type_pop : typeOf (.builtin "list.pop") = pure (.type "method_descriptor") := by show builtinType _ = _; rw [builtinType_eq_fast]; kernel_rfl
theorem type_llen : typeOf (.builtin "list.__len__") = pure (.type "wrapper_descriptor") := by show builtinType _ = _; rw [builtinType_eq_fast]; kernel_rfl
theorem type_linit : typeOf (.builtin "list.__init__") = pure (.type "wrapper_descriptor") := by show builtinType _ = _; rw [builtinType_eq_fast]; kernel_rfl
noncomputable abbrev boundO (T : String) (f x : Value) : Obj := { cls := .type T, data := .fields #[f, x] }
section
variable {prog : Program} {w : World} {A : Around} {E : Value → Shared → Prop} {h : Heap} {g : Array GenState} {d : Drawn} {t : Nat} {os : OsState} {x C : Addr}
theorem run_get_pop {Q : Fin → Shared → Prop} (hT : Looks (model prog w) h (typeOf (.ref x)) (.ref C)) (hS : Looks (model prog w) h (isSubtype (.ref C) (.type "list")) true)
    (hq : Q (.done (.ret (.ref h.objs.size))) ⟨h.push (boundO "builtin_function_or_method" (.builtin "list.pop") (.ref x)), g, d, t, os⟩) :
    wpAny (model prog w) A (Builtin.«method_descriptor.__get__» ⟨[.builtin "list.pop", .ref x, .ref C], []⟩) Q E ⟨h, g, d, t, os⟩ := by
  rw [show "list" = ".".intercalate ("list.pop".cutAt '.').dropLast from by decide +kernel] at hS
  unfold Builtin.«method_descriptor.__get__»
  repeat lk
  exact hq
theorem run_get_len {Q : Fin → Shared → Prop} (hT : Looks (model prog w) h (typeOf (.ref x)) (.ref C)) (hS : Looks (model prog w) h (isSubtype (.ref C) (.type "list")) true)
    (hq : Q (.done (.ret (.ref h.objs.size))) ⟨h.push (boundO "method-wrapper" (.builtin "list.__len__") (.ref x)), g, d, t, os⟩) :
    wpAny (model prog w) A (Builtin.«wrapper_descriptor.__get__» ⟨[.builtin "list.__len__", .ref x, .ref C], []⟩) Q E ⟨h, g, d, t, os⟩ := by
  rw [show "list" = ".".intercalate ("list.__len__".cutAt '.').dropLast from by decide +kernel] at hS
  unfold Builtin.«wrapper_descriptor.__get__»
  repeat lk
  exact hq
theorem run_get_init {Q : Fin → Shared → Prop} (hT : Looks (model prog w) h (typeOf (.ref x)) (.ref C)) (hS : Looks (model prog w) h (isSubtype (.ref C) (.type "list")) true)
    (hq : Q (.done (.ret (.ref h.objs.size))) ⟨h.push (boundO "method-wrapper" (.builtin "list.__init__") (.ref x)), g, d, t, os⟩) :
    wpAny (model prog w) A (Builtin.«wrapper_descriptor.__get__» ⟨[.builtin "list.__init__", .ref x, .ref C], []⟩) Q E ⟨h, g, d, t, os⟩ := by
  rw [show "list" = ".".intercalate ("list.__init__".cutAt '.').dropLast from by decide +kernel] at hS
  unfold Builtin.«wrapper_descriptor.__get__»
  repeat lk
  exact hq
theorem call_get_pop {Q : Value → Shared → Prop} (hT : Looks (model prog w) h (typeOf (.ref x)) (.ref C)) (hS : Looks (model prog w) h (isSubtype (.ref C) (.type "list")) true)
    (hq : Q (.ref h.objs.size) ⟨h.push (boundO "builtin_function_or_method" (.builtin "list.pop") (.ref x)), g, d, t, os⟩) :
    wpAny (model prog w) A (call (.builtin "method_descriptor.__get__") [.builtin "list.pop", .ref x, .ref C]) Q E ⟨h, g, d, t, os⟩ :=
  wpAny_call_entry slot_md_get (by exact type_pop) entry_md_get (run_get_pop hT hS ⟨_, rfl, hq⟩) (args_md_get _ _ _)
theorem call_get_len {Q : Value → Shared → Prop} (hT : Looks (model prog w) h (typeOf (.ref x)) (.ref C)) (hS : Looks (model prog w) h (isSubtype (.ref C) (.type "list")) true)
    (hq : Q (.ref h.objs.size) ⟨h.push (boundO "method-wrapper" (.builtin "list.__len__") (.ref x)), g, d, t, os⟩) :
    wpAny (model prog w) A (call (.builtin "wrapper_descriptor.__get__") [.builtin "list.__len__", .ref x, .ref C]) Q E ⟨h, g, d, t, os⟩ :=
  wpAny_call_entry slot_wd_get (by exact type_llen) entry_wd_get (run_get_len hT hS ⟨_, rfl, hq⟩) (args_wd_get _ _ _)
theorem call_get_init {Q : Value → Shared → Prop} (hT : Looks (model prog w) h (typeOf (.ref x)) (.ref C)) (hS : Looks (model prog w) h (isSubtype (.ref C) (.type "list")) true)
    (hq : Q (.ref h.objs.size) ⟨h.push (boundO "method-wrapper" (.builtin "list.__init__") (.ref x)), g, d, t, os⟩) :
    wpAny (model prog w) A (call (.builtin "wrapper_descriptor.__get__") [.builtin "list.__init__", .ref x, .ref C]) Q E ⟨h, g, d, t, os⟩ :=
  wpAny_call_entry slot_wd_get (by exact type_linit) entry_wd_get (run_get_init hT hS ⟨_, rfl, hq⟩) (args_wd_get _ _ _)
theorem sup_ga {so D : Addr} {l₀ l : List Value} {K : Frag} {name : Str} {tk : Tok} {id gid : String} {T BT : String} {Q : Fin → Shared → Prop}
    (hso : h.get? so = some (ks_superObj D x C)) (hno : Looks (model prog w) h (opaqueClassAbove (.ref C)) none)
    (hC : Looks (model prog w) h (mroOf (.ref C)) l₀) (hl : (l₀.dropWhile (· != .ref D)).drop 1 = l) (X : K.In h)
    (hf : alongIn K name l = some (some (.builtin id))) (hty : typeOf (.builtin id) = pure (.type T)) (hg : typeLookup (.type T) "__get__" = pure (some (.builtin gid))) (hxC : x ≠ C) (hn : (name == ("__class__" : Str)) = false)
    (hcall : ∀ (A' : Around) (Q' E' : Value → Shared → Prop), Q' (.ref h.objs.size) ⟨h.push (boundO BT (.builtin id) (.ref x)), g, d, t, os⟩ → wpAny (model prog w) A' (call (.builtin gid) [.builtin id, .ref x, .ref C]) Q' E' ⟨h, g, d, t, os⟩)
    (hq : Q (.done (.ret (.ref h.objs.size))) ⟨h.push (boundO BT (.builtin id) (.ref x)), g, d, t, os⟩) :
    wpAny (model prog w) A (Builtin.«super.__getattribute__» ⟨[.ref so, .str name tk], []⟩) Q E ⟨h, g, d, t, os⟩ := by
  have hne : (Value.ref x == Value.ref C) = false := by simp [hxC]
  have hdt : (ks_superObj D x C).data = .fields #[.ref D, .ref x, .ref C] := rfl
  have f0 : (#[.ref D, .ref x, .ref C] : Array Value)[0]? = some (.ref D) := rfl
  have f1 : (#[.ref D, .ref x, .ref C] : Array Value)[1]? = some (.ref x) := rfl
  have f2 : (#[.ref D, .ref x, .ref C] : Array Value)[2]? = some (.ref C) := rfl
  unfold Builtin.«super.__getattribute__»
  repeat (first
    | (with_reducible refine wpAny_field hso hdt f0 ?_) | (with_reducible refine wpAny_field hso hdt f1 ?_) | (with_reducible refine wpAny_field hso hdt f2 ?_)
    | (with_reducible refine ks_wpAny_notOpaque hno ?_)
    | (with_reducible refine Looks.at hC ?_; rw [hl])
    | (refine ks_forIn_along X (fun _ _ => rfl) rfl ?_ hf)
    | (with_reducible refine wpAny_of_eq hty ?_)
    | (with_reducible refine wpAny_of_eq hg ?_)
    | (with_reducible refine hcall _ _ _ ?_)
    | (simp only [hn, hne, Bool.or_false, Bool.false_eq_true, if_false])
    | wp_step
    | dsimp only)
  all_goals exact hq
theorem sup_getMethod {so D : Addr} {l₀ l : List Value} {K : Frag} {name : Str} {id gid : String} {T BT : String} {pl : Sem Bool} {Q : Value × List Value → Shared → Prop}
    (hso : h.get? so = some (ks_superObj D x C)) (hno : Looks (model prog w) h (opaqueClassAbove (.ref C)) none)
    (hC : Looks (model prog w) h (mroOf (.ref C)) l₀) (hl : (l₀.dropWhile (· != .ref D)).drop 1 = l) (X : K.In h)
    (hf : alongIn K name l = some (some (.builtin id))) (hty : typeOf (.builtin id) = pure (.type T)) (hg : typeLookup (.type T) "__get__" = pure (some (.builtin gid))) (hxC : x ≠ C) (hn : (name == ("__class__" : Str)) = false)
    (hcall : ∀ (t : Nat) (A' : Around) (Q' E' : Value → Shared → Prop), Q' (.ref h.objs.size) ⟨h.push (boundO BT (.builtin id) (.ref x)), g, d, t, os⟩ → wpAny (model prog w) A' (call (.builtin gid) [.builtin id, .ref x, .ref C]) Q' E' ⟨h, g, d, t, os⟩)
    (hq : Q (.ref h.objs.size, []) ⟨h.push (boundO BT (.builtin id) (.ref x)), g, d, t + 1, os⟩) :
    wpAny (model prog w) A (getMethod (.ref so) name pl) Q E ⟨h, g, d, t, os⟩ := by
  have hlk := PySem.F.ks_slot_super_ga.lookup
  have hcan := PySem.F.ks_canon_super_ga
  have hT : ∀ t', (⟨h, g, d, t', os⟩ : Shared).TypeIs (.ref so) "super" := fun _ => ⟨_, hso, rfl⟩
  unfold getMethod
  refine wpAny_bind (wpAny_specialOf (hT _) hlk ?_)
  show wpAny _ _ (if (Manifest.canonical "super.__getattribute__" != "object.__getattribute__") = true then _ else _) _ _ _
  rw [if_pos hcan]
  unfold getAttr getAttrBy
  refine wpAny_bind (wpAny_bind (wpAny_mkText (wpAny_holding (wpAny_bind (wpAny_typeOf (hT _) (wpAny_bind (wpAny_of_eq hlk ?_)))))))
  show wpAny _ _ (getAttrByItsOwn (.ref so) (.str name t) (.type "super") (.builtin "super.__getattribute__") true false) _ _ _
  unfold getAttrByItsOwn hookBefore callGetattribute boundAndCalled
  refine wpAny_bind (wpAny_of_eq (show (if onTheHeap (.type "super") then typeLookup (.type "super") "__getattr__" else pure none) = pure none from rfl) ?_)
  refine wpAny_bind (wpAny_attempt (wpAny_holding ?_))
  show wpAny _ _ (bindSpecial (.builtin "super.__getattribute__") (.ref so) >>= _) _ _ _
  refine wpAny_bind (wpAny_of_eq (PySem.F.ks_slot_super_ga.bind _) ?_)
  refine wpAny_mono (Q := fun v s' => v = .ref h.objs.size ∧ s' = ⟨h.push (boundO BT (.builtin id) (.ref x)), g, d, t + 1, os⟩) (E := fun _ _ => False)
    (wpAny_call_entry PySem.F.ks_slot_super_ga (hT _) PySem.F.ks_entry_super_ga (sup_ga hso hno hC hl X hf hty hg hxC hn (hcall _) ⟨_, rfl, rfl, rfl⟩) (PySem.F.ks_gaArgs_super _ _)) (fun v s' hv => ?_) fun _ _ z => z.elim
  obtain ⟨rfl, rfl⟩ := hv
  exact wpAny_pure (wpAny_pure hq)
end
end Mine
end
section
open PySem PySem.W PySem.Calls PyProof.Rows Builtin Builtin.ObjectAttr
set_option maxRecDepth 100000
set_option maxHeartbeats 8000000
namespace Mine
section
variable {prog : Program} {w : World} {A : Around} {E : Value → Shared → Prop} {s : Shared} {x C b : Addr}
theorem call_bound {T id : String} {B : Builtin} {rest : List Value} {Q : Value → Shared → Prop} (hT : (Value.type T == .type "method" || Value.type T == .type "builtin_function_or_method" || Value.type T == .type "method-wrapper") = true) (hT' : (Value.type T != .type "method") = true)
    (hb : s.heap.get? b = some (boundO T (.builtin id) (.ref x))) (hp : plainId id = true) (he : entryFor table id = some B)
    (hc : ∀ (A' : Around) (Q' : Unit → Shared → Prop) (E' : Value → Shared → Prop), Q' () s → wpAny (model prog w) A' (checkBoundCall id ⟨.ref x :: rest, []⟩) Q' E' s)
    (h : wpAny (model prog w) A.in1 (B ⟨.ref x :: rest, []⟩) (fun fin s' => ∃ v, fin = .done (.ret v) ∧ Q v s') E s) : wpAny (model prog w) A (call (.ref b) rest) Q E s := by
  refine wpAny_call (codeAny_of_tree ?_)
  show wpAny _ _ (callAny (.ref b) _) _ _ _
  unfold callAny
  refine wpAny_bind (wpAny_load hb ?_)
  dsimp only
  rw [if_pos hT]
  show wpAny _ _ (if (Value.type T != .type "method") = true then _ else _) _ _ _
  rw [if_pos hT']
  refine wpAny_bind (hc _ _ _ (wpAny_pure ⟨plainId_quiet hp _, codeAny_builtin he ?_⟩))
  rw [Around.under_plainId hp _]
  refine wpAny_mono h (fun fin s' h' => ?_) fun _ _ h' => h'
  obtain ⟨v, rfl, hv⟩ := h'; exact hv
theorem keeper_bound {M : Model} {h : Heap} {T : String} {f : Value} (hT : (Value.type T == .type "builtin_function_or_method" || Value.type T == .type "method-wrapper") = true) (hT' : (Value.type T != .type "method") = true) (hb : h.get? b = some (boundO T f (.ref x))) : Looks M h (keeperOf (.ref b)) .machine := by
  refine (Looks.ld (part := none) hb).andThen ?_
  dsimp only
  rw [if_pos hT', if_pos hT]
  exact .now
theorem callWith_bound {T : String} {pos : Pos} {f : Value} {env : Env} {Q : Value → Shared → Prop} (hT : (Value.type T == .type "builtin_function_or_method" || Value.type T == .type "method-wrapper") = true) (hT' : (Value.type T != .type "method") = true)
    (hb : s.heap.get? b = some (boundO T f (.ref x))) (h : wpAny (model prog w) A (call (.ref b) []) Q E s) : wpAny (model prog w) A (callWith pos (.ref b) [] (backTo pos (starEach [] env)) []) Q E s :=
  callWith_of (P := fun h => h.get? b = some (boundO T f (.ref x))) rfl (fun h hp => ⟨.machine, .inr (.inl rfl), keeper_bound hT hT' hp⟩) (PyProof.Rows.evalArgs_none ⟨hb, h⟩)
theorem check_llen (A' : Around) (Q' : Unit → Shared → Prop) (E' : Value → Shared → Prop) (h : Q' () s) : wpAny (model prog w) A' (checkBoundCall "list.__len__" ⟨[.ref x], []⟩) Q' E' s :=
  wpAny_of_eq (show checkBoundCall "list.__len__" ⟨[.ref x], []⟩ = pure () from by kernel_rfl) h
theorem check_linit (A' : Around) (Q' : Unit → Shared → Prop) (E' : Value → Shared → Prop) (h : Q' () s) : wpAny (model prog w) A' (checkBoundCall "list.__init__" ⟨[.ref x], []⟩) Q' E' s :=
  wpAny_of_eq (show checkBoundCall "list.__init__" ⟨[.ref x], []⟩ = pure () from by kernel_rfl) h
theorem pop_args (x : Addr) (sig : Manifest.Signature) (h : Manifest.signature? "list.pop" = some sig) : Bind.checkArgs "list.pop" { sig with full := "_Accumulator" ++ "." ++ Bind.lastOf "list.pop" } ⟨[.ref x], []⟩ = pure () := by
  have k : ((Manifest.signature? "list.pop").map fun sig => Bind.checkArgs "list.pop" { sig with full := "_Accumulator" ++ "." ++ Bind.lastOf "list.pop" } ⟨[.ref x], []⟩) = (Manifest.signature? "list.pop").map fun _ => pure () := by kernel_rfl
  rw [h] at k
  exact Option.some.inj k
theorem check_lpop {K : Frag} {cd : ClassData} {ox : Obj} (X : K.In s.heap) (hx : s.heap.get? x = some ox) (hxc : ox.cls = .ref C) (hno : notCls ox = true) (hc : clsIn K C = some cd) (hm : mroIn K C (.type "module") = some false) (ht : typeIn K (.ref C) = some (.type "type")) (hq : cd.qualname = Str.ofString "_Accumulator")
    (A' : Around) (Q' : Unit → Shared → Prop) (E' : Value → Shared → Prop) (h : Q' () s) : wpAny (model prog w) A' (checkBoundCall "list.pop" ⟨[.ref x], []⟩) Q' E' s := by
  obtain ⟨hp, g, d, t, os⟩ := s
  have L0 : Looks (model prog w) hp (typeOf (.ref x)) (.ref C) := hxc ▸ (Looks.ld (part := some headPart) hx).andThen .now
  have L1 : Looks (model prog w) hp (isInstance (.ref x) (.type "module")) false := L0.andThen (looks_mroIn X hm)
  have L2 := looks_clsIn (M := model prog w) X hc
  have L3 := looks_typeIn (M := model prog w) X ht
  have L4 : Looks (model prog w) hp (isType (.ref x)) false := fun A Q E s k q => by
    obtain ⟨h', g', d', t', os'⟩ := s
    exact ks_wpAny_isType_inst (k _ _ hx) (fun c e => by unfold notCls at hno; rw [e] at hno; cases hno) q
  have S : Manifest.signature? "list.pop" = Manifest.signature? "list.pop" := rfl
  unfold checkBoundCall
  generalize hsig : Manifest.signature? "list.pop" = sig at S ⊢
  cases sig with
  | none => exact wpAny_pure h
  | some sig =>
    have P := pop_args x sig hsig
    have hv : (Manifest.varargsMethods.contains "list.pop") = false := by decide +kernel
    dsimp only
    refine wpAny_bind (L1.at ?_)
    rw [hv, Bool.false_or, if_neg (by decide)]
    refine wpAny_bind (L4.at ?_)
    rw [if_neg (by decide)]
    refine wpAny_bind (L0.at ?_)
    refine wpAny_bind (L2.at (wpAny_bind (L3.at ?_)))
    rw [if_pos (by decide +kernel), hq]
    exact wpAny_of_eq P h
end
end Mine
end
section
open PySem PySem.W PySem.Calls PyProof.Rows Builtin Builtin.ObjectAttr
set_option maxRecDepth 100000
set_option maxHeartbeats 8000000
namespace Mine
theorem refuse_list (self : Value) : refuseLoop self "__setattr__" [.type "list", .type "object"] = pure () := by kernel_rfl
section
variable {prog : Program} {w : World} {A : Around} {E : Value → Shared → Prop} {s : Shared} {K : Frag} {x C : Addr} {ox : Obj} {od : Option Obj} {name : Str}
theorem acc_special {M : Model} {id : String} {args : List Value} {Q : Option Value → Shared → Prop} (X : K.In s.heap) (I : InstAt s.heap x ox C od)
    (hs : findIn K (.ref C) name = some (some (.builtin id))) (hb : bindSpecial (.builtin id) (.ref x) = pure (.builtin id, [.ref x])) (h : wpAny M A (call (.builtin id) (.ref x :: args)) (fun v => Q (some v)) E s) :
    wpAny M A (callSpecial? (.ref x) name args) Q E s :=
  wpAny_bind (wpAny_bind (I.type.here ((looks_findIn X hs).here (wpAny_holding (wpAny_bind (wpAny_of_eq hb (wpAny_bind (wpAny_mono h (fun _ _ z => wpAny_pure z) fun _ _ z => z))))))))
theorem acc_key {M : Model} {k : Value} {Q : Value → Shared → Prop} (X : K.In s.heap) (I : InstAt s.heap x ox C od) (hq : noSeq K C = true) (h : Q k s) : wpAny M A (sequenceKey (.ref x) k name) Q E s := by
  unfold sequenceKey
  refine wpAny_bind (I.type.here ?_)
  refine wpAny_bind ((anyM_none X hq).here ?_)
  rw [if_pos (show (!false) = true from rfl)]
  exact wpAny_pure h
end
section
variable {prog : Program} {w : World} {A : Around} {E : Value → Shared → Prop} {s : Shared} {K : Frag} {h₀ : Heap} {L P C dx : Addr} {m : Str → Option Value} {news news' : Led} {its : List Value} {n n' : Nat} {od : Obj} {es es' : List DictEntry} {name : Str} {v : Value} {cd : ClassData}
theorem acc_osa {R : Result → Shared → Prop} {ox : Obj} {tk : Tok} (F : Fr h₀ L s.heap m) (X : K.In s.heap) (N : News h₀ L s.heap news) (I : InstAt s.heap P ox C (some (dictOf es n))) (hd : ox.dict = some dx)
    (hc : clsIn K C = some cd) (hm : cd.mro = [.ref C, .type "list", .type "object"]) (ht : findIn K (.ref C) name = some none) (hh : cd.hasDict = true) (hl : (getL name es).isSome = true)
    (e : (putL name (PyData.keyHash w.params name) (.str name s.toks) v es, putN name es n) = (es', n')) (U : Upd dx (dictOf es n) (dictOf es' n') news news') (hz : es'.length ≤ 1000)
    (h : ∀ h', Fr h₀ L h' m → News h₀ L h' news' → R (.ok (.ret .none)) { s with heap := h', toks := s.toks + 1 }) :
    codeAny (model prog w) A (.call (.builtin "object.__setattr__") ⟨[.ref P, .str name tk, v], []⟩) R s := by
  have SF := PySem.F.store_object
  obtain ⟨pre, post, rfl, rfl, h1, h2⟩ := U.split
  obtain ⟨e1, e2⟩ := Prod.mk.inj e
  have sub : Looks (model prog w) s.heap (isInstance (.ref P) (.type "object")) true := I.type.andThen (looks_mroIn X (by unfold mroIn; rw [hc, Option.bind_some, hm]; rfl))
  refine codeAny_call_builtin SF.slot.plain SF.entry (@check_slot (model prog w) _ _ s "object.__setattr__" "object" "__setattr__" (.ref P) [.str name tk, v] [] _ SF.kind SF.split sub (SF.args (.ref P) (.str name tk) v) ?_)
  have hmro : Looks (model prog w) s.heap (mroOf (.ref C)) cd.mro := (looks_clsIn X hc).andThen .now
  rw [osa_eq, refuse_eq]
  refine wpAny_bind (wpAny_bind (I.type.here (wpAny_bind (hmro.here ?_))))
  rw [hm, refuseLoop_ref, refuse_list]
  refine wpAny_pure (wpAny_bind (I.type.here (wpAny_bind ((looks_findIn X ht).here (wpAny_bind (wpAny_of_eq (a := none) rfl ?_))))))
  obtain ⟨U1, U2⟩ := news_upd F N h1 h2 (f := Obj.putName name (PyData.keyHash w.params name) (.str name s.toks) v) (o' := dictOf es' n') (by rw [putName_dict, e1, e2]) rfl
  have D := (N (dx, dictOf es n) (by simp)).1
  have D' := (U2 (dx, dictOf es' n') (by simp)).1
  obtain ⟨hx, hcl, hn, -⟩ := I
  obtain ⟨oc, odi, oda, osl⟩ := ox
  dsimp only at hcl hd
  subst hcl hd
  refine wpAny_bind (wpAny_pure (wpAny_bind (wpAny_bind (wpAny_loadPart hx (wpAny_bind ((looks_clsIn X hc).here ?_))))))
  rw [hh]
  refine wpAny_pure (a := some dx) (wpAny_bind (wpAny_pure (wpAny_bind ?_)))
  unfold nsSet
  refine wpAny_bind (wpAny_bind (wpAny_askSetting (wpAny_pure (wpAny_bind (wpAny_mkText (wpAny_bind (wpAny_loadPart D ?_)))))))
  dsimp only
  have c : (!es.toArray.any (·.key.isStr name) && es.toArray.any (·.refKey)) = false := by
    rw [← Array.any_toList, ← Array.any_toList]
    unfold getL at hl
    split at hl
    · rename_i en he
      rw [List.any_eq_true.mpr ⟨en, List.mem_of_find?_eq_some he, List.find?_some he⟩]; rfl
    · split at hl
      · cases hl
      · rename_i z; rw [Bool.not_eq_true] at z; rw [z, Bool.and_false]
  rw [aRefKeyMayBeTheName_at, c]
  refine wpAny_updatePart D ?_
  refine wpAny_bind (wpAny_lookBehind D' (pastItsLine_dict (by rw [List.size_toArray, sizeLine_eq]; (first | lia | omega))) ?_)
  exact wpAny_pure (h _ U1 U2)
/-- self.name = v, the dict being written -/
theorem acc_set {Q : Unit → Shared → Prop} {ox : Obj} (F : Fr h₀ L s.heap m) (X₀ : K.In h₀) (N : News h₀ L s.heap news) (I : InstAt s.heap P ox C (some (dictOf es n))) (hd : ox.dict = some dx)
    (hs : findIn K (.ref C) "__setattr__" = some (some (.builtin "object.__setattr__"))) (hc : clsIn K C = some cd) (hm : cd.mro = [.ref C, .type "list", .type "object"]) (ht : findIn K (.ref C) name = some none) (hh : cd.hasDict = true) (hl : (getL name es).isSome = true)
    (e : (putL name (PyData.keyHash w.params name) (.str name (s.toks + 1)) v es, putN name es n) = (es', n')) (U : Upd dx (dictOf es n) (dictOf es' n') news news') (hz : es'.length ≤ 1000)
    (h : ∀ h', Fr h₀ L h' m → News h₀ L h' news' → Q () { s with heap := h', toks := s.toks + 2 }) :
    wpAny (model prog w) A (setAttr (.ref P) name v) Q E s :=
  set_plain (X₀.keeps F.keep) I hs (acc_osa (s := { s with toks := s.toks + 1 }) F (X₀.keeps F.keep) N I hd hc hm ht hh hl e U hz fun h' F' N' => h h' F' N')
/-- list.__len__(self), by its wrapper -/
theorem acc_len_run {Q : Fin → Shared → Prop} (ho : s.heap.get? P = some (accO C dx its.toArray n)) (h : Q (.done (.ret (.int its.length s.toks))) { s with toks := s.toks + 1 }) :
    wpAny (model prog w) A (Builtin.«list.__len__» ⟨[.ref P], []⟩) Q E s := by
  show wpAny _ _ (do retInt (← seqSize P)) _ _ s
  unfold seqSize
  refine wpAny_bind (wpAny_bind (wpAny_loadPart ho ?_))
  refine wpAny_pure (wpAny_bind (wpAny_mkInt (wpAny_pure ?_)))
  simpa using h
/-- list.pop(self) -/
theorem acc_pop_run {ini : List Value} {Q : Fin → Shared → Prop} (F : Fr h₀ L s.heap m) (N : News h₀ L s.heap news) (U : Upd P (accO C dx (ini ++ [v]).toArray n) (accO C dx ini.toArray (n + 1)) news news') (hz : ini.length ≤ 900)
    (h : ∀ h', Fr h₀ L h' m → News h₀ L h' news' → Q (.done (.ret v)) { s with heap := h' }) : wpAny (model prog w) A (Builtin.«list.pop» ⟨[.ref P], []⟩) Q E s := by
  have hm : (P, accO C dx (ini ++ [v]).toArray n) ∈ news := by obtain ⟨pre, post, rfl, _⟩ := U.split; simp
  have ho := (N _ hm).1
  unfold Builtin.«list.pop»
  refine wpAny_bind (wpAny_pure (wpAny_bind (wpAny_pure ?_)))
  refine wpAny_ite ?_
  rw [if_neg (by decide +kernel)]
  refine wpAny_bind (m := Builtin.List.listItems (.ref P)) ?_
  unfold Builtin.List.listItems
  refine wpAny_bind (wpAny_seqItems ho rfl (wpAny_pure ?_))
  have hne : ¬ ((ini ++ [v]).toArray.isEmpty = true) := by simp
  have hk : seqIndex? (-1) (ini ++ [v]).toArray.size = some ini.length := by rw [PySem.seqIndex_neg (by decide) (by simp; (first | lia | omega))]; simp; (first | lia | omega)
  have hg : (ini ++ [v]).toArray[ini.length]? = some v := by simp
  rw [hk]
  dsimp only [Option.bind_some]
  rw [hg]
  dsimp only [Option.map_some]
  rw [if_neg hne]
  refine wpAny_bind (m := updateSeq P _) (acc_upd F N U ?_ ?_ (by simp; (first | lia | omega)) (by simp; (first | lia | omega)) fun h' F' N' => wpAny_pure (h h' F' N'))
  · apply Array.toList_inj.mp
    simp
    rw [List.eraseIdx_append_of_length_le (Nat.le_refl _)]; simp
  · rw [if_neg (by simp)]
/-- list.__init__(self) -/
theorem acc_init_run {Q : Fin → Shared → Prop} (F : Fr h₀ L s.heap m) (N : News h₀ L s.heap news) (hn : news = (P, accO C dx #[] n) :: news') (hp : ∀ q ∈ news', q.1 ≠ P)
    (h : ∀ h', Fr h₀ L h' m → News h₀ L h' news → Q (.done (.ret .none)) { s with heap := h' }) : wpAny (model prog w) A (Builtin.«list.__init__» ⟨[.ref P], []⟩) Q E s := by
  subst hn
  have ho := (N _ (.head _)).1
  unfold Builtin.«list.__init__»
  show wpAny _ _ (Builtin.List.listItems (.ref P) >>= _) _ _ _
  refine wpAny_bind (m := Builtin.List.listItems (.ref P)) ?_
  unfold Builtin.List.listItems
  refine wpAny_bind (wpAny_seqItems ho rfl (wpAny_pure ?_))
  refine wpAny_bind (m := updateSeq P _) (acc_upd (its := []) F N (.head hp) rfl rfl (by simp) (by simp) fun h' F' N' => ?_)
  exact wpAny_bind (wpAny_letGo (wpAny_pure (h h' F' N')))
end
end Mine
end
section
open PySem PySem.W PySem.Calls PyProof.Rows Builtin Builtin.ObjectAttr
set_option maxRecDepth 100000
set_option maxHeartbeats 8000000
namespace Mine
/-! ## sum(generator, start) of small numbers -/
theorem args_sum2 (a b : Value) : argsOk "sum" ⟨[a, b], []⟩ := by unfold argsOk; kernel_rfl
noncomputable def fl (i : Int) : Bool := decide (-(2 ^ 63) ≤ i) && decide (i < 2 ^ 63)
theorem fits_small {i : Int} (h0 : 0 ≤ i) (h1 : i < 2 ^ 62) : fl i = true := by
  simp only [fl, Bool.and_eq_true, decide_eq_true_eq]
  (first | lia | omega)
section
variable {prog : Program} {w : World} {A : Around} {I : Addr} {fp wr : List Addr} {G : Array GenState → Array GenState → Prop} {n : Nat} {P : Nat → Value → Prop} {St : Nat → Shared → Prop}
theorem sum_turns {R : Result → Shared → Prop} (W : WalksS prog w A.in1 I fp wr G n P St) (tot : Nat → Int) (val : Nat → Int) (hstep : ∀ i, i < n → tot (i + 1) = tot i + val i) (hsmall : ∀ i, i ≤ n → 0 ≤ tot i ∧ tot i < 2 ^ 62) (hv0 : ∀ i, 0 ≤ val i ∧ val i < 2 ^ 62)
    (hval : ∀ i v, P i v → ∃ t, v = .int (val i) t) (S : Addr) (hSf : S ∉ fp) (k : Nat) :
    ∀ (i : Nat) (s : Shared) (tA : Tok) (c : Nat), i + k = n → St i s → s.heap.get? S = some (listOf #[.int (tot i) tA] c) →
    (∀ s' t', Moved (S :: wr) G s s' → R (.ok (.ret (.int (tot n) t'))) s') → codeAny (model prog w) A (.builtin "sum.loop" ⟨[.ref I, .ref S, rawInt 0, rawInt 0], []⟩) R s := by
  have hSw : S ∉ wr := fun h => hSf (W.sub _ h)
  have up : ∀ b ∈ wr, b ∈ S :: wr := fun b hb => .tail _ hb
  induction k with
  | zero =>
    intro i s tA c hi hst hS hR
    obtain rfl : i = n := by (first | lia | omega)
    refine codeAny_builtin PySem.F.entry_sum_loop ?_
    rw [Around.under_plainId PySem.F.plain_sum_loop _]
    show wpAny _ A.in1 (seqItems? (.ref S) >>= _) _ _ s
    refine wpAny_bind (wpAny_seqItems hS rfl ?_)
    show wpAny _ A.in1 (tryCatch (pyNext (.ref I)) _ >>= _) _ _ s
    exact wpAny_bind (wpAny_tryCatch (W.done s _ _ hst fun s' hm => wpAny_pure (hR s' tA (hm.mono up))))
  | succ k ih =>
    intro i s tA c hi hst hS hR
    have hlt : i < n := by (first | lia | omega)
    refine codeAny_builtin PySem.F.entry_sum_loop ?_
    rw [Around.under_plainId PySem.F.plain_sum_loop _]
    show wpAny _ A.in1 (seqItems? (.ref S) >>= _) _ _ s
    refine wpAny_bind (wpAny_seqItems hS rfl ?_)
    show wpAny _ A.in1 (tryCatch (pyNext (.ref I)) _ >>= _) _ _ s
    refine wpAny_bind (wpAny_tryCatch (W.item i s _ _ hlt hst fun v s' hP hst' hm => ?_))
    obtain ⟨t, rfl⟩ := hval i v hP
    have hS' := hm.heap S _ hSw hS
    have hs := hstep i hlt
    have hb := hsmall (i + 1) hlt
    have hf : (fl (val i) && fl (tot i + val i)) = true := by rw [fits_small (hv0 i).1 (hv0 i).2, fits_small (by (first | lia | omega)) (by (first | lia | omega))]; rfl
    show wpAny _ A.in1 (if (fl (val i) && fl (tot i + val i)) = true then (mkInt (tot i + val i) >>= _) else _) _ _ _
    rw [if_pos hf]
    refine wpAny_bind (wpAny_mkInt ?_)
    show wpAny _ A.in1 (updateSeq S (fun _ => #[.int (tot i + val i) s'.toks]) >>= _) _ _ _
    refine wpAny_bind (wpAny_updateSeq hS' rfl (wpAny_pure ⟨plainId_quiet PySem.F.plain_sum_loop _, ih (i + 1) _ s'.toks _ (by (first | lia | omega)) (W.frame _ s' _ _ hst' (Nat.le_succ _) fun b hb' o e => ?_) (by rw [hs]; exact Heap.get?_update_self _ hS' rfl) fun s'' t'' hm'' => ?_⟩))
    · exact (Heap.get?_update_other _ _ (fun h : S = b => hSf (by rw [h]; exact hb'))).trans e
    · refine hR s'' t'' (Moved.trans W.gtrans ((hm.mono up).then_heap (Nat.le_succ _) fun b o hb' e => ?_) hm'')
      exact (Heap.get?_update_other _ _ (fun h : S = b => hb' (by rw [h]; exact .head _))).trans e
end
section
variable {prog : Program} {w : World} {A : Around} {E : Value → Shared → Prop} {s : Shared}
theorem call_sum2 {x : Value} {c₀ : Int} {t₀ : Tok} {Q : Value → Shared → Prop} (h0 : 0 ≤ c₀ ∧ c₀ < 2 ^ 62)
    (h : wpAny (model prog w) A.in1 (pyIter x) (fun it s₂ => ∃ I fp wr G n P St, ∃ tot val : Nat → Int, it = .ref I ∧ WalksS prog w A.in1 I fp wr G n P St ∧ St 0 s₂ ∧ (∀ b ∈ fp, b < s₂.heap.objs.size) ∧
      tot 0 = c₀ ∧ (∀ i, i < n → tot (i + 1) = tot i + val i) ∧ (∀ i, i ≤ n → 0 ≤ tot i ∧ tot i < 2 ^ 62) ∧ (∀ i, 0 ≤ val i ∧ val i < 2 ^ 62) ∧
      (∀ i v, P i v → ∃ t, v = .int (val i) t) ∧ ∀ s' t', Moved wr G s₂ s' → Q (.int (tot n) t') s') E s) :
    wpAny (model prog w) A (call (.builtin "sum") [x, .int c₀ t₀]) Q E s := by
  refine call_function_tree PySem.F.kind_sum PySem.F.plain_sum PySem.F.entry_sum (args_sum2 _ _) ?_
  unfold Builtin.«sum»
  simp only [List.length_cons, List.length_nil]
  rw [if_neg (by decide)]
  refine wpAny_bind (wpAny_of_eq (show Builtin.Builtins.bindParams "sum" ["start"] 0 ⟨[.int c₀ t₀], []⟩ = pure [some (.int c₀ t₀)] from rfl) ?_)
  refine wpAny_bind (wpAny_mono h (fun it s₂ h₂ => ?_) fun _ _ e => e)
  obtain ⟨I, fp, wr, G, n, P, St, tot, val, rfl, W, hst, hfp, ht0, hstep, hsmall, hv0, hval, hQ⟩ := h₂
  show wpAny _ _ (if fl c₀ = true then _ else _) _ _ _
  rw [if_pos (fits_small h0.1 h0.2)]
  refine wpAny_bind (wpAny_rule (wpAny_bind (wpAny_mkInt (wpAny_bind (wpAny_pure ?_)))))
  simp only [List.forIn_cons, List.forIn_nil]
  refine wpAny_bind (wpAny_bind (wpAny_bind (wpAny_isInstance (T := "int") (b := false) (typeIs_int _ _ _) PySem.sub_int_str ?_)))
  simp only [Bool.false_eq_true, if_false]
  refine wpAny_pure (wpAny_bind (wpAny_bind (wpAny_isInstance (T := "int") (b := false) (typeIs_int _ _ _) PySem.sub_int_bytes ?_)))
  simp only [Bool.false_eq_true, if_false]
  refine wpAny_pure (wpAny_bind (wpAny_bind (wpAny_isInstance (T := "int") (b := false) (typeIs_int _ _ _) PySem.sub_int_bytearray ?_)))
  simp only [Bool.false_eq_true, if_false]
  refine wpAny_pure (wpAny_pure ?_)
  refine wpAny_bind (wpAny_newObj_type ?_)
  have hSf : s₂.heap.objs.size ∉ fp := fun hm => Nat.lt_irrefl _ (hfp _ hm)
  refine wpAny_pure ⟨plainId_quiet PySem.F.plain_sum_loop _, sum_turns W tot val hstep hsmall hv0 hval s₂.heap.objs.size hSf n 0 _ s₂.toks 0 (by (first | lia | omega))
    (W.frame 0 s₂ _ _ hst (Nat.le_succ _) fun b _ o e => Heap.get?_push_of_some _ e) (by rw [ht0]; exact Heap.get?_push_size _ rfl) fun s' t' hm => ?_⟩
  exact hQ s' t' (hm.drop_new (Nat.le_succ _))
end
/-! ## walking over the pile -/
noncomputable abbrev tupO (a b : Value) : Obj := { cls := .type "tuple", data := .seq #[a, b] }
section
variable {prog : Program} {w : World} {A : Around} {E : Value → Shared → Prop} {s : Shared}
theorem iter_pile {K : Frag} {P C dx : Addr} {its : Array Value} {n : Nat} {od : Option Obj} {Q : Value → Shared → Prop} (c : LCls K C) (X : K.In s.heap) (I : InstAt s.heap P (accO C dx its n) C od)
    (hi : findIn K (.ref C) "__iter__" = some (some (.builtin "list.__iter__")))
    (hQ : Q (.ref s.heap.objs.size) { s with heap := s.heap.push { cls := .type "list_iterator", data := .fields #[.ref P, .int 0 0] } }) : wpAny (model prog w) A (pyIter (.ref P)) Q E s := by
  unfold pyIter
  refine wpAny_bind (wpAny_bind (I.type.here ((looks_findIn X hi).here ?_)))
  show wpAny _ A (callSpecialIfBoundUnlessNone? (.ref P) "__iter__" _ >>= _) Q E s
  simp only [callSpecialIfBoundUnlessNone?, bindSpecialIfBound?]
  refine wpAny_bind (wpAny_holding (wpAny_bind (wpAny_bind (wpAny_bind (I.type.here ((looks_findIn X hi).here ?_))))))
  simp only [slot_list_iter.bind]
  have fin : wpAny (model prog w) A (call (.builtin "list.__iter__") [.ref P]) (fun v s' => ∃ x, v = .ref x ∧ s'.TypeIs (.ref x) "list_iterator" ∧ Q (.ref x) s') E s := by
    refine sub_slot c X I (by decide +kernel) (n := "__iter__") (by decide +kernel) (by decide +kernel) entry_list_iter (args_list_iter _) ?_
    show wpAny _ _ (do ret (← newFields "list_iterator" [.ref P, rawInt 0])) _ _ s
    exact wpAny_bind (wpAny_newObj_type (wpAny_pure ⟨_, rfl, _, rfl, ⟨_, Heap.get?_push_size _ rfl, rfl⟩, hQ⟩))
  refine wpAny_bind (wpAny_askSetting (wpAny_ite ?_))
  split
  · refine wpAny_bind (wpAny_pure (wpAny_pure ?_))
    show wpAny _ _ (if (Value.builtin "list.__iter__" == Value.none) = true then _ else (call _ _ >>= _)) _ _ _
    rw [builtin_beq_none, if_neg Bool.false_ne_true]
    refine wpAny_bind (wpAny_mono fin (fun v s' hv => ?_) fun _ _ e => e)
    obtain ⟨x, rfl, hT, h⟩ := hv
    exact wpAny_pure (wpAny_bind (wpAny_specialOf hT slot_listiter_next.lookup (wpAny_pure h)))
  · refine wpAny_tryCatch (wpAny_bind (wpAny_pure (wpAny_pure ?_)))
    show wpAny _ _ (if (Value.builtin "list.__iter__" == Value.none) = true then _ else (call _ _ >>= _)) _ _ _
    rw [builtin_beq_none, if_neg Bool.false_ne_true]
    refine wpAny_bind (wpAny_mono fin (fun v s' hv => ?_) fun _ _ e => e)
    obtain ⟨x, rfl, hT, h⟩ := hv
    exact wpAny_pure (wpAny_bind (wpAny_specialOf hT slot_listiter_next.lookup (wpAny_pure h)))
/-- an object whose data is a row of values -/
noncomputable def SeqAt (h : Heap) (P : Addr) (its : Array Value) : Prop := ∃ o n, h.get? P = some o ∧ o.data = .seq its n
theorem SeqAt.at {h h' : Heap} {P : Addr} {its : Array Value} (x : SeqAt h P its) (hk : ∀ o, h.get? P = some o → h'.get? P = some o) : SeqAt h' P its := let ⟨o, n, a, b⟩ := x; ⟨o, n, hk _ a, b⟩
theorem next_item {it P : Addr} {i : Nat} {its : Array Value} {x : Value} {Q : Option Value → Shared → Prop} (hit : s.heap.IsListIter it P i) (hs : SeqAt s.heap P its) (hx : its[i]? = some x)
    (hQ : ∀ h', h'.IsListIter it P (i + 1) → Heap.SameBut it s.heap h' → Q (some x) { s with heap := h' }) : wpAny (model prog w) A (pyNext (.ref it)) Q E s := by
  have hit0 := hit
  obtain ⟨o, ho, hc, hd⟩ := hit
  obtain ⟨oP, nP, hP, hdP⟩ := hs
  unfold pyNext
  refine wpAny_bind (wpAny_attempt (wpAny_callSpecial?_slot (name := Str.ofString "__next__") hit0.typeIs slot_listiter_next (wpAny_call_entry slot_listiter_next hit0.typeIs entry_listiter_next ?_ (args_listiter_next _))))
  show wpAny _ _ (field (.ref it) 0 >>= _) _ _ s
  refine wpAny_bind (wpAny_field ho hd (x := .ref P) rfl ?_)
  show wpAny _ _ (field (.ref it) 1 >>= _) _ _ s
  refine wpAny_bind (wpAny_field ho hd (x := .int i 0) rfl ?_)
  show wpAny _ _ (seqItems? (.ref P) >>= _) _ _ s
  refine wpAny_bind (wpAny_seqItems hP hdP ?_)
  simp only [Int.toNat_natCast, hx]
  refine wpAny_bind (wpAny_setField ho hd (by simp) (wpAny_pure ⟨x, rfl, wpAny_pure (hQ _ ⟨_, Heap.get?_update_self _ ho (Obj.isFreed_of_fields (Obj.data_mapFields hd _)), (Obj.cls_mapFields ..).trans hc, ?_⟩ (Heap.SameBut.update ..))⟩))
  rw [Obj.data_mapFields hd]; simp [rawInt]
theorem next_end {it P : Addr} {i : Nat} {its : Array Value} {Q : Option Value → Shared → Prop} (hh : A.handled = none) (hit : s.heap.IsListIter it P i) (hs : SeqAt s.heap P its) (hx : its[i]? = none)
    (hQ : ∀ h', Heap.ExtBut it s.heap h' → Q none { s with heap := h' }) : wpAny (model prog w) A (pyNext (.ref it)) Q E s := by
  have hit0 := hit
  obtain ⟨o, ho, hc, hd⟩ := hit
  obtain ⟨oP, nP, hP, hdP⟩ := hs
  unfold pyNext
  refine wpAny_bind (wpAny_attempt (wpAny_callSpecial?_slot (name := Str.ofString "__next__") hit0.typeIs slot_listiter_next (wpAny_call_entry slot_listiter_next hit0.typeIs entry_listiter_next ?_ (args_listiter_next _))))
  show wpAny _ _ (field (.ref it) 0 >>= _) _ _ s
  refine wpAny_bind (wpAny_field ho hd (x := .ref P) rfl ?_)
  show wpAny _ _ (field (.ref it) 1 >>= _) _ _ s
  refine wpAny_bind (wpAny_field ho hd (x := .int i 0) rfl ?_)
  show wpAny _ _ (seqItems? (.ref P) >>= _) _ _ s
  refine wpAny_bind (wpAny_seqItems hP hdP ?_)
  simp only [Int.toNat_natCast, hx]
  refine wpAny_bind (wpAny_rule (wpAny_bind (wpAny_setField ho hd (by simp) ?_)))
  show wpAny _ _ (newExc (.type "StopIteration") [] >>= _) _ _ _
  refine wpAny_bind ?_
  simp only [newExc, newTuple]
  refine wpAny_bind (wpAny_newObj_type ?_ (by size_fits))
  refine wpAny_bind (m := firstArgMember _ _) (wpAny_of_eq (a := Value.none) (by first | rfl | (simp only [firstArgMember]; rfl)) ?_)
  refine wpAny_newObj_type ?_ (by size_fits)
  simp only [raiseNew]
  refine wpAny_bind (wpAny_handled ?_)
  rw [show A.in1.handled = none from hh]
  refine wpAny_bind (wpAny_pure (wpAny_throw ?_))
  refine wpAny_bind (wpAny_isInstance (T := "StopIteration") (b := true) ⟨_, Heap.get?_push_size _ rfl, rfl⟩ isSubtype_stop ?_)
  refine wpAny_pure ?_
  exact hQ _ (((Heap.SameBut.update ..).extBut.push _).push _)
/-- the turns over a row of tuples -/
theorem walk_rows (hh : A.handled = none) (I P : Addr) (hne : P ≠ I) (its : Array Value) (Ts : Nat → Addr) (vals : Nat → Array Value) (hit : ∀ j, j < its.size → its[j]? = some (.ref (Ts j))) (hTI : ∀ j, j < its.size → Ts j ≠ I) :
    WalksU prog w A I (I :: P :: (List.range its.size).map Ts) [I] its.size (fun j v => j < its.size ∧ v = vals j)
      (fun j h => h.IsListIter I P j ∧ SeqAt h P its ∧ ∀ k, k < its.size → h.IsTuple (Ts k) (vals k))
      (fun j T h => (j < its.size ∧ T = Ts j) ∧ h.IsListIter I P (j + 1) ∧ SeqAt h P its ∧ ∀ k, k < its.size → h.IsTuple (Ts k) (vals k)) where
  sub := fun b hb => by simp at hb; simp [hb]
  frame := fun _ _ _ st hk => ⟨st.1.at fun o e => hk I (by simp) o e, st.2.1.at fun o e => hk P (by simp) o e, fun k hk' => (st.2.2 k hk').at fun o e => hk (Ts k) (.tail _ (.tail _ (List.mem_map.mpr ⟨k, List.mem_range.mpr hk', rfl⟩))) o e⟩
  item := fun i s Q E hi st hQ => by
    refine next_item st.1 st.2.1 (x := .ref (Ts i)) (hit i hi) fun h' hit' hs' => ?_
    have tup : ∀ k, k < its.size → h'.IsTuple (Ts k) (vals k) := fun k hk' => (st.2.2 k hk').extBut hs'.extBut (hTI k hk')
    exact hQ (Ts i) (vals i) h' s.toks ⟨hi, rfl⟩ (tup i hi) ⟨⟨hi, rfl⟩, hit', st.2.1.at fun o e => hs'.extBut _ o hne e, tup⟩ fun b o hb e => hs'.extBut b o (fun h => hb (by simp [h])) e
  go := fun _ _ _ _ _ s Q _ hm hQ => wpAny_letOwnedTupleGo_listiter hm.2.1 (hQ s.heap hm.2 fun _ _ _ e => e)
  apart := fun j T _ hm hmem => by
    rcases List.mem_cons.mp hmem with e | e
    · exact hTI j hm.1.1 (hm.1.2 ▸ e)
    · cases e
  done := fun s Q E st hQ => next_end hh st.1 st.2.1 (by simp) fun h' he' => hQ h' s.toks fun b o hb e => he' b o (fun h => hb (by simp [h])) e
  self := fun _ _ _ _ st hQ => wpAny_pyIter_listiter st.1 hQ
end
end Mine
end
section
open PySem PySem.W PySem.Calls PyProof.Rows Builtin Builtin.ObjectAttr
set_option maxRecDepth 100000
set_option maxHeartbeats 8000000
namespace Mine
/-! ## a generator over the pile; its code is noted in the table of the code around, an object of the ledger -/
noncomputable abbrev tabO (ps : Array Value) : Obj := { cls := .none, data := .fields ps }
/-- c is a code object of K with its table at T -/
structure CodeK (K : Frag) (c T : Addr) : Prop where
  at_ : ∃ o vs file tf flags tg inF text tt, K.lookup c = some o ∧ o.cls = .type "code" ∧ o.data = .fields vs ∧ vs[11]? = some (.ref T) ∧ vs.getD 18 .none = .str file tf ∧ vs.getD 7 .none = .int flags tg ∧ vs.getD 9 .none = .bool inF ∧ vs.getD 10 .none = .int text tt
  ne : c ≠ T
theorem CodeK.code {K : Frag} {c T : Addr} {h : Heap} {ps : Array Value} (x : CodeK K c T) (X : K.In h) (ht : h.get? T = some (tabO ps)) (hr : TriplesOk ps.toList) : h.IsCode c T ps ∧ h.TableAt c T ps := by
  obtain ⟨⟨o, vs, file, tf, flags, tg, inF, text, tt, h1, h2, h3, h4, h5, h6, h7, h8⟩, hne⟩ := x
  refine ⟨⟨o, vs, file, tf, flags, tg, inF, text, tt, _, X _ _ h1, h3, ?_, h5, h6, h7, h8, ht, rfl, hr, hne⟩, ⟨o, vs, X _ _ h1, h2, h3, h4⟩, ht⟩
  rw [← Array.getElem?_toList] at h4
  simp [Array.getD_eq_getD_getElem?, ← Array.getElem?_toList, h4]
theorem passing_all (n : Nat) : passing (fun _ => true) n 0 = List.range n := by unfold passing; simp
section
variable {prog : Program} {w : World} {A : Around} {E : Value → Shared → Prop} {s : Shared} {K : Frag} {h₀ : Heap} {L P C dx c T : Addr} {m mg mb : Str → Option Value} {p : Program} {loose : List Str} {mean : ExcName → Option Value} {rest : Led} {its : Array Value} {n : Nat} {od : Obj} {ps : Array Value}
theorem gen_led {env : Env} {elt iter : Expr} {xa xb : Str} {pa pb pt : Pos} {kt : Nat} {scope : Scope} {pos : Pos} {Q : Value → Shared → Prop} {Ts : Nat → Addr} {va vb : Nat → Value} {F' : Nat → Value → Prop}
    (hh : A.handled = none) (hroom : A.depth < recursionLimit)
    (F : Fr h₀ L s.heap m) (X₀ : K.In h₀) (N : News h₀ L s.heap ((T, tabO ps) :: rest)) (To : Top p loose mean mg mb h₀) (G : AllBare s.gens)
    (hcK : CodeK K c T) (htr : TriplesOk ps.toList) (hrest : ∀ q ∈ rest, q.1 ≠ T) (hglob : env.globals = mainGlobals) (hcode : env.code = .ref c)
    (hco : scope.isCoroutine = false) (hclos : closureFor scope env = pure []) (hcell : ∀ y ∈ scope.names, y.2 ≠ .cell) (h0 : scope.names.lookup (".0" : Str) = some NameKind.local)
    (hxa : scope.names.lookup xa = some .local) (hxb : scope.names.lookup xb = some .local) (hab : xa ≠ xb) (hkind : scope.kind = .function)
    (hev : ∀ (Q' E' : Value → Shared → Prop), Q' (.ref P) s → wpAny (model prog w) A (eval iter env) Q' E' s)
    (c0 : LCls K C) (hi : findIn K (.ref C) "__iter__" = some (some (.builtin "list.__iter__"))) (hP : (P, accO C dx its n) ∈ rest) (hd : (dx, od) ∈ rest)
    (hts : ∀ j, j < its.size → its[j]? = some (.ref (Ts j)) ∧ (Ts j, tupO (va j) (vb j)) ∈ rest)
    (helt : ∀ (C' : Addr) (cv : Value) (A' : Around) (E' : Value → Shared → Prop) (i : Nat) (t : Shared) (m₂ : Str → Option Value), A'.handled = none → A'.depth ≤ A.depth + 1 → A'.units ≤ A.units + 8 → i < its.size → Fr h₀ C' t.heap m₂ → m₂ xa = some (va i) → m₂ xb = some (vb i) →
      wpAny (model prog w) A' (eval elt (genEnv scope [] C' cv builtinsNs env)) (fun y s₃ => F' i y ∧ Keeps t s₃) E' t)
    (hQ : ∀ ps' a Kb s₅, TriplesOk ps'.toList → Fr h₀ L s₅.heap m → News h₀ L s₅.heap ((T, tabO ps') :: rest) → AllBare s₅.gens → s₅.os = s.os → L ≤ Kb → (∀ q ∈ (T, tabO ps') :: rest, q.1 ≤ Kb) → Gen prog w A Kb a its.size F' s₅ → Q (.ref a) s₅)
    (hs : ∀ x, genFold iter env x = pure x) :
    wpAny (model prog w) A (eval (.GeneratorExp elt [⟨.Tuple [.Name xa pa, .Name xb pb] kt pt, iter, [], 0⟩] scope pos) env) Q E s := by
  have X := X₀.keeps F.keep
  have I : InstAt s.heap P (accO C dx its n) C (some od) := ⟨(N _ (.tail _ hP)).1, rfl, rfl, (N _ (.tail _ hd)).1⟩
  have hPlt : P < s.heap.objs.size := Heap.lt_size (N _ (.tail _ hP)).1
  have hTlt : T < s.heap.objs.size := Heap.lt_size (N _ (.head _)).1
  have hTs : ∀ j, j < its.size → Ts j < s.heap.objs.size := fun j hj => Heap.lt_size (N _ (.tail _ (hts j hj).2)).1
  have hLlt := F.ns.lt
  obtain ⟨bm, ob, M⟩ := bmod_of_top To
  refine wpAny_GeneratorExp_walksQTD hh hco hclos hcell h0 hxa hxb hab hkind hroom (hev _ _ ?_) hs
  refine iter_pile c0 X I hi ?_
  have up1 : ∀ b o, s.heap.get? b = some o → (s.heap.push { cls := .type "list_iterator", data := .fields #[.ref P, .int 0 0] }).get? b = some o := fun b o e => Heap.get?_push_of_some _ e
  refine ⟨(To.nolimit.keeps F.keep).push _, ?_⟩
  -- whatever the table says, a code comes back and nothing else is written
  have cont : ∀ (ps' : Array Value) (code : Value) (h₃ : Heap) (tk : Nat), TriplesOk ps'.toList → h₃.get? T = some (tabO ps') → (∀ b o, b ≠ T → (s.heap.push { cls := .type "list_iterator", data := .fields #[.ref P, .int 0 0] }).get? b = some o → h₃.get? b = some o) → s.heap.objs.size + 1 ≤ h₃.objs.size →
      wpAny (model prog w) A (builtinsFor env.globals env.builtins) (fun bi s₄ =>
        ∃ I fp wr n₀ Pt St₀ Mid pz F, (Value.ref s.heap.objs.size) = .ref I ∧ (∀ A' : Around, A'.handled = none → WalksU prog w A' I fp wr n₀ Pt St₀ Mid) ∧ (∀ i vals, Pt i vals → ∃ va vb, vals = #[va, vb]) ∧ St₀ 0 s₄.heap ∧ (∀ b ∈ fp, b < s₄.heap.objs.size) ∧ s₄.heap.NoLimit ∧ cStatics ∉ wr ∧
          (∀ href : Heap, (∀ b o, s₄.heap.get? b = some o → href.get? b = some o) →
            QuietGenTD prog w (genEnv scope [] s₄.heap.objs.size code bi env) xa xb [] elt (List.range s₄.heap.objs.size) wr Pt pz F href (A.depth + 1) (A.units + 8)) ∧
          (∀ a h₅ tk gs, gs.bare = true → s₄.heap.objs.size < a → h₅.objs.size = a + 1 → (∀ b o, s₄.heap.get? b = some o → h₅.get? b = some o) →
            WalksS prog w A.in4 a (a :: s₄.heap.objs.size :: List.range s₄.heap.objs.size) (s₄.heap.objs.size :: wr) (GenOnlyQ s₄.gens.size) (passing pz n₀ 0).length
              (fun j y => ∃ i, (passing pz n₀ 0)[j]? = some i ∧ F i y) (GenAt prog w A.in4 a s₄.gens.size s₄.heap.objs.size (List.range s₄.heap.objs.size) wr pz n₀ F) →
            GenAt prog w A.in4 a s₄.gens.size s₄.heap.objs.size (List.range s₄.heap.objs.size) wr pz n₀ F 0 { s₄ with gens := s₄.gens.push gs, toks := tk, heap := h₅ } →
            Q (.ref a) { s₄ with gens := s₄.gens.push gs, toks := tk, heap := h₅ })) E { s with heap := h₃, toks := tk } := by
    intro ps' code h₃ tk htr' hT' hk₃ hsz₃
    have hlt₃ : s.heap.objs.size < h₃.objs.size := Nat.lt_of_succ_le hsz₃
    have kk : ∀ b o, b ≠ T → s.heap.get? b = some o → h₃.get? b = some o := fun b o hb e => hk₃ b o hb (up1 b o e)
    have hT0 : h₀.get? T = none := (N _ (.head _)).2.2
    have k₀ : ∀ b o, h₀.get? b = some o → h₃.get? b = some o := fun b o e => kk b o (fun q => by rw [q, hT0] at e; cases e) (F.keep b o e)
    have F₃ : Fr h₀ L h₃ m := ⟨F.ns.at' fun o e => kk _ o (Ne.symm (N _ (.head _)).2.1) e, k₀, F.above⟩
    have N₃ : News h₀ L h₃ ((T, tabO ps') :: rest) := fun q hq => by
      rcases List.mem_cons.mp hq with rfl | hq
      · exact ⟨hT', (N _ (.head _)).2⟩
      · exact ⟨kk _ _ (hrest q hq) (N _ (.tail _ hq)).1, (N _ (.tail _ hq)).2⟩
    have M₃ : BMod h₃ mainGlobals mg bm ob := M.keeps k₀
    have hl₃ : h₃.NoLimit := To.nolimit.keeps k₀
    rw [hglob]
    refine wpAny_builtinsFor M₃.ns M₃.name M₃.ne M₃.obj M₃.cls M₃.dict M₃.data ?_
    have W : ∀ A' : Around, A'.handled = none → WalksU prog w A' s.heap.objs.size (s.heap.objs.size :: P :: (List.range its.size).map Ts) [s.heap.objs.size] its.size _ _ _ := fun A' hA =>
      walk_rows hA s.heap.objs.size P (Nat.ne_of_lt hPlt) its Ts (fun j => #[va j, vb j]) (fun j hj => (hts j hj).1) fun j hj => Nat.ne_of_lt (hTs j hj)
    have hclt : cStatics < s.heap.objs.size := let ⟨_, hn, _⟩ := (To.nolimit.keeps F.keep); hn.lt
    refine ⟨s.heap.objs.size, _, [s.heap.objs.size], its.size, _, _, _, fun _ => true, F', rfl, W, fun i vals hv => ⟨_, _, hv.2⟩, ?_, ?_, hl₃, ?_, ?_, ?_⟩
    · refine ⟨⟨_, hk₃ _ _ (Nat.ne_of_gt hTlt) (Heap.get?_push_size _ rfl), rfl, rfl⟩, ⟨_, _, (N₃ _ (.tail _ hP)).1, rfl⟩, fun k hk => ⟨_, (N₃ _ (.tail _ (hts k hk).2)).1, rfl, 0, rfl⟩⟩
    · intro b hb
      show b < h₃.objs.size
      rcases List.mem_cons.mp hb with rfl | hb
      · exact hlt₃
      · rcases List.mem_cons.mp hb with rfl | hb
        · exact Nat.lt_trans hPlt hlt₃
        · obtain ⟨k, hk, rfl⟩ := List.mem_map.mp hb
          exact Nat.lt_trans (hTs k (List.mem_range.mp hk)) hlt₃
    · intro hb
      rcases List.mem_cons.mp hb with e | hb
      · exact Nat.ne_of_lt hclt e
      · cases hb
    · intro href hhref
      have inB : ∀ (t : Shared) m₂, t.heap.Ns h₃.objs.size m₂ → (∀ b ∈ List.range h₃.objs.size, b ∉ [s.heap.objs.size] → ∀ o, href.get? b = some o → t.heap.get? b = some o) → Fr h₀ h₃.objs.size t.heap m₂ := fun t m₂ hn hkp =>
        ⟨hn, fun b o e => hkp b (List.mem_range.mpr (Heap.lt_size (k₀ b o e))) (fun hm => by
            have h1 : b = s.heap.objs.size := by simpa using hm
            exact Nat.ne_of_lt (Heap.lt_size (F.keep b o e)) h1) o (hhref b o (k₀ b o e)), Nat.le_trans F.above (Nat.le_of_lt (Nat.lt_trans hLlt hlt₃))⟩
      refine ⟨fun A' E' i va' vb' t m₂ hA hD hU hPt hn hma hmb hkp => ?_, fun A' E' i va' vb' t m₂ hA hD hU hPt _ hn hma hmb hkp => ?_⟩
      · simp only [List.forIn_nil]
        exact wpAny_pure ⟨rfl, _, _, rfl, fun _ _ e => e⟩
      · obtain ⟨hlt, hv⟩ := hPt
        have e1 : va' = va i ∧ vb' = vb i := by simpa using hv
        exact helt _ code A' E' i t m₂ hA hD hU hlt (inB t m₂ hn hkp) (by rw [hma, e1.1]) (by rw [hmb, e1.2])
    · intro a h₅ tk₅ gs hgb hag hsz₅ hk₅ WS hat
      rw [passing_all, List.length_range] at WS
      have conv : ∀ i v, i < its.size → (∃ j, (List.range its.size)[i]? = some j ∧ F' j v) → F' i v := fun i v hi' hP' => by
        obtain ⟨j, hj, hF⟩ := hP'
        rw [List.getElem?_range hi'] at hj
        cases hj; exact hF
      have WS' : WalksS prog w A.in4 a (a :: h₃.objs.size :: List.range h₃.objs.size) (h₃.objs.size :: [s.heap.objs.size]) (GenOnlyQ s.gens.size) its.size F' _ :=
        { WS with item := fun i s' Q' E' hi' st hQ' => WS.item i s' Q' E' hi' st fun v s'' hP' st' hm => hQ' v s'' (conv i v hi' hP') st' hm }
      refine hQ ps' a (s.heap.objs.size - 1) _ htr' (F₃.keeps hk₅) (fun q hq => ⟨hk₅ _ _ (N₃ q hq).1, (N₃ q hq).2⟩) (G.push hgb) rfl (Nat.le_sub_one_of_lt hLlt) (fun q hq => ?_) ⟨_, _, _, _, WS', hat, (fun i s' st => st.1.typeIs), List.mem_cons_self, ?_, ?_⟩
      · have : q.1 < s.heap.objs.size := by
          rcases List.mem_cons.mp hq with rfl | hq
          · exact hTlt
          · exact Heap.lt_size (N _ (.tail _ hq)).1
        exact Nat.le_sub_one_of_lt this
      · intro b hb
        show b < h₅.objs.size
        rw [hsz₅]
        rcases List.mem_cons.mp hb with rfl | hb
        · exact Nat.lt_succ_self _
        · rcases List.mem_cons.mp hb with rfl | hb
          · exact Nat.lt_succ_of_lt hag
          · exact Nat.lt_succ_of_lt (Nat.lt_trans (List.mem_range.mp hb) hag)
      · intro b hb
        rcases List.mem_cons.mp hb with rfl | hb
        · show s.heap.objs.size - 1 < h₃.objs.size
          exact Nat.lt_of_le_of_lt (Nat.sub_le _ _) hlt₃
        · have : b = s.heap.objs.size := by simpa using hb
          rw [this]
          exact Nat.sub_lt (Nat.lt_of_le_of_lt (Nat.zero_le _) hLlt) Nat.one_pos
  obtain ⟨hIC, hTA⟩ := hcK.code (X.keeps up1) (up1 _ _ (N _ (.head _)).1) htr
  cases hf : codeAmong pos ps.toList with
  | some c' => exact wpAny_genexprCode_hit hcode hIC hf (cont ps c' _ _ htr (up1 _ _ (N _ (.head _)).1) (fun _ _ _ e => e) (by rw [Heap.size_push]; exact Nat.le_refl _))
  | none =>
    refine wpAny_genexprCodeX hcode hIC hTA hf fun c' h₃ tk₃ hx₃ hge hlt hcode₃ _ htab₃ _ => ?_
    have hge' : s.heap.objs.size + 1 ≤ c' := by have := hge; rwa [Heap.size_push] at this
    refine cont _ _ h₃ tk₃ ?_ htab₃.2 (fun b o hb e => hx₃ b o hb e) (Nat.le_of_lt (Nat.lt_of_le_of_lt hge' hlt))
    rw [Array.toList_append]
    exact TriplesOk_snoc _ _ _ _ htr
end
end Mine
end
section
open PySem PySem.W PySem.Calls PyProof.Rows Builtin Builtin.ObjectAttr
set_option maxRecDepth 100000
set_option maxHeartbeats 8000000
namespace Mine
/-! ## the pile in the ledger -/
structure Pc where
  T : Addr
  f : Str
  tf : Tok
  g : Str
  tg : Tok
noncomputable def Pc.ent (p : Pc) : Addr × Obj := (p.T, tupO (.str p.f p.tf) (.str p.g p.tg))
noncomputable def refs (ts : List Pc) : List Value := ts.map fun p => .ref p.T
noncomputable abbrev sizeD (w : World) (sz : Int) (tk tz : Tok) : Obj := dictOf [⟨PyData.keyHash w.params "_initial_size", .str "_initial_size" tk, .int sz tz⟩] 1
/-- where the pile lies -/
structure At where
  P : Addr
  dx : Addr
  sz : Int
  tk : Tok
  tz : Tok
noncomputable def pile (w : World) (C : Addr) (a : At) (ts : List Pc) (n : Nat) : Led := (a.P, accO C a.dx (refs ts).toArray n) :: (a.dx, sizeD w a.sz a.tk a.tz) :: ts.map Pc.ent
theorem refs_app (ts us : List Pc) : refs (ts ++ us) = refs ts ++ refs us := by simp [refs]
theorem refs_len (ts : List Pc) : (refs ts).length = ts.length := by simp [refs]
theorem DN.perm {l l' : Led} (D : DN l) (h : l.Perm l') : DN l' := (List.Perm.map Prod.fst h).nodup_iff.mp D
theorem News.perm {h₀ h : Heap} {L : Addr} {l l' : Led} (N : News h₀ L h l) (p : l.Perm l') : News h₀ L h l' := fun q hq => N q (p.mem_iff.mpr hq)
theorem pile_push {w : World} {C : Addr} {a : At} {ts : List Pc} {n : Nat} {p : Pc} :
    (p.ent :: (a.P, accO C a.dx (refs ts ++ [Value.ref p.T]).toArray n) :: (a.dx, sizeD w a.sz a.tk a.tz) :: ts.map Pc.ent).Perm (pile w C a (ts ++ [p]) n) := by
  unfold pile
  rw [refs_app, List.map_append]
  show (p.ent :: ((a.P, accO C a.dx (refs ts ++ [Value.ref p.T]).toArray n) :: (a.dx, sizeD w a.sz a.tk a.tz) :: ts.map Pc.ent)).Perm ((a.P, accO C a.dx (refs ts ++ [Value.ref p.T]).toArray n) :: (a.dx, sizeD w a.sz a.tk a.tz) :: (ts.map Pc.ent ++ [p.ent]))
  exact (List.perm_append_singleton p.ent ((a.P, accO C a.dx (refs ts ++ [Value.ref p.T]).toArray n) :: (a.dx, sizeD w a.sz a.tk a.tz) :: ts.map Pc.ent)).symm
theorem pile_pop {w : World} {C : Addr} {a : At} {ini : List Pc} {n : Nat} {p : Pc} : ((a.P, accO C a.dx (refs ini).toArray n) :: (a.dx, sizeD w a.sz a.tk a.tz) :: (ini ++ [p]).map Pc.ent).Perm (p.ent :: pile w C a ini n) := by
  unfold pile
  rw [List.map_append]
  exact List.perm_append_singleton p.ent ((a.P, accO C a.dx (refs ini).toArray n) :: (a.dx, sizeD w a.sz a.tk a.tz) :: ini.map Pc.ent)
section
variable {prog : Program} {w : World} {K : Frag} {p : Program} {f cc cda : Addr} {d u : Nat} {vs : List Value} {news : Led} {post : Value → Led → Prop}
  {name qual : Str} {params : Arguments} {body : List Stmt} {scope : Scope} {dV kV doc pm ct oc : Value} {an od : Option Addr} {osl : Array (Option Value)} {binds : List (Str × Value)}
/-- a def that closes over __class__ -/
theorem does_ofS (ho : K.lookup f = some ⟨oc, od, .func (ksFn name qual params body scope dV kV doc pm an (.ref cda) ct cc), osl⟩) (hcd : codeIn K (.ref cda) qual = true)
    (hbind : ∀ (s : Shared), K.In s.heap → BindsTo s (ksFn name qual params body scope dV kV doc pm an (.ref cda) ct cc) ⟨vs, []⟩ binds) (hloc : ∀ y ∈ binds, scope.names.lookup y.1 = some .local)
    (hd : 1 ≤ d) (_hu : 3 ≤ u)
    (h : ∀ (loose : List Str) (mean : ExcName → Option Value) (mg mb : Str → Option Value) (dp un : Nat) (gd : Option (List Code)) (outer : List Env) (A₀ : Around) (base g : Heap) (L' : Addr) (s₁ : Shared) (rest : Led),
      Below A₀ base outer g → Fr g L' s₁.heap (fun y => binds.reverse.lookup y) → K.In g → News g L' s₁.heap (news ++ rest) → Top p loose mean mg mb g → AllBare s₁.gens → DN (news ++ rest) → AllLt L' (news ++ rest) →
      dp + d < recursionLimit + 1 → un + u < cLine + 3 →
      PySem.wpAt (model prog w) (ktrTop dp un gd qual scope L' f (.ref cda) [("__class__", cc)] outer) (.func body (ksEnv qual scope L' f (.ref cda) cc)) (execs body (ksEnv qual scope L' f (.ref cda) cc)) (BodyPost g L' s₁.os rest post) (fun _ _ => False) s₁)
    (hcell : ∀ x ∈ scope.names, x.2 ≠ .cell) (hco : scope.isCoroutine = false) (hgen : scope.isGenerator = false) (hk : scope.kind = .function) : Does prog w K p (.ref f) d u vs news post := by
  intro loose mean mg mb dp un gd cn cs a ccd cl outer A₀ base h₀ L m s rest Q E B F X N T hkc G D hdp hun hret
  refine wpAny_call ?_
  refine ks_code_super B F X N T rfl rfl hkc ho hcd (show dp < _ by (first | lia | omega)) (hbind s (X.keeps F.keep)) hloc (fun g L' h₁ FG F' N' B' X' T' l => ?_) hcell hco hgen hk
  refine ks_wpAt_mono (h loose mean mg mb (dp + 1) (un + 3) gd _ _ base g L' _ rest B' F' X' N' T' G D (allLt_of l) (by (first | lia | omega)) (by (first | lia | omega))) (fun fl s' hb => ?_) (fun _ _ e => e.elim)
  obtain ⟨m', news', F2, N2, G2, ho2, D2, hp⟩ := hb
  exact leaveK_ F2 N2 fun F3 N3 => hret _ s' news' F3 N3 G2 ho2 D2 hp
end
end Mine
end
section
open PySem PySem.W PySem.Calls PyProof.Rows
namespace Mine
/-! ## rearranged ledgers -/
open Classical in
noncomputable def one (q p : Addr × Obj) : Nat := if p = q then 1 else 0
noncomputable def cnt (q : Addr × Obj) : Led → Nat
  | [] => 0
  | p :: l => one q p + cnt q l
theorem cnt_nil (q : Addr × Obj) : cnt q [] = 0 := rfl
theorem cnt_cons (q p : Addr × Obj) (l : Led) : cnt q (p :: l) = one q p + cnt q l := rfl
theorem cnt_app (q : Addr × Obj) : ∀ (l l' : Led), cnt q (l ++ l') = cnt q l + cnt q l'
  | [], l' => by simp [cnt]
  | p :: l, l' => by simp only [List.cons_append, cnt, cnt_app q l l']; (first | lia | omega)
theorem cnt_pos {q : Addr × Obj} : ∀ {l : Led}, 0 < cnt q l → ∃ a b, l = a ++ q :: b
  | [], h => by simp [cnt] at h
  | p :: l, h => by
    by_cases e : p = q
    · subst e; exact ⟨[], l, rfl⟩
    · have : 0 < cnt q l := by simp only [cnt, one, if_neg e] at h; (first | lia | omega)
      obtain ⟨a, b, rfl⟩ := cnt_pos this
      exact ⟨p :: a, b, rfl⟩
theorem perm_of_cnt : ∀ {l l' : Led}, (∀ q, cnt q l = cnt q l') → l.Perm l'
  | [], l', h => by
    cases l' with
    | nil => exact .nil
    | cons p r => have := h p; simp [cnt, one] at this; (first | lia | omega)
  | p :: l, l', h => by
    have hp : 0 < cnt p l' := by rw [← h p]; simp [cnt, one]; (first | lia | omega)
    obtain ⟨a, b, rfl⟩ := cnt_pos hp
    refine ((perm_of_cnt (l := l) (l' := a ++ b) fun q => ?_).cons p).trans List.perm_middle.symm
    have := h q
    simp only [cnt_cons, cnt_app] at this ⊢
    (first | lia | omega)
theorem LoopSt.perm {h₀ : Heap} {L : Addr} {os : OsState} {s : Shared} {m : Str → Option Value} {l l' : Led} (S : LoopSt h₀ L os s m l) (h : l.Perm l') : LoopSt h₀ L os s m l' := ⟨S.fr, Mine.News.perm S.nw h, S.bare, S.os, S.dn.perm h⟩
theorem DN.more {T : Addr} {o : Obj} {l : Led} (D : DN l) (h : AllLt T l) : DN ((T, o) :: l) := dn_cons (AllLt.ne h (Nat.le_refl _)) D
/-- the entries that a turn lays down are kept behind the others -/
theorem sub_dn {l l' : Led} (D : DN l) (h : ∃ r, l.Perm (r ++ l')) : DN l' := by
  obtain ⟨r, h⟩ := h
  have := D.perm h
  unfold DN at this ⊢
  rw [List.map_append, List.nodup_append] at this
  exact this.2.1
theorem sub_nw {h₀ h : Heap} {L : Addr} {l l' : Led} (N : News h₀ L h l) (hr : ∃ r, l.Perm (r ++ l')) : News h₀ L h l' := by
  obtain ⟨r, hr⟩ := hr
  exact fun q hq => N q (hr.mem_iff.mpr (List.mem_append_right _ hq))
theorem mul_01 {x : Str} {n : Int} (h : n = 0 ∨ n = 1) : Txt.mul x n = Str.empty ∨ Txt.mul x n = x := by
  rcases h with rfl | rfl
  · exact .inl rfl
  · exact .inr (by simp [Txt.mul])
theorem tup_pair {prog : Program} {w : World} {A : Around} {E : Value → Shared → Prop} {s : Shared} {h₀ : Heap} {env : Env} {x y : Str} {px py pos : Pos} {k : Nat} {m : Str → Option Value} {led : Led} {T : Addr} {oT : Obj} {a b : Value} {Q : Unit → Shared → Prop} (hh : A.handled = none) (hx : env.kindOf x = some .local) (hy : env.kindOf y = some .local) (hk : env.scope.kind = .function)
    (F : Fr h₀ env.locals s.heap m) (N : News h₀ env.locals s.heap led) (hT : (T, oT) ∈ led) (hc : oT.cls = .type "tuple") (hd : ∃ n, oT.data = .seq #[a, b] n)
    (h : ∀ h' tk, Fr h₀ env.locals h' (fun z => if z = y then some b else if z = x then some a else m z) → News h₀ env.locals h' led → Q () { s with heap := h', toks := tk }) :
    wpAny (model prog w) A (assign (.Tuple [.Name x px, .Name y py] k pos) env (.ref T)) Q E s := by
  refine wpAny_assign_Tuple hh ⟨oT, (N _ hT).1, hc, hd⟩ rfl rfl fun h' he => ?_
  have up : ∀ b o, s.heap.get? b = some o → h'.get? b = some o := fun b o e => he b o (Nat.ne_of_lt (Heap.lt_size e)) e
  have F₁ := F.keeps up
  have N₁ := N.grown up
  show wpAny _ A (assignInOrder [assign (.Name x px) env, assign (.Name y py) env] [a, b]) Q _ _
  refine wpAny_assignInOrder_more (wpAny_assign_Name (wpAny_storeName_local hx F₁.ns (fun h₂ hn hs => ?_) (by rw [hk]; rfl)))
  refine wpAny_assignInOrder_more (wpAny_assign_Name (wpAny_storeName_local hy hn (fun h₃ hn' hs' => wpAny_assignInOrder_none ?_) (by rw [hk]; rfl)))
  exact h _ _ ((F₁.set hn hs).set hn' hs') ((N₁.set hs).set hs')
theorem st_cell {M : Model} {A : Around} {E : Value → Shared → Prop} {s : Shared} {h₀ : Heap} {L a c : Addr} {m : Str → Option Value} {name : Str} {scope : Scope} {cd v : Value} {v₀ : Option Value} {x : Str} {Q : Unit → Shared → Prop} {pre post : Led} {o : Obj} {os : OsState} (S : LoopSt h₀ L os s m (pre ++ (c, o) :: post)) (hx : (envOfC name scope L a cd).kindOf x = some .cell) (hc : (cellsFrom (L + 1) scope.names []).lookup x = some c) (hd : o.data = .cell v₀) (hk : scope.kind = .function)
    (h : ∀ h' o', o'.data = .cell (some v) → LoopSt h₀ L os { s with heap := h' } m (pre ++ (c, o') :: post) → Q () { s with heap := h' }) : wpAny M A (storeName (envOfC name scope L a cd) x v) Q E s := by
  have hmem := S.nw (c, o) (List.mem_append_right _ (.head _))
  refine wpAny_storeName_cell hk hx hc ⟨o, hmem.1, hd⟩ fun h' hv hs => ?_
  obtain ⟨o', ho', hd'⟩ := hv
  exact h h' o' hd' (S.put hs ho' s.toks)
theorem nm_cell {M : Model} {A : Around} {E : Value → Shared → Prop} {s : Shared} {h₀ : Heap} {L a c : Addr} {name : Str} {scope : Scope} {cd v : Value} {x : Str} {pos : Pos} {Q : Value → Shared → Prop} {news : Led} {o : Obj} (hx : (envOfC name scope L a cd).kindOf x = some .cell) (hc : (cellsFrom (L + 1) scope.names []).lookup x = some c) (hk : scope.kind = .function) (hb : (x == ("__debug__" : Str)) = false) (N : News h₀ L s.heap news) (hm : (c, o) ∈ news) (hd : o.data = .cell (some v)) (h : Q v s) : wpAny M A (eval (.Name x pos) (envOfC name scope L a cd)) Q E s :=
  nameX_C (cn := name) (cs := scope) (L := L) (a := a) (ccd := cd) N hc hm hd h hk hx hb
theorem nm_C {M : Model} {A : Around} {E : Value → Shared → Prop} {s : Shared} {h₀ : Heap} {L a : Addr} {m : Str → Option Value} {name : Str} {scope : Scope} {cd v : Value} {x : Str} {pos : Pos} {Q : Value → Shared → Prop} (hk : scope.kind = .function) (hx : (envOfC name scope L a cd).kindOf x = some .local) (hd : (x == ("__debug__" : Str)) = false) (F : Fr h₀ L s.heap m) (hv : m x = some v) (h : Q v s) : wpAny M A (eval (.Name x pos) (envOfC name scope L a cd)) Q E s :=
  wpAny_Name (wpAny_loadName_local hk hx F.ns hv h) hd
/-! ## contracts of what reads old objects -/
noncomputable def DoesO (prog : Program) (w : World) (K : Frag) (p : Program) (f : Value) (d u : Nat) (vs : List Value) (old news : Led) (post : Value → Led → Prop) : Prop :=
  ∀ (loose : List Str) (mean : ExcName → Option Value) (mg mb : Str → Option Value) (dp un : Nat) (gd : Option (List Code)) (cn : Str) (cs : Scope) (a : Addr) (ccd : Value) (cl : List (Str × Addr)) (outer : List Env) (A₀ : Around) (base h₀ : Heap) (L : Addr) (m : Str → Option Value) (s : Shared) (rest : Led) (Q E : Value → Shared → Prop),
    Below A₀ base outer h₀ → Fr h₀ L s.heap m → K.In h₀ → (∀ q ∈ old, h₀.get? q.1 = some q.2) → News h₀ L s.heap (news ++ rest) → Top p loose mean mg mb h₀ → cs.kind = .function → AllBare s.gens → DN (news ++ rest) →
      dp + d < recursionLimit → un + u < cLine → (∀ v (s' : Shared) (news' : Led), Fr h₀ L s'.heap m → News h₀ L s'.heap (news' ++ rest) → AllBare s'.gens → s'.os = s.os → DN (news' ++ rest) → post v news' → Q v s') →
      wpAny (model prog w) (ktrTop dp un gd cn cs L a ccd cl outer) (call f vs) Q E s
theorem does_ofO {prog : Program} {w : World} {K : Frag} {p : Program} {f : Addr} {d u : Nat} {vs : List Value} {old news : Led} {post : Value → Led → Prop}
    {name qual : Str} {params : Arguments} {body : List Stmt} {scope : Scope} {dV kV doc pm cdv ct oc : Value} {an od : Option Addr} {osl : Array (Option Value)} {binds : List (Str × Value)}
    (ho : K.lookup f = some ⟨oc, od, .func (fnOf name qual params body scope dV kV doc pm an cdv ct), osl⟩) (hcd : codeIn K cdv qual = true)
    (hbind : ∀ (s : Shared), K.In s.heap → BindsTo s (fnOf name qual params body scope dV kV doc pm an cdv ct) ⟨vs, []⟩ binds) (hloc : ∀ y ∈ binds, scope.names.lookup y.1 = some .local)
    (hd : 1 ≤ d) (_hu : 3 ≤ u)
    (h : ∀ (loose : List Str) (mean : ExcName → Option Value) (mg mb : Str → Option Value) (dp un : Nat) (gd : Option (List Code)) (outer : List Env) (A₀ : Around) (base g : Heap) (L' : Addr) (s₁ : Shared) (rest : Led),
      Below A₀ base outer g → Fr g L' s₁.heap (fun y => binds.reverse.lookup y) → K.In g → (∀ q ∈ old, g.get? q.1 = some q.2) → News g L' s₁.heap (news ++ rest) → Top p loose mean mg mb g → AllBare s₁.gens → DN (news ++ rest) → AllLt L' (news ++ rest) →
      dp + d < recursionLimit + 1 → un + u < cLine + 3 →
      wpAny (model prog w) (ktrTop dp un gd qual scope L' f cdv [] outer) (execs body (envX qual scope L' f cdv [])) (BodyPost g L' s₁.os rest post) (fun _ _ => False) s₁)
    (hcell : ∀ x ∈ scope.names, x.2 ≠ .cell) (hco : scope.isCoroutine = false) (hgen : scope.isGenerator = false) (hk : scope.kind = .function) : DoesO prog w K p (.ref f) d u vs old news post := by
  intro loose mean mg mb dp un gd cn cs a ccd cl outer A₀ base h₀ L m s rest Q E B F X O N T hkc G D hdp hun hret
  refine wpAny_call ?_
  refine callX_plain (cl := []) B F N T.nolimit rfl rfl hkc ((X.keeps F.keep) _ _ ho) rfl (codeRec_of (X.keeps F.keep) hcd) (show dp < _ by (first | lia | omega)) (hbind s (X.keeps F.keep)) hloc (fun g L' h₁ FG F' N' B' st l => ?_) hcell hco hgen hk
  refine wpAny_mono (h loose mean mg mb (dp + 1) (un + 3) gd _ _ base g L' _ rest B' F' (X.keeps st) (fun q hq => st _ _ (O q hq)) N' (T.keeps st) G D (allLt_of l) (by (first | lia | omega)) (by (first | lia | omega))) (fun fl s' hb => ?_) (fun _ _ e => e.elim)
  obtain ⟨m', news', F2, N2, G2, ho2, D2, hp⟩ := hb
  exact leaveK_ F2 N2 fun F3 N3 => hret _ s' news' F3 N3 G2 ho2 D2 hp
end Mine
end
section
open PySem PySem.W PySem.Calls PyProof.Rows Builtin Builtin.ObjectAttr
set_option maxRecDepth 100000
set_option maxHeartbeats 8000000
namespace Mine
theorem get_md : typeLookup (.type "method_descriptor") "__get__" = pure (some (.builtin "method_descriptor.__get__")) := slot_md_get.lookup
theorem get_wd : typeLookup (.type "wrapper_descriptor") "__get__" = pure (some (.builtin "wrapper_descriptor.__get__")) := slot_wd_get.lookup
section
variable {prog : Program} {w : World} {A : Around} {E : Value → Shared → Prop} {s : Shared} {h₀ : Heap} {L : Addr} {m : Str → Option Value} {news news' : Led} {K : Frag} {x C D so q dx : Addr} {ox : Obj} {odx : Option Obj} {name : Str} {pl : Sem Bool} {Q : Value × List Value → Shared → Prop}
theorem sup_led {id gid T BT : String} (F : Fr h₀ L s.heap m) (X₀ : K.In h₀) (N : News h₀ L s.heap news) (hso : (so, ks_superObj D x C) ∈ news) (I : InstAt s.heap x ox C odx) (c : LCls K C) (ho : nsIn K cStatics "thirdparty.any" = some none)
    (hm : ks_superIn K C D name = some (some (.builtin id))) (hn : (name == ("__class__" : Str)) = false) (hty : typeOf (.builtin id) = pure (.type T)) (hg : typeLookup (.type T) "__get__" = pure (some (.builtin gid)))
    (hcall : ∀ (h : Heap) (g : Array GenState) (d : Drawn) (os : OsState) (t : Nat) (A' : Around) (Q' E' : Value → Shared → Prop), Looks (model prog w) h (typeOf (.ref x)) (.ref C) → Looks (model prog w) h (isSubtype (.ref C) (.type "list")) true →
      Q' (.ref h.objs.size) ⟨h.push (boundO BT (.builtin id) (.ref x)), g, d, t, os⟩ → wpAny (model prog w) A' (call (.builtin gid) [.builtin id, .ref x, .ref C]) Q' E' ⟨h, g, d, t, os⟩)
    (h : ∀ q h', Fr h₀ L h' m → News h₀ L h' ((q, boundO BT (.builtin id) (.ref x)) :: news) → AllLt q news → Q (.ref q, []) { s with heap := h', toks := s.toks + 1 }) : wpAny (model prog w) A (getMethod (.ref so) name pl) Q E s := by
  have X : K.In s.heap := X₀.keeps F.keep
  obtain ⟨hh, g, d, t, os⟩ := s
  cases hc : clsIn K C with
  | none => unfold ks_superIn at hm; rw [hc] at hm; cases hm
  | some cd =>
    unfold ks_superIn at hm
    rw [hc] at hm
    refine sup_getMethod (N _ hso).1 (looks_opaque X ho) (l₀ := cd.mro) (fun A Q E s k q => wpAny_bind ((looks_clsIn X hc) A _ E s k (wpAny_pure q))) rfl X hm hty hg (ks_ne X I hc) hn (fun t' A' Q' E' hq => hcall hh g d os t' A' Q' E' I.type (looks_mroIn X c.sub) hq) ?_
    obtain ⟨F', N', l'⟩ := ks_newsPush (s := ⟨hh, g, d, t, os⟩) (o := boundO BT (.builtin id) (.ref x)) F N rfl (Heap.get?_push_at rfl rfl) (fun b o e => Heap.get?_push_of_some _ e)
    exact h _ _ F' N' (allLt_of l')
theorem sup_len (F : Fr h₀ L s.heap m) (X₀ : K.In h₀) (N : News h₀ L s.heap news) (hso : (so, ks_superObj D x C) ∈ news) (I : InstAt s.heap x ox C odx) (c : LCls K C) (ho : nsIn K cStatics "thirdparty.any" = some none)
    (hm : ks_superIn K C D "__len__" = some (some (.builtin "list.__len__")))
    (h : ∀ q h', Fr h₀ L h' m → News h₀ L h' ((q, boundO "method-wrapper" (.builtin "list.__len__") (.ref x)) :: news) → AllLt q news → Q (.ref q, []) { s with heap := h', toks := s.toks + 1 }) : wpAny (model prog w) A (getMethod (.ref so) "__len__" pl) Q E s :=
  sup_led F X₀ N hso I c ho hm (by decide) type_llen get_wd (fun _ _ _ _ _ _ _ _ a b e => call_get_len a b e) h
theorem sup_init (F : Fr h₀ L s.heap m) (X₀ : K.In h₀) (N : News h₀ L s.heap news) (hso : (so, ks_superObj D x C) ∈ news) (I : InstAt s.heap x ox C odx) (c : LCls K C) (ho : nsIn K cStatics "thirdparty.any" = some none)
    (hm : ks_superIn K C D "__init__" = some (some (.builtin "list.__init__")))
    (h : ∀ q h', Fr h₀ L h' m → News h₀ L h' ((q, boundO "method-wrapper" (.builtin "list.__init__") (.ref x)) :: news) → AllLt q news → Q (.ref q, []) { s with heap := h', toks := s.toks + 1 }) : wpAny (model prog w) A (getMethod (.ref so) "__init__" pl) Q E s :=
  sup_led F X₀ N hso I c ho hm (by decide) type_linit get_wd (fun _ _ _ _ _ _ _ _ a b e => call_get_init a b e) h
theorem sup_pop (F : Fr h₀ L s.heap m) (X₀ : K.In h₀) (N : News h₀ L s.heap news) (hso : (so, ks_superObj D x C) ∈ news) (I : InstAt s.heap x ox C odx) (c : LCls K C) (ho : nsIn K cStatics "thirdparty.any" = some none)
    (hm : ks_superIn K C D "pop" = some (some (.builtin "list.pop")))
    (h : ∀ q h', Fr h₀ L h' m → News h₀ L h' ((q, boundO "builtin_function_or_method" (.builtin "list.pop") (.ref x)) :: news) → AllLt q news → Q (.ref q, []) { s with heap := h', toks := s.toks + 1 }) : wpAny (model prog w) A (getMethod (.ref so) "pop" pl) Q E s :=
  sup_led F X₀ N hso I c ho hm (by decide) type_pop get_md (fun _ _ _ _ _ _ _ _ a b e => call_get_pop a b e) h
end
section
variable {prog : Program} {w : World} {A : Around} {E : Value → Shared → Prop} {s : Shared} {h₀ : Heap} {L : Addr} {m : Str → Option Value} {news news' : Led} {K : Frag} {P C q dx : Addr} {n : Nat} {its : List Value} {env : Env} {pos : Pos} {Q : Value → Shared → Prop} {od : Obj} {cd : ClassData}
theorem cw_wrap {f : Value} {b : Addr} (N : News h₀ L s.heap news) (hb : (b, boundO "method-wrapper" f (.ref P)) ∈ news) (h : wpAny (model prog w) A (call (.ref b) []) Q E s) : wpAny (model prog w) A (callWith pos (.ref b) [] (backTo pos (starEach [] env)) []) Q E s :=
  callWith_bound (by decide) (by decide) (N _ hb).1 h
theorem cw_func {f : Value} {b : Addr} (N : News h₀ L s.heap news) (hb : (b, boundO "builtin_function_or_method" f (.ref P)) ∈ news) (h : wpAny (model prog w) A (call (.ref b) []) Q E s) : wpAny (model prog w) A (callWith pos (.ref b) [] (backTo pos (starEach [] env)) []) Q E s :=
  callWith_bound (by decide) (by decide) (N _ hb).1 h
theorem bound_len (N : News h₀ L s.heap news) (hb : (q, boundO "method-wrapper" (.builtin "list.__len__") (.ref P)) ∈ news) (hP : (P, accO C dx its.toArray n) ∈ news)
    (h : Q (.int its.length s.toks) { s with toks := s.toks + 1 }) : wpAny (model prog w) A (call (.ref q) []) Q E s :=
  call_bound (by decide) (by decide) (N _ hb).1 (by decide +kernel) entry_list_len check_llen (acc_len_run (N _ hP).1 ⟨_, rfl, h⟩)
theorem bound_init (F : Fr h₀ L s.heap m) (N : News h₀ L s.heap news) (hb : (q, boundO "method-wrapper" (.builtin "list.__init__") (.ref P)) ∈ news) (U : Upd P (accO C dx #[] n) (accO C dx #[] n) news news)
    (h : ∀ h', Fr h₀ L h' m → News h₀ L h' news → Q .none { s with heap := h' }) : wpAny (model prog w) A (call (.ref q) []) Q E s := by
  have ho : s.heap.get? P = some (accO C dx #[] n) := by obtain ⟨pre, post, e, _⟩ := U.split; exact (N (P, accO C dx #[] n) (by rw [e]; simp)).1
  refine call_bound (by decide) (by decide) (N _ hb).1 (by decide +kernel) PySem.F.entry_list_init check_linit ?_
  show wpAny _ _ (Builtin.List.listItems (.ref P) >>= _) _ _ _
  refine wpAny_bind (m := Builtin.List.listItems (.ref P)) ?_
  unfold Builtin.List.listItems
  refine wpAny_bind (wpAny_seqItems ho rfl (wpAny_pure ?_))
  refine wpAny_bind (m := updateSeq P _) (acc_upd (its := []) F N U rfl rfl (by simp) (by simp) fun h' F' N' => ?_)
  exact wpAny_bind (wpAny_letGo (wpAny_pure ⟨_, rfl, h h' F' N'⟩))
theorem bound_pop {ini : List Value} {v : Value} (F : Fr h₀ L s.heap m) (X₀ : K.In h₀) (N : News h₀ L s.heap news) (hb : (q, boundO "builtin_function_or_method" (.builtin "list.pop") (.ref P)) ∈ news) (U : Upd P (accO C dx (ini ++ [v]).toArray n) (accO C dx ini.toArray (n + 1)) news news')
    (hc : clsIn K C = some cd) (hm : mroIn K C (.type "module") = some false) (ht : typeIn K (.ref C) = some (.type "type")) (hq : cd.qualname = Str.ofString "_Accumulator") (hz : ini.length ≤ 900)
    (h : ∀ h', Fr h₀ L h' m → News h₀ L h' news' → Q v { s with heap := h' }) : wpAny (model prog w) A (call (.ref q) []) Q E s := by
  have ho : s.heap.get? P = some (accO C dx (ini ++ [v]).toArray n) := by obtain ⟨pre, post, e, _⟩ := U.split; exact (N (P, accO C dx (ini ++ [v]).toArray n) (by rw [e]; simp)).1
  exact call_bound (by decide) (by decide) (N _ hb).1 (by decide +kernel) PySem.F.entry_list_pop (check_lpop (X₀.keeps F.keep) ho rfl rfl hc hm ht hq) (acc_pop_run F N U hz fun h' F' N' => ⟨_, rfl, h h' F' N'⟩)
end
/-! ## slices of the pile -/
section
variable {prog : Program} {w : World} {A : Around} {E : Value → Shared → Prop} {s : Shared} {h₀ : Heap} {L : Addr} {m : Str → Option Value} {news news' : Led} {K : Frag} {P C dx : Addr} {n : Nat} {its : List Value} {od : Option Obj}
theorem acc_getslice {sl : Addr} {vl vu : Value} {lo hi : Option Int} {Q : Value → Shared → Prop} (c : LCls K C) (X : K.In s.heap) (I : InstAt s.heap P (accO C dx its.toArray n) C od) (hq : noSeq K C = true) (hg : findIn K (.ref C) "__getitem__" = some (some (.builtin "list.__getitem__")))
    (hs : s.heap.IsSliceOf sl vl vu .none) (pl : IsPart vl lo) (pu : IsPart vu hi) (hsz : its.length ≤ 1000)
    (h : Q (.ref s.heap.objs.size) { s with heap := s.heap.push (listOf (slicePick its.toArray lo hi none) 0) }) : wpAny (model prog w) A (getItem (.ref P) (.ref sl)) Q E s := by
  obtain ⟨os, hos, hcs, hds⟩ := id hs
  have hTs : s.TypeIs (.ref sl) "slice" := ⟨os, hos, hcs⟩
  have hsz' : its.toArray.size ≤ sizeLine := by rw [sizeLine_eq]; simp; (first | lia | omega)
  unfold getItem
  refine wpAny_holding ?_
  refine wpAny_bind (acc_key X I hq ?_)
  refine wpAny_bind (acc_special X I hg (slot_list_getitem.bind _) (sub_meth c X I (by decide +kernel) (n := "__getitem__") (by decide +kernel) (by decide +kernel) entry_list_getitem (args_list_getitem _ _) ?_))
  show wpAny _ _ (Builtin.List.listSubscript? (.ref sl) >>= _) _ _ s
  refine wpAny_bind ?_
  unfold Builtin.List.listSubscript?
  refine wpAny_bind (wpAny_specialOf hTs slice_no_index ?_)
  simp only [Option.isNone_none, if_true]
  refine wpAny_pure ?_
  show wpAny _ _ (typeOf (.ref sl) >>= _) _ _ s
  refine wpAny_bind (wpAny_typeOf hTs ?_)
  rw [if_neg (by decide), listSliceParts_eq]
  refine wpAny_bind (wpAny_bind (wpAny_field hos hds (x := .none) rfl (wpAny_bind (wpAny_listPart .none ?_))))
  rw [if_neg (by exact Bool.false_ne_true)]
  refine wpAny_bind (wpAny_field hos hds (x := vl) rfl (wpAny_bind (wpAny_listPart pl ?_)))
  refine wpAny_bind (wpAny_field hos hds (x := vu) rfl (wpAny_bind (wpAny_listPart pu (wpAny_pure ?_))))
  refine wpAny_bind (m := Builtin.List.listItems (.ref P)) ?_
  unfold Builtin.List.listItems
  refine wpAny_bind (wpAny_seqItems I.at_ rfl (wpAny_pure ?_))
  refine wpAny_bind (wpAny_of_eq (sliceIndices_raw lo hi none its.toArray.size (by simp)) ?_)
  exact wpAny_bind (wpAny_newObj_type (wpAny_pure ⟨_, rfl, wpAny_pure h⟩) (Nat.le_trans (slicePick_size_le its.toArray lo hi none) hsz'))
theorem acc_tail {value slice : PySem.Expr} {vl vu : Value} {lo hi : Option Int} {Q : Value → Shared → Prop} {dd : Obj} (c : LCls K C) (X₀ : K.In h₀) (F : Fr h₀ L s.heap m) (N : News h₀ L s.heap news) (hP : (P, accO C dx its.toArray n) ∈ news) (hd : (dx, dd) ∈ news)
    (hq : noSeq K C = true) (hg : findIn K (.ref C) "__getitem__" = some (some (.builtin "list.__getitem__"))) (pl : IsPart vl lo) (pu : IsPart vu hi) (hsz : its.length ≤ 1000)
    (h : ∀ D h', Fr h₀ L h' m → News h₀ L h' ((D, listOf (slicePick its.toArray lo hi none) 0) :: news) → AllLt D news → Q (.ref D) { s with heap := h' })
    (hs : subscripted slice false (.ref P) (.ref s.heap.objs.size) = operate [.ref s.heap.objs.size, .ref P] (getItem (.ref P) (.ref s.heap.objs.size))) (ht : ∀ r, letTemporaryGo value (.ref P) r = pure ()) :
    wpAny (model prog w) A (subscriptTail value slice (.ref P) (.ref s.heap.objs.size)) Q E { s with heap := s.heap.push { cls := .type "slice", data := .fields #[vl, vu, .none] } } := by
  obtain ⟨hh, g, d, t, os⟩ := s
  have up : ∀ b o, hh.get? b = some o → (hh.push { cls := .type "slice", data := .fields #[vl, vu, .none] }).get? b = some o := fun b o e => Heap.get?_push_of_some _ e
  have X : K.In (hh.push { cls := .type "slice", data := .fields #[vl, vu, .none] }) := (X₀.keeps F.keep).keeps up
  have I : InstAt (hh.push { cls := .type "slice", data := .fields #[vl, vu, .none] }) P (accO C dx its.toArray n) C (some dd) := ⟨up _ _ (N _ hP).1, rfl, rfl, up _ _ (N _ hd).1⟩
  have fin : wpAny (model prog w) A (subscripted slice false (.ref P) (.ref hh.objs.size)) (fun r s₃ => wpAny (model prog w) A (letTemporaryGo value (.ref P) r >>= fun _ => pure r) Q E s₃) E ⟨hh.push { cls := .type "slice", data := .fields #[vl, vu, .none] }, g, d, t, os⟩ := by
    rw [hs]
    refine wpAny_operating (acc_getslice c X I hq hg (Heap.IsSliceOf.new ..) pl pu hsz (wpAny_bind (wpAny_of_eq (ht _) (wpAny_pure ?_))))
    have N1 := News.push (F.push { cls := .type "slice", data := .fields #[vl, vu, .none] }) (N.grown fun _ _ e => Heap.get?_push_of_some _ e) (listOf (slicePick its.toArray lo hi none) 0)
    refine h _ _ ((F.push _).push _) N1 (allLt_of fun q hq => ?_)
    show q.1 < (hh.push _).objs.size
    rw [Heap.size_push]
    exact Nat.lt_succ_of_lt (Heap.lt_size (N q hq).1)
  unfold subscriptTail getitemInPython
  refine wpAny_bind (wpAny_bind (wpAny_bind (I.type.at ((looks_findIn X hg).at ?_))))
  exact wpAny_pure (wpAny_bind fin)
/-- self[i:] = [] -/
theorem acc_cut {sl l : Addr} {lo : Int} {tl : Tok} {Q : Unit → Shared → Prop} {dd : Obj} (c : LCls K C) (X₀ : K.In h₀) (F : Fr h₀ L s.heap m) (N : News h₀ L s.heap news) (hd : (dx, dd) ∈ news) (hsl : s.heap.IsSliceOf sl (.int lo tl) .none .none) (hl : s.heap.IsList l #[])
    (hq : noSeq K C = true) (hg : findIn K (.ref C) "__setitem__" = some (some (.builtin "list.__setitem__"))) (hlo : 0 ≤ lo) (hlo2 : lo.toNat ≤ its.length) (hsz : its.length ≤ 900) (hPl : l ≠ P)
    (U : Upd P (accO C dx its.toArray n) (accO C dx (its.take lo.toNat).toArray n') news news') (hn : (if (its.take lo.toNat).toArray.size == its.length then n else n + 1) = n')
    (h : ∀ h', Fr h₀ L h' m → News h₀ L h' news' → Q () { s with heap := h' }) : wpAny (model prog w) A (setItem (.ref P) (.ref sl) (.ref l)) Q E s := by
  have hP : (P, accO C dx its.toArray n) ∈ news := by obtain ⟨pre, post, e, _⟩ := U.split; rw [e]; simp
  have X := X₀.keeps F.keep
  have I : InstAt s.heap P (accO C dx its.toArray n) C (some dd) := acc_inst N hP hd
  obtain ⟨os, hos, hcs, hds⟩ := id hsl
  have hTs : s.TypeIs (.ref sl) "slice" := ⟨os, hos, hcs⟩
  obtain ⟨ol, hol, hcl, nl, hdl⟩ := id hl
  have hTl : s.TypeIs (.ref l) "list" := ⟨ol, hol, hcl⟩
  have hst : findIn K (.ref C) "__setitem__" = some (some (.builtin "list.__setitem__")) := hg
  unfold setItem
  refine wpAny_holding ?_
  refine wpAny_bind (acc_key X I hq ?_)
  refine wpAny_bind (acc_special X I hg (PySem.F.slot_list_setitem.bind _) (sub_slot c X I (by decide +kernel) (n := "__setitem__") (by decide +kernel) (by decide +kernel) PySem.F.entry_list_setitem (PySem.F.args_list_setitem_3 _ _ _) ?_))
  show wpAny _ _ (Builtin.List.listSubscript? (.ref sl) >>= _) _ _ s
  refine wpAny_bind ?_
  unfold Builtin.List.listSubscript?
  refine wpAny_bind (wpAny_specialOf hTs slice_no_index ?_)
  simp only [Option.isNone_none, if_true]
  refine wpAny_pure ?_
  show wpAny _ _ (typeOf (.ref sl) >>= _) _ _ s
  refine wpAny_bind (wpAny_typeOf hTs ?_)
  rw [if_neg (by decide), listSliceParts_eq]
  refine wpAny_bind (wpAny_bind (wpAny_field hos hds (x := .none) rfl (wpAny_bind (wpAny_listPart .none ?_))))
  rw [if_neg (by exact Bool.false_ne_true)]
  refine wpAny_bind (wpAny_field hos hds (x := .int lo tl) rfl (wpAny_bind (wpAny_listPart (.int _ _) ?_)))
  refine wpAny_bind (wpAny_field hos hds (x := .none) rfl (wpAny_bind (wpAny_listPart .none (wpAny_pure ?_))))
  have hb : sliceBounds (some lo) none none its.toArray.size = (lo, (its.toArray.size : Int), 1) := by
    have h1 : ((its.toArray.size : Nat) : Int) = its.length := by simp
    simp only [sliceBounds, Option.getD_none, show (1 : Int) > 0 by decide, if_true, if_neg (show ¬ (lo < 0) by (first | lia | omega)), h1]
    congr 1
    (first | lia | omega)
  rw [if_neg (by show ¬ ((P == l) = true); simpa using fun e => hPl e.symm)]
  refine wpAny_bind (m := Builtin.List.listAllItems (.ref l) _) ?_
  unfold Builtin.List.listAllItems
  refine wpAny_bind (wpAny_typeOf hTl ?_)
  rw [if_pos (by decide)]
  unfold Builtin.List.listItems
  refine wpAny_bind (wpAny_seqItems hol hdl (wpAny_pure ?_))
  refine wpAny_bind (wpAny_bind (wpAny_seqItems I.at_ rfl (wpAny_pure ?_)))
  refine wpAny_bind (wpAny_of_eq (sliceIndices_raw (some lo) none none its.toArray.size (by simp)) ?_)
  rw [hb]
  dsimp only
  rw [if_pos (by decide)]
  refine wpAny_bind (wpAny_rule ?_)
  rw [if_neg (by simp only [Builtin.List.listTooLong, sizeLine_eq]; simp; (first | lia | omega))]
  refine wpAny_bind (m := updateSeq P _) (acc_upd F N U ?_ hn (by (first | lia | omega)) (by simp; (first | lia | omega)) fun h' F' N' => ?_)
  · apply Array.toList_inj.mp
    have h1 : (max lo ((its.length : Nat) : Int)).toNat = its.length := by (first | lia | omega)
    simp [h1]
  · exact wpAny_bind (wpAny_letGo (wpAny_pure ⟨_, rfl, wpAny_pure (h h' F' N')⟩))
end
end Mine
end
section
open PySem PySem.W PySem.Calls PyProof.Rows Builtin Builtin.ObjectAttr
set_option maxRecDepth 100000
set_option maxHeartbeats 8000000
namespace Mine
/-! ## making one -/
structure MakesL (M : Model) (h : Heap) (C : Addr) : Prop where
  obj : ∃ oc od cd sl, h.get? C = some ⟨oc, od, .cls cd, sl⟩ ∧ cd.abstract = false ∧ cd.hasDel = false ∧ cd.mro.isEmpty = false
  made : Looks M h (Bind.madeBy (.ref C)) (some "list.__new__")
  base : Looks M h (Bind.staticBase (.ref C)) (.ref C)
  self : Looks M h (isSubtype (.ref C) (.ref C)) true
  sub : Looks M h (isSubtype (.ref C) (.type "list")) true
  call : Looks M h (specialOf (.ref C) "__call__") (some (.builtin "type.__call__"))
  typ : Looks M h (isInstance (.ref C) (.type "type")) true
theorem makesL_of {K : Frag} {M : Model} {h : Heap} (X : K.In h) {C : Addr} {oc : Value} {od : Option Addr} {cd : ClassData} {sl : Array (Option Value)} {l : List Value} (ho : K.lookup C = some ⟨oc, od, .cls cd, sl⟩) (e1 : cd.abstract = false) (e2 : cd.hasDel = false)
    (e3 : (sl.toList[4]?).join = some (.builtin "list.__new__")) (hl : cd.mro = .ref C :: l) (e5 : cd.mro.contains (.ref C) = true) (e6 : cd.mro.contains (.type "list") = true) (e7 : specialIn K (.ref C) "__call__" = some (some (.builtin "type.__call__"))) (e8 : instIn K (.ref C) (.type "type") = some true) : MakesL M h C := by
  have hc : clsIn K C = some cd := by unfold clsIn; rw [ho]
  have e4 : cd.mro.isEmpty = false := by rw [hl]; rfl
  have hm : Looks M h (mroOf (.ref C)) cd.mro := (looks_clsIn X hc).andThen .now
  have made : Looks M h (Bind.madeBy (.ref C)) (some "list.__new__") := by
    intro A Q E s k q
    unfold Bind.madeBy
    refine wpAny_bind (hm A _ E s k ?_)
    rw [hl, List.forIn_cons]
    refine wpAny_bind (wpAny_bind (wpAny_bind (wpAny_bind (wpAny_loadPart (k _ _ (X _ _ ho)) (wpAny_pure ?_)))))
    dsimp only
    rw [← Array.getElem?_toList, e3]
    exact wpAny_pure (wpAny_pure (wpAny_pure q))
  refine ⟨⟨oc, od, cd, sl, X _ _ ho, e1, e2, e4⟩, made, ?_, looks_mroIn X ?_, looks_mroIn X ?_, looks_specialIn X e7, looks_instIn X e8⟩
  · intro A Q E s k q
    unfold Bind.staticBase
    refine wpAny_bind (hm A _ E s k ?_)
    rw [hl, List.forIn_cons]
    exact wpAny_bind (wpAny_bind (wpAny_bind (made A _ E s k (wpAny_pure (wpAny_pure (wpAny_pure q))))))
  · unfold mroIn; rw [hc, Option.bind_some, if_neg (by rw [e4]; decide), e5]
  · unfold mroIn; rw [hc, Option.bind_some, if_neg (by rw [e4]; decide), e6]
theorem ln_kind : builtinKind "list.__new__" = some .builtinFn := by decide +kernel
theorem ln_split : splitId "list.__new__" = some ("list", "__new__") := by decide +kernel
theorem ln_args (a b : Value) (sig : Manifest.Signature) (h : Manifest.signature? "list.__new__" = some sig) : Bind.checkArgs "list.__new__" sig ⟨[a, b], []⟩ = pure () := by
  have k : ((Manifest.signature? "list.__new__").map fun sig => Bind.checkArgs "list.__new__" sig ⟨[a, b], []⟩) = (Manifest.signature? "list.__new__").map fun _ => pure () := by kernel_rfl
  rw [h] at k
  exact Option.some.inj k
theorem ln_args0 (a : Value) (sig : Manifest.Signature) (h : Manifest.signature? "list.__new__" = some sig) : Bind.checkArgs "list.__new__" sig ⟨[a], []⟩ = pure () := by
  have k : ((Manifest.signature? "list.__new__").map fun sig => Bind.checkArgs "list.__new__" sig ⟨[a], []⟩) = (Manifest.signature? "list.__new__").map fun _ => pure () := by kernel_rfl
  rw [h] at k
  exact Option.some.inj k
section
variable {prog : Program} {w : World} {A : Around} {K : Frag} {C : Addr} {R : Result → Shared → Prop} {h : Heap} {g : Array GenState} {d : Drawn} {t : Nat} {os : OsState}
theorem new_list {rest : List Value} (Y : MakesL (model prog w) h C) (hargs : ∀ sig, Manifest.signature? "list.__new__" = some sig → Bind.checkArgs "list.__new__" sig ⟨.ref C :: rest, []⟩ = pure ())
    (hq : R (.ok (.ret (.ref (h.objs.size + 1)))) ⟨(h.push emptyDict).push (accO C h.objs.size #[] 0), g, d, t, os⟩) :
    codeAny (model prog w) A (.call (.builtin "list.__new__") ⟨.ref C :: rest, []⟩) R ⟨h, g, d, t, os⟩ := by
  obtain ⟨⟨oc, od, cd, sl, hC, e1, e2, e4⟩, made, base, self, sub, call, typ⟩ := Y
  have isT : Looks (model prog w) h (isType (.ref C)) true := fun A Q E s k q => by
    obtain ⟨h', g', d', t', os'⟩ := s
    exact ks_wpAny_isType_cls (k _ _ hC) rfl q
  refine codeAny_of_tree ?_
  show wpAny _ A.in1 (do checkBuiltinCall "list.__new__" ⟨.ref C :: rest, []⟩; again (.builtin "list.__new__" ⟨.ref C :: rest, []⟩)) _ _ _
  refine wpAny_bind ?_
  simp only [checkBuiltinCall, ln_kind, ln_split]
  rw [if_pos (by decide)]
  have after : ∀ {Q' : Unit → Shared → Prop} {E' : Value → Shared → Prop}, Q' () ⟨h, g, d, t, os⟩ → wpAny (model prog w) A.in1 (match Manifest.signature? "list.__new__" with | some sig => Bind.checkArgs "list.__new__" sig ⟨.ref C :: rest, []⟩ | none => pure ()) Q' E' ⟨h, g, d, t, os⟩ := by
    intro Q' E' q
    cases hs : Manifest.signature? "list.__new__" with
    | none => exact wpAny_pure q
    | some sig => exact wpAny_of_eq (hargs sig hs) q
  refine wpAny_bind (isT.at ?_)
  simp only [Bool.not_true, Bool.false_eq_true, if_false]
  refine wpAny_bind (sub.at ?_)
  simp only [Bool.not_true, Bool.false_eq_true, if_false]
  refine wpAny_bind (base.at (wpAny_bind (made.at ?_)))
  simp only [bne_self_eq_false, Bool.false_eq_true, if_false]
  refine after ?_
  refine wpAny_pure ⟨plainId_quiet PySem.F.plain_list_new _, codeAny_builtin_stack PySem.F.entry_list_new rfl fun p st => ?_⟩
  rw [Around.under_plainId PySem.F.plain_list_new _]
  have hown := owner_list_new
  simp only [hown]
  refine wpAny_bind (isT.at ?_)
  simp only [Bool.not_true, Bool.false_eq_true, if_false]
  refine wpAny_bind (sub.at ?_)
  simp only [Bool.not_true, Bool.false_eq_true, if_false]
  refine wpAny_bind (wpAny_pure ?_)
  rw [if_neg (show ¬ (!typeHasDict (.ref C)) = true from Bool.false_ne_true)]
  refine wpAny_bind (m := newDict) (wpAny_newObj_type ?_)
  dsimp only
  have fin : ∀ (Q : Value → Shared → Prop) (E' : Value → Shared → Prop), Q (.ref (h.objs.size + 1)) ⟨(h.push emptyDict).push (accO C h.objs.size #[] 0), g, d, t, os⟩ → wpAny (model prog w) A.in1 (newObjAsIs (.ref C) (.seq #[]) (some h.objs.size)) Q E' ⟨h.push emptyDict, g, d, t, os⟩ := by
    intro Q E' q
    unfold newObjAsIs classHasDel
    refine wpAny_bind (wpAny_alloc (wpAny_bind (wpAny_bind (wpAny_load (Heap.get?_push_of_some _ (Heap.get?_push_of_some _ hC)) (wpAny_pure ?_)))))
    rw [e2]
    refine wpAny_pure ?_
    show Q (.ref (h.push emptyDict).objs.size) _
    rw [Heap.size_push]
    exact q
  refine wpAny_bind (m := newObj (.ref C) (.seq #[]) (some h.objs.size)) ?_
  unfold newObj
  dsimp only
  rw [if_neg (by decide +kernel)]
  exact fin _ _ (wpAny_pure hq)
theorem make_list {rest : List Value} {init : Value} (Y : MakesL (model prog w) h C) (hi : Looks (model prog w) h (typeLookup (.ref C) "__init__") (some init)) (hb : ∀ self, Looks (model prog w) h (bindSpecial init self) (init, [self]))
    (hargs : ∀ sig, Manifest.signature? "list.__new__" = some sig → Bind.checkArgs "list.__new__" sig ⟨.ref C :: rest, []⟩ = pure ())
    (hq : codeAny (model prog w) (A.under (.builtin "type.__call__" ⟨.ref C :: rest, []⟩)) (.call init ⟨.ref (h.objs.size + 1) :: rest, []⟩) (InitBack (h.objs.size + 1) R) ⟨(h.push emptyDict).push (accO C h.objs.size #[] 0), g, d, t, os⟩) :
    codeAny (model prog w) A (.call (.ref C) ⟨rest, []⟩) R ⟨h, g, d, t, os⟩ := by
  have Y' := Y
  obtain ⟨⟨oc, od, cd, sl, hC, e1, e2, e4⟩, made, base, self, sub, call, typ⟩ := Y
  refine codeAny_of_tree ?_
  show wpAny _ _ (callAny (.ref C) _) _ _ _
  refine nd_load hC ?_
  show wpAny _ _ (callAny.viaDunder (.ref C) _) _ _ _
  unfold callAny.viaDunder
  refine wpAny_bind (call.at ?_)
  dsimp only
  rw [tc_bind]
  refine wpAny_bind (wpAny_pure (wpAny_bind (wpAny_pure ?_)))
  refine wpAny_pure (a := Fin.again (.call (.builtin "type.__call__") ⟨.ref C :: rest, []⟩)) (And.intro rfl ?_)
  refine codeAny_call_builtin_at (Code.quiet_builtin _ (by decide +kernel)) entry_typeCall (check_slot tc_kind tc_split typ (tc_args _ _ _) ?_)
  unfold Builtin.«type.__call__»
  have hm : Looks (model prog w) h (mroOf (.ref C)) cd.mro := ((Looks.ld (part := none) hC).andThen .now).andThen .now
  repeat (first | simp only [e4, Bool.false_eq_true, if_false] | with_reducible refine wpAny_call ?_ | lk)
  refine new_list Y' hargs ?_
  have k : ∀ b o, h.get? b = some o → ((h.push emptyDict).push (accO C h.objs.size #[] 0)).get? b = some o := fun b o e => Heap.get?_push_of_some _ (Heap.get?_push_of_some _ e)
  have hx : ((h.push emptyDict).push (accO C h.objs.size #[] 0)).get? (h.objs.size + 1) = some (accO C h.objs.size #[] 0) := by heap_get
  have t1 : Looks (model prog w) ((h.push emptyDict).push (accO C h.objs.size #[] 0)) (typeOf (.ref (h.objs.size + 1))) (.ref C) := (Looks.ld hx).andThen .now
  have s1 := self.keeps k
  have i1 := hi.keeps k
  have b1 := (hb (.ref (h.objs.size + 1))).keeps k
  unfold isInstance callSpecial? specialOf
  repeat (first | with_reducible refine wpAny_call ?_ | lk)
  refine codeAny_mono hq fun r s' z => ?_
  rcases r with e | (v | _ | _ | _) <;> first | exact z | exact z.elim | skip
  obtain ⟨rfl, z⟩ := z
  exact wpAny_pure (wpAny_pure z)
end
section
variable {prog : Program} {w : World} {K : Frag} {p : Program} {f cc cda C : Addr} {d u : Nat} {vs : List Value} {news : Led} {post : Value → Led → Prop}
  {name qual : Str} {params : Arguments} {body : List Stmt} {scope : Scope} {dV kV doc pm ct oc : Value} {an od : Option Addr} {osl : Array (Option Value)} {binds : Addr → List (Str × Value)}
/-- the class called: one is made and its __init__ runs -/
theorem does_cls (hM : ∀ (M : Model) (h : Heap), K.In h → MakesL M h C) (hi : findIn K (.ref C) "__init__" = some (some (.ref f))) (hfn : typeIn K (.ref f) = some (.type "function"))
    (hargs : ∀ sig, Manifest.signature? "list.__new__" = some sig → Bind.checkArgs "list.__new__" sig ⟨.ref C :: vs, []⟩ = pure ())
    (ho : K.lookup f = some ⟨oc, od, .func (ksFn name qual params body scope dV kV doc pm an (.ref cda) ct cc), osl⟩) (hcd : codeIn K (.ref cda) qual = true)
    (hbind : ∀ (x : Addr) (s : Shared), K.In s.heap → BindsTo s (ksFn name qual params body scope dV kV doc pm an (.ref cda) ct cc) ⟨.ref x :: vs, []⟩ (binds x)) (hloc : ∀ x, ∀ y ∈ binds x, scope.names.lookup y.1 = some .local)
    (hd : 2 ≤ d) (hu : 12 ≤ u)
    (h : ∀ (x dx : Addr) (loose : List Str) (mean : ExcName → Option Value) (mg mb : Str → Option Value) (dp un : Nat) (gd : Option (List Code)) (outer : List Env) (A₀ : Around) (base g : Heap) (L' : Addr) (s₁ : Shared) (rest : Led),
      Below A₀ base outer g → Fr g L' s₁.heap (fun y => (binds x).reverse.lookup y) → K.In g → News g L' s₁.heap ((x, accO C dx #[] 0) :: (dx, emptyDict) :: (news ++ rest)) → Top p loose mean mg mb g → AllBare s₁.gens → DN ((x, accO C dx #[] 0) :: (dx, emptyDict) :: (news ++ rest)) →
      AllLt L' ((x, accO C dx #[] 0) :: (dx, emptyDict) :: (news ++ rest)) → dp + d < recursionLimit + 2 → un + u < cLine + 12 →
      PySem.wpAt (model prog w) (ktrTop dp un gd qual scope L' f (.ref cda) [("__class__", cc)] outer) (.func body (ksEnv qual scope L' f (.ref cda) cc)) (execs body (ksEnv qual scope L' f (.ref cda) cc)) (BodyPost g L' s₁.os rest (fun v nw => v = .none ∧ post (.ref x) nw)) (fun _ _ => False) s₁)
    (hcell : ∀ x ∈ scope.names, x.2 ≠ .cell) (hco : scope.isCoroutine = false) (hgen : scope.isGenerator = false) (hk : scope.kind = .function) : Does prog w K p (.ref C) d u vs news post := by
  intro loose mean mg mb dp un gd cn cs a ccd cl outer A₀ base h₀ L m s rest Q E B F X N T hkc G D hdp hun hret
  have hX := X.keeps F.keep
  obtain ⟨hh, gg, dd, tt, oss⟩ := s
  refine wpAny_call (make_list (hM _ _ hX) (looks_findIn hX hi) (fun self => bind_fn hX self hfn) hargs ?_)
  have F1 : Fr h₀ L ((hh.push emptyDict).push (accO C hh.objs.size #[] 0)) m := (F.push _).push _
  have N1 : News h₀ L ((hh.push emptyDict).push (accO C hh.objs.size #[] 0)) ((hh.objs.size + 1, accO C hh.objs.size #[] 0) :: (hh.objs.size, emptyDict) :: (news ++ rest)) := by
    have := (N.push F emptyDict).push (F.push _) (accO C hh.objs.size #[] 0)
    rwa [Heap.size_push] at this
  have hlt : ∀ q ∈ news ++ rest, q.1 < hh.objs.size := fun q hq => Heap.lt_size (N q hq).1
  have D1 : DN ((hh.objs.size + 1, accO C hh.objs.size #[] 0) :: (hh.objs.size, emptyDict) :: (news ++ rest)) :=
    dn_cons ⟨Nat.ne_of_lt (Nat.lt_succ_self _), allNe_mk fun q hq => Nat.ne_of_lt (Nat.lt_succ_of_lt (hlt q hq))⟩ (dn_cons (allNe_mk fun q hq => Nat.ne_of_lt (hlt q hq)) D)
  have hw : (Code.builtin "type.__call__" ⟨.ref C :: vs, []⟩).weight = 1 := by with_unfolding_all rfl
  have hu' : (Code.builtin "type.__call__" ⟨.ref C :: vs, []⟩).cUnits ≤ 6 := by
    have : (Code.builtin "type.__call__" ⟨.ref C :: vs, []⟩).cUnits = 1 := by with_unfolding_all rfl
    (first | lia | omega)
  have he : (Code.builtin "type.__call__" ⟨.ref C :: vs, []⟩).envs = [] := by with_unfolding_all rfl
  have hg : (Code.builtin "type.__call__" ⟨.ref C :: vs, []⟩).guards = [] := by with_unfolding_all rfl
  have eU : (ktrTop dp un gd cn cs L a ccd cl outer).under (.builtin "type.__call__" ⟨.ref C :: vs, []⟩) = ktrTop (dp + 1) (un + (Code.builtin "type.__call__" ⟨.ref C :: vs, []⟩).cUnits) gd cn cs L a ccd cl outer := by
    simp only [Around.under, hw, he, hg, pushEnvs, pushGuards]
  generalize (Code.builtin "type.__call__" ⟨.ref C :: vs, []⟩).cUnits = k at hu' eU
  rw [eU]
  refine ks_code_super (env := envX cn cs L a ccd cl) (outer := outer) (s := ⟨(hh.push emptyDict).push (accO C hh.objs.size #[] 0), gg, dd, tt, oss⟩) B F1 X N1 T rfl rfl hkc ho hcd (show dp + 1 < recursionLimit by (first | lia | omega)) (hbind _ _ (X.keeps F1.keep)) (hloc _) (fun g L' h₁ FG F' N' B' X' T' l => ?_) hcell hco hgen hk
  refine ks_wpAt_mono (h (hh.objs.size + 1) hh.objs.size loose mean mg mb (dp + 1 + 1) (un + k + 3) gd _ _ base g L' ⟨h₁, gg, dd, tt + (binds (hh.objs.size + 1)).length, oss⟩ rest B' F' X' N' T' G D1 (allLt_of l) (by (first | lia | omega)) (by (first | lia | omega))) (fun fl s' hb => ?_) (fun _ _ e => False.elim e)
  obtain ⟨m', news', F2, N2, G2, ho2, D2, hp, hp2⟩ := hb
  refine leaveK_ F2 N2 fun F3 N3 => ?_
  exact ⟨hp, hret _ s' news' F3 N3 G2 ho2 D2 hp2⟩
end
end Mine
end
section
open PySem PySem.W PySem.Calls PyProof.Rows Builtin Builtin.ObjectAttr
set_option maxRecDepth 100000
set_option maxHeartbeats 8000000
namespace Mine
theorem Gen.toks {prog : Program} {w : World} {A : Around} {Kb a : Addr} {n : Nat} {F : Nat → Value → Prop} {s : Shared} {k : Nat} (X : Gen prog w A Kb a n F s) (h : s.toks ≤ k) : Gen prog w A Kb a n F { s with toks := k } := by
  obtain ⟨fp, wr, g, St, W, h1, h2, h3, h4, h5⟩ := X
  exact ⟨fp, wr, g, St, W, W.frame 0 s s.heap k h1 h fun _ _ _ e => e, h2, h3, h4, h5⟩
noncomputable def sumTo (val : Nat → Nat) (n : Nat) : Nat := ((List.range n).map val).sum
theorem sumTo_succ (val : Nat → Nat) (n : Nat) : sumTo val (n + 1) = sumTo val n + val n := by simp [sumTo, List.range_succ]
theorem sumTo_le (val : Nat → Nat) (hv : ∀ j, val j ≤ 2 ^ 20) : ∀ n, sumTo val n ≤ n * 2 ^ 20
  | 0 => by simp [sumTo]
  | n + 1 => by rw [sumTo_succ]; have := sumTo_le val hv n; have := hv n; (first | lia | omega)
section
variable {prog : Program} {w : World} {A : Around} {E : Value → Shared → Prop} {s : Shared} {h₀ : Heap} {L Kb a : Addr} {m : Str → Option Value} {news : Led} {n : Nat} {F : Nat → Value → Prop} {Q : Value → Shared → Prop}
theorem sum_pile {c₀ : Int} {t₀ : Tok} (Fh : Fr h₀ L s.heap m) (N : News h₀ L s.heap news) (G : AllBare s.gens) (X : Gen prog w A Kb a n F s) (hLK : L ≤ Kb) (hnews : ∀ q ∈ news, q.1 ≤ Kb) (val : Nat → Nat) (hval : ∀ j v, F j v → ∃ t, v = .int (val j : Int) t)
    (h0 : 0 ≤ c₀ ∧ c₀ ≤ 2 ^ 40) (hv : ∀ j, val j ≤ 2 ^ 20) (hn : n ≤ 1000)
    (hQ : ∀ s' t', Fr h₀ L s'.heap m → News h₀ L s'.heap news → AllBare s'.gens → s'.os = s.os → Q (.int (c₀ + (sumTo val n : Nat)) t') s') : wpAny (model prog w) A (call (.builtin "sum") [.ref a, .int c₀ t₀]) Q E s := by
  obtain ⟨fp, wr, g, St, W, hst, _, _, hfp, hwr⟩ := X
  have W := W.in4_1
  refine call_sum2 ⟨h0.1, by (first | lia | omega)⟩ (W.self 0 _ _ _ hst ⟨a, _, _, _, _, _, _, fun i => c₀ + (sumTo val i : Nat), fun i => (val i : Int), rfl, W, hst, hfp, by simp [sumTo], fun i _ => by show c₀ + ((sumTo val (i + 1) : Nat) : Int) = c₀ + ((sumTo val i : Nat) : Int) + ((val i : Nat) : Int); rw [sumTo_succ]; (first | lia | omega), fun i hi => ?_, fun i => ⟨Int.natCast_nonneg _, by have := hv i; show ((val i : Nat) : Int) < 2 ^ 62; (first | lia | omega)⟩, hval, fun s' t' hm => ?_⟩)
  · have h1 := sumTo_le val hv i
    have h2 : i * 2 ^ 20 ≤ 1000 * 2 ^ 20 := Nat.mul_le_mul_right _ (by (first | lia | omega))
    constructor
    · show 0 ≤ c₀ + ((sumTo val i : Nat) : Int)
      (first | lia | omega)
    · show c₀ + ((sumTo val i : Nat) : Int) < 2 ^ 62
      (first | lia | omega)
  · have keep : ∀ b o, b ≤ Kb → s.heap.get? b = some o → s'.heap.get? b = some o := fun b o hb e => hm.heap b o (fun hmem => Nat.lt_irrefl _ (Nat.lt_of_lt_of_le (hwr b hmem) hb)) e
    exact hQ s' t' (Fh.moved hm fun b hb => Nat.lt_of_le_of_lt hLK (hwr b hb)) (fun q hq => ⟨keep _ _ (hnews q hq) (N q hq).1, (N q hq).2⟩) (G.movedS hm) hm.os
theorem join_pile {sep : Str} {t : Tok} (Fh : Fr h₀ L s.heap m) (N : News h₀ L s.heap news) (G : AllBare s.gens) (X : Gen prog w A Kb a n F s) (hLK : L ≤ Kb) (hnews : ∀ q ∈ news, q.1 ≤ Kb) (tx : Nat → Str) (htx : ∀ j v, F j v → ∃ u, v = .str (tx j) u)
    (hok : JoinOk sep ((List.range n).map tx) = true) (hn : n ≤ 1000)
    (hQ : ∀ s' t', Fr h₀ L s'.heap m → News h₀ L s'.heap news → AllBare s'.gens → s'.os = s.os → Q (.str (Txt.join sep ((List.range n).map tx)) t') s') : wpAny (model prog w) A (call (.builtin "str.join") [.str sep t, .ref a]) Q E s :=
  join_rowsK Fh G X hLK tx htx hok (fun s' t' F' G' ho keep => hQ s' t' F' (fun q hq => ⟨keep _ _ (hnews q hq) (N q hq).1, (N q hq).2⟩) G' ho) (by rw [sizeLine_eq]; (first | lia | omega))
end
noncomputable def pc0 : Pc := ⟨0, Str.empty, 0, Str.empty, 0⟩
theorem getD_mem {ts : List Pc} {i : Nat} (h : i < ts.length) : ts.getD i pc0 ∈ ts := by
  rw [List.getD_eq_getElem?_getD, List.getElem?_eq_getElem h]; exact List.getElem_mem h
theorem getD_len {ts : List Pc} (h : ∀ p ∈ ts, p.f.length ≤ 1000 ∧ p.g.length ≤ 1000) (i : Nat) : (ts.getD i pc0).f.length + (ts.getD i pc0).g.length ≤ 2 ^ 20 := by
  by_cases hi : i < ts.length
  · have := h _ (getD_mem hi); (first | lia | omega)
  · rw [List.getD_eq_getElem?_getD, List.getElem?_eq_none (by (first | lia | omega))]; decide
theorem rows_at {ts : List Pc} {rest : Led} {x y : Addr × Obj} (j : Nat) (hj : j < ts.length) : (refs ts).toArray[j]? = some (.ref (ts.getD j pc0).T) ∧ ((ts.getD j pc0).T, tupO (.str (ts.getD j pc0).f (ts.getD j pc0).tf) (.str (ts.getD j pc0).g (ts.getD j pc0).tg)) ∈ x :: y :: (ts.map Pc.ent ++ rest) := by
  refine ⟨?_, .tail _ (.tail _ (List.mem_append_left _ (List.mem_map.mpr ⟨ts.getD j pc0, getD_mem hj, rfl⟩)))⟩
  simp [refs, List.getD_eq_getElem?_getD, List.getElem?_eq_getElem hj]
/-- the letters that lie on a pile -/
noncomputable def total (ts : List Pc) : Nat := (ts.map fun p => p.f.length + p.g.length).sum
noncomputable def shown (ts : List Pc) : Str := ⟨((ts.map fun p => p.f.cps.toList ++ p.g.cps.toList).flatten).toArray⟩
theorem sumTo_list (ts : List Pc) (f : Pc → Nat) (d : Pc) : sumTo (fun i => f (ts.getD i d)) ts.length = (ts.map f).sum := by
  induction ts with
  | nil => rfl
  | cons p r ih =>
    have : sumTo (fun i => f ((p :: r).getD i d)) (r.length + 1) = f p + sumTo (fun i => f (r.getD i d)) r.length := by
      simp only [sumTo, List.range_succ_eq_map, List.map_cons, List.map_map, List.sum_cons]
      rfl
    rw [List.length_cons, this, ih, List.map_cons, List.sum_cons]
end Mine
end
section
open PySem PySem.W PySem.Calls PyProof.Rows Builtin Builtin.ObjectAttr
set_option maxRecDepth 100000
set_option maxHeartbeats 8000000
namespace Mine
/-! ## the elements of the two generators -/
section
variable {prog : Program} {w : World} {A : Around} {E : Value → Shared → Prop} {t : Shared} {h₀ : Heap} {C' : Addr} {m₂ mg mb : Str → Option Value} {env : Env} {scope : Scope} {cv v : Value} {x : Str} {pos : Pos} {Q : Value → Shared → Prop} {p : Program} {loose : List Str} {mean : ExcName → Option Value}
noncomputable abbrev gE (scope : Scope) (C' : Addr) (cv : Value) (env : Env) : Env := genEnv scope [] C' cv builtinsNs env
theorem gn_local (hk : scope.kind = .function) (hx : (gE scope C' cv env).kindOf x = some .local) (hd : (x == ("__debug__" : Str)) = false) (F : Fr h₀ C' t.heap m₂) (hv : m₂ x = some v) (h : Q v t) : wpAny (model prog w) A (eval (.Name x pos) (gE scope C' cv env)) Q E t :=
  wpAny_Name (wpAny_loadName_local (env := gE scope C' cv env) hk hx F.ns hv h) hd
theorem gn_builtin (hk : scope.kind = .function) (hg : env.globals = mainGlobals) (hx : (gE scope C' cv env).kindOf x = some .globalImplicit) (hd : (x == ("__debug__" : Str)) = false) (F : Fr h₀ C' t.heap m₂) (T : Top p loose mean mg mb h₀) (hm : mg x = none) (hb : mb x = some v) (h : Q v t) :
    wpAny (model prog w) A (eval (.Name x pos) (gE scope C' cv env)) Q E t := by
  refine wpAny_Name (ks_loadName_global (env := gE scope C' cv env) hk hx ?_) hd
  exact loadGlobal_builtin (env := gE scope C' cv env) (show t.heap.Ns env.globals mg by rw [hg]; exact T.g.keeps F.keep) hm (T.b.keeps F.keep) hb h
theorem gn_global (hk : scope.kind = .function) (hg : env.globals = mainGlobals) (hx : (gE scope C' cv env).kindOf x = some .globalImplicit) (hd : (x == ("__debug__" : Str)) = false) (F : Fr h₀ C' t.heap m₂) (T : Top p loose mean mg mb h₀) (hm : mg x = some v) (h : Q v t) :
    wpAny (model prog w) A (eval (.Name x pos) (gE scope C' cv env)) Q E t := by
  refine wpAny_Name (ks_loadName_global (env := gE scope C' cv env) hk hx ?_) hd
  unfold loadGlobal
  refine wpAny_bind (wpAny_nsGet (show t.heap.Ns env.globals mg by rw [hg]; exact T.g.keeps F.keep) ?_)
  rw [hm]
  exact wpAny_pure h
theorem cw_builtin {id : String} {e : Expr} {rest : List Expr} {en : Env} {first : List Value} (h : wpAny (model prog w) A (spliced (backTo pos (starEach (e :: rest) en))) (fun vs s₁ => wpAny (model prog w) A (call (.builtin id) (first ++ vs)) Q E s₁) E t)
    (he : starEach (e :: rest) en = (false, eval e en) :: starEach rest en) (hp : (backTo pos (starEach rest en)).any (·.1) = false) : wpAny (model prog w) A (callWith pos (.builtin id) first (backTo pos (starEach (e :: rest) en)) []) Q E t := by
  rw [he] at h ⊢
  exact callWith_of (P := fun _ => True) (by show ((false || (backTo pos (starEach rest en)).any (·.1)) || false) = false; rw [hp]; rfl) (fun _ _ => ⟨.machine, .inr (.inl rfl), Looks.of_pure rfl⟩) (evalArgs_plain (wpAny_mono h (fun _ _ z => ⟨trivial, z⟩) fun _ _ z => z))
theorem gn_len {x : Str} {f : Str} {tf : Tok} {p1 p2 p3 : Pos} (hk : scope.kind = .function) (hg : env.globals = mainGlobals) (hl : (gE scope C' cv env).kindOf "len" = some .globalImplicit) (hx : (gE scope C' cv env).kindOf x = some .local) (hd : (x == ("__debug__" : Str)) = false) (F : Fr h₀ C' t.heap m₂) (T : Top p loose mean mg mb h₀) (hm : mg "len" = none)
    (hb : bootBuiltins "len" = some (.builtin "len")) (hv : m₂ x = some (.str f tf)) (hf : f.length ≤ 100000) (h : Q (.int f.length (t.toks + 1)) { t with toks := t.toks + 2 }) : wpAny (model prog w) A (eval (.Call (.Name "len" p1) [.Name x p2] [] p3) (gE scope C' cv env)) Q E t := by
  refine wpAny_Call_NameR (gn_builtin hk hg hl (by decide) F T hm ((T.builtins _ (by decide)).trans hb) ?_)
  refine cw_builtin (rest := []) ?_ rfl rfl
  refine Calls.spliced_cons (x := eval (.Name x p2) (gE scope C' cv env)) (gn_local hk hx hd F hv ?_)
  exact Calls.spliced_nil (len_str (by (first | lia | omega)) h)
theorem gn_lens {xa xb : Str} {f g : Str} {tf tg : Tok} {p1 p2 p3 p4 p5 p6 p7 : Pos} (hk : scope.kind = .function) (hg : env.globals = mainGlobals) (hl : (gE scope C' cv env).kindOf "len" = some .globalImplicit) (hxa : (gE scope C' cv env).kindOf xa = some .local) (hxb : (gE scope C' cv env).kindOf xb = some .local)
    (hda : (xa == ("__debug__" : Str)) = false) (hdb : (xb == ("__debug__" : Str)) = false) (F : Fr h₀ C' t.heap m₂) (T : Top p loose mean mg mb h₀) (hm : mg "len" = none) (hb : bootBuiltins "len" = some (.builtin "len"))
    (hva : m₂ xa = some (.str f tf)) (hvb : m₂ xb = some (.str g tg)) (hf : f.length ≤ 100000) (hgl : g.length ≤ 100000) :
    wpAny (model prog w) A (eval (.BinOp (.Call (.Name "len" p1) [.Name xa p2] [] p3) .Add (.Call (.Name "len" p4) [.Name xb p5] [] p6) p7) (gE scope C' cv env)) (fun y s₃ => (∃ u, y = .int ((f.length + g.length : Nat) : Int) u) ∧ Keeps t s₃) E t := by
  refine wpAny_BinOp (gn_len hk hg hl hxa hda F T hm hb hva hf ?_)
  refine gn_len (t := { t with toks := t.toks + 2 }) hk hg hl hxb hdb F T hm hb hvb hgl ?_
  refine wpAny_add_int ⟨⟨_, by rw [Int.natCast_add]⟩, _, _, rfl, fun _ _ e => e⟩
/-- sep.join((a, b)) in the generator -/
theorem gn_join {f g : Str} {tf tg ts : Tok} {p1 p2 p3 p4 p5 p6 : Pos} (hk : scope.kind = .function) (hg : env.globals = mainGlobals) (hl : (gE scope C' cv env).kindOf (Str.ofString "EMPTYSTRING") = some .globalImplicit) (hxa : (gE scope C' cv env).kindOf (Str.ofString "fws") = some .local) (hxb : (gE scope C' cv env).kindOf (Str.ofString "part") = some .local)
    (hds : (Str.ofString "EMPTYSTRING" == ("__debug__" : Str)) = false) (hda : (Str.ofString "fws" == ("__debug__" : Str)) = false) (hdb : (Str.ofString "part" == ("__debug__" : Str)) = false) (F : Fr h₀ C' t.heap m₂) (T : Top p loose mean mg mb h₀) (hm : mg (Str.ofString "EMPTYSTRING") = some (.str Str.empty ts))
    (hva : m₂ (Str.ofString "fws") = some (.str f tf)) (hvb : m₂ (Str.ofString "part") = some (.str g tg)) (hf : f.length ≤ 100000) (hgl : g.length ≤ 100000) {pl : Sem Bool}
    (he : eval (.Call (.Attribute (.Name (Str.ofString "EMPTYSTRING") p1) "join" p2) [.Tuple [.Name (Str.ofString "fws") p3, .Name (Str.ofString "part") p4] 0 p5] [] p6) (gE scope C' cv env) = (do
      let ov ← eval (.Name (Str.ofString "EMPTYSTRING") p1) (gE scope C' cv env)
      standAt p2.atName
      let (f, first) ← holding [ov] (getMethod ov "join" pl)
      callWith p6 f first (backTo p6 (starEach [.Tuple [.Name (Str.ofString "fws") p3, .Name (Str.ofString "part") p4] 0 p5] (gE scope C' cv env))) [])) :
    wpAny (model prog w) A (eval (.Call (.Attribute (.Name (Str.ofString "EMPTYSTRING") p1) "join" p2) [.Tuple [.Name (Str.ofString "fws") p3, .Name (Str.ofString "part") p4] 0 p5] [] p6) (gE scope C' cv env)) (fun y s₃ => (∃ u, y = .str (Txt.join Str.empty [f, g]) u) ∧ Keeps t s₃) E t := by
  refine MethodCall_ (pl := pl) (gn_global hk hg hl hds F T hm (GM.join ?_)) he
  refine cw_builtin (rest := []) ?_ rfl rfl
  refine Calls.spliced_cons (x := eval (.Tuple [.Name (Str.ofString "fws") p3, .Name (Str.ofString "part") p4] 0 p5) (gE scope C' cv env)) (wpAny_Tuple ?_)
  refine Calls.spliced_cons (x := eval (.Name (Str.ofString "fws") p3) (gE scope C' cv env)) (gn_local hk hxa hda F hva ?_)
  refine Calls.spliced_cons (x := eval (.Name (Str.ofString "part") p4) (gE scope C' cv env)) (gn_local hk hxb hdb F hvb ?_)
  refine Calls.spliced_nil ⟨by rw [sizeLine_eq]; simp, Calls.spliced_nil ?_⟩
  refine join_tuple (ys := [f, g]) (items := #[.str f tf, .str g tg]) ⟨_, Heap.get?_push_size _ rfl, rfl, 0, rfl⟩ (.cons _ _ (.cons _ _ .nil)) (by simp [Str.length, Str.empty]; simp [Str.length] at hf hgl; (first | lia | omega)) fun t' k => ?_
  exact ⟨⟨_, rfl⟩, _, _, rfl, fun _ _ e => Heap.get?_push_of_some _ e⟩
end
theorem acc_size {prog : Program} {w : World} {A : Around} {E : Value → Shared → Prop} {s : Shared} {K : Frag} {P C : Addr} {ox : Obj} {sz : Int} {tk tz : Tok} {expr : Bool} {Q : Value → Shared → Prop} (c : LCls K C) (X : K.In s.heap) (I : InstAt s.heap P ox C (some (sizeD w sz tk tz)))
    (hn : findIn K (.ref C) "_initial_size" = some none) (h : Q (.int sz tz) { s with toks := s.toks + 1 }) : wpAny (model prog w) A (getAttr (.ref P) "_initial_size" expr) Q E s :=
  acc_get c X I (findObj_own (attr := none) c.dict hn rfl (by rw [lookIn_dict]; rfl)) rfl h
theorem join_flat : ∀ l : List Str, (Txt.join Str.empty l).cps.toList = (l.map fun x => x.cps.toList).flatten := by
  intro l
  show (Builtin.Str.glued Str.empty l).cps.toList = _
  rw [StrLaws.glued_eq_join]
  induction l with
  | nil => rfl
  | cons x r ih =>
    cases r with
    | nil => simp [Str.join]
    | cons y r =>
      show (x ++ Str.empty ++ Str.join Str.empty (y :: r)).cps.toList = _
      rw [Str.cps_append, Str.cps_append, Array.toList_append, Array.toList_append, ih]
      simp [Str.empty]
theorem map_range_getD (ts : List Pc) (f : Pc → Str) : (List.range ts.length).map (fun i => f (ts.getD i pc0)) = ts.map f := by
  apply List.ext_getElem?
  intro i
  by_cases h : i < ts.length
  · simp [h, List.getD_eq_getElem?_getD]
  · simp [h]
noncomputable def pcS (p : Pc) : Str := Txt.join Str.empty [p.f, p.g]
theorem pcS_list (p : Pc) : (pcS p).cps.toList = p.f.cps.toList ++ p.g.cps.toList := by unfold pcS; rw [join_flat]; simp
theorem pcS_len (p : Pc) : (pcS p).length = p.f.length + p.g.length := by
  have h := congrArg List.length (pcS_list p)
  simpa [Str.length] using h
theorem shown_join (ts : List Pc) : Txt.join Str.empty (ts.map pcS) = shown ts := by
  unfold shown
  apply Str.ext'
  apply Array.toList_inj.mp
  rw [join_flat]
  simp [List.map_map, Function.comp_def, pcS_list]
theorem weigh : ∀ ts : List Pc, (∀ p ∈ ts, p.f.length ≤ 500 ∧ p.g.length ≤ 500) → ((ts.map pcS).map (·.length)).sum ≤ ts.length * 1000
  | [], _ => by simp
  | p :: r, h => by
    have h1 := h p (.head _)
    have h2 := weigh r fun q hq => h q (.tail _ hq)
    simp only [List.map_cons, List.sum_cons, List.length_cons, pcS_len]
    (first | lia | omega)
theorem pile_split {w : World} {C : Addr} {a : At} {ini lst : List Pc} {n : Nat} {x : Addr × Obj} : (x :: (a.P, accO C a.dx (refs ini).toArray n) :: (a.dx, sizeD w a.sz a.tk a.tz) :: (ini ++ lst).map Pc.ent).Perm (x :: (lst.map Pc.ent ++ pile w C a ini n)) := by
  unfold pile
  rw [List.map_append]
  exact List.Perm.cons x (List.perm_append_comm (l₁ := (a.P, accO C a.dx (refs ini).toArray n) :: (a.dx, sizeD w a.sz a.tk a.tz) :: ini.map Pc.ent) (l₂ := lst.map Pc.ent))
theorem pick_from (us vs : List Value) (i : Int) (hi : i = us.length) : slicePick (us ++ vs).toArray (some i) none none = vs.toArray := by
  subst hi
  have e : sliceBounds (some (us.length : Int)) none none (us ++ vs).toArray.size = (((us.length : Nat) : Int), (((us ++ vs).toArray.size : Nat) : Int), 1) := by
    simp only [sliceBounds, Option.getD_none, show (1 : Int) > 0 by decide, if_true, if_neg (show ¬ (((us.length : Nat) : Int) < 0) by (first | lia | omega))]
    congr 1
    simp
    (first | lia | omega)
  rw [kmk_pick_nat _ e]
  simp
theorem acc_cut_new {prog : Program} {w : World} {A : Around} {E : Value → Shared → Prop} {s : Shared} {h₀ : Heap} {L : Addr} {m : Str → Option Value} {news news' : Led} {K : Frag} {P C dx : Addr} {n n' : Nat} {us vs : List Value} {l : Addr} {lo : Int} {tl : Tok} {Q : Unit → Shared → Prop} {dd : Obj}
    (c : LCls K C) (X₀ : K.In h₀) (F : Fr h₀ L s.heap m) (N : News h₀ L s.heap news) (hlm : (l, listOf #[] 0) ∈ news) (hPl : l ≠ P)
    (hq : noSeq K C = true) (hg : findIn K (.ref C) "__setitem__" = some (some (.builtin "list.__setitem__"))) (hlo : lo = us.length) (hsz : (us ++ vs).length ≤ 900)
    (U : Upd P (accO C dx (us ++ vs).toArray n) (accO C dx us.toArray n') news news') (hd : (dx, dd) ∈ news) (hn : (if us.length = (us ++ vs).length then n else n + 1) = n')
    (h : ∀ h', Fr h₀ L h' m → News h₀ L h' news' → Q () { s with heap := h' }) : wpAny (model prog w) A (setItem (.ref P) (.ref s.heap.objs.size) (.ref l)) Q E { s with heap := s.heap.push { cls := .type "slice", data := .fields #[.int lo tl, .none, .none] } } := by
  have e : (us ++ vs).take lo.toNat = us := by rw [hlo]; simp
  refine acc_cut (s := { s with heap := s.heap.push { cls := .type "slice", data := .fields #[.int lo tl, .none, .none] } }) (its := us ++ vs) (n' := n') c X₀ (F.push _) (N.grown fun _ _ e => Heap.get?_push_of_some _ e) hd (Heap.IsSliceOf.new ..) ⟨_, Heap.get?_push_of_some _ (N _ hlm).1, rfl, 0, rfl⟩ hq hg (by (first | lia | omega)) (by rw [hlo]; simp) hsz hPl (by rw [e]; exact U) ?_ h
  rw [e, ← hn]
  simp
end Mine
end
section
open PySem PySem.W PySem.Calls PyProof.Rows
set_option maxRecDepth 100000
namespace Mine
/-- ints of a list -/
noncomputable def ivals (xs : List (Nat × Tok)) : List Value := xs.map fun p => .int (p.1 : Int) p.2
theorem ivals_len (xs : List (Nat × Tok)) : (ivals xs).length = xs.length := by simp [ivals]
section
variable {prog : Program} {w : World} {K : Frag} {p : Program} {f : Value} {d u : Nat} {vs : List Value} {news : Led} {post : Value → Led → Prop}
  {loose : List Str} {mean : ExcName → Option Value} {mg mb : Str → Option Value} {dp un : Nat} {gd : Option (List Code)} {cn : Str} {cs : Scope} {a : Addr} {ccd : Value} {cl : List (Str × Addr)} {outer : List Env} {A₀ : Around} {base h₀ : Heap} {L : Addr} {m : Str → Option Value} {s : Shared} {led rest : Led} {Q E : Value → Shared → Prop}
/-- a call by a contract, the ledger rearranged -/
theorem Does.at (D : Does prog w K p f d u vs news post) (B : Below A₀ base outer h₀) (F : Fr h₀ L s.heap m) (X : K.In h₀) (N : News h₀ L s.heap led) (T : Top p loose mean mg mb h₀) (G : AllBare s.gens) (dn : DN led) (hk : cs.kind = .function) (rest : Led) (hp : led.Perm (news ++ rest))
    (hd : dp + d < recursionLimit) (hu : un + u < cLine) (ret : ∀ v (s' : Shared) (news' : Led), Fr h₀ L s'.heap m → News h₀ L s'.heap (news' ++ rest) → AllBare s'.gens → s'.os = s.os → DN (news' ++ rest) → post v news' → Q v s') :
    wpAny (model prog w) (ktrTop dp un gd cn cs L a ccd cl outer) (call f vs) Q E s :=
  D.use B F X (News.perm N hp) T hk G (dn.perm hp) hd hu ret
/-- str(x) by the contract of __str__ -/
theorem Does.str {x C f' : Addr} {ox : Obj} {od : Option Obj} (D : Does prog w K p (.ref f') d u [.ref x] news post) (hpost : ∀ v nw, post v nw → ∃ y t, v = .str y t) (I : InstAt s.heap x ox C od) (hs : findIn K (.ref C) "__str__" = some (some (.ref f'))) (hf : isFn K (.ref f') = true)
    (B : Below A₀ base outer h₀) (F : Fr h₀ L s.heap m) (X : K.In h₀) (N : News h₀ L s.heap led) (T : Top p loose mean mg mb h₀) (G : AllBare s.gens) (dn : DN led) (hk : cs.kind = .function) (rest : Led) (hp : led.Perm (news ++ rest))
    (hd : dp + d < recursionLimit) (hu : un + 2 + u < cLine) (ret : ∀ y t (s' : Shared) (news' : Led), Fr h₀ L s'.heap m → News h₀ L s'.heap (news' ++ rest) → AllBare s'.gens → s'.os = s.os → DN (news' ++ rest) → post (.str y t) news' → Q (.str y t) s') :
    wpAny (model prog w) (ktrTop dp un gd cn cs L a ccd cl outer) (call (.type "str") [.ref x]) Q E s := by
  refine kso_call (show un + 1 + 1 < cLine by (first | lia | omega)) (X.keeps F.keep) I hs hf ?_
  show wpAny (model prog w) (ktrTop dp (un + 2) gd cn cs L a ccd cl outer) (call (.ref f') [.ref x]) (StrBack Q) E s
  refine D.use B F X (News.perm N hp) T hk G (dn.perm hp) hd hu fun v s' nw' F' N' G' ho D' hq => ?_
  obtain ⟨y, t, rfl⟩ := hpost _ _ hq
  exact ret y t s' nw' F' N' G' ho D' hq
/-- len(x) by the contract of __len__ -/
theorem Does.len {x C f' : Addr} {ox : Obj} {od : Option Obj} (D : Does prog w K p (.ref f') d u [.ref x] news post) (hpost : ∀ v nw, post v nw → ∃ n t, v = .int n t ∧ 0 ≤ n ∧ n < 2 ^ 63) (I : InstAt s.heap x ox C od) (hs : findIn K (.ref C) "__len__" = some (some (.ref f'))) (hf : isFn K (.ref f') = true)
    (B : Below A₀ base outer h₀) (F : Fr h₀ L s.heap m) (X : K.In h₀) (N : News h₀ L s.heap led) (T : Top p loose mean mg mb h₀) (G : AllBare s.gens) (dn : DN led) (hk : cs.kind = .function) (rest : Led) (hp : led.Perm (news ++ rest))
    (hd : dp + d < recursionLimit) (hu : un + 1 + u < cLine) (ret : ∀ n t t' (s' : Shared) (news' : Led), Fr h₀ L s'.heap m → News h₀ L s'.heap (news' ++ rest) → AllBare s'.gens → s'.os = s.os → DN (news' ++ rest) → post (.int n t') news' → Q (.int n t) s') :
    wpAny (model prog w) (ktrTop dp un gd cn cs L a ccd cl outer) (call (.builtin "len") [.ref x]) Q E s := by
  refine len_K F X I hs hf ?_
  show wpAny (model prog w) (ktrTop dp (un + 1) gd cn cs L a ccd cl outer) (call (.ref f') [.ref x]) (PySem.W.LenBack Q) E s
  refine D.use B F X (News.perm N hp) T hk G (dn.perm hp) hd hu fun v s' nw' F' N' G' ho D' hq => ?_
  obtain ⟨n, t, rfl, h0, h1⟩ := hpost _ _ hq
  exact ⟨⟨h0, h1⟩, ret n _ t { s' with toks := s'.toks + 1 } nw' F' N' G' ho D' hq⟩
end
theorem add_led {prog : Program} {w : World} {A : Around} {s : Shared} {E : Value → Shared → Prop} {Q : Value → Shared → Prop} {x y : Str} {a b : Nat} {t u : Tok} (hx : x.length ≤ a) (hy : y.length ≤ b) (hab : a + b ≤ 5000) (h : ∀ t' k, (x ++ y).length ≤ a + b → Q (.str (x ++ y) t') { s with toks := k }) :
    wpAny (model prog w) A (binaryOp .Add (.str x t) (.str y u)) Q E s := by
  exact SBL.add (hsz := by rw [sizeLine_eq]; (first | lia | omega)) fun t' k hb => h t' k (by (first | lia | omega))
end Mine
end
section
open PySem PySem.W PyProof.Rows
namespace Mine
theorem one_two_three {a b c : Value} {i : Nat} {u : Value} (h : #[a, b, c][i]? = some u) : (i = 0 ∧ u = a) ∨ (i = 1 ∧ u = b) ∨ (i = 2 ∧ u = c) := by
  match i, h with
  | 0, h => simp at h; exact .inl ⟨rfl, h.symm⟩
  | 1, h => simp at h; exact .inr (.inl ⟨rfl, h.symm⟩)
  | 2, h => simp at h; exact .inr (.inr ⟨rfl, h.symm⟩)
  | n + 3, h => simp at h
end Mine
end
section
namespace Mine
/-! ## law 1, plain: the root of a text (stutters of one to three signs mended) by a pile; lists have their top first -/
noncomputable def push (c : Nat) (s : List Nat) : List Nat := match s with
  | [] => [c]
  | a :: r => if a = c then s else match r with
    | b :: d :: r' => if b = c ∧ d = a then b :: d :: r' else (match r' with
      | e :: f :: _ => if d = c ∧ e = a ∧ f = b then d :: e :: f :: r'.drop 2 else c :: s
      | _ => c :: s)
    | _ => c :: s
/-- no stutter at the top -/
noncomputable def TopOk : List Nat → Prop
  | a :: b :: r => a ≠ b ∧ (match r with
    | c :: d :: r' => ¬ (a = c ∧ b = d) ∧ (match r' with
      | e :: f :: _ => ¬ (a = d ∧ b = e ∧ c = f)
      | _ => True)
    | _ => True)
  | _ => True
/-- no stutter anywhere -/
noncomputable def Ok : List Nat → Prop
  | [] => True
  | a :: r => TopOk (a :: r) ∧ Ok r
theorem push_ok {c : Nat} {s : List Nat} (h : Ok s) : Ok (push c s) := by
  unfold push
  split
  · exact ⟨trivial, trivial⟩
  · rename_i a r
    split
    · exact h
    · rename_i hac
      split
      · rename_i b d r'
        split
        · exact h.2
        · rename_i h2
          split
          · rename_i e f q
            split
            · exact h.2.2
            · rename_i h3
              refine ⟨⟨fun z => hac z.symm, ⟨fun z => h2 ⟨z.1.symm, z.2.symm⟩, fun z => h3 ⟨z.1.symm, z.2.1.symm, z.2.2.symm⟩⟩⟩, h⟩
          · rename_i hne
            refine ⟨⟨fun z => hac z.symm, ⟨fun z => h2 ⟨z.1.symm, z.2.symm⟩, ?_⟩⟩, h⟩
            split
            · exact absurd rfl (hne _ _ _)
            · trivial
      · rename_i hne
        refine ⟨⟨fun z => hac z.symm, ?_⟩, h⟩
        split
        · exact absurd rfl (hne _ _ _)
        · trivial
theorem push_top (c : Nat) (s : List Nat) : ∃ r, push c s = c :: r := by
  unfold push
  split
  · exact ⟨[], rfl⟩
  · rename_i a r
    split
    · rename_i h; exact ⟨r, by rw [h]⟩
    · split
      · split
        · rename_i h; exact ⟨_, by rw [h.1]⟩
        · split
          · split
            · rename_i h; exact ⟨_, by rw [h.1]⟩
            · exact ⟨_, rfl⟩
          · exact ⟨_, rfl⟩
      · exact ⟨_, rfl⟩
theorem push_same (c : Nat) (r : List Nat) : push c (c :: r) = c :: r := by unfold push; simp
theorem top2 {a b : Nat} (hab : a ≠ b) (r : List Nat) : ∃ q, push b (a :: r) = b :: a :: q := by
  unfold push
  simp only [hab, if_false]
  split
  · rename_i b0 d r'
    split
    · rename_i h; exact ⟨_, by rw [h.1, h.2]⟩
    · split
      · split
        · rename_i h; exact ⟨_, by rw [h.1, h.2.1]⟩
        · exact ⟨_, rfl⟩
      · exact ⟨_, rfl⟩
  · exact ⟨_, rfl⟩
theorem back2 {a b : Nat} (hab : a ≠ b) {q : List Nat} (h : Ok (b :: a :: q)) : push b (push a (b :: a :: q)) = b :: a :: q := by
  have hba : b ≠ a := fun z => hab z.symm
  match q, h with
  | [], _ => simp [push, hab, hba]
  | d :: r, h =>
    have had : a ≠ d := h.2.1.1
    by_cases hd : d = b
    · subst hd
      have e1 : push a (d :: a :: d :: r) = a :: d :: r := by simp [push, hba]
      rw [e1]
      match r, h with
      | [], _ => simp [push, hab]
      | [e], h =>
        have h2 := h.1.2.1
        have : e ≠ a := fun z => h2 ⟨rfl, z.symm⟩
        simp [push, hab, this]
      | e :: f :: r', h =>
        have h2 := h.1.2.1
        have h3 : e ≠ a := fun z => h2 ⟨rfl, z.symm⟩
        have h4 : d ≠ e := h.2.2.1.1
        have h5 : ¬ e = d := fun z => h4 z.symm
        cases r' <;> simp [push, hab, h3, h5]
    · have hda : ¬ d = a := fun z => had z.symm
      have e1 : push a (b :: a :: d :: r) = a :: b :: a :: d :: r := by
        match r with
        | [] => simp [push, hba, hd]
        | [e] => simp [push, hba, hd]
        | e :: f :: r' => simp [push, hba, hd, hda]
      rw [e1]
      simp [push, hab]
theorem top3 {a b c : Nat} (hab : a ≠ b) (hbc : b ≠ c) (hac : a ≠ c) (q : List Nat) : ∃ r, push c (b :: a :: q) = c :: b :: a :: r := by
  unfold push
  simp only [hbc, if_false]
  split
  · rename_i b0 d r' heq
    injection heq with h1 h2
    subst h1
    rw [if_neg (fun z => hac z.1)]
    split
    · rename_i e f r''
      split
      · rename_i h; exact ⟨_, by rw [h.1, h.2.1, h.2.2]⟩
      · exact ⟨_, rfl⟩
    · exact ⟨_, rfl⟩
  · exact ⟨_, rfl⟩
theorem back3 {a b c : Nat} (hab : a ≠ b) (hbc : b ≠ c) (hac : a ≠ c) {q : List Nat} (h : Ok (c :: b :: a :: q)) : push c (push b (push a (c :: b :: a :: q))) = c :: b :: a :: q := by
  have hba : ¬ b = a := fun z => hab z.symm
  have hcb : ¬ c = b := fun z => hbc z.symm
  have hca : ¬ c = a := fun z => hac z.symm
  by_cases hq : ∃ r, q = c :: b :: r
  · obtain ⟨r, rfl⟩ := hq
    have e1 : push a (c :: b :: a :: c :: b :: r) = a :: c :: b :: r := by simp [push, hca, hba]
    rw [e1]
    match r, h with
    | [], _ => simp [push, hab, hac, hbc, hba, hcb, hca]
    | [d], h =>
      have hd : ¬ d = a := fun z => h.1.2.2 ⟨rfl, rfl, z.symm⟩
      simp [push, hab, hac, hbc, hba, hcb, hca, hd]
    | d :: e :: r', h =>
      have hd : ¬ d = a := fun z => h.1.2.2 ⟨rfl, rfl, z.symm⟩
      simp [push, hab, hac, hbc, hba, hcb, hca, hd]
  · have e1 : push a (c :: b :: a :: q) = a :: c :: b :: a :: q := by
      match q, hq with
      | [], _ => simp [push, hca, hba]
      | [d], _ => simp [push, hca, hba]
      | d :: e :: r, hq =>
        have : ¬ (d = c ∧ e = b) := fun z => hq ⟨r, by rw [z.1, z.2]⟩
        simp [push, hca, hba, this]
    rw [e1]
    by_cases hc : ∃ r, q = c :: r
    · obtain ⟨r, rfl⟩ := hc
      have e2 : push b (a :: c :: b :: a :: c :: r) = b :: a :: c :: r := by simp [push, hab, hcb]
      rw [e2]
      match r, hq with
      | [], _ => simp [push, hac, hbc]
      | [d], _ => simp [push, hac, hbc]
      | d :: e :: r', hq =>
        have : ¬ d = b := fun z => hq ⟨e :: r', by rw [z]⟩
        simp [push, hac, hbc, this]
    · have e2 : push b (a :: c :: b :: a :: q) = b :: a :: c :: b :: a :: q := by
        match q, hc with
        | [], _ => simp [push, hab, hcb]
        | d :: r, hc =>
          have : ¬ d = c := fun z => hc ⟨r, by rw [z]⟩
          simp [push, hab, hcb, this]
      rw [e2]
      simp [push, hbc, hac]
/-- pushed again, a stretch of one to three signs changes nothing -/
theorem again1 (a : Nat) (s : List Nat) : push a (push a s) = push a s := by
  obtain ⟨r, e⟩ := push_top a s
  rw [e, push_same]
theorem again2 (a b : Nat) {s : List Nat} (h : Ok s) : push b (push a (push b (push a s))) = push b (push a s) := by
  by_cases hab : a = b
  · subst hab; simp only [again1]
  · obtain ⟨r, e⟩ := push_top a s
    have h1 : Ok (a :: r) := e ▸ push_ok h
    obtain ⟨q, e2⟩ := top2 hab r
    rw [e, e2]
    exact back2 hab (e2 ▸ push_ok h1)
theorem again3 (a b c : Nat) {s : List Nat} (h : Ok s) : push c (push b (push a (push c (push b (push a s))))) = push c (push b (push a s)) := by
  by_cases hab : a = b
  · subst hab; simp only [again1]; exact again2 a c h
  · by_cases hbc : b = c
    · subst hbc; simp only [again1]; exact again2 a b h
    · by_cases hac : a = c
      · subst hac
        rw [again1]
        exact again2 b a (push_ok h)
      · obtain ⟨r, e⟩ := push_top a s
        have h1 : Ok (a :: r) := e ▸ push_ok h
        obtain ⟨q, e2⟩ := top2 hab r
        have h2 : Ok (b :: a :: q) := e2 ▸ push_ok h1
        obtain ⟨q3, e3⟩ := top3 hab hbc hac q
        rw [e, e2, e3]
        exact back3 hab hbc hac (e3 ▸ push_ok h2)
noncomputable def pushes (s l : List Nat) : List Nat := l.foldl (fun s c => push c s) s
/-- what the pile makes of a text, its top first -/
noncomputable def root (l : List Nat) : List Nat := pushes [] l
theorem pushes_app (s a b : List Nat) : pushes s (a ++ b) = pushes (pushes s a) b := by simp [pushes, List.foldl_append]
theorem pushes_ok : ∀ {l s : List Nat}, Ok s → Ok (pushes s l)
  | [], _, h => h
  | c :: l, s, h => by show Ok (pushes (push c s) l); exact pushes_ok (push_ok h)
theorem root_ok (l : List Nat) : Ok (root l) := pushes_ok trivial
/-- one stutter mended -/
inductive Mend : List Nat → List Nat → Prop
  | at_ (x u y : List Nat) (h1 : 1 ≤ u.length) (h3 : u.length ≤ 3) : Mend (x ++ (u ++ (u ++ y))) (x ++ (u ++ y))
theorem pushes_twice {u s : List Nat} (h : Ok s) (h1 : 1 ≤ u.length) (h3 : u.length ≤ 3) : pushes (pushes s u) u = pushes s u := by
  match u, h1, h3 with
  | [a], _, _ => exact again1 a s
  | [a, b], _, _ => exact again2 a b h
  | [a, b, c], _, _ => exact again3 a b c h
theorem root_mend {t t' : List Nat} (h : Mend t t') : root t = root t' := by
  obtain ⟨x, u, y, h1, h3⟩ := h
  unfold root
  rw [pushes_app, pushes_app, pushes_app, pushes_app [] x, pushes_app (pushes [] x) u y]
  rw [pushes_twice (s := pushes [] x) (root_ok x) h1 h3]
theorem push_cons {c : Nat} {s : List Nat} (h : Ok (c :: s)) : push c s = c :: s := by
  unfold push
  split
  · rfl
  · rename_i a r
    rw [if_neg (fun z => h.1.1 z.symm)]
    split
    · rename_i b d r'
      have h2 := h.1.2.1
      rw [if_neg (fun z => h2 ⟨z.1.symm, z.2.symm⟩)]
      split
      · rename_i e f q
        have h3 := h.1.2.2
        rw [if_neg (fun z => h3 ⟨z.1.symm, z.2.1.symm, z.2.2.symm⟩)]
      · rfl
    · rfl
theorem ok_app : ∀ {a b : List Nat}, Ok (a ++ b) → Ok b
  | [], _, h => h
  | _ :: a, _, h => ok_app (a := a) h.2
/-- a text without stutters is its own root -/
theorem root_plain : ∀ {l s : List Nat}, Ok (l.reverse ++ s) → pushes s l = l.reverse ++ s
  | [], _, _ => rfl
  | c :: l, s, h => by
    have e : (c :: l).reverse ++ s = l.reverse ++ (c :: s) := by simp
    rw [e] at h ⊢
    show pushes (push c s) l = _
    rw [push_cons (ok_app h)]
    exact root_plain h
theorem root_of_ok {l : List Nat} (h : Ok l.reverse) : root l = l.reverse := by
  have := root_plain (l := l) (s := []) (by simpa using h)
  simpa [root] using this
end Mine
end
section
namespace Mine
/-- the k signs at the top stand there twice -/
noncomputable def Stut (k : Nat) (l : List Nat) : Prop := 2 * k ≤ l.length ∧ l.take k = (l.drop k).take k
theorem stut1 {a b : Nat} {r : List Nat} : Stut 1 (a :: b :: r) ↔ a = b := by simp [Stut]
theorem stut2 {a b c d : Nat} {r : List Nat} : Stut 2 (a :: b :: c :: d :: r) ↔ a = c ∧ b = d := by simp [Stut]
theorem stut3 {a b c d e f : Nat} {r : List Nat} : Stut 3 (a :: b :: c :: d :: e :: f :: r) ↔ a = d ∧ b = e ∧ c = f := by simp [Stut]
theorem push_stut1 {c : Nat} {s : List Nat} (h : Stut 1 (c :: s)) : push c s = s := by
  match s, h with
  | [], h => simp [Stut] at h
  | a :: r, h => have := stut1.mp h; subst this; exact push_same c r
theorem push_stut2 {c : Nat} {s : List Nat} (ho : Ok s) (h : Stut 2 (c :: s)) : push c s = s.drop 1 ∧ ¬ Stut 1 (c :: s) := by
  match s, ho, h with
  | [], _, h => simp [Stut] at h
  | [_], _, h => simp [Stut] at h
  | [_, _], _, h => simp [Stut] at h
  | a :: b :: d :: r, ho, h =>
    obtain ⟨rfl, rfl⟩ := stut2.mp h
    have hab : ¬ a = c := ho.1.1
    refine ⟨by simp [push, hab], fun z => hab (stut1.mp z).symm⟩
theorem push_stut3 {c : Nat} {s : List Nat} (ho : Ok s) (h : Stut 3 (c :: s)) : push c s = s.drop 2 ∧ ¬ Stut 1 (c :: s) ∧ ¬ Stut 2 (c :: s) := by
  match s, ho, h with
  | [], _, h => simp [Stut] at h
  | [_], _, h => simp [Stut] at h
  | [_, _], _, h => simp [Stut] at h
  | [_, _, _], _, h => simp [Stut] at h
  | [_, _, _, _], _, h => simp [Stut] at h
  | a :: b :: d :: e :: f :: r, ho, h =>
    obtain ⟨rfl, rfl, rfl⟩ := stut3.mp h
    have h1 : ¬ a = b := ho.1.1
    have h2 : ¬ b = c := ho.2.1.1
    have h3 : ¬ c = a := ho.2.2.1.1
    have h4 : ¬ a = c := fun z => h3 z.symm
    refine ⟨by simp [push, h4, h2], fun z => h3 (stut1.mp z), fun z => h2 (stut2.mp z).1.symm⟩
theorem push_none {c : Nat} {s : List Nat} (h1 : ¬ Stut 1 (c :: s)) (h2 : ¬ Stut 2 (c :: s)) (h3 : ¬ Stut 3 (c :: s)) : push c s = c :: s := by
  match s, h1, h2, h3 with
  | [], _, _, _ => rfl
  | [a], h1, _, _ => have : ¬ a = c := fun z => h1 (stut1.mpr z.symm); simp [push, this]
  | [a, b], h1, _, _ => have : ¬ a = c := fun z => h1 (stut1.mpr z.symm); simp [push, this]
  | [a, b, d], h1, h2, _ =>
    have h : ¬ a = c := fun z => h1 (stut1.mpr z.symm)
    have h' : ¬ (b = c ∧ d = a) := fun z => h2 (stut2.mpr ⟨z.1.symm, z.2.symm⟩)
    simp [push, h, h']
  | [a, b, d, e], h1, h2, _ =>
    have h : ¬ a = c := fun z => h1 (stut1.mpr z.symm)
    have h' : ¬ (b = c ∧ d = a) := fun z => h2 (stut2.mpr ⟨z.1.symm, z.2.symm⟩)
    simp [push, h, h']
  | a :: b :: d :: e :: f :: r, h1, h2, h3 =>
    have h : ¬ a = c := fun z => h1 (stut1.mpr z.symm)
    have h' : ¬ (b = c ∧ d = a) := fun z => h2 (stut2.mpr ⟨z.1.symm, z.2.symm⟩)
    have h'' : ¬ (d = c ∧ e = a ∧ f = b) := fun z => h3 (stut3.mpr ⟨z.1.symm, z.2.1.symm, z.2.2.symm⟩)
    simp [push, h, h', h'']
end Mine
end
section
namespace Mine
noncomputable def NoSt (l : List Nat) : Prop := ∀ x u y : List Nat, l = x ++ (u ++ (u ++ y)) → 1 ≤ u.length → u.length ≤ 3 → False
theorem nost_rev {l : List Nat} (h : NoSt l) : NoSt l.reverse := by
  intro x u y e h1 h3
  refine h y.reverse u.reverse x.reverse ?_ (by simpa using h1) (by simpa using h3)
  have := congrArg List.reverse e
  simpa using this
theorem topOk_of {l : List Nat} (h : NoSt l) : TopOk l := by
  match l, h with
  | [], _ => trivial
  | [_], _ => trivial
  | [a, b], h => exact ⟨fun z => h [] [a] [] (by simp [z]) (by simp) (by simp), trivial⟩
  | [a, b, c], h => exact ⟨fun z => h [] [a] [c] (by simp [z]) (by simp) (by simp), trivial⟩
  | [a, b, c, d], h => exact ⟨fun z => h [] [a] [c, d] (by simp [z]) (by simp) (by simp), fun z => h [] [a, b] [] (by simp [z.1, z.2]) (by simp) (by simp), trivial⟩
  | [a, b, c, d, e], h => exact ⟨fun z => h [] [a] [c, d, e] (by simp [z]) (by simp) (by simp), fun z => h [] [a, b] [e] (by simp [z.1, z.2]) (by simp) (by simp), trivial⟩
  | a :: b :: c :: d :: e :: f :: r, h => exact ⟨fun z => h [] [a] (c :: d :: e :: f :: r) (by simp [z]) (by simp) (by simp), fun z => h [] [a, b] (e :: f :: r) (by simp [z.1, z.2]) (by simp) (by simp), fun z => h [] [a, b, c] r (by simp [z.1, z.2.1, z.2.2]) (by simp) (by simp)⟩
theorem nost_tail {a : Nat} {l : List Nat} (h : NoSt (a :: l)) : NoSt l := fun x u y e h1 h3 => h (a :: x) u y (by rw [e]; rfl) h1 h3
theorem ok_of_nost : ∀ {l : List Nat}, NoSt l → Ok l
  | [], _ => trivial
  | _ :: _, h => ⟨topOk_of h, ok_of_nost (nost_tail h)⟩
theorem nost_of_ok {l : List Nat} (h : Ok l) : NoSt l := by
  intro x u y e h1 h3
  rw [e] at h
  have h' := ok_app h
  match u, h1, h3 with
  | [a], _, _ => exact h'.1.1 rfl
  | [a, b], _, _ => exact h'.1.2.1 ⟨rfl, rfl⟩
  | [a, b, c], _, _ => exact h'.1.2.2 ⟨rfl, rfl, rfl⟩
theorem ok_rev {l : List Nat} (h : Ok l) : Ok l.reverse := ok_of_nost (nost_rev (nost_of_ok h))
/-- mended again and again -/
inductive Mends : List Nat → List Nat → Prop
  | refl (t) : Mends t t
  | step {a b c} : Mend a b → Mends b c → Mends a c
theorem root_mends {t t' : List Nat} (h : Mends t t') : root t = root t' := by
  induction h with
  | refl => rfl
  | step h _ ih => exact (root_mend h).trans ih
/-- whichever stutters are mended: what has none in the end is the root -/
theorem mends_root {t y : List Nat} (h : Mends t y) (hy : Ok y) : root t = y.reverse := by
  rw [root_mends h]
  exact root_of_ok (ok_rev hy)
theorem Mends.trans {a b c : List Nat} (h : Mends a b) (h' : Mends b c) : Mends a c := by
  induction h with
  | refl => exact h'
  | step h _ ih => exact .step h (ih h')
theorem mend_cons {a b : List Nat} (c : Nat) (h : Mend a b) : Mend (c :: a) (c :: b) := by
  obtain ⟨x, u, y, h1, h3⟩ := h
  exact .at_ (c :: x) u y h1 h3
theorem mends_cons {a b : List Nat} (c : Nat) (h : Mends a b) : Mends (c :: a) (c :: b) := by
  induction h with
  | refl => exact .refl _
  | step h _ ih => exact .step (mend_cons c h) ih
theorem stut_mend {k : Nat} {l : List Nat} (h : Stut k l) (h1 : 1 ≤ k) (h3 : k ≤ 3) : Mend l (l.drop k) := by
  have e : l = [] ++ (l.take k ++ (l.take k ++ l.drop (k + k))) := by
    have e1 : l.drop k = l.take k ++ l.drop (k + k) := by
      conv => lhs; rw [← List.take_append_drop k (l.drop k)]
      rw [← h.2, List.drop_drop]
    rw [List.nil_append, ← e1, List.take_append_drop]
  have e2 : l.drop k = [] ++ (l.take k ++ l.drop (k + k)) := by
    conv => lhs; rw [← List.take_append_drop k (l.drop k)]
    rw [← h.2, List.drop_drop]; rfl
  have hl : (l.take k).length = k := by rw [List.length_take]; have := h.1; (first | lia | omega)
  have m := Mend.at_ [] (l.take k) (l.drop (k + k)) (by (first | lia | omega)) (by (first | lia | omega))
  rw [← e, ← e2] at m
  exact m
theorem mends_push {c : Nat} {s : List Nat} (h : Ok s) : Mends (c :: s) (push c s) := by
  by_cases h1 : Stut 1 (c :: s)
  · rw [push_stut1 h1]; exact .step (stut_mend h1 (by (first | lia | omega)) (by (first | lia | omega))) (.refl _)
  · by_cases h2 : Stut 2 (c :: s)
    · rw [(push_stut2 h h2).1]; exact .step (stut_mend h2 (by (first | lia | omega)) (by (first | lia | omega))) (.refl _)
    · by_cases h3 : Stut 3 (c :: s)
      · rw [(push_stut3 h h3).1]; exact .step (stut_mend h3 (by (first | lia | omega)) (by (first | lia | omega))) (.refl _)
      · rw [push_none h1 h2 h3]; exact .refl _
/-- read from its end, the text is mended to the same root -/
theorem mends_back : ∀ t : List Nat, Mends t (root t.reverse)
  | [] => .refl _
  | c :: t => by
    have e : root (c :: t).reverse = push c (root t.reverse) := by simp [root, pushes_app, pushes]
    rw [e]
    exact (mends_cons c (mends_back t)).trans (mends_push (root_ok _))
theorem root_back (t : List Nat) : root t = (root t.reverse).reverse := mends_root (mends_back t) (root_ok _)
/-- the last signs typed once more leave the root -/
theorem root_repeat (t : List Nat) {k : Nat} (h3 : k ≤ 3) : root (t ++ t.drop (t.length - k)) = root t := by
  by_cases h0 : (t.drop (t.length - k)).length = 0
  · rw [List.length_eq_zero_iff.mp h0, List.append_nil]
  · have m := Mend.at_ (t.take (t.length - k)) (t.drop (t.length - k)) [] (by (first | lia | omega)) (by rw [List.length_drop]; (first | lia | omega))
    simp only [List.append_nil] at m
    rw [← List.append_assoc, List.take_append_drop] at m
    exact root_mend m
/-- the same signs behind leave the roots alike -/
theorem root_behind {a b : List Nat} (h : root a = root b) (c : List Nat) : root (a ++ c) = root (b ++ c) := by
  unfold root at *
  rw [pushes_app, pushes_app, h]
end Mine
end
section
set_option maxRecDepth 100000
namespace Mine
/-- a stutter at the front, mended -/
noncomputable def mf (k : Nat) (l : List Nat) : List Nat := if (l.take k).isPrefixOf (l.drop k) = true then l.drop k else l
theorem front_stut {k : Nat} {l : List Nat} (hl : l ≠ []) (hk : 1 ≤ k) : (l.take k).isPrefixOf (l.drop k) = true ↔ Stut k l := by
  rw [List.isPrefixOf_iff_prefix]
  unfold Stut
  constructor
  · intro h
    by_cases hkl : k ≤ l.length
    · have h1 := h.length_le
      rw [List.length_take, List.length_drop] at h1
      refine ⟨by (first | lia | omega), ?_⟩
      have := List.prefix_iff_eq_take.mp h
      rw [List.length_take, Nat.min_eq_left hkl] at this
      exact this
    · exfalso
      rw [List.drop_of_length_le (by (first | lia | omega)), List.take_of_length_le (by (first | lia | omega))] at h
      exact hl (List.prefix_nil.mp h)
  · rintro ⟨_, h⟩
    rw [h]
    exact List.take_prefix _ _
theorem not_stut {k : Nat} {l : List Nat} (h : Ok l) (hk : 1 ≤ k) (h3 : k ≤ 3) : ¬ Stut k l := by
  rintro ⟨hl, he⟩
  refine nost_of_ok h [] (l.take k) (l.drop (2 * k)) ?_ (by rw [List.length_take]; (first | lia | omega)) (by rw [List.length_take]; (first | lia | omega))
  have : l.drop k = (l.drop k).take k ++ l.drop (2 * k) := by
    rw [show 2 * k = k + k by (first | lia | omega), ← List.drop_drop, List.take_append_drop]
  rw [List.nil_append, show l.take k ++ l.drop (2 * k) = l.drop k by rw [he]; exact this.symm, List.take_append_drop]
theorem mf_ok {k : Nat} {l : List Nat} (h : Ok l) (hl : l ≠ []) (hk : 1 ≤ k) (h3 : k ≤ 3) : mf k l = l := by
  unfold mf
  rw [if_neg]
  rw [front_stut hl hk]
  exact not_stut h hk h3
theorem mf_yes {k : Nat} {l : List Nat} (hl : l ≠ []) (hk : 1 ≤ k) (h : Stut k l) : mf k l = l.drop k := by
  unfold mf; rw [if_pos ((front_stut hl hk).mpr h)]
theorem mf_no {k : Nat} {l : List Nat} (hl : l ≠ []) (hk : 1 ≤ k) (h : ¬ Stut k l) : mf k l = l := by
  unfold mf; rw [if_neg fun x => h ((front_stut hl hk).mp x)]
theorem ok_drop {k : Nat} {l : List Nat} (h : Ok l) : Ok (l.drop k) := by
  rw [← List.take_append_drop k l] at h
  exact ok_app h
theorem mf_push {c : Nat} {s : List Nat} (h : Ok s) : mf 3 (mf 2 (mf 1 (c :: s))) = push c s := by
  have hc : c :: s ≠ [] := by simp
  by_cases h1 : Stut 1 (c :: s)
  · have hs : s ≠ [] := by intro e; subst e; simp [Stut] at h1
    rw [mf_yes hc (by decide) h1, List.drop_one, List.tail_cons, mf_ok h hs (by decide) (by decide), mf_ok h hs (by decide) (by decide), push_stut1 h1]
  · rw [mf_no hc (by decide) h1]
    by_cases h2 : Stut 2 (c :: s)
    · have hl := h2.1
      have e : (c :: s).drop 2 = s.drop 1 := rfl
      rw [mf_yes hc (by decide) h2, e, mf_ok (ok_drop h) (by intro e; have := congrArg List.length e; simp at this hl; (first | lia | omega)) (by decide) (by decide), (push_stut2 h h2).1]
    · rw [mf_no hc (by decide) h2]
      by_cases h3 : Stut 3 (c :: s)
      · rw [mf_yes hc (by decide) h3, (push_stut3 h h3).1]; rfl
      · rw [mf_no hc (by decide) h3, push_none h1 h2 h3]
theorem mem_push {x c : Nat} {s : List Nat} (h : x ∈ push c s) : x = c ∨ x ∈ s := by
  unfold push at h
  split at h
  · simpa using h
  · split at h
    · exact .inr h
    · split at h
      · split at h
        · exact .inr (List.mem_cons_of_mem _ h)
        · split at h
          · split at h
            · refine .inr ?_
              simp at h ⊢
              grind
            · simpa using h
          · simpa using h
      · simpa using h
theorem len_push (c : Nat) (s : List Nat) : (push c s).length ≤ s.length + 1 := by
  unfold push
  split
  · simp
  · split
    · simp
    · split
      · split
        · simp
        · split
          · split
            · simp
            · simp
          · simp
      · simp
theorem pushes_snoc (s l : List Nat) (c : Nat) : pushes s (l ++ [c]) = push c (pushes s l) := by rw [pushes_app]; rfl
theorem mem_pushes {x : Nat} : ∀ {l s : List Nat}, x ∈ pushes s l → x ∈ l ∨ x ∈ s
  | [], _, h => .inr h
  | c :: l, s, h => by
    have h' : x ∈ pushes (push c s) l := h
    rcases mem_pushes h' with h1 | h1
    · exact .inl (List.mem_cons_of_mem _ h1)
    · rcases mem_push h1 with rfl | h1
      · exact .inl (.head _)
      · exact .inr h1
theorem len_pushes : ∀ (l s : List Nat), (pushes s l).length ≤ s.length + l.length
  | [], s => by simp [pushes]
  | c :: l, s => by
    have h1 := len_pushes l (push c s)
    have h2 := len_push c s
    show (pushes (push c s) l).length ≤ _
    rw [List.length_cons]; (first | lia | omega)
theorem mem_root {x : Nat} {l : List Nat} (h : x ∈ root l) : x ∈ l := (mem_pushes h).elim id fun h => by cases h
theorem len_root (l : List Nat) : (root l).length ≤ l.length := by have := len_pushes l []; simp only [List.length_nil, Nat.zero_add] at this; exact this
theorem root_snoc (l : List Nat) (c : Nat) : root (l ++ [c]) = push c (root l) := pushes_snoc [] l c
end Mine
end
section
namespace Mine
/-- a sign pushed, stutters of up to k signs tried at the top -/
noncomputable def ps (cs : List Nat) : Nat → List Nat
  | 0 => cs
  | k + 1 => if (cs.take (k + 1)).isPrefixOf (cs.drop (k + 1)) = true then (ps cs k).drop (k + 1) else ps cs k
theorem ps_all {c : Nat} {s : List Nat} (h : Ok s) :
    ps (c :: s) 3 = push c s ∧ (((c :: s).take 2).isPrefixOf ((c :: s).drop 2) = true → ps (c :: s) 1 = c :: s) ∧ (((c :: s).take 3).isPrefixOf ((c :: s).drop 3) = true → ps (c :: s) 2 = c :: s) := by
  have hc : c :: s ≠ [] := by simp
  have f1 : ((c :: s).take 1).isPrefixOf ((c :: s).drop 1) = true ↔ Stut 1 (c :: s) := front_stut hc (by decide)
  have f2 : ((c :: s).take 2).isPrefixOf ((c :: s).drop 2) = true ↔ Stut 2 (c :: s) := front_stut hc (by decide)
  have f3 : ((c :: s).take 3).isPrefixOf ((c :: s).drop 3) = true ↔ Stut 3 (c :: s) := front_stut hc (by decide)
  have e1 : ps (c :: s) 1 = if ((c :: s).take 1).isPrefixOf ((c :: s).drop 1) = true then (c :: s).drop 1 else c :: s := rfl
  have e2 : ps (c :: s) 2 = if ((c :: s).take 2).isPrefixOf ((c :: s).drop 2) = true then (ps (c :: s) 1).drop 2 else ps (c :: s) 1 := rfl
  have e3 : ps (c :: s) 3 = if ((c :: s).take 3).isPrefixOf ((c :: s).drop 3) = true then (ps (c :: s) 2).drop 3 else ps (c :: s) 2 := rfl
  by_cases h1 : Stut 1 (c :: s)
  · have n2 : ¬ Stut 2 (c :: s) := fun x => (push_stut2 h x).2 h1
    have n3 : ¬ Stut 3 (c :: s) := fun x => (push_stut3 h x).2.1 h1
    rw [if_pos (f1.mpr h1)] at e1
    rw [if_neg (fun x => n2 (f2.mp x))] at e2
    rw [if_neg (fun x => n3 (f3.mp x))] at e3
    exact ⟨by rw [e3, e2, e1, push_stut1 h1]; rfl, fun x => absurd (f2.mp x) n2, fun x => absurd (f3.mp x) n3⟩
  · rw [if_neg (fun x => h1 (f1.mp x))] at e1
    by_cases h2 : Stut 2 (c :: s)
    · have n3 : ¬ Stut 3 (c :: s) := fun x => (push_stut3 h x).2.2 h2
      rw [if_pos (f2.mpr h2)] at e2
      rw [if_neg (fun x => n3 (f3.mp x))] at e3
      exact ⟨by rw [e3, e2, e1, (push_stut2 h h2).1]; rfl, fun _ => e1, fun x => absurd (f3.mp x) n3⟩
    · rw [if_neg (fun x => h2 (f2.mp x))] at e2
      by_cases h3 : Stut 3 (c :: s)
      · rw [if_pos (f3.mpr h3)] at e3
        exact ⟨by rw [e3, e2, e1, (push_stut3 h h3).1]; rfl, fun _ => e1, fun _ => e2.trans e1⟩
      · rw [if_neg (fun x => h3 (f3.mp x))] at e3
        exact ⟨by rw [e3, e2, e1, push_none h1 h2 h3], fun _ => e1, fun _ => e2.trans e1⟩
theorem ps_before {c : Nat} {s : List Nat} (h : Ok s) {k : Nat} (hk : k < 3) (ht : ((c :: s).take (k + 1)).isPrefixOf ((c :: s).drop (k + 1)) = true) : ps (c :: s) k = c :: s := by
  match k, hk with
  | 0, _ => rfl
  | 1, _ => exact (ps_all h).2.1 ht
  | 2, _ => exact (ps_all h).2.2 ht
theorem ps_sub (cs : List Nat) : ∀ k, (∀ c ∈ ps cs k, c ∈ cs) ∧ (ps cs k).length ≤ cs.length
  | 0 => ⟨fun _ h => h, Nat.le_refl _⟩
  | k + 1 => by
    have ih := ps_sub cs k
    unfold ps
    split
    · exact ⟨fun c h => ih.1 c (List.mem_of_mem_drop h), by rw [List.length_drop]; (first | lia | omega)⟩
    · exact ih
end Mine
end
section
namespace Mine
/-- a stutter of k signs at place a, as the slices tell it -/
noncomputable def stutAt (l : List Nat) (a k : Nat) : Prop := (l.take (a + k)).drop a = (l.take (a + 2 * k)).drop (a + k)
theorem stutAt_len {l : List Nat} {a k : Nat} (ha : a < l.length) (_hk : 1 ≤ k) (h : stutAt l a k) : a + 2 * k ≤ l.length := by
  have := congrArg List.length h
  simp only [List.length_drop, List.length_take] at this
  (first | lia | omega)
theorem stutAt_mend {l : List Nat} {a k : Nat} (ha : a < l.length) (hk : 1 ≤ k) (h3 : k ≤ 3) (h : stutAt l a k) : Mend l (l.take a ++ l.drop (a + k)) := by
  have hl := stutAt_len ha hk h
  have e1 : l.take (a + k) = l.take a ++ (l.take (a + k)).drop a := by
    conv => lhs; rw [← List.take_append_drop a (l.take (a + k))]
    rw [List.take_take, Nat.min_eq_left (by (first | lia | omega))]
  have e2 : l.take (a + 2 * k) = l.take (a + k) ++ (l.take (a + 2 * k)).drop (a + k) := by
    conv => lhs; rw [← List.take_append_drop (a + k) (l.take (a + 2 * k))]
    rw [List.take_take, Nat.min_eq_left (by (first | lia | omega))]
  have e3 : l = l.take (a + 2 * k) ++ l.drop (a + 2 * k) := (List.take_append_drop _ _).symm
  have hu : ((l.take (a + k)).drop a).length = k := by rw [List.length_drop, List.length_take]; (first | lia | omega)
  rw [← h] at e2
  generalize (l.take (a + k)).drop a = u at *
  rw [e1] at e2
  rw [e2] at e3
  have e4 : l.drop (a + k) = u ++ l.drop (a + 2 * k) := by
    conv => lhs; rw [e3]
    rw [List.append_assoc, List.append_assoc, ← List.append_assoc, List.drop_left' (by rw [List.length_append, List.length_take, hu]; (first | lia | omega))]
  rw [e4]
  conv => lhs; rw [e3]
  rw [List.append_assoc, List.append_assoc]
  exact Mend.at_ _ _ _ (by (first | lia | omega)) (by (first | lia | omega))
theorem ok_of_none {l : List Nat} (h : ∀ k a, 1 ≤ k → k ≤ 3 → a < l.length → ¬ stutAt l a k) : Ok l := by
  refine ok_of_nost fun x u y e h1 h3 => h u.length x.length h1 h3 ?_ ?_
  · rw [e, List.length_append, List.length_append]; (first | lia | omega)
  · unfold stutAt
    have e1 : l.take (x.length + u.length) = x ++ u := by
      rw [e, ← List.append_assoc, List.take_left' (by simp)]
    have e2 : l.take (x.length + 2 * u.length) = x ++ (u ++ u) := by
      rw [e, show x ++ (u ++ (u ++ y)) = (x ++ (u ++ u)) ++ y by simp, List.take_left' (by simp; (first | lia | omega))]
    rw [e1, e2, List.drop_left' rfl, ← List.append_assoc, List.drop_left' (by simp)]
end Mine
end
section
namespace Mine
/-! ## law 1, plain: the text as it is typed -/
noncomputable def stepT (ls : List (List Nat)) (t : List Nat) (x : Nat) : List Nat := if x % 6 < 3 then t ++ ls.getD (x % 6) [] else t ++ t.drop (t.length - (x % 6 - 2))
noncomputable def typeL (ls : List (List Nat)) (xs : List Nat) : List Nat := xs.foldl (stepT ls) []
theorem typeL_snoc (ls : List (List Nat)) (xs : List Nat) (x : Nat) : typeL ls (xs ++ [x]) = stepT ls (typeL ls xs) x := by simp [typeL]
theorem len_stepT {ls : List (List Nat)} (h : ∀ l ∈ ls, l.length ≤ 2) (t : List Nat) (x : Nat) : (stepT ls t x).length ≤ t.length + 3 := by
  unfold stepT
  split
  · rw [List.length_append]
    have : (ls.getD (x % 6) []).length ≤ 2 := by
      rw [List.getD_eq_getElem?_getD]
      cases e : ls[x % 6]? with
      | none => simp
      | some l => exact h l (List.mem_of_getElem? e)
    (first | lia | omega)
  · rw [List.length_append, List.length_drop]; (first | lia | omega)
theorem len_typeL {ls : List (List Nat)} (h : ∀ l ∈ ls, l.length ≤ 2) (xs : List Nat) : (typeL ls xs).length ≤ 3 * xs.length := by
  have key : ∀ (xs t : List Nat), (xs.foldl (stepT ls) t).length ≤ t.length + 3 * xs.length := by
    intro xs
    induction xs with
    | nil => intro t; simp
    | cons x r ih => intro t; have h1 := ih (stepT ls t x); have h2 := len_stepT h t x; rw [List.foldl_cons, List.length_cons]; (first | lia | omega)
  have := key xs []
  simp only [List.length_nil, Nat.zero_add] at this
  exact this
noncomputable def sym (x : Nat) : Int := if x % 6 < 3 then 255 - ((x % 6 : Nat) : Int) else 253 + ((x % 6 : Nat) : Int)
end Mine
end
section
open PySem PySem.W PyProof.Rows
namespace Mine
/-! what _ellipsis_match answers -/
noncomputable def dots : Str := Str.ofString "..."
noncomputable def ellLoop (got : Str) (hi : Nat) : List Str → Nat → Bool
  | [], _ => true
  | w :: r, lo => match Builtin.Str.occurrences got w lo hi 1 with
    | [] => false
    | i :: _ => ellLoop got hi r (i + w.length)
noncomputable def ellGo (got : Str) (ws : List Str) (lo hi : Nat) : Bool := if lo > hi then false else ellLoop got hi ws lo
noncomputable def ellEnd (got : Str) (ini : List Str) (b : Str) (lo : Nat) : Bool :=
  if b.length ≠ 0 then (if Txt.endswith got b then ellGo got ini lo (got.length - b.length) else false) else ellGo got (ini ++ [b]) lo got.length
noncomputable def ellM (want got : Str) : Bool :=
  if Txt.contains want dots = false then want == got
  else match Txt.split want dots with
    | [] => false
    | a :: r => match r.getLast? with
      | none => false
      | some b => if a.length ≠ 0 then (if Txt.startswith got a then ellEnd got r.dropLast b a.length else false) else ellEnd got (a :: r.dropLast) b 0
theorem kind_dots (x : Str) : decide (Builtin.Str.strKind x < Builtin.Str.strKind dots) = false := by
  have h : Builtin.Str.strKind dots = 1 := by decide +kernel
  rw [h]
  unfold Builtin.Str.strKind
  split
  · simp
  · split <;> simp
theorem split_two {x : Str} (h : Txt.contains x dots = true) : 2 ≤ (Txt.split x dots).length := by
  obtain ⟨i, h1, h2⟩ := (StrLaws.found_iff x dots).mp h
  have hd : dots.length = 3 := by decide +kernel
  unfold Txt.split
  rw [kind_dots, Bool.or_false, if_neg (by simp; (first | lia | omega))]
  rcases StrLaws.occ_first x dots x.length (x.length + 1) (by (first | lia | omega)) (List.range' 0 (x.length + 1 - 0)) 0 (fun _ _ => Nat.zero_le _) with ⟨_, hn⟩ | ⟨pre, a, post, _, h0, _, _⟩
  · exact absurd ⟨h1, h2⟩ (hn i (by simp [List.mem_range']; (first | lia | omega)))
  · have hne : ∃ c r, Builtin.Str.occurrences x dots 0 x.length (x.length + 1) = c :: r := by
      rw [StrLaws.occ_eq]
      generalize (forIn (List.range' 0 (x.length + 1 - 0)) ((#[] : Array Nat), 0) (StrLaws.occBody x dots x.length (x.length + 1))).run.fst = q at h0
      cases hq : q.toList with
      | nil => rw [← Array.getElem?_toList, hq] at h0; cases h0
      | cons c r => exact ⟨c, r, rfl⟩
    obtain ⟨c, r, hc⟩ := hne
    rw [hc, if_neg (by simp), StrLaws.partsBetween_eq]
    show 2 ≤ (StrLaws.partsFrom x dots.length 0 (c :: r)).length
    obtain ⟨p, q, hpq⟩ := StrLaws.partsFrom_ne x dots.length (c + dots.length) r
    show 2 ≤ (Builtin.Str.strSub x 0 c :: StrLaws.partsFrom x dots.length (c + dots.length) r).length
    rw [hpq]; simp
theorem parts_len (x : Str) (w : Nat) : ∀ (a : Nat) (cuts : List Nat), (StrLaws.partsFrom x w a cuts).length = cuts.length + 1
  | _, [] => rfl
  | a, c :: r => by
    show (Builtin.Str.strSub x a c :: StrLaws.partsFrom x w (c + w) r).length = _
    rw [List.length_cons, parts_len x w (c + w) r, List.length_cons]
theorem split_len (x y : Str) : (Txt.split x y).length ≤ x.length + 2 := by
  unfold Txt.split
  split
  · simp
  · split
    · simp
    · rw [StrLaws.partsBetween_eq, parts_len]
      have := StrLaws.occ_length_le x y 0 x.length (x.length + 1)
      (first | lia | omega)
theorem l_shape {x : Str} {l : List (Str × Tok)} (h : Txt.contains x dots = true) (e : l.map (·.1) = Txt.split x dots) : ∃ a ta mid b tb, l = (a, ta) :: (mid ++ [(b, tb)]) := by
  have h2 := split_two h
  rw [← e, List.length_map] at h2
  match l, h2 with
  | (a, ta) :: r, h2 =>
    have hr : r ≠ [] := by intro z; subst z; simp at h2
    exact ⟨a, ta, r.dropLast, (r.getLast hr).1, (r.getLast hr).2, by rw [show ((r.getLast hr).1, (r.getLast hr).2) = r.getLast hr from rfl, List.dropLast_concat_getLast hr]⟩
theorem occ_len {x y : Str} {lo hi lim i : Nat} {r : List Nat} (h : Builtin.Str.occurrences x y lo hi lim = i :: r) : lo ≤ i ∧ i + y.length ≤ hi := by
  rw [StrLaws.occ_eq] at h
  have c := StrLaws.occ_chainTo x y hi lim lo (List.range' lo (hi + 1 - lo)) (#[], lo) rfl
  rw [h] at c
  exact ⟨c.1, c.2.1.1⟩
theorem strVals_cons (p : Str × Tok) (l : List (Str × Tok)) : strValues (p :: l) = .str p.1 p.2 :: strValues l := rfl
theorem strVals_nil : strValues [] = [] := rfl
theorem strVals_app (l r : List (Str × Tok)) : strValues (l ++ r) = strValues l ++ strValues r := by simp [strValues]
theorem turn_at {rest : List (Str × Tok)} {i : Nat} {u : Value} (h : (strValues rest).toArray[i]? = some u) : ∃ (tw : Tok) (y : Str) (r' : List Str), u = .str y tw ∧ (rest.map (·.1)).drop i = y :: r' ∧ (rest.map (·.1)).drop (i + 1) = r' := by
  have h1 : (strValues rest)[i]? = some u := by simpa using h
  unfold strValues at h1
  rw [List.getElem?_map] at h1
  cases hq : rest[i]? with
  | none => rw [hq] at h1; cases h1
  | some p =>
    rw [hq] at h1
    have h2 : Value.str p.1 p.2 = u := by simpa using h1
    obtain ⟨hlt, hpe⟩ := List.getElem?_eq_some_iff.mp hq
    refine ⟨p.2, p.1, ((rest.map (·.1)).drop (i + 1)), h2.symm, ?_, rfl⟩
    rw [List.drop_eq_getElem_cons (by simpa using hlt)]
    simp [hpe]
/-! lists of signs -/
theorem str_ext {a b : Str} (h : a.cps.toList = b.cps.toList) : a = b := by
  cases a; cases b; simp at h; subst h; rfl
theorem len_list (x : Str) : x.cps.toList.length = x.length := by simp [Str.length]
/-- a slice's end, brought into the text -/
noncomputable def clip (n : Nat) (i : Option Int) (d : Nat) : Nat := match i with
  | none => d
  | some i => (max 0 (min (if i < 0 then i + n else i) n)).toNat
open Builtin Builtin.Str in
theorem slice_idx (l u : Option Int) (n : Nat) : strSliceIndices l u 1 n = (List.range (clip n u n - clip n l 0)).map (fun k => clip n l 0 + k) := by
  have key : ∀ a b : Int, 0 ≤ a → 0 ≤ b → sliceRange a b 1 = (List.range (b.toNat - a.toNat)).map (fun k => a.toNat + k) := by
    intro a b ha hb
    unfold sliceRange
    simp only [show ((1 : Int) > 0) = True from by simp, if_true]
    by_cases h : a < b
    · have e : ((b - a + 1 - 1) / 1).toNat = b.toNat - a.toNat := by (first | lia | omega)
      simp only [h, if_true, e]
      refine List.map_congr_left fun k _ => ?_
      (first | lia | omega)
    · have e : b.toNat - a.toNat = 0 := by (first | lia | omega)
      simp [h, e]
  unfold strSliceIndices
  simp only [show ((1 : Int) > 0) = True from by simp, if_true]
  cases l with
  | none =>
    cases u with
    | none => rw [key _ _ (by dsimp only; (first | lia | omega)) (by dsimp only; (first | lia | omega))]; simp [clip]
    | some j => rw [key _ _ (by dsimp only; (first | lia | omega)) (by dsimp only; (first | lia | omega))]; simp [clip]
  | some i =>
    cases u with
    | none => rw [key _ _ (by dsimp only; (first | lia | omega)) (by dsimp only; (first | lia | omega))]; simp [clip]
    | some j => rw [key _ _ (by dsimp only; (first | lia | omega)) (by dsimp only; (first | lia | omega))]; simp [clip]
theorem clip_le (n : Nat) (i : Option Int) (d : Nat) (h : d ≤ n) : clip n i d ≤ n := by
  unfold clip; cases i <;> simp <;> (first | lia | omega)
open Builtin Builtin.Str in
theorem slice_list (x : Str) (l u : Option Int) : (Txt.slice x l u).cps.toList = (x.cps.toList.take (clip x.length u x.length)).drop (clip x.length l 0) := by
  have hu := clip_le x.length u x.length (Nat.le_refl _)
  have hl := clip_le x.length l 0 (Nat.zero_le _)
  unfold Txt.slice
  rw [slice_idx]
  have hp : ((List.range (clip x.length u x.length - clip x.length l 0)).map (fun k => clip x.length l 0 + k)).filterMap (x.cps[·]?) = (x.cps.toList.drop (clip x.length l 0)).take (clip x.length u x.length - clip x.length l 0) := by
    by_cases h : clip x.length l 0 ≤ clip x.length u x.length
    · have := StrLaws.picks x.cps.toList (clip x.length u x.length - clip x.length l 0) (clip x.length l 0) (by rw [len_list]; (first | lia | omega))
      simpa using this
    · rw [show clip x.length u x.length - clip x.length l 0 = 0 by (first | lia | omega)]; simp
  have ht : (x.cps.toList.drop (clip x.length l 0)).take (clip x.length u x.length - clip x.length l 0) = (x.cps.toList.take (clip x.length u x.length)).drop (clip x.length l 0) := by rw [List.drop_take]
  split
  · rename_i h
    have h' : clip x.length u x.length - clip x.length l 0 = x.length := by simpa using h
    have e1 : clip x.length l 0 = 0 := by (first | lia | omega)
    have e2 : clip x.length u x.length = x.cps.toList.length := by rw [len_list]; (first | lia | omega)
    rw [e1, e2, List.take_length, List.drop_zero]
  · show List.filterMap _ _ = _
    rw [← ht]; exact hp
/-- the reply's text, from behind the opening mark on -/
noncomputable def p257 : List Nat → List Nat
  | [] => []
  | c :: r => if c = 34 then (match r with
      | 34 :: r' => 34 :: p257 r'
      | _ => []) else c :: p257 r
noncomputable def parseM (resp : Str) : Str := if (resp.cps.toList.drop 3).take 2 = [32, 34] then ⟨(p257 (resp.cps.toList.drop 5)).toArray⟩ else Str.empty
theorem p257_mark_end {r : List Nat} (h : r.head? ≠ some 34) : p257 (34 :: r) = [] := by
  unfold p257
  rw [if_pos rfl]
  split
  · simp at h
  · rfl
theorem p257_mark {r : List Nat} : p257 (34 :: 34 :: r) = 34 :: p257 r := by
  conv => lhs; unfold p257
  rw [if_pos rfl]
  rfl
theorem p257_sign {c : Nat} {r : List Nat} (h : c ≠ 34) : p257 (c :: r) = c :: p257 r := by
  conv => lhs; unfold p257
  rw [if_neg h]
theorem at_sign {x : Str} {i : Nat} (h : i < x.length) : ∃ c, x.cps.toList.drop i = c :: x.cps.toList.drop (i + 1) ∧ Txt.item x (i : Int) = ⟨#[c]⟩ := by
  have hl : i < x.cps.toList.length := by rw [len_list]; exact h
  refine ⟨x.cps.toList[i], List.drop_eq_getElem_cons hl, ?_⟩
  rw [item_meets ⟨by (first | lia | omega), by (first | lia | omega)⟩]
  have hs : i < x.cps.size := by simpa using hl
  simp [Array.getD, hs]
theorem mark_str : (Str.ofString "\"") = ⟨#[34]⟩ := by decide +kernel
theorem sign_eq {c d : Nat} : ((⟨#[c]⟩ : Str) == ⟨#[d]⟩) = decide (c = d) := by
  by_cases h : c = d
  · subst h; simp
  · rw [decide_eq_false h]; apply beq_eq_false_iff_ne.mpr; intro z; injection z with z; simp at z; exact h z
end Mine
end
section
open PySem PySem.W PyProof.Rows
namespace Mine
open Builtin.Str
/-! ## where "..." lies in a text -/
noncomputable def AtL (x y : List Nat) (i : Nat) : Prop := (x.drop i).take y.length = y
/-- the places taken, one after the other, none over another -/
noncomputable def scan (p : Nat → Bool) (w : Nat) : List Nat → Nat → Nat → List Nat
  | [], _, _ => []
  | a :: l, lim, free => if 0 < lim ∧ free ≤ a ∧ p a = true then a :: scan p w l (lim - 1) (a + w) else scan p w l lim free
noncomputable def atB (x y : Str) (hi i : Nat) : Bool := decide (i + y.length ≤ hi) && subAt x y i
theorem occ_scan (x y : Str) (hi limit : Nat) : ∀ (l : List Nat) (st : Array Nat × Nat), st.1.size ≤ limit →
    (forIn l st (StrLaws.occBody x y hi limit)).run.fst.toList = st.1.toList ++ scan (atB x y hi) y.length l (limit - st.1.size) st.2
  | [], st, _ => by simp [scan]
  | a :: l, st, hs => by
    rw [List.forIn_cons]
    unfold StrLaws.occBody
    by_cases hc : ((st.fst.size < limit ∧ st.snd ≤ a) ∧ a + y.length ≤ hi) ∧ subAt x y a = true
    · rw [if_pos hc]
      have ih := occ_scan x y hi limit l (st.fst.push a, a + y.length) (by simp; (first | lia | omega))
      show (forIn l (st.fst.push a, a + y.length) (StrLaws.occBody x y hi limit)).run.fst.toList = _
      rw [ih]
      have h2 : atB x y hi a = true := by simp [atB, hc.1.2, hc.2]
      conv => rhs; unfold scan
      rw [if_pos ⟨by (first | lia | omega), hc.1.1.2, h2⟩]
      simp [Nat.sub_add_eq]
    · rw [if_neg hc]
      have ih := occ_scan x y hi limit l st hs
      show (forIn l st (StrLaws.occBody x y hi limit)).run.fst.toList = _
      rw [ih]
      conv => rhs; unfold scan
      rw [if_neg]
      intro h
      refine hc ⟨⟨⟨by (first | lia | omega), h.2.1⟩, ?_⟩, ?_⟩
      · have := h.2.2; simp [atB] at this; exact this.1
      · have := h.2.2; simp [atB] at this; exact this.2
theorem occ_eq_scan (x y : Str) (lo hi limit : Nat) : occurrences x y lo hi limit = scan (atB x y hi) y.length (List.range' lo (hi + 1 - lo)) limit lo := by
  rw [StrLaws.occ_eq, occ_scan x y hi limit _ _ (by simp)]
  simp
theorem scan_none {p : Nat → Bool} {w : Nat} : ∀ {l : List Nat} {lim free : Nat}, (∀ a ∈ l, free ≤ a → p a = false) → scan p w l lim free = []
  | [], _, _, _ => rfl
  | a :: l, lim, free, h => by
    unfold scan
    rw [if_neg (fun hc => by have := h a (.head _) hc.2.1; rw [hc.2.2] at this; cases this)]
    exact scan_none fun b hb => h b (.tail _ hb)
theorem scan_skip {p : Nat → Bool} {w : Nat} {r : List Nat} : ∀ {l : List Nat} {lim free : Nat}, (∀ a ∈ l, free ≤ a → p a = false) → scan p w (l ++ r) lim free = scan p w r lim free
  | [], _, _, _ => rfl
  | a :: l, lim, free, h => by
    show scan p w (a :: (l ++ r)) lim free = _
    conv => lhs; unfold scan
    rw [if_neg (fun hc => by have := h a (.head _) hc.2.1; rw [hc.2.2] at this; cases this)]
    exact scan_skip fun b hb => h b (.tail _ hb)
theorem scan_shift {p q : Nat → Bool} {w k : Nat} (h : ∀ a, p (a + k) = q a) : ∀ (l : List Nat) (lim free : Nat), scan p w (l.map (· + k)) lim (free + k) = (scan q w l lim free).map (· + k)
  | [], _, _ => rfl
  | a :: l, lim, free => by
    show scan p w ((a + k) :: l.map (· + k)) lim (free + k) = _
    unfold scan
    rw [h a]
    by_cases hc : 0 < lim ∧ free ≤ a ∧ q a = true
    · rw [if_pos hc, if_pos ⟨hc.1, by (first | lia | omega), hc.2.2⟩, show a + k + w = (a + w) + k by (first | lia | omega), scan_shift h l]
      rfl
    · rw [if_neg hc, if_neg (fun z => hc ⟨z.1, by (first | lia | omega), z.2.2⟩), scan_shift h l]
/-- a limit that is large enough does not matter -/
theorem scan_lim {p : Nat → Bool} {w : Nat} : ∀ (l : List Nat) (lim lim' free : Nat), l.length ≤ lim → l.length ≤ lim' → scan p w l lim free = scan p w l lim' free
  | [], _, _, _, _, _ => rfl
  | a :: l, lim, lim', free, h1, h2 => by
    simp only [List.length_cons] at h1 h2
    unfold scan
    by_cases hc : free ≤ a ∧ p a = true
    · rw [if_pos ⟨by (first | lia | omega), hc⟩, if_pos ⟨by (first | lia | omega), hc⟩, scan_lim l (lim - 1) (lim' - 1) (a + w) (by (first | lia | omega)) (by (first | lia | omega))]
    · rw [if_neg (fun z => hc z.2), if_neg (fun z => hc z.2), scan_lim l lim lim' free (by (first | lia | omega)) (by (first | lia | omega))]
noncomputable abbrev L (x : Str) : List Nat := x.cps.toList
noncomputable def nodot (x : Str) : Prop := 46 ∉ L x
theorem dots_list : L dots = [46, 46, 46] := by decide +kernel
theorem dots_len : dots.length = 3 := by decide +kernel
theorem atB_iff {x : Str} {i : Nat} : atB x dots x.length i = true ↔ i + 3 ≤ x.length ∧ ((L x).drop i).take 3 = [46, 46, 46] := by
  unfold atB
  rw [StrLaws.subAt_eq, dots_len]
  show (_ && (((L x).drop i).take 3 == L dots)) = true ↔ _
  rw [dots_list]
  simp
noncomputable def places (x : Str) : List Nat := scan (atB x dots x.length) 3 (List.range' 0 (x.length + 1)) (x.length + 1) 0
theorem split_places (x : Str) : Txt.split x dots = StrLaws.partsFrom x 3 0 (places x) := by
  have ho : occurrences x dots 0 x.length (x.length + 1) = places x := by rw [occ_eq_scan, dots_len]; rfl
  have h1 : StrLaws.partsFrom x 3 0 [] = [x] := by
    show [strSub x 0 x.length] = [x]
    rw [StrLaws.sub_whole]
  unfold Txt.split
  rw [kind_dots, Bool.or_false, ho, dots_len]
  split
  · rename_i hlt
    have : places x = [] := scan_none fun a _ _ => by
      cases hq : atB x dots x.length a with
      | false => rfl
      | true => have := (atB_iff.mp hq).1; simp at hlt; (first | lia | omega)
    rw [this, h1]
  · split
    · rename_i he
      rw [List.isEmpty_iff.mp he, h1]
    · rw [StrLaws.partsBetween_eq]
theorem L_app (x y : Str) : L (x ++ y) = L x ++ L y := by simp [L, Str.cps_append]
theorem L_len (x : Str) : (L x).length = x.length := len_list x
theorem udv_len (u v : Str) : (u ++ dots ++ v).length = u.length + 3 + v.length := by
  rw [← L_len (u ++ dots ++ v), L_app, L_app, List.length_append, List.length_append, L_len, L_len, L_len, dots_len]
theorem at_head {u v : Str} (hu : nodot u) {i : Nat} (hi : i < u.length) : atB (u ++ dots ++ v) dots (u ++ dots ++ v).length i = false := by
  cases hq : atB (u ++ dots ++ v) dots (u ++ dots ++ v).length i with
  | false => rfl
  | true =>
    exfalso
    have h := (atB_iff.mp hq).2
    rw [L_app, L_app, List.append_assoc] at h
    have h0 := congrArg (fun l => l[0]?) h
    have hl : i < (L u).length := by rw [L_len]; exact hi
    simp [List.getElem?_append_left hl] at h0
    exact hu (List.mem_of_getElem? (show (L u)[i]? = some 46 by simpa [L] using h0))
theorem at_mid {u v : Str} : atB (u ++ dots ++ v) dots (u ++ dots ++ v).length u.length = true := by
  refine atB_iff.mpr ⟨?_, ?_⟩
  · rw [← L_len (u ++ dots ++ v), L_app, L_app, List.length_append, List.length_append, L_len, dots_list]
    simp
  · rw [L_app, L_app, List.append_assoc, ← L_len u, List.drop_left, dots_list]
    rfl
theorem at_tail {u v : Str} (i : Nat) : atB (u ++ dots ++ v) dots (u ++ dots ++ v).length (i + (u.length + 3)) = atB v dots v.length i := by
  have hn := udv_len u v
  have hd : (L (u ++ dots ++ v)).drop (i + (u.length + 3)) = (L v).drop i := by
    rw [L_app, List.drop_append, List.drop_of_length_le (by rw [L_app, List.length_append, L_len, dots_list]; simp), List.nil_append]
    congr 1
    rw [L_app, List.length_append, L_len, dots_list]
    simp
  rw [Bool.eq_iff_iff, atB_iff, atB_iff, hd, hn]
  constructor <;> rintro ⟨a, b⟩ <;> exact ⟨by (first | lia | omega), b⟩
theorem places_cons {u v : Str} (hu : nodot u) : places (u ++ dots ++ v) = u.length :: (places v).map (· + (u.length + 3)) := by
  have hn := udv_len u v
  unfold places
  have hr : List.range' 0 ((u ++ dots ++ v).length + 1) = List.range' 0 u.length ++ (u.length :: ([u.length + 1, u.length + 2] ++ (List.range' 0 (v.length + 1)).map (· + (u.length + 3)))) := by
    rw [hn, show u.length + 3 + v.length + 1 = u.length + (3 + (v.length + 1)) by (first | lia | omega), ← List.range'_append, ← List.range'_append (s := 0 + 1 * u.length) (m := 3)]
    congr 1
    have e : List.range' (0 + 1 * u.length + 1 * 3) (v.length + 1) = (List.range' 0 (v.length + 1)).map (· + (u.length + 3)) := by
      rw [show (fun x => x + (u.length + 3)) = ((u.length + 3) + ·) from funext fun x => Nat.add_comm _ _, List.map_add_range']
      congr 1
      (first | lia | omega)
    rw [e]
    simp [List.range']
  rw [hr, scan_skip (fun a ha _ => at_head hu (by simpa [List.mem_range'] using ha))]
  conv => lhs; unfold scan
  rw [if_pos ⟨by (first | lia | omega), Nat.zero_le _, at_mid⟩]
  congr 1
  rw [scan_skip (fun a ha hf => by simp at ha; (first | lia | omega))]
  have hsh := scan_shift (p := atB (u ++ dots ++ v) dots (u ++ dots ++ v).length) (q := atB v dots v.length) (w := 3) (k := u.length + 3) (fun a => at_tail a) (List.range' 0 (v.length + 1)) ((u ++ dots ++ v).length + 1 - 1) 0
  rw [Nat.zero_add] at hsh
  rw [hsh]
  congr 1
  refine scan_lim _ _ _ _ ?_ ?_
  · rw [List.length_range', hn]; (first | lia | omega)
  · rw [List.length_range']; (first | lia | omega)
theorem parts_shift {x v : Str} {k : Nat} (hk : (L x).drop k = L v) (hn : x.length = k + v.length) : ∀ (cs : List Nat) (a : Nat), StrLaws.partsFrom x 3 (a + k) (cs.map (· + k)) = StrLaws.partsFrom v 3 a cs
  | [], a => by
    show [strSub x (a + k) x.length] = [strSub v a v.length]
    congr 1
    refine str_ext ?_
    rw [StrLaws.strSub_toList, StrLaws.strSub_toList, hn]
    show ((L x).drop (a + k)).take _ = ((L v).drop a).take _
    rw [← hk, List.drop_drop, show k + a = a + k by (first | lia | omega), show k + v.length - (a + k) = v.length - a by (first | lia | omega)]
  | c :: cs, a => by
    show strSub x (a + k) (c + k) :: StrLaws.partsFrom x 3 (c + k + 3) (cs.map (· + k)) = strSub v a c :: StrLaws.partsFrom v 3 (c + 3) cs
    rw [show c + k + 3 = (c + 3) + k by (first | lia | omega), parts_shift hk hn cs (c + 3)]
    congr 1
    refine str_ext ?_
    rw [StrLaws.strSub_toList, StrLaws.strSub_toList]
    show ((L x).drop (a + k)).take _ = ((L v).drop a).take _
    rw [← hk, List.drop_drop, show k + a = a + k by (first | lia | omega), show c + k - (a + k) = c - a by (first | lia | omega)]
theorem split_cons {u v : Str} (hu : nodot u) : Txt.split (u ++ dots ++ v) dots = u :: Txt.split v dots := by
  have hn := udv_len u v
  have hd : (L (u ++ dots ++ v)).drop (u.length + 3) = L v := by
    rw [L_app, List.drop_append, List.drop_of_length_le (by rw [L_app, List.length_append, L_len, dots_list]; simp), List.nil_append, L_app, List.length_append, L_len, dots_list]
    simp
  rw [split_places, split_places, places_cons hu]
  show strSub (u ++ dots ++ v) 0 u.length :: StrLaws.partsFrom (u ++ dots ++ v) 3 (u.length + 3) ((places v).map (· + (u.length + 3))) = _
  rw [show StrLaws.partsFrom (u ++ dots ++ v) 3 (u.length + 3) ((places v).map (· + (u.length + 3))) = StrLaws.partsFrom (u ++ dots ++ v) 3 (0 + (u.length + 3)) ((places v).map (· + (u.length + 3))) by rw [Nat.zero_add], parts_shift hd (by (first | lia | omega))]
  congr 1
  refine str_ext ?_
  rw [StrLaws.strSub_toList, List.drop_zero, Nat.sub_zero]
  show (L (u ++ dots ++ v)).take u.length = L u
  rw [L_app, L_app, List.append_assoc, ← L_len u, List.take_left]
theorem split_one {u : Str} (hu : nodot u) : Txt.split u dots = [u] := by
  rw [split_places]
  have : places u = [] := scan_none fun a ha _ => by
    cases hq : atB u dots u.length a with
    | false => rfl
    | true =>
      exfalso
      have h0 := congrArg (fun l => l[0]?) (atB_iff.mp hq).2
      simp at h0
      exact hu (List.mem_of_getElem? (show (L u)[a]? = some 46 by simpa [L] using h0))
  rw [this]
  show [strSub u 0 u.length] = [u]
  rw [StrLaws.sub_whole]
theorem nodot_contains {u : Str} (hu : nodot u) : Txt.contains u dots = false := by
  cases h : Txt.contains u dots with
  | false => rfl
  | true => have := split_two h; rw [split_one hu] at this; simp at this
theorem dots_contains (u v : Str) : Txt.contains (u ++ dots ++ v) dots = true := by
  refine (StrLaws.found_iff _ _).mpr ⟨u.length, ?_⟩
  have h := at_mid (u := u) (v := v)
  simp only [atB, Bool.and_eq_true, decide_eq_true_eq] at h
  exact h
theorem nodot_nil : nodot Str.empty := by simp [nodot, L, Str.empty]
/-- one find: the first place -/
theorem scan_one {p : Nat → Bool} {w : Nat} : ∀ (l : List Nat) (free : Nat), (∀ a ∈ l, free ≤ a) → scan p w l 1 free = (l.find? p).toList
  | [], _, _ => rfl
  | a :: l, free, h => by
    unfold scan
    cases hp : p a with
    | true =>
      rw [if_pos ⟨by (first | lia | omega), h a (.head _), rfl⟩, List.find?_cons, hp]
      have : ∀ (l : List Nat) (f : Nat), scan p w l 0 f = [] := fun l => by
        induction l with
        | nil => intro f; rfl
        | cons b l ih => intro f; unfold scan; rw [if_neg (by (first | lia | omega))]; exact ih f
      rw [this]; rfl
    | false =>
      rw [if_neg (by simp), List.find?_cons, hp]
      exact scan_one l free fun b hb => h b (.tail _ hb)
theorem occ_one (x y : Str) (lo hi : Nat) : occurrences x y lo hi 1 = ((List.range' lo (hi + 1 - lo)).find? (atB x y hi)).toList := by
  rw [occ_eq_scan]
  exact scan_one _ _ fun a ha => by simp [List.mem_range'] at ha; (first | lia | omega)
theorem occ_nil {x : Str} {lo hi : Nat} (h : lo ≤ hi) : occurrences x Str.empty lo hi 1 = [lo] := by
  rw [occ_one, show hi + 1 - lo = (hi - lo) + 1 by (first | lia | omega), List.range'_succ, List.find?_cons]
  have : atB x Str.empty hi lo = true := by
    unfold atB
    rw [StrLaws.subAt_eq]
    simp [Str.empty, Str.length, h]
  rw [this]; rfl
theorem ellM_plain {want : Str} (hw : nodot want) (got : Str) : ellM want got = (want == got) := by
  unfold ellM; rw [if_pos (nodot_contains hw)]
theorem str_nil_app (x : Str) : Str.empty ++ x = x := str_ext (by show L (Str.empty ++ x) = L x; rw [L_app]; rfl)
theorem str_app_nil (x : Str) : x ++ Str.empty = x := str_ext (by show L (x ++ Str.empty) = L x; rw [L_app]; simp [L, Str.empty])
theorem str_app_assoc (x y z : Str) : x ++ y ++ z = x ++ (y ++ z) := str_ext (by show L _ = L _; rw [L_app, L_app, L_app, L_app, List.append_assoc])
theorem starts_len {x y : Str} (h : Txt.startswith x y = true) : y.length ≤ x.length := by unfold Txt.startswith at h; simp at h; (first | lia | omega)
theorem starts_iff {x y : Str} : Txt.startswith x y = true ↔ L y <+: L x := by
  unfold Txt.startswith
  rw [StrLaws.subAt_eq, Bool.and_eq_true, decide_eq_true_eq, beq_iff_eq, List.drop_zero, ← L_len x, ← L_len y]
  show 0 + (L y).length ≤ (L x).length ∧ (L x).take (L y).length = L y ↔ _
  generalize L x = a
  generalize L y = b
  constructor
  · rintro ⟨_, e⟩; have h2 := List.take_append_drop b.length a; rw [e] at h2; exact ⟨_, h2⟩
  · rintro ⟨r, hr⟩; rw [← hr]; simp
theorem ends_iff {x y : Str} : Txt.endswith x y = true ↔ L y <:+ L x := by
  unfold Txt.endswith
  rw [StrLaws.subAt_eq, Bool.and_eq_true, decide_eq_true_eq, beq_iff_eq, ← L_len x, ← L_len y]
  show 0 + (L y).length ≤ (L x).length ∧ ((L x).drop ((L x).length - (L y).length)).take (L y).length = L y ↔ _
  generalize L x = a
  generalize L y = b
  constructor
  · rintro ⟨h, e⟩
    rw [List.take_of_length_le (by rw [List.length_drop]; (first | lia | omega))] at e
    refine ⟨a.take (a.length - b.length), ?_⟩
    have h2 := List.take_append_drop (a.length - b.length) a
    rw [e] at h2
    exact h2
  · rintro ⟨r, hr⟩; rw [← hr]; simp
theorem ellM_ahead {u : Str} (hu : nodot u) (got : Str) : ellM (u ++ dots) got = Txt.startswith got u := by
  have hc : Txt.contains (u ++ dots) dots = true := by have := dots_contains u Str.empty; rwa [str_app_nil] at this
  have hs : Txt.split (u ++ dots) dots = [u, Str.empty] := by have := split_cons (v := Str.empty) hu; rw [str_app_nil, split_one nodot_nil] at this; exact this
  unfold ellM
  rw [hc, if_neg (by decide), hs]
  have he : Str.empty.length = 0 := rfl
  show (if u.length ≠ 0 then (if Txt.startswith got u then ellEnd got [] Str.empty u.length else false) else ellEnd got [u] Str.empty 0) = _
  by_cases hz : u.length = 0
  · have hu0 : u = Str.empty := str_ext (by have : (L u).length = 0 := by rw [L_len]; exact hz
                                            show L u = L Str.empty; rw [List.length_eq_zero_iff.mp this]; rfl)
    rw [if_neg (by (first | lia | omega)), hu0]
    have h1 : Txt.startswith got Str.empty = true := starts_iff.mpr ⟨L got, rfl⟩
    rw [h1]
    unfold ellEnd
    rw [he, if_neg (by (first | lia | omega))]
    unfold ellGo
    rw [if_neg (by (first | lia | omega))]
    show ellLoop got got.length [Str.empty, Str.empty] 0 = true
    unfold ellLoop
    rw [occ_nil (by (first | lia | omega))]
    show ellLoop got got.length [Str.empty] (0 + 0) = true
    unfold ellLoop
    rw [occ_nil (by (first | lia | omega))]
    rfl
  · rw [if_pos hz]
    cases hq : Txt.startswith got u with
    | false => simp
    | true =>
      have := starts_len hq
      rw [if_pos rfl]
      unfold ellEnd
      rw [he, if_neg (by (first | lia | omega))]
      unfold ellGo
      rw [if_neg (by (first | lia | omega))]
      show ellLoop got got.length [Str.empty] u.length = true
      unfold ellLoop
      rw [occ_nil (by (first | lia | omega))]
      rfl
theorem ellM_behind {u : Str} (hu : nodot u) (got : Str) : ellM (dots ++ u) got = Txt.endswith got u := by
  have hc : Txt.contains (dots ++ u) dots = true := by have := dots_contains Str.empty u; rwa [str_nil_app] at this
  have hs : Txt.split (dots ++ u) dots = [Str.empty, u] := by have := split_cons (u := Str.empty) (v := u) nodot_nil; rw [str_nil_app, split_one hu] at this; exact this
  unfold ellM
  rw [hc, if_neg (by decide), hs]
  have he : Str.empty.length = 0 := rfl
  show (if Str.empty.length ≠ 0 then (if Txt.startswith got Str.empty then ellEnd got [] u Str.empty.length else false) else ellEnd got [Str.empty] u 0) = _
  rw [he, if_neg (by (first | lia | omega))]
  unfold ellEnd
  by_cases hz : u.length = 0
  · have hu0 : u = Str.empty := str_ext (by have : (L u).length = 0 := by rw [L_len]; exact hz
                                            show L u = L Str.empty; rw [List.length_eq_zero_iff.mp this]; rfl)
    rw [if_neg (by (first | lia | omega)), hu0]
    have h1 : Txt.endswith got Str.empty = true := ends_iff.mpr ⟨L got, by simp [L, Str.empty]⟩
    rw [h1]
    unfold ellGo
    rw [if_neg (by (first | lia | omega))]
    show ellLoop got got.length [Str.empty, Str.empty] 0 = true
    unfold ellLoop
    rw [occ_nil (by (first | lia | omega))]
    show ellLoop got got.length [Str.empty] (0 + 0) = true
    unfold ellLoop
    rw [occ_nil (by (first | lia | omega))]
    rfl
  · rw [if_pos hz]
    cases hq : Txt.endswith got u with
    | false => simp
    | true =>
      rw [if_pos rfl]
      unfold ellGo
      rw [if_neg (by (first | lia | omega))]
      show ellLoop got (got.length - u.length) [Str.empty] 0 = true
      unfold ellLoop
      rw [occ_nil (by (first | lia | omega))]
      rfl
/-! ## whole texts with dots between their pieces -/
noncomputable def joinD : List Str → Str
  | [] => Str.empty
  | [p] => p
  | p :: q :: r => p ++ dots ++ joinD (q :: r)
noncomputable def catS : List Str → List Nat
  | [] => []
  | p :: r => L p ++ catS r
theorem split_join : ∀ ps : List Str, ps ≠ [] → (∀ p ∈ ps, nodot p) → Txt.split (joinD ps) dots = ps
  | [p], _, h => split_one (h p (.head _))
  | p :: q :: r, _, h => by
    show Txt.split (p ++ dots ++ joinD (q :: r)) dots = _
    rw [split_cons (h p (.head _)), split_join (q :: r) (by simp) fun x hx => h x (.tail _ hx)]
noncomputable def Fit (got : Str) (hi : Nat) : List Str → Nat → Prop
  | [], _ => True
  | w :: r, lo => ∃ i, lo ≤ i ∧ atB got w hi i = true ∧ Fit got hi r (i + w.length)
theorem Fit.mono {got : Str} {hi : Nat} : ∀ {ws : List Str} {lo lo' : Nat}, Fit got hi ws lo → lo' ≤ lo → Fit got hi ws lo'
  | [], _, _, _, _ => trivial
  | _ :: _, _, _, ⟨i, a, b, c⟩, h => ⟨i, Nat.le_trans h a, b, c⟩
theorem atB_le {got w : Str} {hi i : Nat} (h : atB got w hi i = true) : i + w.length ≤ hi := by simp [atB] at h; exact h.1
theorem ellLoop_iff {got : Str} {hi : Nat} : ∀ (ws : List Str) (lo : Nat), ellLoop got hi ws lo = true ↔ Fit got hi ws lo
  | [], _ => by simp [ellLoop, Fit]
  | w :: r, lo => by
    unfold ellLoop
    rw [occ_one]
    cases hq : (List.range' lo (hi + 1 - lo)).find? (atB got w hi) with
    | none =>
      simp only [Option.toList_none]
      refine ⟨fun h => (by cases h), fun ⟨i, a, b, _⟩ => ?_⟩
      have := List.find?_eq_none.mp hq i (by have := atB_le b; rw [List.mem_range'_1]; (first | lia | omega))
      exact absurd b this
    | some i =>
      simp only [Option.toList_some]
      have h1 := List.find?_some hq
      have h2 := List.mem_of_find?_eq_some hq
      have h3 : lo ≤ i := (List.mem_range'_1.mp h2).1
      rw [ellLoop_iff r (i + w.length)]
      refine ⟨fun h => ⟨i, h3, h1, h⟩, fun ⟨j, a, b, c⟩ => c.mono ?_⟩
      have hj : i ≤ j := by
        refine Nat.le_of_not_lt fun hlt => ?_
        obtain ⟨_, as, bs, e, hall⟩ := List.find?_eq_some_iff_append.mp hq
        have hm : j ∈ as := by
          have hmem : j ∈ List.range' lo (hi + 1 - lo) := by have := atB_le b; rw [List.mem_range'_1]; (first | lia | omega)
          rw [e] at hmem
          rcases List.mem_append.mp hmem with h | h
          · exact h
          · exfalso
            have hs : (as ++ i :: bs).Pairwise (· < ·) := by rw [← e]; exact List.pairwise_lt_range'
            rcases List.mem_cons.mp h with rfl | h
            · (first | lia | omega)
            · have := (List.pairwise_append.mp hs).2.1
              have := (List.pairwise_cons.mp this).1 j h
              (first | lia | omega)
        have := hall j hm
        simp [b] at this
      (first | lia | omega)
theorem fit_len {got : Str} {hi : Nat} : ∀ {ws : List Str} {lo : Nat}, lo ≤ hi → Fit got hi ws lo → lo + (catS ws).length ≤ hi
  | [], _, h, _ => h
  | w :: r, lo, _, ⟨i, a, b, c⟩ => by
    have h1 := atB_le b
    have h2 := fit_len h1 c
    simp only [catS, List.length_append, L_len]
    (first | lia | omega)
theorem fit_cat {got : Str} {hi : Nat} (hh : hi ≤ got.length) : ∀ {ws : List Str} {lo : Nat} {rest : List Nat}, (L got).drop lo = catS ws ++ rest → lo + (catS ws).length ≤ hi → Fit got hi ws lo
  | [], _, _, _, _ => trivial
  | w :: r, lo, rest, h, hl => by
    simp only [catS, List.length_append, L_len] at hl
    refine ⟨lo, Nat.le_refl _, ?_, fit_cat hh (rest := rest) ?_ (by (first | lia | omega))⟩
    · unfold atB
      rw [StrLaws.subAt_eq, Bool.and_eq_true, decide_eq_true_eq, beq_iff_eq]
      refine ⟨by (first | lia | omega), ?_⟩
      show ((L got).drop lo).take w.length = L w
      rw [h]; simp [catS, ← L_len]
    · rw [← List.drop_drop, h]; simp [catS, ← L_len]
theorem joinD_contains (p q : Str) (r : List Str) : Txt.contains (joinD (p :: q :: r)) dots = true := dots_contains p (joinD (q :: r))
theorem catS_app : ∀ a b : List Str, catS (a ++ b) = catS a ++ catS b
  | [], _ => rfl
  | x :: a, b => by show L x ++ catS (a ++ b) = L x ++ catS a ++ catS b; rw [catS_app a b, List.append_assoc]
theorem len0 {u : Str} (h : u.length = 0) : L u = [] := List.length_eq_zero_iff.mp (by rw [L_len]; exact h)
/-- what two pieces or more ask -/
theorem ellM_pieces {a b : Str} {mid : List Str} (h : ∀ p ∈ a :: (mid ++ [b]), nodot p) (got : Str) :
    ellM (joinD (a :: (mid ++ [b]))) got = (if a.length ≠ 0 then (if Txt.startswith got a then ellEnd got mid b a.length else false) else ellEnd got (a :: mid) b 0) := by
  have hs := split_join (a :: (mid ++ [b])) (by simp) h
  have hc : Txt.contains (joinD (a :: (mid ++ [b]))) dots = true := by
    cases mid with
    | nil => exact joinD_contains a b []
    | cons m r => exact joinD_contains a m (r ++ [b])
  unfold ellM
  rw [hc, if_neg (by decide), hs]
  simp [List.dropLast_concat]
theorem ellEnd_len {got b : Str} {ini : List Str} {lo : Nat} (hlo : lo ≤ got.length) (h : ellEnd got ini b lo = true) : lo + (catS ini).length + b.length ≤ got.length := by
  unfold ellEnd at h
  by_cases hb : b.length ≠ 0
  · rw [if_pos hb] at h
    cases hq : Txt.endswith got b with
    | false => rw [hq] at h; cases h
    | true =>
      rw [hq, if_pos rfl] at h
      unfold ellGo at h
      by_cases hl : lo > got.length - b.length
      · rw [if_pos hl] at h; cases h
      · rw [if_neg hl] at h
        have := fit_len (by (first | lia | omega)) ((ellLoop_iff _ _).mp h)
        have hbl : b.length ≤ got.length := by
          have := (ends_iff.mp hq).length_le
          rw [L_len, L_len] at this; exact this
        (first | lia | omega)
  · rw [if_neg hb] at h
    unfold ellGo at h
    rw [if_neg (by (first | lia | omega))] at h
    have := fit_len hlo ((ellLoop_iff _ _).mp h)
    rw [catS_app, List.length_append] at this
    simp only [catS, List.append_nil, L_len] at this
    (first | lia | omega)
theorem ellEnd_cat {got b : Str} {ini : List Str} {lo : Nat} (hlo : lo ≤ got.length) (h : (L got).drop lo = catS ini ++ L b) : ellEnd got ini b lo = true := by
  have hl : got.length = lo + (catS ini).length + b.length := by
    have := congrArg List.length h
    rw [List.length_drop, L_len, List.length_append, L_len] at this
    (first | lia | omega)
  unfold ellEnd
  by_cases hb : b.length ≠ 0
  · rw [if_pos hb]
    have hq : Txt.endswith got b = true := ends_iff.mpr ⟨(L got).take lo ++ catS ini, by rw [List.append_assoc, ← h]; exact List.take_append_drop _ _⟩
    rw [hq, if_pos rfl]
    unfold ellGo
    rw [if_neg (by (first | lia | omega))]
    exact (ellLoop_iff _ _).mpr (fit_cat (by (first | lia | omega)) (rest := L b) h (by (first | lia | omega)))
  · rw [if_neg hb]
    unfold ellGo
    rw [if_neg (by (first | lia | omega))]
    refine (ellLoop_iff _ _).mpr (fit_cat (Nat.le_refl _) (rest := []) ?_ ?_)
    · rw [h, catS_app]; simp [catS]
    · rw [catS_app, List.length_append]; simp only [catS, List.append_nil, L_len]; (first | lia | omega)
/-- the text itself is taken -/
theorem ellM_whole {ps : List Str} (hne : ps ≠ []) (h : ∀ p ∈ ps, nodot p) {x : Str} (hx : L x = catS ps) : ellM (joinD ps) x = true := by
  match ps, hne with
  | [p], _ =>
    rw [show joinD [p] = p from rfl, ellM_plain (h p (.head _))]
    have : p = x := str_ext (by show L p = L x; rw [hx]; simp [catS])
    rw [this]; simp
  | a :: q :: r, _ =>
    obtain ⟨mid, b, e⟩ : ∃ mid b, q :: r = mid ++ [b] := ⟨(q :: r).dropLast, (q :: r).getLast (by simp), (List.dropLast_concat_getLast (by simp)).symm⟩
    rw [e] at h hx ⊢
    rw [ellM_pieces h]
    have hx' : L x = L a ++ (catS mid ++ L b) := by rw [hx]; show L a ++ catS (mid ++ [b]) = _; rw [catS_app]; simp [catS]
    by_cases ha : a.length ≠ 0
    · rw [if_pos ha]
      have hq : Txt.startswith x a = true := starts_iff.mpr ⟨_, hx'.symm⟩
      rw [hq, if_pos rfl]
      exact ellEnd_cat (starts_len hq) (by rw [hx', ← L_len a, List.drop_left])
    · rw [if_neg ha]
      exact ellEnd_cat (Nat.zero_le _) (by rw [List.drop_zero, hx']; simp [catS, List.append_assoc])
/-- no shorter text is -/
theorem ellM_short {ps : List Str} (hne : ps ≠ []) (h : ∀ p ∈ ps, nodot p) {y : Str} (hy : y.length < (catS ps).length) : ellM (joinD ps) y = false := by
  cases hm : ellM (joinD ps) y with
  | false => rfl
  | true =>
    exfalso
    match ps, hne with
    | [p], _ =>
      rw [show joinD [p] = p from rfl, ellM_plain (h p (.head _))] at hm
      have : p = y := by simpa using hm
      have h2 : (catS [p]).length = p.length := by show (L p ++ []).length = _; rw [List.append_nil, L_len]
      rw [h2, this] at hy
      exact Nat.lt_irrefl _ hy
    | a :: q :: r, _ =>
      obtain ⟨mid, b, e⟩ : ∃ mid b, q :: r = mid ++ [b] := ⟨(q :: r).dropLast, (q :: r).getLast (by simp), (List.dropLast_concat_getLast (by simp)).symm⟩
      rw [e] at h hy hm
      rw [ellM_pieces h] at hm
      have hl : (catS (a :: (mid ++ [b]))).length = a.length + (catS mid).length + b.length := by
        show (L a ++ catS (mid ++ [b])).length = _
        rw [catS_app]; simp only [catS, List.append_nil, List.length_append, L_len]; (first | lia | omega)
      by_cases ha : a.length ≠ 0
      · rw [if_pos ha] at hm
        cases hq : Txt.startswith y a with
        | false => rw [hq] at hm; cases hm
        | true =>
          rw [hq, if_pos rfl] at hm
          have := ellEnd_len (starts_len hq) hm
          (first | lia | omega)
      · rw [if_neg ha] at hm
        have := ellEnd_len (Nat.zero_le _) hm
        simp only [catS, List.length_append, L_len] at this
        (first | lia | omega)
end Mine
end
section
open PySem PySem.W PyProof.Rows
namespace Mine
/-! ## marks, doubled and told as one -/
noncomputable def dblL : List Nat → List Nat
  | [] => []
  | c :: r => if c = 34 then 34 :: 34 :: dblL r else c :: dblL r
theorem p257_dbl {tail : List Nat} (h : tail.head? ≠ some 34) : ∀ x : List Nat, p257 (dblL x ++ 34 :: tail) = x
  | [] => p257_mark_end h
  | c :: r => by
    by_cases hc : c = 34
    · subst hc
      show p257 (34 :: 34 :: (dblL r ++ 34 :: tail)) = _
      rw [p257_mark, p257_dbl h r]
    · have e : dblL (c :: r) = c :: dblL r := by show (if c = 34 then 34 :: 34 :: dblL r else c :: dblL r) = _; rw [if_neg hc]
      rw [e]
      show p257 (c :: (dblL r ++ 34 :: tail)) = _
      rw [p257_sign hc, p257_dbl h r]
/-- a reply whose text is doubled, one mark behind it -/
theorem parseM_dbl {resp x : Str} {tail : List Nat} (h : L resp = [50, 53, 55, 32, 34] ++ (dblL (L x) ++ 34 :: tail)) (ht : tail.head? ≠ some 34) : parseM resp = x := by
  unfold parseM
  rw [show resp.cps.toList = L resp from rfl, h]
  rw [if_pos (by rfl)]
  refine str_ext ?_
  show p257 (dblL (L x) ++ 34 :: tail) = L x
  exact p257_dbl ht _
theorem parseM_other {resp : Str} (h : ((L resp).drop 3).take 2 ≠ [32, 34]) : parseM resp = Str.empty := by
  unfold parseM; rw [if_neg h]
theorem dbl_eq : ∀ l : List Nat, StrLaws.dbl 34 l = dblL l
  | [] => rfl
  | c :: r => by
    show StrLaws.dbl 34 ([c] ++ r) = _
    rw [StrLaws.dbl_append, dbl_eq r]
    by_cases hc : c = 34
    · subst hc; rfl
    · have e : dblL (c :: r) = c :: dblL r := by show (if c = 34 then 34 :: 34 :: dblL r else c :: dblL r) = _; rw [if_neg hc]
      rw [e, StrLaws.dbl_free 34 [c] (by simpa using fun h => hc h.symm)]
      rfl
theorem replace_marks (x : Str) : L (Txt.replace x (Str.ofString "\"") (Str.ofString "\"\"")) = dblL (L x) := by
  have h := StrLaws.replace_double x 34
  rw [dbl_eq] at h
  exact h
end Mine
end
section
open PySem PySem.W PyProof.Rows
set_option maxRecDepth 100000
namespace Mine
/-! ## slices -/
theorem L_take (x : Str) (k : Nat) : L (Txt.slice x none (some (k : Int))) = (L x).take k := by
  show (Txt.slice x none (some (k : Int))).cps.toList = _
  rw [slice_list]
  have e : clip x.length (some (k : Int)) x.length = min k x.length := by simp only [clip]; (first | lia | omega)
  rw [e, show clip x.length none 0 = 0 from rfl, List.drop_zero]
  by_cases h : k ≤ x.length
  · rw [Nat.min_eq_left h]
  · rw [Nat.min_eq_right (by (first | lia | omega)), List.take_of_length_le (by rw [len_list]; exact Nat.le_refl _), List.take_of_length_le (by rw [L_len]; (first | lia | omega))]
theorem L_drop (x : Str) (k : Nat) : L (Txt.slice x (some (k : Int)) none) = (L x).drop k := by
  show (Txt.slice x (some (k : Int)) none).cps.toList = _
  rw [slice_list]
  have e : clip x.length (some (k : Int)) 0 = min k x.length := by simp only [clip]; (first | lia | omega)
  rw [e, show clip x.length none x.length = x.length from rfl, List.take_of_length_le (by rw [len_list]; exact Nat.le_refl _)]
  by_cases h : k ≤ x.length
  · rw [Nat.min_eq_left h]
  · rw [Nat.min_eq_right (by (first | lia | omega)), List.drop_of_length_le (by rw [len_list]; exact Nat.le_refl _), List.drop_of_length_le (by rw [L_len]; (first | lia | omega))]
theorem L_last (x : Str) (k : Nat) (hk : 1 ≤ k) : L (Txt.slice x (some (-(k : Int))) none) = (L x).drop (x.length - k) := by
  show (Txt.slice x (some (-(k : Int))) none).cps.toList = _
  rw [slice_list]
  have e : clip x.length (some (-(k : Int))) 0 = x.length - k := by simp only [clip]; rw [if_pos (by (first | lia | omega))]; (first | lia | omega)
  rw [e, show clip x.length none x.length = x.length from rfl, List.take_of_length_le (by rw [len_list]; exact Nat.le_refl _)]
theorem L_front (x : Str) (k : Nat) (hk : 1 ≤ k) : L (Txt.slice x none (some (-(k : Int)))) = (L x).take (x.length - k) := by
  show (Txt.slice x none (some (-(k : Int)))).cps.toList = _
  rw [slice_list]
  have e : clip x.length (some (-(k : Int))) x.length = x.length - k := by simp only [clip]; rw [if_pos (by (first | lia | omega))]; (first | lia | omega)
  rw [e, show clip x.length none 0 = 0 from rfl, List.drop_zero]
theorem L_slice (x : Str) (a b : Nat) : L (Txt.slice x (some (a : Int)) (some (b : Int))) = ((L x).take b).drop a := by
  show (Txt.slice x (some (a : Int)) (some (b : Int))).cps.toList = _
  rw [slice_list]
  have e : clip x.length (some (b : Int)) x.length = min b x.length := by simp only [clip]; (first | lia | omega)
  have e' : clip x.length (some (a : Int)) 0 = min a x.length := by simp only [clip]; (first | lia | omega)
  rw [e, e']
  have h1 : (L x).take (min b x.length) = (L x).take b := by
    by_cases h : b ≤ x.length
    · rw [Nat.min_eq_left h]
    · rw [Nat.min_eq_right (by (first | lia | omega)), List.take_of_length_le (by rw [L_len]; exact Nat.le_refl _), List.take_of_length_le (by rw [L_len]; (first | lia | omega))]
  show ((L x).take (min b x.length)).drop (min a x.length) = _
  rw [h1]
  by_cases h : a ≤ x.length
  · rw [Nat.min_eq_left h]
  · rw [Nat.min_eq_right (by (first | lia | omega)), List.drop_of_length_le (by rw [List.length_take, L_len]; (first | lia | omega)), List.drop_of_length_le (by rw [List.length_take, L_len]; (first | lia | omega))]
theorem L_rev (x : Str) (u : Tok) : L (Txt.sliceBy x none none (-1, u)) = (L x).reverse := by
  show (Txt.sliceBy x none none (-1, u)).cps.toList = _
  rw [step_rev_list]
  apply List.ext_getElem
  · simp [L, Str.length]
  · intro i h1 h2
    simp at h1
    rw [List.getElem_map, List.getElem_range, List.getElem_reverse]
    simp only [L_len]
    have hx : x.length - 1 - i < x.cps.size := by unfold Str.length at *; (first | lia | omega)
    rw [Array.getD_eq_getD_getElem?, Array.getElem?_eq_getElem hx]
    simp [L]
theorem len_slice (x : Str) (a b : Option Int) : (Txt.slice x a b).length ≤ x.length := by
  rw [← L_len, ← L_len]
  show (Txt.slice x a b).cps.toList.length ≤ _
  rw [slice_list, List.length_drop, List.length_take]
  show _ ≤ x.cps.toList.length
  (first | lia | omega)
theorem le_slice {x : Str} {a b : Option Int} {n : Nat} (h : x.length ≤ n) : (Txt.slice x a b).length ≤ n := Nat.le_trans (len_slice x a b) h
theorem le_app {x y : Str} {a b n : Nat} (hx : x.length ≤ a) (hy : y.length ≤ b) (h : a + b ≤ n) : (x ++ y).length ≤ n := by rw [← L_len, L_app, List.length_append, L_len, L_len]; (first | lia | omega)
theorem len_dots : (Str.ofString "...").length ≤ 3 := by decide +kernel
theorem ell_a {x : Str} {a b : Option Int} {n : Nat} (h : x.length ≤ n) (k : n ≤ 997) : (Txt.slice x a b ++ Str.ofString "...").length ≤ 1000 := le_app (Nat.le_trans (le_slice h) k) len_dots (by decide)
theorem ell_b {x : Str} {a b : Option Int} {n : Nat} (h : x.length ≤ n) (k : n ≤ 997) : (Str.ofString "..." ++ Txt.slice x a b).length ≤ 1000 := le_app len_dots (Nat.le_trans (le_slice h) k) (by decide)
theorem ell_c {x : Str} {a b : Option Int} {n : Nat} (h : x.length ≤ n) (k : n ≤ 1000) : (Txt.slice x a b).length ≤ 1000 := Nat.le_trans (le_slice h) k
theorem ell_d {x : Str} {n : Nat} (h : x.length ≤ n) (k : n ≤ 1000) : x.length ≤ 1000 := Nat.le_trans h k
theorem nodot_of {x y : Str} (hy : nodot y) (h : ∀ c ∈ L x, c ∈ L y) : nodot x := fun hm => hy (h _ hm)
theorem dots_eq : Str.ofString "..." = dots := rfl
/-- a stutter at the front, told by _ellipsis_match -/
theorem ell_front {x : Str} (hx : nodot x) (k : Nat) : ellM (Txt.slice x none (some (k : Int)) ++ Str.ofString "...") (Txt.slice x (some (k : Int)) none) = ((L x).take k).isPrefixOf ((L x).drop k) := by
  rw [dots_eq, ellM_ahead (nodot_of hx fun c h => by rw [L_take] at h; exact List.mem_of_mem_take h), Bool.eq_iff_iff, starts_iff, L_take, L_drop, List.isPrefixOf_iff_prefix]
/-- a stutter at the end -/
theorem ell_back {x : Str} (hx : nodot x) (k : Nat) (hk : 1 ≤ k) : ellM (Str.ofString "..." ++ Txt.slice x (some (-(k : Int))) none) (Txt.slice x none (some (-(k : Int)))) = ((L x).reverse.take k).isPrefixOf ((L x).reverse.drop k) := by
  rw [dots_eq, ellM_behind (nodot_of hx fun c h => by rw [L_last x k hk] at h; exact List.mem_of_mem_drop h), Bool.eq_iff_iff, ends_iff, L_last x k hk, L_front x k hk, List.isPrefixOf_iff_prefix,
    List.take_reverse, List.drop_reverse, ← L_len, List.reverse_prefix]
theorem nodot_slice {x : Str} (h : nodot x) (a b : Option Int) : nodot (Txt.slice x a b) := nodot_of h fun c hc => by
  have e : L (Txt.slice x a b) = _ := slice_list x a b
  rw [e] at hc
  exact List.mem_of_mem_take (List.mem_of_mem_drop hc)
/-- a text cut in two, dots between, and at its ends or not -/
theorem want_dots {x da db : Str} (hx : nodot x) (hda : da = Str.empty ∨ da = dots) (hdb : db = Str.empty ∨ db = dots) (n : Nat) :
    ∃ ps : List Str, ps ≠ [] ∧ (∀ p ∈ ps, nodot p) ∧ catS ps = L x ∧ da ++ Txt.slice x none (some (n : Int)) ++ Str.ofString "..." ++ Txt.slice x (some (n : Int)) none ++ db = joinD ps := by
  have hu := nodot_slice hx none (some (n : Int))
  have hv := nodot_slice hx (some (n : Int)) none
  have hcat : L (Txt.slice x none (some (n : Int))) ++ L (Txt.slice x (some (n : Int)) none) = L x := by rw [L_take, L_drop, List.take_append_drop]
  rw [dots_eq]
  generalize Txt.slice x none (some (n : Int)) = u at *
  generalize Txt.slice x (some (n : Int)) none = v at *
  have he : L Str.empty = [] := rfl
  rcases hda with rfl | rfl <;> rcases hdb with rfl | rfl
  · exact ⟨[u, v], by simp, by simp [hu, hv], by simp [catS, hcat], str_ext (by show L _ = L _; simp [joinD, L_app, he])⟩
  · exact ⟨[u, v, Str.empty], by simp, by simp [hu, hv, nodot_nil], by simp [catS, hcat, he], str_ext (by show L _ = L _; simp [joinD, L_app, he])⟩
  · exact ⟨[Str.empty, u, v], by simp, by simp [hu, hv, nodot_nil], by simp [catS, hcat, he], str_ext (by show L _ = L _; simp [joinD, L_app, he])⟩
  · exact ⟨[Str.empty, u, v, Str.empty], by simp, by simp [hu, hv, nodot_nil], by simp [catS, hcat, he], str_ext (by show L _ = L _; simp [joinD, L_app, he])⟩
theorem want_takes {x da db : Str} (hx : nodot x) (hda : da = Str.empty ∨ da = dots) (hdb : db = Str.empty ∨ db = dots) (n : Nat) :
    ellM (da ++ Txt.slice x none (some (n : Int)) ++ Str.ofString "..." ++ Txt.slice x (some (n : Int)) none ++ db) x = true := by
  obtain ⟨ps, h1, h2, h3, h4⟩ := want_dots hx hda hdb n
  rw [h4]; exact ellM_whole h1 h2 h3.symm
theorem want_short {x da db : Str} (hx : nodot x) (hda : da = Str.empty ∨ da = dots) (hdb : db = Str.empty ∨ db = dots) (n : Nat) {y : Str} (hy : y.length < x.length) :
    ellM (da ++ Txt.slice x none (some (n : Int)) ++ Str.ofString "..." ++ Txt.slice x (some (n : Int)) none ++ db) y = false := by
  obtain ⟨ps, h1, h2, h3, h4⟩ := want_dots hx hda hdb n
  rw [h4]; exact ellM_short h1 h2 (by rw [h3, L_len]; exact hy)
end Mine
end
section
open PySem PySem.W PySem.Calls PyProof.Rows
set_option maxRecDepth 100000
namespace Mine
/-! ## lists of pieces compared -/
noncomputable def datP (l : List (Str × Str)) : PyData := .list (l.map fun p => .tuple [.str p.1, .str p.2])
noncomputable def fg (ts : List Pc) : List (Str × Str) := ts.map fun p => (p.f, p.g)
theorem readsAll_pcs {h : Heap} : ∀ ts : List Pc, (∀ p ∈ ts, h.get? p.T = some p.ent.2) → ∃ as, ReadsAll h (refs ts) ((fg ts).map fun p => .tuple [.str p.1, .str p.2]) as
  | [], _ => ⟨_, .nil⟩
  | p :: r, hp => by
    obtain ⟨as, ih⟩ := readsAll_pcs r fun q hq => hp q (.tail _ hq)
    exact ⟨_, .cons (reads_tuple_at (hp p (.head _)) rfl rfl (.cons (.str _ _) (.cons (.str _ _) .nil))) ih⟩
theorem reads_pcs {h : Heap} {D : Addr} {o : Obj} {n : Nat} {ts : List Pc} (hD : h.get? D = some o) (hc : o.cls = .type "list") (hd : o.data = .seq (refs ts).toArray n) (hp : ∀ p ∈ ts, h.get? p.T = some p.ent.2) : ∃ as, Reads h (.ref D) (datP (fg ts)) as := by
  obtain ⟨as, ha⟩ := readsAll_pcs ts hp
  exact ⟨_, reads_list_at hD hc hd (by simpa using ha)⟩
theorem eqvAll_pcs : ∀ a b : List (Str × Str), PyData.eqvAll (a.map fun p => .tuple [.str p.1, .str p.2]) (b.map fun p => .tuple [.str p.1, .str p.2]) = decide (a = b)
  | [], [] => by simp [PyData.eqvAll]
  | [], _ :: _ => by simp [PyData.eqvAll]
  | _ :: _, [] => by simp [PyData.eqvAll]
  | a :: r, b :: t => by
    simp only [List.map_cons, PyData.eqvAll, PyData.eqv, eqvAll_pcs r t, Bool.and_true]
    obtain ⟨a1, a2⟩ := a
    obtain ⟨b1, b2⟩ := b
    by_cases h1 : a1 = b1 <;> by_cases h2 : a2 = b2 <;> by_cases h3 : r = t <;> simp [h1, h2, h3]
theorem eqv_pcs (a b : List (Str × Str)) : PyData.eqv (datP a) (datP b) = decide (a = b) := by
  unfold datP
  rw [show PyData.eqv (.list (a.map fun p => .tuple [.str p.1, .str p.2])) (.list (b.map fun p => .tuple [.str p.1, .str p.2])) = PyData.eqvAll (a.map fun p => .tuple [.str p.1, .str p.2]) (b.map fun p => .tuple [.str p.1, .str p.2]) from by simp only [PyData.eqv]]
  exact eqvAll_pcs a b
theorem lay_pcs : ∀ a : List (Str × Str), (∀ p ∈ a, PySem.PyData.strOk p.1 = true ∧ PySem.PyData.strOk p.2 = true) → PyData.canLayAll0 (a.map fun p => .tuple [.str p.1, .str p.2]) = true ∧ PyData.depthAll (a.map fun p => .tuple [.str p.1, .str p.2]) ≤ 1
  | [], _ => by simp [PyData.canLayAll0, PyData.depthAll]
  | p :: r, h => by
    have ih := lay_pcs r fun q hq => h q (.tail _ hq)
    have hp := h p (.head _)
    refine ⟨?_, ?_⟩
    · simp only [List.map_cons, PyData.canLayAll0, PyData.canLay0, hp.1, hp.2, ih.1, Bool.and_true]
    · simp only [List.map_cons, PyData.depthAll, PyData.depth]
      (first | lia | omega)
theorem shaped_pcs (a : List (Str × Str)) (h : ∀ p ∈ a, PySem.PyData.strOk p.1 = true ∧ PySem.PyData.strOk p.2 = true) : PySem.SeqAt.shaped (datP a) = true := by
  have := lay_pcs a h
  unfold PySem.SeqAt.shaped datP
  simp only [PyData.canLay0, PyData.depth, this.1, Bool.true_and]
  exact decide_eq_true (by (first | lia | omega))
section
variable {prog : Program} {w : World} {A : Around} {s : Shared} {E : Value → Shared → Prop} {Q : Value → Shared → Prop} {D1 D2 : Addr} {o1 o2 : Obj} {n1 n2 : Nat} {t1 t2 : List Pc}
theorem ne_pcs (h1 : s.heap.get? D1 = some o1) (c1 : o1.cls = .type "list") (d1 : o1.data = .seq (refs t1).toArray n1) (p1 : ∀ p ∈ t1, s.heap.get? p.T = some p.ent.2)
    (h2 : s.heap.get? D2 = some o2) (c2 : o2.cls = .type "list") (d2 : o2.data = .seq (refs t2).toArray n2) (p2 : ∀ p ∈ t2, s.heap.get? p.T = some p.ent.2)
    (s1 : ∀ p ∈ t1, PySem.PyData.strOk p.f = true ∧ PySem.PyData.strOk p.g = true) (s2 : ∀ p ∈ t2, PySem.PyData.strOk p.f = true ∧ PySem.PyData.strOk p.g = true) (hu : A.units + 64 < cLine) (h : Q (.bool (!decide (fg t1 = fg t2))) s) :
    wpAny (model prog w) A (compareOp .NotEq (.ref D1) (.ref D2)) Q E s := by
  obtain ⟨as, ra⟩ := reads_pcs h1 c1 d1 p1
  obtain ⟨bs, rb⟩ := reads_pcs h2 c2 d2 p2
  have sh : ∀ t : List Pc, (∀ p ∈ t, PySem.PyData.strOk p.f = true ∧ PySem.PyData.strOk p.g = true) → PySem.SeqAt.shaped (datP (fg t)) = true := fun t ht => shaped_pcs _ fun p hp => by
    obtain ⟨q, hq, rfl⟩ := List.mem_map.mp hp
    exact ht q hq
  exact ne_dataH ra rb (sh _ s1) (sh _ s2) hu (by rw [eqv_pcs]; exact h)
end
end Mine
end
section
open PySem PySem.W PyProof.Rows
set_option maxRecDepth 100000
namespace Mine
/-- signs that the law's texts are made of -/
noncomputable def Fine (x : Str) : Prop := ∀ c ∈ L x, c ≠ 46 ∧ c < 60000
theorem Fine.nodot {x : Str} (h : Fine x) : nodot x := fun hm => (h _ hm).1 rfl
theorem Fine.of {x y : Str} (hy : Fine y) (h : ∀ c ∈ L x, c ∈ L y) : Fine x := fun c hc => hy c (h c hc)
theorem Fine.ok {x : Str} (h : Fine x) : PySem.PyData.strOk x = true := by
  unfold PySem.PyData.strOk
  rw [Array.all_eq_true']
  intro c hc
  have := (h c (by simpa [L] using hc)).2
  exact decide_eq_true (by (first | lia | omega))
/-- a sign as a piece -/
noncomputable def pcOf (c : Nat) : List Nat × List Nat := if c = 34 then ([c], []) else ([], [c])
noncomputable def PcsAre (ts : List Pc) (l : List Nat) : Prop := ts.map (fun p => (L p.f, L p.g)) = l.map pcOf
theorem PcsAre.len {ts : List Pc} {l : List Nat} (h : PcsAre ts l) : ts.length = l.length := by simpa using congrArg List.length h
theorem pcOf_cat (c : Nat) : (pcOf c).1 ++ (pcOf c).2 = [c] := by unfold pcOf; split <;> rfl
theorem PcsAre.shown : ∀ {ts : List Pc} {l : List Nat}, PcsAre ts l → L (shown ts) = l := by
  intro ts l h
  have e : L (Mine.shown ts) = (ts.map fun p => (L p.f, L p.g)).flatMap fun q => q.1 ++ q.2 := by
    unfold Mine.shown
    show List.flatten _ = _
    rw [List.flatMap_def, List.map_map]; rfl
  rw [e, h]
  induction l generalizing ts with
  | nil => rfl
  | cons c r ih =>
    rw [List.map_cons, List.flatMap_cons, pcOf_cat]
    cases ts with
    | nil => simp [PcsAre] at h
    | cons p q =>
      have h' : PcsAre q r := by simp only [PcsAre, List.map_cons, List.cons.injEq] at h; exact h.2
      have := ih h' (by unfold Mine.shown; show List.flatten _ = _; rw [List.flatMap_def, List.map_map]; rfl)
      rw [this]; rfl
theorem PcsAre.app {ts us : List Pc} {l r : List Nat} (h : PcsAre ts l) (h' : PcsAre us r) : PcsAre (ts ++ us) (l ++ r) := by unfold PcsAre at *; rw [List.map_append, List.map_append, h, h']
theorem PcsAre.take {ts : List Pc} {l : List Nat} (h : PcsAre ts l) (k : Nat) : PcsAre (ts.take k) (l.take k) := by unfold PcsAre at *; rw [List.map_take, List.map_take, h]
theorem PcsAre.drop {ts : List Pc} {l : List Nat} (h : PcsAre ts l) (k : Nat) : PcsAre (ts.drop k) (l.drop k) := by unfold PcsAre at *; rw [List.map_drop, List.map_drop, h]
theorem PcsAre.fg_eq {ts us : List Pc} {l : List Nat} (h : PcsAre ts l) (h' : PcsAre us l) : fg ts = fg us := by
  have e : ts.map (fun p => (L p.f, L p.g)) = us.map (fun p => (L p.f, L p.g)) := h.trans h'.symm
  clear h h'
  induction ts generalizing us with
  | nil => cases us with
    | nil => rfl
    | cons => simp at e
  | cons p r ih => cases us with
    | nil => simp at e
    | cons q t =>
      simp only [List.map_cons, List.cons.injEq, Prod.mk.injEq] at e
      unfold fg at ih ⊢
      rw [List.map_cons, List.map_cons, ih e.2, str_ext e.1.1, str_ext e.1.2]
theorem PcsAre.mem {ts : List Pc} {l : List Nat} (h : PcsAre ts l) {p : Pc} (hp : p ∈ ts) : ∃ c ∈ l, L p.f = (pcOf c).1 ∧ L p.g = (pcOf c).2 := by
  have : (L p.f, L p.g) ∈ l.map pcOf := by rw [← h]; exact List.mem_map.mpr ⟨p, hp, rfl⟩
  obtain ⟨c, hc, e⟩ := List.mem_map.mp this
  exact ⟨c, hc, (congrArg Prod.fst e).symm, (congrArg Prod.snd e).symm⟩
theorem PcsAre.sz {ts : List Pc} {l : List Nat} (h : PcsAre ts l) : ∀ p ∈ ts, p.f.length ≤ 1 ∧ p.g.length ≤ 1 := fun p hp => by
  obtain ⟨c, _, h1, h2⟩ := h.mem hp
  rw [← L_len, ← L_len, h1, h2]
  unfold pcOf; split <;> simp
theorem PcsAre.ok {ts : List Pc} {l : List Nat} (h : PcsAre ts l) (hl : ∀ c ∈ l, c < 60000) : ∀ p ∈ ts, PySem.PyData.strOk p.f = true ∧ PySem.PyData.strOk p.g = true := fun p hp => by
  obtain ⟨c, hc, h1, h2⟩ := h.mem hp
  have hb := hl c hc
  have key : ∀ x : Str, (∀ d ∈ L x, d = c) → PySem.PyData.strOk x = true := fun x hx => by
    unfold PySem.PyData.strOk
    rw [Array.all_eq_true']
    intro d hd
    have := hx d (by simpa [L] using hd)
    exact decide_eq_true (by (first | lia | omega))
  refine ⟨key _ fun d hd => ?_, key _ fun d hd => ?_⟩
  · rw [h1] at hd; unfold pcOf at hd; split at hd <;> simp at hd; exact hd
  · rw [h2] at hd; unfold pcOf at hd; split at hd <;> simp at hd; exact hd
end Mine
end
section
open PySem PySem.W PySem.Calls PyProof.Rows Builtin Builtin.Str Builtin.BaseException Builtin.Exceptions
set_option maxRecDepth 100000
namespace Mine
/-! ## str() of an exception of the text's own class -/
section
variable {prog : Program} {w : World} {A : Around} {E : Value → Shared → Prop} {s : Shared} {K : Frag} {C e t : Addr} {oe ot : Obj} {ws : Array Value} {nt : Nat} {y : Str} {u : Tok}
theorem own_bexcArgs {M : Model} {Q : Value × List Value → Shared → Prop} (he : s.heap.get? e = some oe) (hd : oe.data = .fields ws) (h0 : ws[0]? = some (.ref t)) (ht : s.heap.get? t = some ot) (htd : ot.data = .seq #[.str y u] nt) (hq : Q (.ref t, [.str y u]) s) :
    wpAny M A (bexcArgs (.ref e)) Q E s := by
  unfold bexcArgs
  refine wpAny_bind (wpAny_field he hd h0 (wpAny_bind (wpAny_seqItems ht htd ?_)))
  exact wpAny_pure hq
theorem own_bexcStr {Q : Fin → Shared → Prop} (he : s.heap.get? e = some oe) (hd : oe.data = .fields ws) (h0 : ws[0]? = some (.ref t)) (ht : s.heap.get? t = some ot) (htd : ot.data = .seq #[.str y u] nt) (hq : Q (.done (.ret (.str y u))) s) :
    wpAny (model prog w) A (Builtin.«BaseException.__str__» ⟨[.ref e], []⟩) Q E s := by
  unfold Builtin.«BaseException.__str__»
  repeat (first | with_reducible refine own_bexcArgs he hd h0 ht htd ?_ | wp_step)
  exact hq
theorem own_type {M : Model} {h : Heap} (he : h.get? e = some oe) (hc : oe.cls = .ref C) : Looks M h (typeOf (.ref e)) (.ref C) := hc ▸ (Looks.ld he).andThen .now
theorem own_strOf {Q : Value → Shared → Prop} (hu : A.units < cLine) (X : K.In s.heap) (he : s.heap.get? e = some oe) (hc : oe.cls = .ref C) (hd : oe.data = .fields ws) (h0 : ws[0]? = some (.ref t)) (ht : s.heap.get? t = some ot) (htd : ot.data = .seq #[.str y u] nt)
    (hs : findIn K (.ref C) "__str__" = some (some (.builtin "BaseException.__str__"))) (hm : mroIn K C (.type "BaseException") = some true) (h : Q (.str y u) s) : wpAny (model prog w) A (PySem.Builtin.Str.strOf (.ref e)) Q E s := by
  unfold PySem.Builtin.Str.strOf
  rw [show isExactStr (.ref e) = false from rfl]
  refine wpAny_bind (m := cRoomFor _ _) (wpAny_cRoomFor hu ?_)
  refine wpAny_bind (m := callSpecial? (.ref e) (Str.ofString "__str__")) ?_
  refine wpAny_bind (wpAny_bind ((own_type he hc).here ((looks_findIn X hs).here (wpAny_holding (wpAny_bind ((Looks.of_pure (PySem.F.excStr_Exception.str.bind _)).here (wpAny_bind ?_)))))))
  refine wpAny_call (codeAny_call_builtin PySem.F.excStr_Exception.str.plain PySem.F.entry_bexc_str (check_slot (i := "BaseException.__str__") (owner := "BaseException") (n := "__str__") (by decide +kernel) (by decide +kernel) ((own_type he hc).andThen (looks_mroIn X hm)) (PySem.F.args_bexc_str _) ?_))
  refine own_bexcStr he hd h0 ht htd ?_
  exact wpAny_pure (wpAny_pure h)
theorem exc_str_own {Q : Value → Shared → Prop} (hu : A.in1.in1.units < cLine) (X : K.In s.heap) (he : s.heap.get? e = some oe) (hc : oe.cls = .ref C) (hd : oe.data = .fields ws) (h0 : ws[0]? = some (.ref t)) (ht : s.heap.get? t = some ot) (htd : ot.data = .seq #[.str y u] nt)
    (hs : findIn K (.ref C) "__str__" = some (some (.builtin "BaseException.__str__"))) (hm : mroIn K C (.type "BaseException") = some true) (h : Q (.str y u) s) : wpAny (model prog w) A (call (.type "str") [.ref e]) Q E s := by
  refine callType_codes (T := "str") (Bi := Builtin.«object.__init__») (Q₁ := fun r s₁ => ∃ y u, r = .str y u ∧ Q r s₁) PySem.F.called_str (PySem.F.typeCall_str_1 _) PySem.F.entry_object_init ?_ ?_
  · refine codeAny_of_tree ?_
    show wpAny _ A.in1.in1 (do checkBuiltinCall "str.__new__" ⟨[.type "str", .ref e], []⟩; again (.builtin "str.__new__" ⟨[.type "str", .ref e], []⟩)) _ _ s
    refine wpAny_bind (wpAny_of_eq (PySem.F.newCall_str_1 _) (wpAny_pure ⟨plainId_quiet (by decide +kernel) _, codeAny_builtin PySem.F.entry_str_new ?_⟩))
    rw [Around.under_plainId (by decide +kernel) _]
    rw [str_new_tree]
    refine wpAny_bind (wpAny_pure ?_)
    refine wpAny_bind (wpAny_of_eq isSubtype_str_str ?_)
    refine wpAny_bind (wpAny_mono (own_strOf hu X he hc hd h0 ht htd hs hm (Q := fun r s₁ => ∃ y u, r = .str y u ∧ Q r s₁) ⟨_, _, rfl, h⟩) (fun r s₁ hr => wpAny_pure hr) fun _ _ y => y)
  · rintro obj s₁ ⟨y, u, rfl, hq⟩
    exact ⟨typeIs_str _ _ _, PySem.F.args_object_init_2 _ _, object_init_meets PySem.F.called_str.init.lookup PySem.F.called_str.made (by decide) prog w A.in1 _ s₁ ⟨typeIs_str _ _ _, rfl, hq⟩⟩
end
end Mine
end
section
open PySem PySem.W PySem.Calls PySem.Spec PyProof.Rows
set_option maxRecDepth 100000
namespace Mine
/-! ## a def with a try, called from the law's own frame, which may have cells -/
section
variable {prog : Program} {w : World} {A₀ A : Around} {s : Shared} {base h₀ : Heap} {L : Addr} {m : Str → Option Value} {env : Env} {news : Led} {K : Frag} {p : Program} {loose : List Str} {mean : ExcName → Option Value} {mg mb : Str → Option Value}
  {R : Result → Shared → Prop} {name qual : Str} {params : Arguments} {body : List Stmt} {scope : Scope} {dV kV doc pm cdv ct oc : Value} {an od : Option Addr} {osl : Array (Option Value)} {f : Addr} {args : Args} {binds : List (Str × Value)}
theorem only_frame {b : Addr} (hf : env.frame = some L) (hm : b ∈ [env].filterMap (·.frame)) : b = L := by
  rw [List.filterMap_cons, hf] at hm
  simpa using hm
theorem call_tryC (B : Below A₀ base [] h₀) (F : Fr h₀ L s.heap m) (X₀ : K.In h₀) (N : News h₀ L s.heap news) (T : Top p loose mean mg mb h₀) (hA : A.frames = some [env]) (hf : env.frame = some L) (hke : env.scope.kind = .function)
    (ho : K.lookup f = some ⟨oc, od, .func (fnOf name qual params body scope dV kV doc pm an cdv ct), osl⟩) (hcd : codeIn K cdv qual = true) (hroom : A.depth < recursionLimit)
    (hbind : BindsTo s (fnOf name qual params body scope dV kV doc pm an cdv ct) args binds) (hloc : ∀ y ∈ binds, scope.names.lookup y.1 = some .local)
    (h : ∀ g L' h₁, Fr h₀ L g m → Fr g L' h₁ (fun y => binds.reverse.lookup y) → News g L' h₁ news → Below A base [env] g → K.In g → Top p loose mean mg mb g → KtsDicts ([env].filterMap (·.frame)) g →
      wpAny (model prog w) (A.deeper (envOf qual scope L' f cdv)) (execs body (envOf qual scope L' f cdv))
        (fun fl s' => LeaveS0 ([env].filterMap (·.frame)) h₀ L m g R (match fl with | .ret v => v | _ => .none) s')
        (fun e s' => wpAny (model prog w) (A.deeper (envOf qual scope L' f cdv)) (leaving (envOf qual scope L' f cdv) e) (fun _ s'' => R (.error e) s'') (fun e' s'' => R (.error e') s'') s')
        { s with heap := h₁, toks := s.toks + binds.length })
    (hco : scope.isCoroutine = false) (hgen : scope.isGenerator = false) (hk : scope.kind = .function) (hcell : ∀ x ∈ scope.names, x.2 ≠ .cell) : codeAny (model prog w) A (.call (.ref f) args) R s := by
  obtain ⟨FG, BG, st, _⟩ := groundX (R := R) B F N hA hf hke
  have X := X₀.keeps F.keep
  obtain ⟨oL, es, ep, hL, hLd, hLk, hLf⟩ := F.ns
  have nL : L ∉ news.map (·.1) := fun q => by
    obtain ⟨p, hp, e⟩ := List.mem_map.mp q
    exact (N p hp).2.1 e
  have hLg := hideAll_get (news.map (·.1)) hL nL
  refine codeAny_call_def (fd := fnOf name qual params body scope dV kV doc pm an cdv ct) (body := body) (binds := binds) hroom (X _ _ ho) rfl (T.nolimit.keeps F.keep) (codeRec_of X hcd) rfl hbind hcell hloc (fun h₁ hns hk₁ => ?_) hco hgen hk
  refine wpAny_mono (h _ s.heap.objs.size h₁ FG ⟨hns, fun b o e => hk₁ b o (of_hideAll _ e), Nat.le_of_eq (hideAll_size _ _)⟩
    (fun p hp => ⟨hk₁ _ _ (N p hp).1, Nat.ne_of_lt (Heap.lt_size (N p hp).1), hideAll_none _ (List.mem_map_of_mem hp)⟩) BG (X₀.keeps st) (T.keeps st) (fun b hb => by
      obtain rfl := only_frame hf hb
      exact ⟨oL, es, ep, hLg, hLd⟩)) (fun fl s' hl => ?_) fun _ _ y => y
  obtain ⟨g', L', m', news', T', F', N', k⟩ := hl
  have nL₀ : h₀.get? L = none := kts_self F
  obtain ⟨sl, hs⟩ := T'.up hLg
  refine k ⟨⟨_, es, ep, F'.keep _ _ hs, hLd, hLk, hLf⟩, fun b o e => F'.keep b o (T'.other b o (st b o e) fun q => by
    rw [only_frame hf q, nL₀] at e; cases e), F.above⟩ fun p hp => ⟨(N' p hp).1, fun q => ?_, ?_⟩
  · have := (N' p hp).2.2; rw [q, hs] at this; cases this
  · cases q : h₀.get? p.1 with
    | none => rfl
    | some o =>
      obtain ⟨sl', hs'⟩ := T'.up (st _ _ q)
      have := (N' p hp).2.2
      rw [hs'] at this
      cases this
end
end Mine
end
section
open PySem PySem.W PySem.Calls PyProof.Rows
namespace Mine
theorem len_flat : ∀ zs : List (Str × Tok), ((zs.map (·.1)).map (·.length)).sum = (zs.flatMap (fun z => L z.1)).length
  | [] => rfl
  | z :: r => by
    rw [List.map_cons, List.map_cons, List.sum_cons, List.flatMap_cons, List.length_append, len_flat r, L_len]
theorem joinOk_led {x : Str} {zs : List (Str × Tok)} (hx : x.length ≤ 16) (hw : (zs.flatMap (fun z => L z.1)).length + zs.length ≤ 1048576) : JoinOk x (zs.map (·.1)) = true :=
  joinOk_of_weight (by rw [len_flat, List.length_map]; exact hw) hx
section
variable {prog : Program} {w : World} {A : Around} {E : Value → Shared → Prop} {s : Shared} {x : Str} {t : Tok} {Q : Value → Shared → Prop} {D : Addr} {zs : List (Str × Tok)}
theorem join_led (hl : s.heap.IsList D (strValues zs).toArray) (hx : x.length ≤ 16) (hw : (zs.flatMap (fun z => L z.1)).length + zs.length ≤ 1048576)
    (h : ∀ t' k, Q (.str (Txt.join x (zs.map (·.1))) t') { s with toks := k }) : wpAny (model prog w) A (call (.builtin "str.join") [.str x t, .ref D]) Q E s :=
  SC.join hl rfl (joinOk_led hx hw) h
theorem L_join_empty : ∀ ys : List Str, L (Txt.join Str.empty ys) = ys.flatMap L := by
  intro l
  show L (Builtin.Str.glued Str.empty l) = _
  rw [StrLaws.glued_eq_join]
  induction l with
  | nil => rfl
  | cons x r ih =>
    cases r with
    | nil => simp [Str.join]
    | cons y r =>
      show L (x ++ Str.empty ++ Str.join Str.empty (y :: r)) = _
      rw [L_app, L_app, ih]
      show L x ++ [] ++ _ = _
      simp only [List.append_nil, List.flatMap_cons]
theorem join_led0 (hl : s.heap.IsList D (strValues zs).toArray) (hw : (zs.flatMap (fun z => L z.1)).length + zs.length ≤ 1048576)
    (h : ∀ y t' k, L y = zs.flatMap (fun z => L z.1) → Q (.str y t') { s with toks := k }) : wpAny (model prog w) A (call (.builtin "str.join") [.str (Str.ofString "") t, .ref D]) Q E s :=
  join_led hl (by decide +kernel) hw fun t' k => h _ _ _ (by
    rw [show Str.ofString "" = Str.empty by decide +kernel, L_join_empty, List.flatMap_map])
theorem add_new {x y : Str} {a b : Nat} {t u : Tok} (hx : x.length ≤ a) (hy : y.length ≤ b) (hab : a + b ≤ 5000) (h : ∀ z t' k, L z = L x ++ L y → z.length ≤ a + b → Q (.str z t') { s with toks := k }) :
    wpAny (model prog w) A (binaryOp .Add (.str x t) (.str y u)) Q E s := add_led hx hy hab fun t' k hl => h _ t' k (L_app x y) hl
theorem item_tup {value slice : PySem.Expr} {l : Addr} {vs : List Value} {k : Int} {u : Tok} {v : Value} (ht : IsTup s.heap l vs.toArray) (h0 : 0 ≤ k) (hhi : k < 2 ^ 63) (hx : vs[k.toNat]? = some v) (h : Q v s)
    (hs : subscripted slice false (.ref l) (.int k u) = operate [.ref l, .int k u] (getItem (.ref l) (.int k u))) : wpAny (model prog w) A (subscriptTail value slice (.ref l) (.int k u)) Q E s := by
  have hl : k.toNat < vs.length := (List.getElem?_eq_some_iff.mp hx).1
  exact tail_any ht.typeIs slot_tuple_getitem.lookup (getItem_tuple ht (by (first | lia | omega)) hhi (StrLaws.seqIndex_nonneg h0 (by rw [List.size_toArray]; (first | lia | omega))) (by simpa using hx) h) hs
end
end Mine
end
section
open PySem PySem.W PySem.Calls PyProof.Rows
set_option maxRecDepth 100000
namespace Mine
/-! ## lists of texts compared -/
noncomputable def datT (l : List Str) : PyData := .list (l.map fun x => .str x)
theorem readsAll_txts {h : Heap} : ∀ zs : List (Str × Tok), ∃ as, ReadsAll h (strValues zs) ((zs.map (·.1)).map fun x => .str x) as
  | [] => ⟨_, .nil⟩
  | p :: r => by
    obtain ⟨as, ih⟩ := readsAll_txts (h := h) r
    exact ⟨_, .cons (.str _ _) ih⟩
theorem reads_txts {h : Heap} {D : Addr} {o : Obj} {n : Nat} {zs : List (Str × Tok)} (hD : h.get? D = some o) (hc : o.cls = .type "list") (hd : o.data = .seq (strValues zs).toArray n) : ∃ as, Reads h (.ref D) (datT (zs.map (·.1))) as := by
  obtain ⟨as, ha⟩ := readsAll_txts (h := h) zs
  exact ⟨_, reads_list_at hD hc hd (by simpa using ha)⟩
theorem eqvAll_txts : ∀ a b : List Str, PyData.eqvAll (a.map fun x => .str x) (b.map fun x => .str x) = decide (a = b)
  | [], [] => by simp [PyData.eqvAll]
  | [], _ :: _ => by simp [PyData.eqvAll]
  | _ :: _, [] => by simp [PyData.eqvAll]
  | a :: r, b :: t => by
    simp only [List.map_cons, PyData.eqvAll, PyData.eqv, eqvAll_txts r t]
    by_cases h1 : a = b <;> by_cases h3 : r = t <;> simp [h1, h3]
theorem eqv_txts (a b : List Str) : PyData.eqv (datT a) (datT b) = decide (a = b) := by
  unfold datT
  rw [show PyData.eqv (.list (a.map fun x => .str x)) (.list (b.map fun x => .str x)) = PyData.eqvAll (a.map fun x => .str x) (b.map fun x => .str x) from by simp only [PyData.eqv]]
  exact eqvAll_txts a b
theorem lay_txts : ∀ a : List Str, (∀ x ∈ a, PySem.PyData.strOk x = true) → PyData.canLayAll0 (a.map fun x => .str x) = true ∧ PyData.depthAll (a.map fun x => .str x) ≤ 0
  | [], _ => by simp [PyData.canLayAll0, PyData.depthAll]
  | p :: r, h => by
    have ih := lay_txts r fun q hq => h q (.tail _ hq)
    have hp := h p (.head _)
    refine ⟨?_, ?_⟩
    · simp only [List.map_cons, PyData.canLayAll0, PyData.canLay0, hp, ih.1, Bool.and_true]
    · simp only [List.map_cons, PyData.depthAll, PyData.depth]
      (first | lia | omega)
theorem shaped_txts (a : List Str) (h : ∀ x ∈ a, PySem.PyData.strOk x = true) : PySem.SeqAt.shaped (datT a) = true := by
  have := lay_txts a h
  unfold PySem.SeqAt.shaped datT
  simp only [PyData.canLay0, PyData.depth, this.1, Bool.true_and]
  exact decide_eq_true (by (first | lia | omega))
section
variable {prog : Program} {w : World} {A : Around} {s : Shared} {E : Value → Shared → Prop} {Q : Value → Shared → Prop} {D1 D2 : Addr} {o1 o2 : Obj} {n1 n2 : Nat} {a b : List (Str × Tok)}
theorem ne_txts (h1 : s.heap.get? D1 = some o1) (c1 : o1.cls = .type "list") (d1 : o1.data = .seq (strValues a).toArray n1)
    (h2 : s.heap.get? D2 = some o2) (c2 : o2.cls = .type "list") (d2 : o2.data = .seq (strValues b).toArray n2)
    (s1 : ∀ x ∈ a.map (·.1), PySem.PyData.strOk x = true) (s2 : ∀ x ∈ b.map (·.1), PySem.PyData.strOk x = true) (hu : A.units + 64 < cLine) (h : Q (.bool (!decide (a.map (·.1) = b.map (·.1)))) s) :
    wpAny (model prog w) A (compareOp .NotEq (.ref D1) (.ref D2)) Q E s := by
  obtain ⟨as, ra⟩ := reads_txts h1 c1 d1
  obtain ⟨bs, rb⟩ := reads_txts h2 c2 d2
  exact ne_dataH ra rb (shaped_txts _ s1) (shaped_txts _ s2) hu (by rw [eqv_txts]; exact h)
end
end Mine
end
section
open PySem PySem.W PySem.Calls PyProof.Rows
set_option maxRecDepth 100000
namespace Mine
mutual
noncomputable def plainD : PyData → Bool
  | .dict _ => false
  | .list xs => plainAll xs
  | .tuple xs => plainAll xs
  | _ => true
noncomputable def plainAll : List PyData → Bool
  | [] => true
  | x :: xs => plainD x && plainAll xs
end
mutual
theorem eqv_self : ∀ d : PyData, plainD d = true → PyData.eqv d d = true
  | .none, _ => by simp [PyData.eqv]
  | .bool b, _ => by simp [PyData.eqv]
  | .int b, _ => by simp [PyData.eqv]
  | .str b, _ => by simp [PyData.eqv]
  | .list xs, h => by
    rw [plainD] at h
    rw [PyData.eqv]
    exact eqvAll_self xs h
  | .tuple xs, h => by
    rw [plainD] at h
    rw [PyData.eqv]
    exact eqvAll_self xs h
  | .dict _, h => by rw [plainD] at h; cases h
theorem eqvAll_self : ∀ xs : List PyData, plainAll xs = true → PyData.eqvAll xs xs = true
  | [], _ => by simp [PyData.eqvAll]
  | x :: xs, h => by
    rw [plainAll, Bool.and_eq_true] at h
    rw [PyData.eqvAll, eqv_self x h.1, eqvAll_self xs h.2]
    rfl
end
section
variable {prog : Program} {w : World} {A : Around} {s : Shared} {E : Value → Shared → Prop} {Q : Value → Shared → Prop} {a b : Value} {d : PyData} {as bs : List Addr}
theorem ne_same (ra : Reads s.heap a d as) (rb : Reads s.heap b d bs) (hs : PySem.SeqAt.shaped d = true) (hd : plainD d = true) (hu : A.units + 64 < cLine) (h : Q (.bool false) s) : wpAny (model prog w) A (compareOp .NotEq a b) Q E s :=
  ne_dataH ra rb hs hs hu (by rw [eqv_self d hd]; exact h)
theorem eq_same (ra : Reads s.heap a d as) (rb : Reads s.heap b d bs) (hs : PySem.SeqAt.shaped d = true) (hd : plainD d = true) (hu : A.units + 64 < cLine) (h : Q (.bool true) s) : wpAny (model prog w) A (compareOp .Eq a b) Q E s :=
  eq_dataH ra rb hs hs hu (by rw [eqv_self d hd]; exact h)
end
end Mine
end
section
open PySem PySem.W PyProof.Rows Builtin Builtin.Str
namespace Mine
/-! ## pairs of marks replaced, the first piece, marks told -/
noncomputable def rd : List Nat → List Nat
  | [] => []
  | [c] => [c]
  | c :: d :: r => if c = 34 ∧ d = 34 then 46 :: rd r else c :: rd (d :: r)
theorem rd_mark (r : List Nat) : rd (34 :: 34 :: r) = 46 :: rd r := by simp [rd]
theorem rd_sign {c : Nat} {r : List Nat} (h : ¬ (c = 34 ∧ r.head? = some 34)) : rd (c :: r) = c :: rd r := by
  cases r with
  | nil => simp [rd]
  | cons d r =>
    have : ¬ (c = 34 ∧ d = 34) := fun e => h ⟨e.1, by simp [e.2]⟩
    rw [rd, if_neg this]
theorem rd_len : ∀ l : List Nat, (rd l).length ≤ l.length
  | [] => Nat.le_refl _
  | [c] => Nat.le_refl _
  | c :: d :: r => by
    rw [rd]
    split
    · have := rd_len r; simp only [List.length_cons]; (first | lia | omega)
    · have := rd_len (d :: r); simp only [List.length_cons] at this ⊢; (first | lia | omega)
theorem dblL_len : ∀ l : List Nat, (dblL l).length ≤ 2 * l.length
  | [] => Nat.le_refl _
  | c :: r => by
    have ih := dblL_len r
    show (if c = 34 then 34 :: 34 :: dblL r else c :: dblL r).length ≤ _
    split <;> simp only [List.length_cons] <;> (first | lia | omega)
/-- pieces glued, from a place on -/
noncomputable def outL (x z : List Nat) (w : Nat) : Nat → List Nat → List Nat
  | a, [] => x.drop a
  | a, c :: r => (x.drop a).take (c - a) ++ z ++ outL x z w (c + w) r
theorem join_parts (x z : Str) (w : Nat) : ∀ (cuts : List Nat) (a : Nat), L (Str.join z (StrLaws.partsFrom x w a cuts)) = outL (L x) (L z) w a cuts
  | [], a => by
    show L (strSub x a x.length) = _
    show (strSub x a x.length).cps.toList = _
    rw [StrLaws.strSub_toList]
    show ((L x).drop a).take _ = (L x).drop a
    rw [List.take_of_length_le (by rw [List.length_drop, L_len]; exact Nat.le_refl _)]
  | c :: r, a => by
    obtain ⟨p, q, e⟩ := StrLaws.partsFrom_ne x w (c + w) r
    have ih := join_parts x z w r (c + w)
    show L (Str.join z (strSub x a c :: StrLaws.partsFrom x w (c + w) r)) = _
    rw [e] at ih ⊢
    show L (strSub x a c ++ z ++ Str.join z (p :: q)) = _
    rw [L_app, L_app, ih]
    show (strSub x a c).cps.toList ++ _ ++ _ = _
    rw [StrLaws.strSub_toList]
    rfl
theorem scan_free {p : Nat → Bool} {w : Nat} : ∀ (l : List Nat) (lim f f' : Nat), (∀ a ∈ l, f ≤ a ∧ f' ≤ a) → scan p w l lim f = scan p w l lim f'
  | [], _, _, _, _ => rfl
  | a :: l, lim, f, f', h => by
    have ha := h a (.head _)
    unfold scan
    rw [scan_free l lim f f' fun b hb => h b (.tail _ hb)]
    by_cases hc : 0 < lim ∧ p a = true
    · rw [if_pos ⟨hc.1, ha.1, hc.2⟩, if_pos ⟨hc.1, ha.2, hc.2⟩]
    · rw [if_neg (fun z => hc ⟨z.1, z.2.2⟩), if_neg (fun z => hc ⟨z.1, z.2.2⟩)]
theorem scan_ge {p : Nat → Bool} {w : Nat} : ∀ (l : List Nat) (lim f c : Nat), c ∈ scan p w l lim f → c ∈ l
  | [], _, _, _, h => by cases h
  | a :: l, lim, f, c, h => by
    unfold scan at h
    split at h
    · rcases List.mem_cons.mp h with rfl | h
      · exact .head _
      · exact .tail _ (scan_ge l _ _ c h)
    · exact .tail _ (scan_ge l _ _ c h)
theorem outL_step {x z : List Nat} {w a c : Nat} (hx : x.drop a = c :: x.drop (a + 1)) : ∀ (cuts : List Nat), (∀ b ∈ cuts, a < b) → outL x z w a cuts = c :: outL x z w (a + 1) cuts
  | [], _ => hx
  | b :: r, h => by
    have hb := h b (.head _)
    show (x.drop a).take (b - a) ++ z ++ _ = c :: ((x.drop (a + 1)).take (b - (a + 1)) ++ z ++ _)
    rw [hx, show b - a = (b - (a + 1)) + 1 by (first | lia | omega)]
    rfl
theorem outL_rd (x : List Nat) (p : Nat → Bool) (hp : ∀ i, p i = true ↔ (x.drop i).take 2 = [34, 34]) : ∀ (n a lim : Nat), a + n = x.length → n < lim → outL x [46] 2 a (scan p 2 (List.range' a (n + 1)) lim a) = rd (x.drop a) := by
  intro n
  induction n using Nat.strongRecOn with
  | ind n ih =>
  intro a lim ha hl
  rw [List.range'_succ]
  by_cases hc : p a = true
  · have h2 := (hp a).mp hc
    have hn2 : 2 ≤ n := by
      have := congrArg List.length h2
      rw [List.length_take, List.length_drop] at this
      simp at this; (first | lia | omega)
    have hd : x.drop a = 34 :: 34 :: x.drop (a + 2) := by
      rw [← List.take_append_drop 2 (x.drop a), h2, List.drop_drop]; rfl
    unfold scan
    rw [if_pos ⟨by (first | lia | omega), Nat.le_refl _, hc⟩]
    show (x.drop a).take (a - a) ++ [46] ++ outL x [46] 2 (a + 2) _ = _
    rw [Nat.sub_self, List.take_zero, hd, rd_mark]
    show 46 :: outL x [46] 2 (a + 2) _ = 46 :: _
    congr 1
    rw [show n = (n - 1) + 1 by (first | lia | omega), List.range'_succ]
    have e : ∀ l, scan p 2 ((a + 1) :: l) (lim - 1) (a + 2) = scan p 2 l (lim - 1) (a + 2) := fun l => by
      conv => lhs; unfold scan
      rw [if_neg (by (first | lia | omega))]
    rw [e]
    have := ih (n - 2) (by (first | lia | omega)) (a + 2) (lim - 1) (by (first | lia | omega)) (by (first | lia | omega))
    rw [← this]
    congr 2
    rw [show n - 2 + 1 = n - 1 by (first | lia | omega)]
  · have e : ∀ l, scan p 2 (a :: l) lim a = scan p 2 l lim a := fun l => by
      conv => lhs; unfold scan
      rw [if_neg (fun z => hc z.2.2)]
    rw [e]
    cases n with
    | zero =>
      rw [List.drop_of_length_le (by (first | lia | omega))]
      show outL x [46] 2 a [] = _
      show x.drop a = _
      rw [List.drop_of_length_le (by (first | lia | omega))]
      rfl
    | succ n =>
      obtain ⟨c, hcd⟩ : ∃ c, x.drop a = c :: x.drop (a + 1) := ⟨x[a]'(by (first | lia | omega)), (List.drop_eq_getElem_cons (by (first | lia | omega)))⟩
      rw [scan_free (List.range' (a + 1) (n + 1)) lim a (a + 1) (fun b hb => by have := List.mem_range'_1.mp hb; (first | lia | omega))]
      rw [outL_step hcd _ (fun b hb => by have := List.mem_range'_1.mp (scan_ge _ _ _ _ hb); (first | lia | omega))]
      rw [ih n (by (first | lia | omega)) (a + 1) lim (by (first | lia | omega)) (by (first | lia | omega)), hcd]
      rw [rd_sign]
      rintro ⟨rfl, h2⟩
      refine hc ((hp a).mpr ?_)
      rw [hcd]
      cases hr : x.drop (a + 1) with
      | nil => rw [hr] at h2; cases h2
      | cons d r => rw [hr] at h2; simp at h2; rw [h2]; rfl
theorem replace_pairs (x : Str) : L (Txt.replace x (Str.ofString "\"\"") (Str.ofString ".")) = rd (L x) := by
  have hy : (Str.ofString "\"\"").length = 2 := by decide +kernel
  have hyL : L (Str.ofString "\"\"") = [34, 34] := by decide +kernel
  have hzL : L (Str.ofString ".") = [46] := by decide +kernel
  have hp : ∀ i, atB x (Str.ofString "\"\"") x.length i = true ↔ ((L x).drop i).take 2 = [34, 34] := fun i => by
    unfold atB
    rw [StrLaws.subAt_eq, hy]
    show (_ && (((L x).drop i).take 2 == L (Str.ofString "\"\""))) = true ↔ _
    rw [hyL, Bool.and_eq_true, decide_eq_true_eq, beq_iff_eq]
    refine ⟨fun h => h.2, fun h => ⟨?_, h⟩⟩
    have := congrArg List.length h
    rw [List.length_take, List.length_drop, L_len] at this
    simp at this; (first | lia | omega)
  have h := outL_rd (L x) (atB x (Str.ofString "\"\"") x.length) hp x.length 0 (x.length + 1) (by rw [L_len]; (first | lia | omega)) (by (first | lia | omega))
  rw [List.drop_zero] at h
  rw [← h]
  unfold Txt.replace
  rw [occ_eq_scan, hy, Nat.sub_zero]
  have e0 : ((2 : Nat) == 0) = false := rfl
  rw [e0, Bool.false_and, Bool.or_false]
  split
  · rename_i he
    rw [List.isEmpty_iff.mp he]
    show _ = (L x).drop 0
    rw [List.drop_zero]
  · rw [StrLaws.glued_eq_join, StrLaws.partsBetween_eq, join_parts, hzL]
/-- up to a mark -/
noncomputable def upto (c : Nat) : List Nat → List Nat := List.takeWhile (fun d => decide (d ≠ c))
theorem split_first (x : Str) (c : Nat) : ∃ z r, Txt.split x ⟨#[c]⟩ = z :: r ∧ L z = (L x).takeWhile (fun d => decide (d ≠ c)) := by
  obtain ⟨z, r, e⟩ : ∃ z r, Txt.split x ⟨#[c]⟩ = z :: r := by
    have := split_pos x ⟨#[c]⟩
    cases h : Txt.split x ⟨#[c]⟩ with
    | nil => rw [h] at this; simp at this
    | cons z r => exact ⟨z, r, rfl⟩
  refine ⟨z, r, e, ?_⟩
  have hf := StrLaws.split_free x c
  rw [e] at hf
  have hj := StrLaws.join_split x ⟨#[c]⟩
  rw [e] at hj
  have hz : ∀ d ∈ L z, (decide (d ≠ c)) = true := fun d hd => decide_eq_true fun h => hf z (.head _) (h ▸ hd)
  cases r with
  | nil =>
    have hj : z = x := hj
    subst hj
    have tw : ∀ l : List Nat, (∀ d ∈ l, (decide (d ≠ c)) = true) → l.takeWhile (fun d => decide (d ≠ c)) = l := fun l h => by
      have := List.takeWhile_append_of_pos (l₂ := []) h
      simpa using this
    exact (tw _ hz).symm
  | cons q r =>
    have hj : z ++ ⟨#[c]⟩ ++ Str.join ⟨#[c]⟩ (q :: r) = x := hj
    rw [← hj, L_app, L_app, List.append_assoc, List.takeWhile_append_of_pos hz]
    show _ = L z ++ List.takeWhile _ (c :: _)
    rw [List.takeWhile_cons_of_neg (by simp)]
    simp
theorem replace_sign (x z : Str) (c : Nat) : L (Txt.replace x ⟨#[c]⟩ z) = (L x).flatMap (fun d => if d = c then L z else [d]) := by
  rw [StrLaws.replace_one]
  have hf := StrLaws.split_free x c
  have key : ∀ ps : List Str, (∀ p ∈ ps, c ∉ p.cps.toList) → L (Str.join z ps) = (L (Str.join ⟨#[c]⟩ ps)).flatMap (fun d => if d = c then L z else [d]) := by
    intro ps
    have one : ∀ l : List Nat, c ∉ l → l.flatMap (fun d => if d = c then L z else [d]) = l := fun l h => by
      induction l with
      | nil => rfl
      | cons a r ih =>
        rw [List.flatMap_cons, ih fun h' => h (.tail _ h'), if_neg fun (e : a = c) => h (e ▸ List.mem_cons_self ..)]
        rfl
    induction ps with
    | nil => intro _; rfl
    | cons p r ih =>
      intro h
      cases r with
      | nil => exact (one _ (h p (.head _))).symm
      | cons q r =>
        have ih := ih fun a ha => h a (.tail _ ha)
        show L (p ++ z ++ Str.join z (q :: r)) = (L (p ++ ⟨#[c]⟩ ++ Str.join ⟨#[c]⟩ (q :: r))).flatMap _
        rw [L_app, L_app, L_app, L_app, ih, List.flatMap_append, List.flatMap_append, one _ (h p (.head _))]
        show _ = _ ++ [c].flatMap _ ++ _
        simp
  rw [key _ hf, StrLaws.join_split]
/-- told of a text with its pairs as dots, up to the mark that is alone -/
noncomputable def aheadL (l : List Nat) : List Nat := (rd l).takeWhile fun d => decide (d ≠ 34)
noncomputable def und (z : List Nat) (l : List Nat) : List Nat := l.flatMap fun d => if d = 46 then z else [d]
theorem und_cons (z : List Nat) (d : Nat) (l : List Nat) : und z (d :: l) = (if d = 46 then z else [d]) ++ und z l := List.flatMap_cons
theorem ahead_mark (r : List Nat) : aheadL (34 :: 34 :: r) = 46 :: aheadL r := by unfold aheadL; rw [rd_mark, List.takeWhile_cons_of_pos (by decide)]
theorem ahead_end {r : List Nat} (h : r.head? ≠ some 34) : aheadL (34 :: r) = [] := by
  unfold aheadL; rw [rd_sign (fun z => h z.2), List.takeWhile_cons_of_neg (by decide)]
theorem ahead_sign {c : Nat} {r : List Nat} (h : c ≠ 34) : aheadL (c :: r) = c :: aheadL r := by
  unfold aheadL; rw [rd_sign (fun z => h z.1), List.takeWhile_cons_of_pos (by simpa using h)]
theorem ahead_told : ∀ (n : Nat) (l : List Nat), l.length ≤ n → 46 ∉ l → und [34] (aheadL l) = p257 l ∧ und [34, 34] (aheadL l) <+: l
  | 0, l, h, _ => by
    cases List.length_eq_zero_iff.mp (Nat.le_zero.mp h)
    exact ⟨by rw [show aheadL [] = [] from rfl, p257]; rfl, List.nil_prefix⟩
  | n + 1, [], _, _ => ⟨by rw [show aheadL [] = [] from rfl, p257]; rfl, List.nil_prefix⟩
  | n + 1, c :: r, h, hd => by
    simp only [List.length_cons] at h
    by_cases hc : c = 34
    · subst hc
      cases r with
      | nil => exact ⟨by rw [ahead_end (by simp), p257_mark_end (by simp)]; rfl, by rw [ahead_end (by simp)]; exact List.nil_prefix⟩
      | cons d r =>
        by_cases h2 : d = 34
        · subst h2
          have ih := ahead_told n r (by simp at h; (first | lia | omega)) fun m => hd (.tail _ (.tail _ m))
          rw [ahead_mark, p257_mark, und_cons, und_cons, if_pos rfl, if_pos rfl, ih.1]
          refine ⟨rfl, ?_⟩
          obtain ⟨t, ht⟩ := ih.2
          exact ⟨t, by rw [List.append_assoc, ht]; rfl⟩
        · have hh : (d :: r).head? ≠ some 34 := by simpa using h2
          exact ⟨by rw [ahead_end hh, p257_mark_end hh]; rfl, by rw [ahead_end hh]; exact List.nil_prefix⟩
    · have ih := ahead_told n r (by (first | lia | omega)) fun m => hd (.tail _ m)
      have h46 : ¬ c = 46 := fun e => hd (e ▸ List.mem_cons_self ..)
      rw [ahead_sign hc, p257_sign hc, und_cons, und_cons, if_neg h46, if_neg h46, ih.1]
      refine ⟨rfl, ?_⟩
      obtain ⟨t, ht⟩ := ih.2
      exact ⟨t, by rw [List.append_assoc, ht]; rfl⟩
theorem root_und : ∀ (a s t : List Nat), root s = root t → root (s ++ und [34] a) = root (t ++ und [34, 34] a)
  | [], s, t, h => by
    show root (s ++ []) = root (t ++ [])
    rw [List.append_nil, List.append_nil, h]
  | d :: a, s, t, h => by
    rw [und_cons, und_cons, ← List.append_assoc, ← List.append_assoc]
    refine root_und a _ _ ?_
    by_cases hd : d = 46
    · rw [if_pos hd, if_pos hd]
      have h1 := root_repeat (t ++ [34]) (k := 1) (by (first | lia | omega))
      rw [List.length_append, show (t.length + [34].length - 1) = t.length from rfl, List.drop_left, List.append_assoc] at h1
      rw [show t ++ [34, 34] = t ++ ([34] ++ [34]) from rfl, h1]
      exact root_behind h _
    · rw [if_neg hd, if_neg hd]
      exact root_behind h _
/-- what the law asks of the marks -/
theorem told_root {l : List Nat} (h : 46 ∉ l) : und [34] (aheadL l) = p257 l ∧ (und [34, 34] (aheadL l)).length ≤ l.length ∧ root (p257 l) = root (l.take (und [34, 34] (aheadL l)).length) := by
  obtain ⟨h1, h2⟩ := ahead_told l.length l (Nat.le_refl _) h
  refine ⟨h1, h2.length_le, ?_⟩
  rw [← h1, ← List.prefix_iff_eq_take.mp h2]
  exact root_und (aheadL l) [] [] rfl
theorem mem_dblL {x : Nat} : ∀ {l : List Nat}, x ∈ dblL l → x = 34 ∨ x ∈ l
  | [], h => by cases h
  | c :: r, h => by
    have h : x ∈ (if c = 34 then 34 :: 34 :: dblL r else c :: dblL r) := h
    split at h
    · rcases List.mem_cons.mp h with h | h
      · exact .inl h
      · rcases List.mem_cons.mp h with h | h
        · exact .inl h
        · exact (mem_dblL h).imp id fun h => .tail _ h
    · rcases List.mem_cons.mp h with h | h
      · exact .inr (h ▸ List.mem_cons_self ..)
      · exact (mem_dblL h).imp id fun h => .tail _ h
theorem ok_lt {x : Str} (h : ∀ c ∈ L x, c < 60000) : PySem.PyData.strOk x = true := by
  unfold PySem.PyData.strOk
  rw [Array.all_eq_true']
  intro c hc
  have := h c (by simpa [L] using hc)
  exact decide_eq_true (by (first | lia | omega))
theorem mulOk_two {x : Str} (h : x.length ≤ 1000) : MulOk x 2 := by
  have e : ((2 : Int) ^ 63 - 1) / 2 = 4611686018427387903 := by decide
  refine ⟨by decide, fun _ _ => by rw [e]; (first | lia | omega), fun _ _ => ?_⟩
  unfold tooLong
  refine decide_eq_false ?_
  rw [sizeLine_eq, show (2 : Int).toNat = 2 from rfl]
  (first | lia | omega)
theorem mul_two (x : Str) : L (Txt.mul x 2) = L x ++ L x := by
  unfold Txt.mul
  rw [if_neg (by decide)]
  split
  · rename_i h
    have : x.length = 0 := by simpa using h
    rw [len0 this]; rfl
  · show ((List.replicate 2 x.cps).foldl (· ++ ·) #[]).toList = _
    simp [List.replicate, L]
end Mine
end
section
open PySem PySem.W PySem.Calls PyProof.Rows
namespace Mine
/-! ## tokens are only drawn, never put back -/
theorem runs_toks {M : Model} {Γ : Ctx} {p : Pos} {t : Sem Fin} {fs : List Frame} {s s' : Shared} {e : End} (h : Runs M Γ p t fs s e s') : s.toks ≤ s'.toks := by
  induction h with
  | done | raise | yield => exact Nat.le_refl _
  | again _ _ ih | rule _ ih | «at» _ ih | load _ _ ih | update _ _ ih | loadIfAlive _ ih | point _ ih | alloc _ ih | ask _ ih | choose _ _ ih | os _ ih | handled _ ih | genState _ _ ih | stack _ ih | thread _ ih | newGen _ ih => exact ih
  | fresh _ ih => exact Nat.le_trans (Nat.le_succ _) ih
  | call _ _ i1 i2 => exact Nat.le_trans i1 i2
  | callSusp _ ih => exact ih
  | resumeFresh _ _ _ _ i1 i2 => exact Nat.le_trans i1 i2
  | resumeSuspended _ _ _ _ i1 i2 => exact Nat.le_trans i1 i2
  | resumeJustStarted _ _ _ ih => exact ih
  | resumeThrowFresh _ _ ih => exact ih
  | resumeRunning _ _ ih => exact ih
  | resumeFinished _ _ ih => exact ih
  | segRet _ _ i1 i2 => exact Nat.le_trans i1 i2
  | segGen _ _ i1 i2 => exact Nat.le_trans i1 i2
  | segSuspOut _ _ ih => exact ih
  | segSuspGen _ _ _ _ i1 i2 => exact Nat.le_trans i1 i2
theorem wakes_toks {M : Model} {Γ : Ctx} {p : Pos} {g : Nat} {r : Resume} {s s' : Shared} {res : GenResult} (h : Wakes M Γ p g r s res s') : s.toks ≤ s'.toks := by
  unfold Wakes at h
  split at h
  · cases h
  · split at h
    · obtain ⟨e, s₁, hr, _, _, rfl⟩ := h
      have := runs_toks hr; exact this
    · obtain ⟨_, rfl⟩ := h; exact Nat.le_refl _
    · obtain ⟨_, rfl⟩ := h; exact Nat.le_refl _
  · obtain ⟨e, s₁, hr, _, _, rfl⟩ := h
    have := runs_toks hr; exact this
  · obtain ⟨_, rfl⟩ := h; exact Nat.le_refl _
  · obtain ⟨_, rfl⟩ := h; exact Nat.le_refl _
theorem wp_toks {α : Type} {M : Model} {Γ : Ctx} {n : Nat} {Q : α → Pos → Shared → Prop} {E : Value → Pos → Shared → Prop} (t : Sem α) (p : Pos) (s : Shared) (hn : n ≤ s.toks) (h : Sem.wp M Γ t (fun a p' s' => n ≤ s'.toks → Q a p' s') E p s) : Sem.wp M Γ t Q E p s := by
  revert h hn
  induction t generalizing p s with
  | pure x => exact fun hn h => h hn
  | raise v => exact fun _ h => h
  | unsupported | finish | yield | fork | await | register => exact fun _ h => h
  | rule _ k ih | «at» _ k ih | alloc _ k ih | loadIfAlive _ k ih | point _ k ih | ask k ih | os _ _ k ih | handled _ k ih | newGen _ k ih | stack k ih | thread k ih => exact fun hn h => ih _ _ _ (by exact hn) h
  | fresh k ih => exact fun hn h => ih _ _ { s with toks := s.toks + 1 } (Nat.le_succ_of_le hn) h
  | load a _ k ih | genState a k ih => exact fun hn ⟨o, ho, h⟩ => ⟨o, ho, ih _ _ _ hn h⟩
  | update a _ f k ih | choose _ _ k ih => exact fun hn ⟨ha, h⟩ => ⟨ha, ih _ _ _ (by exact hn) h⟩
  | call c h g l k ih => exact fun hn ⟨r, s', hr, h⟩ => ⟨r, s', hr, ih _ _ _ (Nat.le_trans hn (runs_toks hr)) h⟩
  | resume g r l k ih => exact fun hn ⟨res, s', hw, h⟩ => ⟨res, s', hw, ih _ _ _ (Nat.le_trans hn (wakes_toks hw)) h⟩
theorem with_toks {α : Type} {M : Model} {A : Around} {t : Sem α} {Q : α → Shared → Prop} {E : Value → Shared → Prop} {s : Shared} (h : wpAny M A t (fun a s' => s.toks ≤ s'.toks → Q a s') E s) : wpAny M A t Q E s :=
  fun Γ p hΓ => wp_toks t p s (Nat.le_refl _) (h Γ p hΓ)
end Mine
end
section
open PySem PySem.W PySem.Calls PyProof.Rows
set_option maxRecDepth 100000
namespace Mine
/-- the law's own body from its statement k on: the script's list an old object, the ledger and the frame told by st -/
noncomputable def LawFrom (prog : Program) (w : World) (K : Frag) (f : Addr) (k : Nat) (Sl : Addr) (so : Obj) (tl ts : Addr) (d u : Nat) (st : Addr → (Str → Option Value) → Led → Prop) : Prop :=
  ∀ (oc : Value) (od : Option Addr) (osl : Array (Option Value)) (name qual : Str) (params : Arguments) (body : List Stmt) (scope : Scope) (dV kV doc pm : Value) (an : Option Addr) (cdv ct : Value),
    K.lookup f = some ⟨oc, od, .func (fnOf name qual params body scope dV kV doc pm an cdv ct), osl⟩ →
  ∀ (loose : List Str) (mean : ExcName → Option Value) (mg mb : Str → Option Value) (dp un : Nat) (gd : Option (List Code)) (A₀ : Around) (g : Heap) (L' fa : Addr) (ccd : Value) (m : Str → Option Value) (led : Led) (os : OsState) (s₁ : Shared) (Q : Flow → Shared → Prop) (E : Value → Shared → Prop),
    Below A₀ g [] g → K.In g → g.get? Sl = some so → Top topProg loose mean mg mb g → LoopSt g L' os s₁ m led → st L' m led → dp + d < recursionLimit → un + u < cLine →
    (∀ (s' : Shared) m' news' pl pl', Fr g L' s'.heap m' → News g L' s'.heap news' → (tl, tabO pl) ∈ news' → (ts, tabO pl') ∈ news' → AllBare s'.gens → s'.os = os → Q (.ret (.bool true)) s') →
    wpAny (model prog w) (ktrTop dp un gd qual scope L' fa ccd (cellsFrom (L' + 1) scope.names []) []) (execs (body.drop k) (envOfC qual scope L' fa ccd)) Q E s₁
theorem law_from {prog : Program} {w : World} {K : Frag} {f : Addr} {k : Nat} {Sl : Addr} {so : Obj} {tl ts : Addr} {d u : Nat} {st : Addr → (Str → Option Value) → Led → Prop} {oc : Value} {od : Option Addr} {osl : Array (Option Value)} {name qual : Str} {params : Arguments} {body : List Stmt} {scope : Scope} {dV kV doc pm : Value} {an : Option Addr} {cdv ct : Value}
    (ho : K.lookup f = some ⟨oc, od, .func (fnOf name qual params body scope dV kV doc pm an cdv ct), osl⟩)
    (h : ∀ (loose : List Str) (mean : ExcName → Option Value) (mg mb : Str → Option Value) (dp un : Nat) (gd : Option (List Code)) (A₀ : Around) (g : Heap) (L' fa : Addr) (ccd : Value) (m : Str → Option Value) (led : Led) (os : OsState) (s₁ : Shared) (Q : Flow → Shared → Prop) (E : Value → Shared → Prop),
    Below A₀ g [] g → K.In g → g.get? Sl = some so → Top topProg loose mean mg mb g → LoopSt g L' os s₁ m led → st L' m led → dp + d < recursionLimit → un + u < cLine →
    (∀ (s' : Shared) m' news' pl pl', Fr g L' s'.heap m' → News g L' s'.heap news' → (tl, tabO pl) ∈ news' → (ts, tabO pl') ∈ news' → AllBare s'.gens → s'.os = os → Q (.ret (.bool true)) s') →
    wpAny (model prog w) (ktrTop dp un gd qual scope L' fa ccd (cellsFrom (L' + 1) scope.names []) []) (execs (body.drop k) (envOfC qual scope L' fa ccd)) Q E s₁) : LawFrom prog w K f k Sl so tl ts d u st := by
  intro oc' od' osl' name' qual' params' body' scope' dV' kV' doc' pm' an' cdv' ct' ho'
  rw [ho] at ho'
  injection ho' with e
  injection e with e1 e2 e3 e4
  injection e3 with e5
  unfold fnOf at e5
  injection e5
  (rename FuncBody.stmts _ = FuncBody.stmts _ => eb2)
  injection eb2 with eb2
  subst_vars
  exact h
theorem LawFrom.go {prog : Program} {w : World} {K : Frag} {f : Addr} {k : Nat} {Sl : Addr} {so : Obj} {tl ts : Addr} {d u : Nat} {st : Addr → (Str → Option Value) → Led → Prop} {oc : Value} {od : Option Addr} {osl : Array (Option Value)} {name qual : Str} {params : Arguments} {body : List Stmt} {scope : Scope} {dV kV doc pm : Value} {an : Option Addr} {cdv ct : Value}
    {rest : List Stmt} {loose : List Str} {mean : ExcName → Option Value} {mg mb : Str → Option Value} {dp un : Nat} {gd : Option (List Code)} {A₀ : Around} {g : Heap} {L' fa : Addr} {ccd : Value} {m : Str → Option Value} {led : Led} {os : OsState} {s₁ : Shared} {Q : Flow → Shared → Prop} {E : Value → Shared → Prop}
    (H : LawFrom prog w K f k Sl so tl ts d u st) (ho : K.lookup f = some ⟨oc, od, .func (fnOf name qual params body scope dV kV doc pm an cdv ct), osl⟩) (hb : body.drop k = rest)
    (B : Below A₀ g [] g) (X : K.In g) (O : g.get? Sl = some so) (T : Top topProg loose mean mg mb g) (S : LoopSt g L' os s₁ m led) (hs : st L' m led) (hd : dp + d < recursionLimit) (hu : un + u < cLine)
    (hret : ∀ (s' : Shared) m' news' pl pl', Fr g L' s'.heap m' → News g L' s'.heap news' → (tl, tabO pl) ∈ news' → (ts, tabO pl') ∈ news' → AllBare s'.gens → s'.os = os → Q (.ret (.bool true)) s') :
    wpAny (model prog w) (ktrTop dp un gd qual scope L' fa ccd (cellsFrom (L' + 1) scope.names []) []) (execs rest (envOfC qual scope L' fa ccd)) Q E s₁ :=
  hb ▸ H oc od osl name qual params body scope dV kV doc pm an cdv ct ho loose mean mg mb dp un gd A₀ g L' fa ccd m led os s₁ Q E B X O T S hs hd hu hret
/-- the same, where a token has been drawn -/
noncomputable def LawFromT (prog : Program) (w : World) (K : Frag) (f : Addr) (k : Nat) (Sl : Addr) (so : Obj) (tl ts : Addr) (d u : Nat) (st : Addr → (Str → Option Value) → Led → Prop) : Prop :=
  ∀ (oc : Value) (od : Option Addr) (osl : Array (Option Value)) (name qual : Str) (params : Arguments) (body : List Stmt) (scope : Scope) (dV kV doc pm : Value) (an : Option Addr) (cdv ct : Value),
    K.lookup f = some ⟨oc, od, .func (fnOf name qual params body scope dV kV doc pm an cdv ct), osl⟩ →
  ∀ (loose : List Str) (mean : ExcName → Option Value) (mg mb : Str → Option Value) (dp un : Nat) (gd : Option (List Code)) (A₀ : Around) (g : Heap) (L' fa : Addr) (ccd : Value) (m : Str → Option Value) (led : Led) (os : OsState) (s₁ : Shared) (Q : Flow → Shared → Prop) (E : Value → Shared → Prop),
    Below A₀ g [] g → K.In g → g.get? Sl = some so → Top topProg loose mean mg mb g → LoopSt g L' os s₁ m led → s₁.toks ≠ 0 → st L' m led → dp + d < recursionLimit → un + u < cLine →
    (∀ (s' : Shared) m' news' pl pl', Fr g L' s'.heap m' → News g L' s'.heap news' → (tl, tabO pl) ∈ news' → (ts, tabO pl') ∈ news' → AllBare s'.gens → s'.os = os → Q (.ret (.bool true)) s') →
    wpAny (model prog w) (ktrTop dp un gd qual scope L' fa ccd (cellsFrom (L' + 1) scope.names []) []) (execs (body.drop k) (envOfC qual scope L' fa ccd)) Q E s₁
theorem law_fromT {prog : Program} {w : World} {K : Frag} {f : Addr} {k : Nat} {Sl : Addr} {so : Obj} {tl ts : Addr} {d u : Nat} {st : Addr → (Str → Option Value) → Led → Prop} {oc : Value} {od : Option Addr} {osl : Array (Option Value)} {name qual : Str} {params : Arguments} {body : List Stmt} {scope : Scope} {dV kV doc pm : Value} {an : Option Addr} {cdv ct : Value}
    (ho : K.lookup f = some ⟨oc, od, .func (fnOf name qual params body scope dV kV doc pm an cdv ct), osl⟩)
    (h : ∀ (loose : List Str) (mean : ExcName → Option Value) (mg mb : Str → Option Value) (dp un : Nat) (gd : Option (List Code)) (A₀ : Around) (g : Heap) (L' fa : Addr) (ccd : Value) (m : Str → Option Value) (led : Led) (os : OsState) (s₁ : Shared) (Q : Flow → Shared → Prop) (E : Value → Shared → Prop),
    Below A₀ g [] g → K.In g → g.get? Sl = some so → Top topProg loose mean mg mb g → LoopSt g L' os s₁ m led → s₁.toks ≠ 0 → st L' m led → dp + d < recursionLimit → un + u < cLine →
    (∀ (s' : Shared) m' news' pl pl', Fr g L' s'.heap m' → News g L' s'.heap news' → (tl, tabO pl) ∈ news' → (ts, tabO pl') ∈ news' → AllBare s'.gens → s'.os = os → Q (.ret (.bool true)) s') →
    wpAny (model prog w) (ktrTop dp un gd qual scope L' fa ccd (cellsFrom (L' + 1) scope.names []) []) (execs (body.drop k) (envOfC qual scope L' fa ccd)) Q E s₁) : LawFromT prog w K f k Sl so tl ts d u st := by
  intro oc' od' osl' name' qual' params' body' scope' dV' kV' doc' pm' an' cdv' ct' ho'
  rw [ho] at ho'
  injection ho' with e
  injection e with e1 e2 e3 e4
  injection e3 with e5
  unfold fnOf at e5
  injection e5
  (rename FuncBody.stmts _ = FuncBody.stmts _ => eb2)
  injection eb2 with eb2
  subst_vars
  exact h
theorem LawFromT.go {prog : Program} {w : World} {K : Frag} {f : Addr} {k : Nat} {Sl : Addr} {so : Obj} {tl ts : Addr} {d u : Nat} {st : Addr → (Str → Option Value) → Led → Prop} {oc : Value} {od : Option Addr} {osl : Array (Option Value)} {name qual : Str} {params : Arguments} {body : List Stmt} {scope : Scope} {dV kV doc pm : Value} {an : Option Addr} {cdv ct : Value}
    {rest : List Stmt} {loose : List Str} {mean : ExcName → Option Value} {mg mb : Str → Option Value} {dp un : Nat} {gd : Option (List Code)} {A₀ : Around} {g : Heap} {L' fa : Addr} {ccd : Value} {m : Str → Option Value} {led : Led} {os : OsState} {s₁ : Shared} {Q : Flow → Shared → Prop} {E : Value → Shared → Prop}
    (H : LawFromT prog w K f k Sl so tl ts d u st) (ho : K.lookup f = some ⟨oc, od, .func (fnOf name qual params body scope dV kV doc pm an cdv ct), osl⟩) (hb : body.drop k = rest)
    (B : Below A₀ g [] g) (X : K.In g) (O : g.get? Sl = some so) (T : Top topProg loose mean mg mb g) (S : LoopSt g L' os s₁ m led) (ht : s₁.toks ≠ 0) (hs : st L' m led) (hd : dp + d < recursionLimit) (hu : un + u < cLine)
    (hret : ∀ (s' : Shared) m' news' pl pl', Fr g L' s'.heap m' → News g L' s'.heap news' → (tl, tabO pl) ∈ news' → (ts, tabO pl') ∈ news' → AllBare s'.gens → s'.os = os → Q (.ret (.bool true)) s') :
    wpAny (model prog w) (ktrTop dp un gd qual scope L' fa ccd (cellsFrom (L' + 1) scope.names []) []) (execs rest (envOfC qual scope L' fa ccd)) Q E s₁ :=
  hb ▸ H oc od osl name qual params body scope dV kV doc pm an cdv ct ho loose mean mg mb dp un gd A₀ g L' fa ccd m led os s₁ Q E B X O T S ht hs hd hu hret
theorem gen_toks {α : Type} {M : Model} {A : Around} {t : Sem α} {Q : α → Shared → Prop} {E : Value → Shared → Prop} {s : Shared} (hn : s.toks ≠ 0) (H : ∀ n : Nat, n ≠ 0 → wpAny M A t Q E { s with toks := n }) : wpAny M A t Q E s := H s.toks hn
theorem law_post {M : Model} {A : Around} {cd : Code} {s s₁ : Shared} {cw : ClaimW} {cl : Str → Option Addr} {mean : ExcName → Option Value} {args : List WData} {tabs : List (Addr × Addr)} (hT : TabsAt tabs s₁.heap) (hr : ∀ x, cw.raises args x = false) (hp : cw.post args (.bool true) args = true)
    (h : codeAny M A cd (fun r s' => r = .ok (.ret (.bool true)) ∧ (∀ b o, (ghostOf s₁.heap tabs).get? b = some o → s'.heap.get? b = some o) ∧ s'.os = s₁.os ∧ AllBare s'.gens ∧ GrownAll tabs s'.heap) s) : codeAny M A cd (GoodWG cw cl mean args s₁) s :=
  codeAny_mono h fun r s' ⟨hc, hk, hos, hg, hgr⟩ => by
    have keep : ∀ b o, b ∉ tabs.map (·.2) → s₁.heap.get? b = some o → s'.heap.get? b = some o := fun b o hb e => hk b o (ghost_ne e hb)
    have grown : ∀ b o, b ∈ tabs.map (·.2) → s₁.heap.get? b = some o → isCodeTable s₁.heap b ∧ o = tabObj #[] ∧ ∃ ps, s'.heap.get? b = some (tabObj ps) := fun b o hb e => by
      obtain ⟨q, hq, rfl⟩ := List.mem_map.mp hb
      have e2 := (hT q hq).2
      rw [e] at e2
      exact ⟨((hT q hq).1.tab (hT q hq).2).isCodeTable, Option.some.inj e2, hgr.get q hq⟩
    refine ⟨.inl ⟨_, _, [], hc, hr, .bool true, hp, fun _ => ⟨.nil, fun a ha => nomatch ha⟩⟩, ⟨fun b o e => ?_, fun b o e => ?_⟩, hos, hg⟩
    · by_cases hb : b ∈ tabs.map (·.2)
      · obtain ⟨ht, rfl, ps, hP⟩ := grown b o hb e
        exact .inr (.inl ⟨ht, rfl, #[], ps, rfl, by rw [Array.empty_append]; exact hP⟩)
      · exact .inl (keep b o hb e)
    · by_cases hb : b ∈ tabs.map (·.2)
      · obtain ⟨_, _, ps, hP⟩ := grown b o hb e
        exact ⟨_, hP⟩
      · exact ⟨o, keep b o hb e⟩
theorem ints_of {vs : List Value} {ns : List Int} (h : IntsAre vs ns) : ∀ v ∈ vs, ∃ (k : Int) (t : Tok), v = .int k t := by
  induction h with
  | nil => intro v hv; cases hv
  | cons n t _ ih =>
    intro v hv
    rcases List.mem_cons.mp hv with h | h
    · exact ⟨n, t, h⟩
    · exact ih v h
theorem bool_post (r : RowW) (h1 : r.returns = .bool) (h2 : r.post = .eq .res (.lit (.bool true))) (args : List WData) : r.claim.post args (.bool true) args = true := by
  show (WShape.has r.records (.bool true) r.returns && r.post.holds r.records { args := args, res := some (.bool true), after := args }) = true
  rw [h1, h2]
  simp [WShape.has, WShape.arms, WTm.holds, WTm.value, PySem.W.same]
theorem sum_nat : ∀ l : List (Nat × Tok), (l.map (fun p : Nat × Tok => (p.1 : Int))).sum = (((l.map (·.1)).sum : Nat) : Int)
  | [] => rfl
  | k :: l => by rw [List.map_cons, List.map_cons, List.sum_cons, List.sum_cons, sum_nat l]; (first | lia | omega)
theorem sum_ivals {prog : Program} {w : World} {A : Around} {E : Value → Shared → Prop} {s : Shared} {h₀ : Heap} {L l : Addr} {m : Str → Option Value} {led : Led} {xs : List (Nat × Tok)} {n : Nat} {Q : Value → Shared → Prop} (hh : A.handled = none)
    (F : Fr h₀ L s.heap m) (N : News h₀ L s.heap led) (hm : (l, listOf (ivals xs).toArray n) ∈ led) (h : ∀ h' tk t', Fr h₀ L h' m → News h₀ L h' led → Q (.int (((xs.map (·.1)).sum : Nat) : Int) t') { s with heap := h', toks := tk }) :
    wpAny (model prog w) A (call (.builtin "sum") [.ref l]) Q E s := by
  have e : (ivals xs).toArray = intItems (xs.map fun p => ((p.1 : Int), p.2)).toArray := by simp [ivals, intItems]
  refine sum_intListG (xs := (xs.map fun p => ((p.1 : Int), p.2)).toArray) hh (e ▸ News.isList N hm) fun h' tk t' hk => ?_
  have e2 : preSum (numAt (xs.map fun p => ((p.1 : Int), p.2)).toArray) (xs.map fun p => ((p.1 : Int), p.2)).toArray.size = (((xs.map (·.1)).sum : Nat) : Int) := by
    rw [preSum_eq, List.take_of_length_le (by simp), ← sum_nat]
    simp only [List.map_map]
    rfl
  rw [e2]
  exact h h' tk t' (F.keeps hk) (N.grown hk)
theorem DN.set5 {p1 p2 p4 p5 : Addr × Obj} {a : Addr} {o o' : Obj} (D : DN [p1, p2, (a, o), p4, p5]) : DN [p1, p2, (a, o'), p4, p5] := D
/-- what the law has drawn from its script -/
structure Pm where
  Nl : Addr
  Ll : Addr
  xs : List (Nat × Tok)
  nn : Nat
  n3 : Nat
  a : Str
  b : Str
  c : Str
  text : Str
  ta : Tok
  tb : Tok
  tc : Tok
  tt : Tok
  ttot : Tok
noncomputable def Pm.tot (P : Pm) : Nat := (P.xs.map (·.1)).sum
structure Pm.Ok0 (P : Pm) : Prop where
  len : P.xs.length = 7
  le : ∀ p ∈ P.xs, p.1 ≤ 10 ^ 8
  la : L P.a = [34, 34]
  lb : L P.b = [97 + P.tot % 50000]
  lc : L P.c = [if P.tot % 3 = 1 then 10 else 98 + P.tot % 50000]
structure Pm.Ok (P : Pm) : Prop extends P.Ok0 where
  lt : L P.text = typeL [L P.a, L P.b, L P.c] (P.xs.map (·.1))
/-- the ledger's standing part -/
noncomputable abbrev Pm.core (P : Pm) (tl ts L' : Addr) (oP oL : Obj) (pl pl' : Array Value) : Led :=
  [(L' + 1 + 1, oP), (L' + 1, oL), (tl, tabO pl), (ts, tabO pl'), (P.Nl, listOf (ivals P.xs).toArray P.nn), (P.Ll, listOf [.str P.a P.ta, .str P.b P.tb, .str P.c P.tc].toArray P.n3)]
structure Pm.In0 (P : Pm) (m : Str → Option Value) : Prop where
  nums : m "numbers" = some (.ref P.Nl)
  total : m "total" = some (.int (P.tot : Int) P.ttot)
structure Pm.In (P : Pm) (m : Str → Option Value) : Prop extends P.In0 m where
  text : m "text" = some (.str P.text P.tt)
end Mine
end
section
open PySem PySem.W PySem.Calls PyProof.Rows
set_option maxRecDepth 100000
namespace Mine
theorem mem_typeL {ls : List (List Nat)} {x : Nat} : ∀ {xs t : List Nat}, x ∈ xs.foldl (stepT ls) t → x ∈ t ∨ ∃ l ∈ ls, x ∈ l
  | [], t, h => .inl h
  | y :: xs, t, h => by
    rw [List.foldl_cons] at h
    rcases mem_typeL h with h | h
    · unfold stepT at h
      split at h
      · rcases List.mem_append.mp h with h | h
        · exact .inl h
        · rw [List.getD_eq_getElem?_getD] at h
          cases e : ls[y % 6]? with
          | none => rw [e] at h; cases h
          | some l => rw [e] at h; exact .inr ⟨l, List.mem_of_getElem? e, h⟩
      · rcases List.mem_append.mp h with h | h
        · exact .inl h
        · exact .inl (List.mem_of_mem_drop h)
    · exact .inr h
theorem Pm.Ok0.letter {P : Pm} (h : P.Ok0) : ∀ l ∈ [L P.a, L P.b, L P.c], ∀ x ∈ l, x ≠ 46 ∧ x < 60000 := by
  rw [h.la, h.lb, h.lc]
  intro l hl x hx
  simp only [List.mem_cons, List.not_mem_nil, or_false] at hl
  rcases hl with rfl | rfl | rfl
  · simp only [List.mem_cons, List.not_mem_nil, or_false, or_self] at hx; subst hx; decide
  · rw [List.mem_singleton] at hx; subst hx; (first | lia | omega)
  · rw [List.mem_singleton] at hx; subst hx; split <;> (first | lia | omega)
theorem Pm.Ok.fine {P : Pm} (h : P.Ok) : Fine P.text := by
  intro x hx
  rw [h.lt] at hx
  rcases mem_typeL hx with h2 | ⟨l, hl, h2⟩
  · cases h2
  · exact h.letter l hl x h2
theorem Pm.Ok0.len2 {P : Pm} (h : P.Ok0) : P.a.length ≤ 2 ∧ P.b.length ≤ 2 ∧ P.c.length ≤ 2 := by
  rw [← L_len P.a, ← L_len P.b, ← L_len P.c, h.la, h.lb, h.lc]; simp
theorem Pm.Ok.tlen {P : Pm} (h : P.Ok) : P.text.length ≤ 21 := by
  obtain ⟨h1, h2, h3⟩ := h.len2
  have h4 := len_typeL (ls := [L P.a, L P.b, L P.c]) (by simp only [List.mem_cons, List.not_mem_nil, or_false]; rintro l (rfl | rfl | rfl) <;> rw [L_len] <;> (first | lia | omega)) (P.xs.map (·.1))
  rw [← h.lt, L_len, List.length_map, h.len] at h4
  exact h4
/-- what the text's pile is -/
structure Px where
  S : Addr
  n2 : Nat
  ss : List (Str × Tok)
  at_ : At
  ts : List Pc
  n : Nat
  rt : Str
  tr : Tok
structure Px.Ok (Z : Px) (P : Pm) : Prop where
  pcs : PcsAre Z.ts (root (L P.text)).reverse
  shows : Z.ss.map (fun x => L x.1) = (List.range (P.text.length + 1)).map (fun i => (root ((L P.text).take i)).reverse)
  size : Z.at_.sz = ((P.tot % 4 : Nat) : Int)
  rt : L Z.rt = (root (L P.text)).reverse
theorem Px.Ok.fine {Z : Px} {P : Pm} (h : Z.Ok P) (hP : P.Ok) : Fine Z.rt := hP.fine.of fun c hc => by
  rw [h.rt] at hc
  exact mem_root (List.mem_reverse.mp hc)
theorem Px.Ok.len {Z : Px} {P : Pm} (h : Z.Ok P) (hP : P.Ok) : Z.rt.length ≤ 21 := by
  rw [← L_len, h.rt, List.length_reverse]
  exact Nat.le_trans (len_root _) (by rw [L_len]; exact hP.tlen)
structure Px.In (Z : Px) (m : Str → Option Value) : Prop where
  shown : m "shown" = some (.ref Z.S)
  root : m "root" = some (.str Z.rt Z.tr)
noncomputable def st2 (w : World) (C tl ts : Addr) (P : Pm) (Z : Px) (L' : Addr) (m : Str → Option Value) (led : Led) : Prop :=
  P.In m ∧ Z.In m ∧ ∃ oP oL pl pl', oP.data = .cell (some (.ref Z.at_.P)) ∧ oL.data = .cell (some (.ref P.Ll)) ∧ TriplesOk pl.toList ∧ TriplesOk pl'.toList ∧ led = P.core tl ts L' oP oL pl pl' ++ (Z.S, listOf (strValues Z.ss).toArray Z.n2) :: pile w C Z.at_ Z.ts Z.n
noncomputable def st3 (tl ts : Addr) (P : Pm) (Z : Px) (L' : Addr) (m : Str → Option Value) (led : Led) : Prop :=
  P.In m ∧ Z.In m ∧ ∃ oP oL pl pl', oP.data = .cell (some (.ref Z.at_.P)) ∧ oL.data = .cell (some (.ref P.Ll)) ∧ TriplesOk pl.toList ∧ TriplesOk pl'.toList ∧ led = P.core tl ts L' oP oL pl pl' ++ [(Z.S, listOf (strValues Z.ss).toArray Z.n2)]
/-- the letters alone -/
noncomputable def lone (ls : List (List Nat)) (xs : List Nat) : List Nat := (xs.filter fun x => decide (x % 6 < 3)).flatMap fun x => ls.getD (x % 6) []
theorem root_lone (ls : List (List Nat)) : ∀ (xs t u : List Nat), root t = root u → root (xs.foldl (stepT ls) t) = root (u ++ lone ls xs)
  | [], t, u, h => by simp [lone, h]
  | x :: xs, t, u, h => by
    rw [List.foldl_cons]
    by_cases hx : x % 6 < 3
    · have e : lone ls (x :: xs) = ls.getD (x % 6) [] ++ lone ls xs := by simp [lone, hx]
      rw [e, ← List.append_assoc]
      refine root_lone ls xs _ _ ?_
      unfold stepT
      rw [if_pos hx]
      exact root_behind h _
    · have e : lone ls (x :: xs) = lone ls xs := by simp [lone, hx]
      rw [e]
      refine root_lone ls xs _ _ ?_
      unfold stepT
      rw [if_neg hx, root_repeat t (by (first | lia | omega))]
      exact h
theorem root_typed (ls : List (List Nat)) (xs : List Nat) : root (lone ls xs) = root (typeL ls xs) := by
  have := root_lone ls xs [] [] rfl
  exact this.symm
theorem shows_last {ss : List (Str × Tok)} {n : Nat} {f : Nat → List Nat} (h : ss.map (fun x => L x.1) = (List.range (n + 1)).map f) : ∃ ini last, ss = ini ++ [last] ∧ L last.1 = f n := by
  rw [List.range_succ, List.map_append] at h
  obtain ⟨ini, e, rfl, h1, h2⟩ := List.map_eq_append_iff.mp h
  obtain ⟨last, r, rfl, h3, h4⟩ := List.map_eq_cons_iff.mp (show List.map _ e = f n :: [] from h2)
  cases List.map_eq_nil_iff.mp h4
  exact ⟨ini, last, rfl, h3⟩
theorem tup_cell {prog : Program} {w : World} {A : Around} {E : Value → Shared → Prop} {s : Shared} {h₀ : Heap} {L a c : Addr} {m : Str → Option Value} {name : Str} {scope : Scope} {cd : Value} {v₀ : Option Value} {x y : Str} {px py pos : Pos} {k : Nat} {Q : Unit → Shared → Prop} {pre post : Led} {o : Obj} {os : OsState} {T : Addr} {oT : Obj} {v u : Value} (hh : A.handled = none)
    (S : LoopSt h₀ L os s m (pre ++ (c, o) :: post)) (hx : (envOfC name scope L a cd).kindOf x = some .cell) (hy : (envOfC name scope L a cd).kindOf y = some .local) (hc : (cellsFrom (L + 1) scope.names []).lookup x = some c) (hd : o.data = .cell v₀) (hk : scope.kind = .function)
    (hT : (T, oT) ∈ pre ++ (c, o) :: post) (hct : oT.cls = .type "tuple") (hdt : ∃ n, oT.data = .seq #[v, u] n)
    (h : ∀ s' o', s'.gens = s.gens → o'.data = .cell (some v) → LoopSt h₀ L os s' (fun z => if z = y then some u else m z) (pre ++ (c, o') :: post) → Q () s') :
    wpAny (model prog w) A (assign (.Tuple [.Name x px, .Name y py] k pos) (envOfC name scope L a cd) (.ref T)) Q E s := by
  refine wpAny_assign_Tuple hh ⟨oT, (S.nw _ hT).1, hct, hdt⟩ rfl rfl fun h' he => ?_
  have S₁ := S.grow he
  show wpAny _ A (assignInOrder [assign (.Name x px) _, assign (.Name y py) _] [v, u]) Q _ _
  refine wpAny_assignInOrder_more (wpAny_assign_Name (st_cell S₁ hx hc hd hk fun h₂ o' ho' S₂ => ?_))
  refine wpAny_assignInOrder_more (wpAny_assign_Name (wpAny_storeName_local hy S₂.fr.ns (fun h₃ hn' hs' => wpAny_assignInOrder_none ?_) (by have hk2 : (envOfC name scope L a cd).scope.kind = .function := hk; rw [hk2]; rfl)))
  exact h _ _ rfl ho' ⟨S₂.fr.set hn' hs', S₂.nw.set hs', S₂.bare, S₂.os, S₂.dn⟩
theorem strVals_at {zs : List (Str × Tok)} {i : Nat} {u : Value} (h : (strValues zs).toArray[i]? = some u) : ∃ p, zs[i]? = some p ∧ u = .str p.1 p.2 := by
  rw [List.getElem?_toArray] at h
  unfold strValues at h
  rw [List.getElem?_map] at h
  cases e : zs[i]? with
  | none => rw [e] at h; cases h
  | some p => rw [e] at h; exact ⟨p, rfl, (Option.some.inj h).symm⟩
theorem Px.Ok.at {Z : Px} {P : Pm} (h : Z.Ok P) {i : Nat} {p : Str × Tok} (hp : Z.ss[i]? = some p) : i ≤ P.text.length ∧ L p.1 = (root ((L P.text).take i)).reverse := by
  have e : (Z.ss.map (fun x => L x.1))[i]? = some (L p.1) := by rw [List.getElem?_map, hp]; rfl
  rw [h.shows, List.getElem?_map] at e
  cases h1 : (List.range (P.text.length + 1))[i]? with
  | none => rw [h1] at e; cases e
  | some j =>
    rw [h1] at e
    obtain ⟨hl, hj⟩ := List.getElem?_eq_some_iff.mp h1
    rw [List.length_range] at hl
    rw [List.getElem_range] at hj
    subst hj
    exact ⟨by (first | lia | omega), (Option.some.inj e).symm⟩
theorem Px.Ok.atFine {Z : Px} {P : Pm} (h : Z.Ok P) (hP : P.Ok) {i : Nat} {p : Str × Tok} (hp : Z.ss[i]? = some p) : Fine p.1 := hP.fine.of fun c hc => by
  rw [(h.at hp).2] at hc
  exact List.mem_of_mem_take (mem_root (List.mem_reverse.mp hc))
theorem Px.Ok.atLen {Z : Px} {P : Pm} (h : Z.Ok P) (hP : P.Ok) {i : Nat} {p : Str × Tok} (hp : Z.ss[i]? = some p) : p.1.length ≤ 21 := by
  rw [← L_len, (h.at hp).2, List.length_reverse]
  refine Nat.le_trans (len_root _) ?_
  rw [List.length_take, L_len]
  exact Nat.le_trans (Nat.min_le_right _ _) hP.tlen
end Mine
end
section
open PySem PySem.W PyProof.Rows
set_option maxRecDepth 100000
set_option maxHeartbeats 8000000
namespace Mine
section
-- the written part of the state alone: the head's name for it, without the head
local macro_rules | `(tactic| o_head $_h:term) => `(tactic| assumption)
theorem frag (h : PySem.Challenge.rw_wr0021_01.row.Holds) : PySem.Challenge.rw_wr0021_01.row.Holds := by
  k_head
end
end Mine
end
section
open PySem PySem.W PyProof.Rows
set_option maxRecDepth 100000
set_option maxHeartbeats 8000000
namespace Mine
theorem News.at_mem {h₀ h : Heap} {L a : Addr} {o : Obj} {n : Led} (N : News h₀ L h n) (hm : (a, o) ∈ n) : h.get? a = some o := (N _ hm).1
local macro_rules | `(tactic| k_room) => `(tactic| ((try simp only [depth_mark, depth_under_make, depth_under_kw, depth_in1, depth_deeper, depth_caller]); (try dsimp only [ktrTop]); omega))
local macro_rules | `(tactic| k_units) => `(tactic| ((try simp only [units_in1, units_deeper, Around.mark_units, units_caller]); (try dsimp only [ktrTop]); omega))
local macro_rules | `(tactic| units_room) => `(tactic| ((try simp only [units_in1, units_deeper, Around.mark_units, units_caller]); (try dsimp only [ktrTop]); omega))
theorem reply_other (w : World) (resp : Str) (t1 : Tok) (hw : resp.length ≤ 1000) (h3 : resp.cps.toList.take 3 = [50, 53, 56]) :
  ∀ (loose : List Str) (mean : ExcName → Option Value) (mg mb : Str → Option Value) (dp un : Nat) (gd : Option (List Code)) (cn : Str) (cs : Scope) (a : Addr) (ccd : Value) (cl : List (Str × Addr)) (A₀ : Around) (h₀ : Heap) (L : Addr) (m : Str → Option Value) (s : Shared) (led : Led) (Q E : Value → Shared → Prop),
  Below A₀ h₀ [] h₀ → Fr h₀ L s.heap m → (Mine.frag.heap_1 w.params).In h₀ → News h₀ L s.heap led → Top topProg loose mean mg mb h₀ → cs.kind = .function → AllBare s.gens → DN led → dp + 40 < recursionLimit → un + 400 < cLine → (∀ l t (s' : Shared), Fr h₀ L s'.heap m → News h₀ L s'.heap ((l, listOf [.str resp t].toArray 0) :: led) → AllBare s'.gens → s'.os = s.os → DN ((l, listOf [.str resp t].toArray 0) :: led) → Q (.ref l) s') →
  wpAny (model PySem.Challenge.rw_wr0021_01.row.prog w) (ktrTop dp un gd cn cs L a ccd cl []) (call (.ref 208) [.str resp t1]) Q E s := by
  have e3 : (Txt.slice resp none (some 3) != Str.ofString "257") = true := by
    rw [bne_iff_ne]
    intro e
    have h1 : L (Txt.slice resp none (some ((3 : Nat) : Int))) = [50, 53, 55] := by
      show L (Txt.slice resp none (some 3)) = _
      rw [e]; decide +kernel
    rw [L_take] at h1
    rw [show (Mine.L resp).take 3 = [50, 53, 56] from h3] at h1
    exact absurd h1 (by decide)
  w_top off
  k_fill
  intro loose mean mg mb dp un gd cn cs a ccd cl A₀ h₀ L m s led Q E B F X N T hk G D hdp hun hret
  refine wpAny_call ?_
  refine' call_tryC ?k1 ?k2 ?k3 ?k4 ?k5 ?kA ?kF ?cK ?k6 ?k7 ?k8 ?k9 ?kB ?_ ?c2 ?c3 ?c4 ?c5
  case kA => exact rfl
  case kF => exact rfl
  case k2 => exact F
  case k1 => exact B
  case k3 => exact X
  case k4 => exact N
  case k5 => exact T
  case k6 => k_is
  case k7 => k_is
  case k8 => show dp < recursionLimit; (first | lia | omega)
  case k9 => first | exact binds_K (by k_in) rfl (by k_is) rfl rfl rfl | exact BindsTo.of_eq rfl
  case kB => exact locs rfl
  case cK => exact hk
  case c2 => exact rfl
  case c3 => exact rfl
  case c4 => exact rfl
  case c5 => decide
  intro g' L' h' FG' F' N' B' X' T' D'
  (try dsimp only)
  k_steps
  (rename Got _ _ _ _ _ => hGot)
  obtain ⟨oe, ot, ws, nt, hm1, hm2, hcl, hdt, h00, hct, hdd⟩ := hGot
  refine exc_str_own (K := (Mine.frag.heap_1 w.params)) ?hu ?X (he := ?he) hcl hdt h00 (ht := ?ht) hdd ?hs ?hm ?_
  case hu => (try simp only [units_in1, units_deeper, Around.mark_units, units_caller]); (try dsimp only [ktrTop]); (first | lia | omega)
  case X => k_in
  case he => refine' News.at_mem ?N hm1; case N => assumption
  case ht => refine' News.at_mem ?N hm2; case N => assumption
  case hs => k_is
  case hm => k_is
  k_steps
  (rename ∀ p : Addr × Obj, p ∈ _ → p.1 < _ => l1)
  exact hret _ t1 _ (by assumption) (by assumption) G rfl (DN.cons_of D l1)
end Mine
end
section
open PySem PySem.W PyProof.Rows
open Mine
-- a name of the frame told by a fact
local macro_rules | `(tactic| walk_at "eval Name") => `(tactic| (k_here; k_dflt (refine' ld ?k1 ?k2 ?_; (case k1 => k_asm); (case k2 => ktr_units); k_whole)))
local macro_rules | `(tactic| walk_at "loadName") => `(tactic| (k_here; k_dflt (refine' ldn ?k1 ?k2 ?_; (case k1 => k_asm); (case k2 => ktr_units); k_whole)))
-- an update of the ledger by its own distinctness
local macro_rules | `(tactic| k_upd) => `(tactic| (refine' upd_dn (by first | assumption | ktr_rel) ?_; (repeat' (first | exact UpdM.head | refine' UpdM.tail ?_))))
-- DN of the ledger at hand
local macro_rules | `(tactic| ktr_rel) => `(tactic| first | with_reducible assumption | exact dn_nil | (refine dn_cons ?_ ?_ <;> ktr_rel) | (refine AllLt.ne (by assumption) ?_; first | exact Nat.le_refl _ | omega | exact Nat.le_of_lt (by assumption)) | exact DN.allNe (by assumption) | (refine AllNe.cons ?_ ?_ <;> ktr_rel) | exact trivial | (dsimp only; omega) | assumption)
local macro_rules | `(tactic| walk_at "call builtin:len") => `(tactic| (k_here; refine len_led (News.isList (by k_asm) (by k_mem)) (by (try simp only [List.length_cons, List.length_append, List.length_nil]); exact rfl) (by first | decide | omega) ?_; intro t' u'; (try dsimp only)))
-- what a name of the frame holds
local macro_rules | `(tactic| ktr_units) => `(tactic| ((repeat (refine nm_ne (by decide) ?_)); first | assumption | exact nm_eq))
local macro_rules | `(tactic| ktr_unf) => `(tactic| first | ktr_units | rfl)
-- a call of a def with a contract in the context
local macro_rules | `(tactic| ktr_room) => `(tactic| first | exact room1 (by assumption) (by decide) | exact room2 (by assumption) (by decide) | exact room3 (by assumption) (by decide) | omega)
local macro_rules | `(tactic| walk_at "call ref") => `(tactic| (k_here; refine Does.use (by first | k_offL | with_reducible assumption | assumption) (by assumption) (by k_asm) (by k_asm) (by k_asm) (by k_asm) rfl (by assumption) (by first | assumption | ktr_rel) (by ktr_room) (by ktr_room) ?_; intro v' s' nw' F' N' G' ho' D' hp'; obtain ⟨hv', hn'⟩ := hp'; (repeat (first | subst hv' | obtain ⟨_, hv'⟩ := hv')); (repeat (first | subst hn' | obtain ⟨_, hn'⟩ := hn')); (try dsimp only [List.nil_append, List.cons_append] at N' D')))
-- a gate told by its key
local macro_rules | `(tactic| walk_at $k:str) => `(tactic| ((with_reducible rename Gate $k => hGate); refine stop_here ?_))
section
open PySem PySem.W PyProof.Rows
set_option maxRecDepth 100000
set_option maxHeartbeats 8000000
namespace Mine
theorem eof_spec (w : World) (x : Int) (t1 : Tok) :
  Does PySem.Challenge.rw_wr0021_01.row.prog w (Mine.frag.heap_1 w.params) topProg (.ref 165) 4 30 [.int x t1] [] (fun v nw => v = .bool (decide (x = 0)) ∧ nw = []) := by
  w_top off
  k_fill
  k_dflt (refine' does_of ?k1 ?k2 (fun _ kX => ?k3) ?k4 (by decide) (by decide) ?_ ?k5 ?k6 ?k7 ?k8; (case k1 => k_is); (case k2 => k_is); (case k3 => first | exact BindsTo.of_eq rfl | exact binds_K kX rfl (by k_is) rfl rfl rfl); (case k4 => exact locs rfl); (case k5 => decide); (case k6 => exact rfl); (case k7 => exact rfl); (case k8 => exact rfl)); intro loose mean mg mb dp un gd outer A₀ base g L' s₁ rest B F X N T G D hlt hdp hun; (try dsimp only); (try dsimp only [List.nil_append, List.cons_append] at N D hlt); have hL := F.ns.lt; (try (refine letA ?_; intro kA))
  k_steps
  all_goals (refine BodyPost.mk [] (by assumption) (by assumption) G rfl D ⟨?_, rfl⟩)
  all_goals (first | rfl | (simp; done) | (show Value.bool _ = _; congr 1; simp) | skip)
theorem term_spec (w : World) (x : Int) (t1 : Tok) :
  Does PySem.Challenge.rw_wr0021_01.row.prog w (Mine.frag.heap_1 w.params) topProg (.ref 151) 4 30 [.int x t1] [] (fun v nw => v = .bool (decide (x < 256)) ∧ nw = []) := by
  w_top off
  k_fill
  k_dflt (refine' does_of ?k1 ?k2 (fun _ kX => ?k3) ?k4 (by decide) (by decide) ?_ ?k5 ?k6 ?k7 ?k8; (case k1 => k_is); (case k2 => k_is); (case k3 => first | exact BindsTo.of_eq rfl | exact binds_K kX rfl (by k_is) rfl rfl rfl); (case k4 => exact locs rfl); (case k5 => decide); (case k6 => exact rfl); (case k7 => exact rfl); (case k8 => exact rfl)); intro loose mean mg mb dp un gd outer A₀ base g L' s₁ rest B F X N T G D hlt hdp hun; (try dsimp only); (try dsimp only [List.nil_append, List.cons_append] at N D hlt); have hL := F.ns.lt; (try (refine letA ?_; intro kA))
  k_steps
  all_goals (refine BodyPost.mk [] (by assumption) (by assumption) G rfl D ⟨?_, rfl⟩)
  all_goals (first | rfl | (simp; done) | (show Value.bool _ = _; congr 1; simp) | skip)
theorem nterm_spec (w : World) (x : Int) (t1 : Tok) :
  Does PySem.Challenge.rw_wr0021_01.row.prog w (Mine.frag.heap_1 w.params) topProg (.ref 158) 4 30 [.int x t1] [] (fun v nw => v = .bool (decide (256 ≤ x)) ∧ nw = []) := by
  w_top off
  k_fill
  k_dflt (refine' does_of ?k1 ?k2 (fun _ kX => ?k3) ?k4 (by decide) (by decide) ?_ ?k5 ?k6 ?k7 ?k8; (case k1 => k_is); (case k2 => k_is); (case k3 => first | exact BindsTo.of_eq rfl | exact binds_K kX rfl (by k_is) rfl rfl rfl); (case k4 => exact locs rfl); (case k5 => decide); (case k6 => exact rfl); (case k7 => exact rfl); (case k8 => exact rfl)); intro loose mean mg mb dp un gd outer A₀ base g L' s₁ rest B F X N T G D hlt hdp hun; (try dsimp only); (try dsimp only [List.nil_append, List.cons_append] at N D hlt); have hL := F.ns.lt; (try (refine letA ?_; intro kA))
  k_steps
  all_goals (refine BodyPost.mk [] (by assumption) (by assumption) G rfl D ⟨?_, rfl⟩)
  all_goals (first | rfl | (simp; done) | (show Value.bool _ = _; congr 1; simp) | skip)
end Mine
end
section
open PySem PySem.W PyProof.Rows
set_option maxRecDepth 100000
set_option maxHeartbeats 8000000
namespace Mine
local macro_rules | `(tactic| walk_at "truthy str") => `(tactic| (refine SBL.truthy (by omega) ?_))
local macro_rules | `(tactic| walk_at "subscriptTail Name Constant ref int") => `(tactic| (k_here; refine item_at (News.isList (by assumption) (by k_mem)) (by decide) (by decide) rfl ?_ (by with_unfolding_all rfl)))
local macro_rules | `(tactic| walk_at "subscriptTail Name UnaryOp ref int") => `(tactic| (k_here; refine item_last (News.isList (by assumption) (by k_mem)) ?_ (by with_unfolding_all rfl)))
local macro_rules | `(tactic| walk_at "delItem ref int") => `(tactic| (k_here; (first | refine del_first (by k_asm) (by k_asm) (by k_upd) ?z ?_ | refine del_last (by k_asm) (by k_asm) (by k_upd) ?z ?_); (case z => (rw [sizeLine_eq]; (try simp); omega)); intro h' F' N'; (try dsimp only)))
theorem ell_spec (w : World) (want got : Str) (t1 t2 : Tok) (hw : want.length ≤ 1000) (hg : got.length ≤ 1000) :
  Does PySem.Challenge.rw_wr0021_01.row.prog w (Mine.frag.heap_1 w.params) topProg (.ref 28) 10 80 [.str want t1, .str got t2] [] (fun v nw => v = .bool (ellM want got) ∧ nw = []) := by
  w_top off
  k_fill
  k_dflt (refine' does_of ?k1 ?k2 (fun _ kX => ?k3) ?k4 (by decide) (by decide) ?_ ?k5 ?k6 ?k7 ?k8; (case k1 => k_is); (case k2 => k_is); (case k3 => first | exact BindsTo.of_eq rfl | exact binds_K kX rfl (by k_is) rfl rfl rfl); (case k4 => exact locs rfl); (case k5 => decide); (case k6 => exact rfl); (case k7 => exact rfl); (case k8 => exact rfl)); intro loose mean mg mb dp un gd outer A₀ base g L' s₁ rest B F X N T G D hlt hdp hun; (try dsimp only); (try dsimp only [List.nil_append, List.cons_append] at N D hlt); have hL := F.ns.lt; (try (refine letA ?_; intro kA))
  have hGate : Gate "exec Assert" := ⟨⟩
  k_steps
  · (rename (_ = true) => hc)
    exact BodyPost.mk [] (by assumption) (by assumption) (by assumption) rfl (by assumption) ⟨by unfold ellM Txt.contains dots; rw [hc]; simp, rfl⟩
  · (repeat (with_reducible rename Gate _ => hG; clear hG))
    refine Stop.go ?_
    (rename (_ = Txt.split _ _) => hsp)
    (rename (_ = false) => hc)
    (rename (∀ a, _ → Str.length a ≤ _) => hlens)
    (rename StrsAre _ _ => hS)
    (rename Heap.IsList _ _ _ => hIs)
    clear hS hIs
    obtain ⟨a, ta, mid, b, tb, rfl⟩ := l_shape (by unfold Txt.contains dots; rw [hc]; rfl) hsp
    have ha : a.length ≤ 1000 := Nat.le_trans (hlens a (by simp)) hw
    have hb : b.length ≤ 1000 := Nat.le_trans (hlens b (by simp)) hw
    have hmid : (strValues mid).length ≤ 1000 := by
      have h1 := congrArg List.length hsp
      have h2 := split_len want dots
      unfold dots at h2
      rw [← h1] at h2
      simp [strValues] at h2 ⊢
      (first | lia | omega)
    simp only [strVals_cons, strVals_app, strVals_nil] at *
    generalize s₁.heap.objs.size = lw at *
    (rename News _ _ _ _ => N1)
    have D1 : DN ((lw, listOf (Value.str a ta :: (strValues mid ++ [Value.str b tb])).toArray 0) :: rest) := dn_cons (AllLt.ne hlt (Nat.le_of_lt hL)) D
    have hM : ellM want got = (if a.length ≠ 0 then (if Txt.startswith got a then ellEnd got (mid.map (·.1)) b a.length else false) else ellEnd got (a :: mid.map (·.1)) b 0) := by
      unfold ellM Txt.contains dots
      rw [hc, ← hsp]
      simp [List.dropLast_concat]
    have hGate : Gate "exec If" := ⟨⟩
    k_steps
    (repeat (with_reducible rename Gate _ => hG; clear hG))
    refine Stop.go ?_
    refine wpAny_mono (Q := Cut (fun s' => ∃ m ini lo t te nn, Fr g L' s'.heap m ∧ m "ws" = some (.ref lw) ∧ m "got" = some (.str got t2) ∧ m "startpos" = some (.int ((lo : Nat) : Int) t) ∧ m "endpos" = some (.int (got.length : Int) te) ∧
      News g L' s'.heap ((lw, listOf (strValues ini ++ [Value.str b tb]).toArray nn) :: rest) ∧ AllBare s'.gens ∧ s'.os = s₁.os ∧ lo ≤ got.length ∧ (strValues ini).length ≤ 1001 ∧ ellM want got = ellEnd got (ini.map (·.1)) b lo) (BodyPost g L' s₁.os rest fun v nw => v = .bool (ellM want got) ∧ nw = [])) ?_ (fun f s' hf => ?_) (fun _ _ e => e)
    · k_steps
      · (rename Fr _ _ _ _ => F9)
        (rename News _ _ _ _ => N9)
        (rename Txt.startswith _ _ = true => hst)
        have hne' : a.length ≠ 0 := by (first | lia | omega)
        refine Cut.next ⟨_, mid, a.length, _, _, _, F9, by ktr_unf, by ktr_unf, by ktr_unf, by ktr_unf, fun q hq => N9 q (.tail _ hq), G, rfl, ?_, by (first | lia | omega), ?_⟩
        · unfold Txt.startswith at hst; simp at hst; (first | lia | omega)
        · rw [hM, if_pos hne', if_pos hst]
      · (rename Fr _ _ _ _ => F9)
        (rename News _ _ _ _ => N9)
        (rename Txt.startswith _ _ = false => hst)
        have hne' : a.length ≠ 0 := by (first | lia | omega)
        dsimp only [Cut]
        exact BodyPost.mk [] F9 (fun q hq => N9 q (.tail _ (.tail _ hq))) G rfl D ⟨by rw [hM, if_pos hne', hst]; rfl, rfl⟩
      · (rename Fr _ _ _ _ => F9)
        (rename News _ _ _ _ => N9)
        have hne' : ¬ a.length ≠ 0 := by (first | lia | omega)
        refine Cut.next ⟨_, (a, ta) :: mid, 0, _, _, _, F9, by ktr_unf, by ktr_unf, by ktr_unf, by ktr_unf, fun q hq => N9 q (.tail _ hq), G, rfl, Nat.zero_le _, by rw [strVals_cons, List.length_cons]; (first | lia | omega), ?_⟩
        rw [hM, if_neg hne']; rfl
    · cases f with
      | next =>
        clear hM
        (rename Fr _ _ _ _ => F9; rename News _ _ _ _ => N9; clear F9 N9)
        obtain ⟨m, ini, lo, t, te, nn, F2, hm1, hm2, hm3, hm4, N2, G2, ho2, hlo, hini, hE⟩ := hf
        have D2 : DN ((lw, listOf (strValues ini ++ [Value.str b tb]).toArray nn) :: rest) := D1
        have hGate : Gate "exec If" := ⟨⟩
        k_steps
        (repeat (with_reducible rename Gate _ => hG; clear hG))
        refine Stop.go ?_
        refine wpAny_mono (Q := Cut (fun s' => ∃ m rs lo hi t te nn, Fr g L' s'.heap m ∧ m "ws" = some (.ref lw) ∧ m "got" = some (.str got t2) ∧ m "startpos" = some (.int ((lo : Nat) : Int) t) ∧ m "endpos" = some (.int ((hi : Nat) : Int) te) ∧
          News g L' s'.heap ((lw, listOf (strValues rs).toArray nn) :: rest) ∧ AllBare s'.gens ∧ s'.os = s₁.os ∧ hi ≤ got.length ∧ ellM want got = ellGo got (rs.map (·.1)) lo hi) (BodyPost g L' s₁.os rest fun v nw => v = .bool (ellM want got) ∧ nw = [])) ?_ (fun f s' hf => ?_) (fun _ _ e => e)
        · k_steps
          · (rename Fr _ _ _ _ => F9)
            (rename News _ _ _ _ => N9)
            (rename Txt.endswith _ _ = true => hst)
            have hne' : b.length ≠ 0 := by (first | lia | omega)
            have hle : b.length ≤ got.length := by unfold Txt.endswith at hst; simp at hst; (first | lia | omega)
            refine Cut.next ⟨_, ini, lo, got.length - b.length, _, _, _, F9, by ktr_unf, by ktr_unf, by ktr_unf, by rw [show (((got.length - b.length : Nat) : Int)) = (got.length : Int) - (b.length : Int) by (first | lia | omega)]; ktr_unf, fun q hq => N9 q hq, G2, ho2, by (first | lia | omega), ?_⟩
            · rw [hE]; unfold ellEnd; rw [if_pos hne', if_pos hst]
          · (rename Fr _ _ _ _ => F9)
            (rename News _ _ _ _ => N9)
            (rename Txt.endswith _ _ = false => hst)
            have hne' : b.length ≠ 0 := by (first | lia | omega)
            dsimp only [Cut]
            exact BodyPost.mk [] F9 (fun q hq => N9 q (.tail _ hq)) G2 ho2 D ⟨by rw [hE]; unfold ellEnd; rw [if_pos hne', hst]; rfl, rfl⟩
          · (rename Fr _ _ _ _ => F9)
            (rename News _ _ _ _ => N9)
            have hne' : ¬ b.length ≠ 0 := by (first | lia | omega)
            refine Cut.next ⟨_, ini ++ [(b, tb)], lo, got.length, _, _, nn, F9, by ktr_unf, by ktr_unf, by ktr_unf, by ktr_unf, by rw [strVals_app]; exact N9, G2, ho2, Nat.le_refl _, ?_⟩
            rw [hE]; unfold ellEnd; rw [if_neg hne']; simp
        · cases f with
          | next =>
            obtain ⟨m, rs, lo, hi, t, te, nn, F3, hm1, hm2, hm3, hm4, N3, G3, ho3, hhi, hE3⟩ := hf
            have D3 : DN ((lw, listOf (strValues rs).toArray nn) :: rest) := D1
            have hGate : Gate "exec For" := ⟨⟩
            k_steps
            · (repeat (with_reducible rename Gate _ => hG; clear hG))
              exact BodyPost.mk [] F3 (fun q hq => N3 q (.tail _ hq)) G3 ho3 D ⟨by rw [hE3]; unfold ellGo; rw [if_pos (by (first | lia | omega))], rfl⟩
            · (repeat (with_reducible rename Gate _ => hG; clear hG))
              refine Stop.go ?_
              refine For_obl (h₀ := g) rfl ?_ (by intro _; rfl)
              k_steps
              refine ⟨[lw], [(lw, listOf (strValues rs).toArray nn)], _, _, m, rest, fun i m' news' => news' = rest ∧ ∃ lo' t' te', m' "got" = some (.str got t2) ∧ m' "startpos" = some (.int ((lo' : Nat) : Int) t') ∧ m' "endpos" = some (.int ((hi : Nat) : Int) te') ∧
                ellLoop got hi (rs.map (·.1)) lo = ellLoop got hi ((rs.map (·.1)).drop i) lo', _, src_list (News.isList N3 (.head _)), fun b hb => .inl (by simpa using hb), ⟨F3, N3, G3, rfl, D3⟩, ⟨rfl, lo, t, te, hm2, hm3, hm4, rfl⟩,
                fun I o i u m' news' s₂ Q' hP hi hJ S _ h => asg_name rfl rfl S h, ?_, ?_⟩
              · rintro I o i u m' news' s₂ hP hi2 ⟨rfl, lo', t', te', hm5, hm6, hm7, hE4⟩ ⟨F4, N4, G4, ho4, D4⟩
                obtain ⟨tw, y, r', hu, hdr⟩ : ∃ (tw : Tok) (y : Str) (r' : List Str), u = .str y tw ∧ (rs.map (·.1)).drop i = y :: r' ∧ (rs.map (·.1)).drop (i + 1) = r' := turn_at hP
                subst hu
                simp only [List.cons_append, List.nil_append] at N4 D4
                have hGate : Gate "call builtin:str.find" := ⟨⟩
                k_steps
                (repeat (with_reducible rename Gate _ => hG; clear hG))
                refine Stop.go ?_
                cases hocc : Builtin.Str.occurrences got y lo' hi 1 with
                | nil =>
                  refine find4_none hhi hocc fun t9 k9 => ?_
                  k_steps
                  (rename Fr _ _ _ _ => F9)
                  (rename News _ _ _ _ => N9)
                  dsimp only [TurnPost]
                  refine BodyPost.mk [] F9 (fun q hq => N9 q (.tail _ (.tail _ hq))) G4 (ho4.trans ho3) D ⟨?_, rfl⟩
                  rw [hE3]; unfold ellGo; rw [if_neg (by (first | lia | omega)), hE4, hdr.1]; unfold ellLoop; rw [hocc]
                | cons k r9 =>
                  have hk9 := occ_len hocc
                  refine find4_some hhi hocc fun t9 k9 => ?_
                  k_steps
                  (rename Fr _ _ _ _ => F9)
                  (rename News _ _ _ _ => N9)
                  refine ⟨_, news', ⟨F9, N9, G4, ho4, D4⟩, rfl, k + y.length, _, _, by ktr_unf, by rw [show (((k + y.length : Nat) : Int)) = (k : Int) + (y.length : Int) by (first | lia | omega)]; ktr_unf, by ktr_unf, ?_⟩
                  rw [hE4, hdr.1, hdr.2]; conv => lhs; unfold ellLoop
                  rw [hocc]
              · rintro m' news' s₂ ⟨rfl, lo', t', te', hm5, hm6, hm7, hE4⟩ ⟨F4, N4, G4, ho4, D4⟩
                simp only [List.cons_append, List.nil_append] at N4 D4
                k_steps
                refine BodyPost.mk [] F4 (fun q hq => N4 q (.tail _ hq)) G4 (ho4.trans ho3) D ⟨?_, rfl⟩
                rw [hE3]; unfold ellGo; rw [if_neg (by (first | lia | omega)), hE4, List.drop_of_length_le (by simp [strValues])]; rfl
          | _ => exact hf
      | _ => exact hf
end Mine
end
section
open PySem PySem.W PyProof.Rows
set_option maxRecDepth 100000
set_option maxHeartbeats 8000000
namespace Mine
theorem parse_spec (w : World) (resp : Str) (t1 : Tok) (hw : resp.length ≤ 1000) (h3 : resp.cps.toList.take 3 = [50, 53, 55]) :
  Does PySem.Challenge.rw_wr0021_01.row.prog w (Mine.frag.heap_1 w.params) topProg (.ref 144) 10 80 [.str resp t1] [] (fun v nw => (∃ t, v = .str (parseM resp) t) ∧ nw = []) := by
  have e3 : Txt.slice resp none (some 3) = Str.ofString "257" := str_ext (by
    rw [slice_list, show (Str.ofString "257").cps.toList = [50, 53, 55] from by decide +kernel, ← h3]
    have hl : 3 ≤ resp.length := by have := congrArg List.length h3; rw [List.length_take, len_list] at this; change min 3 resp.length = 3 at this; (first | lia | omega)
    simp only [clip]; rw [show (max 0 (min (if (3 : Int) < 0 then 3 + (resp.length : Int) else 3) resp.length)).toNat = 3 by (first | lia | omega), List.drop_zero])
  have e5 : (Txt.slice resp (some 3) (some 5) = Str.ofString " \"") ↔ (resp.cps.toList.drop 3).take 2 = [32, 34] := by
    have hl : 3 ≤ resp.length := by have := congrArg List.length h3; rw [List.length_take, len_list] at this; change min 3 resp.length = 3 at this; (first | lia | omega)
    have hs : (Txt.slice resp (some 3) (some 5)).cps.toList = (resp.cps.toList.drop 3).take 2 := by
      rw [slice_list]
      have e1 : clip resp.length (some 3) 0 = 3 := by simp only [clip]; (first | lia | omega)
      have e2 : clip resp.length (some 5) resp.length = min 5 resp.length := by simp only [clip]; (first | lia | omega)
      rw [e1, e2, List.drop_take]
      by_cases h : 5 ≤ resp.length
      · rw [show min 5 resp.length - 3 = 2 by (first | lia | omega)]
      · rw [List.take_of_length_le (by rw [List.length_drop, len_list]; (first | lia | omega)), List.take_of_length_le (by rw [List.length_drop, len_list]; (first | lia | omega))]
    constructor
    · intro h; rw [← hs, h]; decide +kernel
    · intro h; exact str_ext (by rw [hs, h]; decide +kernel)
  w_top off
  k_fill
  k_dflt (refine' does_of ?k1 ?k2 (fun _ kX => ?k3) ?k4 (by decide) (by decide) ?_ ?k5 ?k6 ?k7 ?k8; (case k1 => k_is); (case k2 => k_is); (case k3 => first | exact BindsTo.of_eq rfl | exact binds_K kX rfl (by k_is) rfl rfl rfl); (case k4 => exact locs rfl); (case k5 => decide); (case k6 => exact rfl); (case k7 => exact rfl); (case k8 => exact rfl)); intro loose mean mg mb dp un gd outer A₀ base g L' s₁ rest B F X N T G D hlt hdp hun; (try dsimp only); (try dsimp only [List.nil_append, List.cons_append] at N D hlt); have hL := F.ns.lt; (try (refine letA ?_; intro kA)); refine open_Q ?_; intro QB hQB
  have hGate : Gate "exec While" := ⟨⟩
  k_steps
  · (rename (_ != _) = true => hne)
    (rename Fr _ _ _ _ => F9)
    (rename News _ _ _ _ => N9)
    dsimp only [Cut]
    subst hQB; refine BodyPost.mk [] F9 N9 G rfl D ⟨⟨_, by unfold parseM; rw [if_neg (fun z => by rw [e5.mpr z] at hne; simp at hne)]; rfl⟩, rfl⟩
  · (rename (_ != _) = false => hne)
    (rename Fr _ _ _ _ => F9)
    (rename News _ _ _ _ => N9)
    (repeat (with_reducible rename Gate _ => hG; clear hG))
    have h5 : (resp.cps.toList.drop 3).take 2 = [32, 34] := e5.mp (by rw [bne_eq_false_iff_eq] at hne; exact hne)
    refine Stop.go ?_
    refine While_obl (h₀ := g) (L := L') (os := s₁.os) (fun k m' news' => news' = rest ∧ ∃ (i : Nat) (d : Str) (ti tn td : Tok), m' "resp" = some (.str resp t1) ∧ m' "i" = some (.int (i : Int) ti) ∧ m' "n" = some (.int (resp.length : Int) tn) ∧ m' "dirname" = some (.str d td) ∧ d.length ≤ i ∧ k = resp.length + 1 - i ∧
      d.cps.toList ++ p257 (resp.cps.toList.drop i) = p257 (resp.cps.toList.drop 5)) _ ⟨F9, N9, G, rfl, D⟩ ⟨rfl, 5, Str.empty, _, _, _, by ktr_unf, by ktr_unf, by ktr_unf, by ktr_unf, by decide, rfl, rfl⟩ ?_
    rintro k m' news' s₂ ⟨rfl, i, d, ti, tn, td, hm1, hm2, hm3, hm4, hd, rfl, hE⟩ ⟨F4, N4, G4, ho4, D4⟩
    k_steps
    · (rename Fr _ _ _ _ => F9)
      (rename News _ _ _ _ => N9)
      (rename (_ == _) = true => hc)
      (rename (_ : Int) ≤ _ => hn)
      obtain ⟨c, hdr, hit⟩ := at_sign (x := resp) (i := i) (by (first | lia | omega))
      rw [hit, mark_str, sign_eq, decide_eq_true_eq] at hc
      subst hc
      have hE2 : d = ⟨(p257 (resp.cps.toList.drop 5)).toArray⟩ := str_ext (by
        show d.cps.toList = _
        rw [← hE, hdr, List.drop_of_length_le (by rw [len_list]; (first | lia | omega)), p257_mark_end (by simp)]; simp)
      dsimp only [TurnPost]
      k_steps
      subst hQB; refine BodyPost.mk [] F9 N9 G4 ho4 D4 ⟨⟨td, ?_⟩, rfl⟩
      show Value.str d td = _
      rw [hE2]; unfold parseM; rw [if_pos h5]
    · (rename Fr _ _ _ _ => F9)
      (rename News _ _ _ _ => N9)
      (rename (_ == _) = true => hc)
      (rename ¬ (_ : Int) ≤ _ => hn)
      (rename (_ != _) = true => hm)
      obtain ⟨c, hdr, hit⟩ := at_sign (x := resp) (i := i) (by (first | lia | omega))
      obtain ⟨c2, hdr2, hit2⟩ := at_sign (x := resp) (i := i + 1) (by (first | lia | omega))
      rw [hit, mark_str, sign_eq, decide_eq_true_eq] at hc
      rw [show (i : Int) + 1 = ((i + 1 : Nat) : Int) by (first | lia | omega), hit2, mark_str, bne, sign_eq] at hm
      subst hc
      have hE2 : d = ⟨(p257 (resp.cps.toList.drop 5)).toArray⟩ := str_ext (by
        show d.cps.toList = _
        rw [← hE, hdr, hdr2, p257_mark_end (by simpa using hm)]; simp)
      dsimp only [TurnPost]
      k_steps
      subst hQB; refine BodyPost.mk [] F9 N9 G4 ho4 D4 ⟨⟨td, ?_⟩, rfl⟩
      show Value.str d td = _
      rw [hE2]; unfold parseM; rw [if_pos h5]
    · (rename Fr _ _ _ _ => F9)
      (rename News _ _ _ _ => N9)
      (rename (_ == _) = true => hc)
      (rename ¬ (_ : Int) ≤ _ => hn)
      (rename (_ != _) = false => hm)
      obtain ⟨c, hdr, hit⟩ := at_sign (x := resp) (i := i) (by (first | lia | omega))
      obtain ⟨c2, hdr2, hit2⟩ := at_sign (x := resp) (i := i + 1) (by (first | lia | omega))
      have hc' := hc
      rw [hit, mark_str, sign_eq, decide_eq_true_eq] at hc'
      rw [show (i : Int) + 1 = ((i + 1 : Nat) : Int) by (first | lia | omega), hit2, mark_str, bne, sign_eq] at hm
      have hm' : c2 = 34 := by simpa using hm
      subst hc'; subst hm'
      dsimp only [TurnPost]
      refine ⟨_, news', ⟨F9, N9, G4, ho4, D4⟩, _, ?_, rfl, i + 2, _, _, _, _, by ktr_unf, by rw [show (((i + 2 : Nat) : Int)) = (i : Int) + 1 + 1 by (first | lia | omega)]; ktr_unf, by ktr_unf, by ktr_unf, ?_, rfl, ?_⟩
      · (first | lia | omega)
      · (first | lia | omega)
      · show (d ++ _).cps.toList ++ _ = _
        rw [← hE, hdr, hdr2, p257_mark, hit, Str.cps_append, Array.toList_append, List.append_assoc]; rfl
    · (rename Fr _ _ _ _ => F9)
      (rename News _ _ _ _ => N9)
      (rename (_ == _) = false => hc)
      (rename (i : Int) < _ => hn)
      obtain ⟨c, hdr, hit⟩ := at_sign (x := resp) (i := i) (by (first | lia | omega))
      have hc' := hc
      rw [hit, mark_str, sign_eq, decide_eq_false_iff_not] at hc'
      dsimp only [TurnPost]
      refine ⟨_, news', ⟨F9, N9, G4, ho4, D4⟩, _, ?_, rfl, i + 1, _, _, _, _, by ktr_unf, by rw [show (((i + 1 : Nat) : Int)) = (i : Int) + 1 by (first | lia | omega)]; ktr_unf, by ktr_unf, by ktr_unf, ?_, rfl, ?_⟩
      · (first | lia | omega)
      · (first | lia | omega)
      · show (d ++ _).cps.toList ++ _ = _
        rw [← hE, hdr, p257_sign hc', hit, Str.cps_append, Array.toList_append, List.append_assoc]; rfl
    · (rename ¬ (i : Int) < _ => hn)
      have hE2 : d = ⟨(p257 (resp.cps.toList.drop 5)).toArray⟩ := str_ext (by
        show d.cps.toList = _
        rw [← hE, List.drop_of_length_le (by rw [len_list]; (first | lia | omega))]; simp [p257])
      subst hQB; refine BodyPost.mk [] F4 N4 G4 ho4 D4 ⟨⟨td, ?_⟩, rfl⟩
      show Value.str d td = _
      rw [hE2]; unfold parseM; rw [if_pos h5]
end Mine
end
section
open PySem PySem.W PyProof.Rows
set_option maxRecDepth 100000
set_option maxHeartbeats 8000000
namespace Mine
theorem len_old {prog : Program} {w : World} {A : Around} {E : Value → Shared → Prop} {s : Shared} {h₀ : Heap} {L l : Addr} {m : Str → Option Value} {vs : List Value} {Q : Value → Shared → Prop} (F : Fr h₀ L s.heap m) (hl : h₀.IsList l vs.toArray) (hk : vs.length < 2 ^ 62) (h : ∀ t u, Q (.int ((vs.length : Nat) : Int) t) { s with toks := u }) : wpAny (model prog w) A (call (.builtin "len") [.ref l]) Q E s :=
  len_led (hl.at fun o e => F.keep _ o e) rfl hk h
local macro_rules | `(tactic| walk_at "call builtin:len") => `(tactic| (k_here; refine len_old (by k_asm) (by assumption) (by omega) ?_; intro t' u'))
theorem ki_setL_eq : ∀ {l : List Value} {k : Nat} {v : Value}, k < l.length → ki_setL l k v = some (l.set k v)
  | [], _, _, h => by simp at h
  | _ :: _, 0, _, _ => rfl
  | x :: r, k + 1, v, h => by
    unfold ki_setL
    rw [ki_setL_eq (l := r) (by simpa using h)]
    rfl
theorem nums_spec (w : World) (Sl : Addr) (so : Obj) (items : List Value) (sn : Nat) (hcls : so.cls = .type "list") (hdat : so.data = .seq items.toArray sn) (hi : ∀ v ∈ items, ∃ (k : Int) (t : Tok), v = .int k t) (hl : items.length ≤ 63) :
  DoesO PySem.Challenge.rw_wr0021_01.row.prog w (Mine.frag.heap_1 w.params) topProg (.ref 172) 20 200 [.ref Sl] [(Sl, so)] [] (fun v nw => ∃ Nl xs n, v = .ref Nl ∧ nw = [(Nl, listOf (ivals xs).toArray n)] ∧ xs.length = 7 ∧ ∀ p ∈ xs, p.1 ≤ 10 ^ 8) := by
  w_top off
  k_fill
  k_dflt (refine' does_ofO ?k1 ?k2 (fun _ kX => ?k3) ?k4 (by decide) (by decide) ?_ ?k5 ?k6 ?k7 ?k8; (case k1 => k_is); (case k2 => k_is); (case k3 => first | exact BindsTo.of_eq rfl | exact binds_K kX rfl (by k_is) rfl rfl rfl); (case k4 => exact locs rfl); (case k5 => decide); (case k6 => exact rfl); (case k7 => exact rfl); (case k8 => exact rfl)); intro loose mean mg mb dp un gd outer A₀ base g L' s₁ rest B F X O N T G D hlt hdp hun; (try dsimp only); (try dsimp only [List.nil_append, List.cons_append] at N D hlt); have hL := F.ns.lt; (try (refine letA ?_; intro kA)); refine open_Q ?_; intro QB hQB
  have hsl : g.IsList Sl items.toArray := ⟨so, O _ (.head _), hcls, sn, hdat⟩
  have hGate : Gate "exec For Name Call cons nil" := ⟨⟩
  k_steps
  (repeat (with_reducible rename Gate _ => hG; clear hG))
  refine Stop.go ?_
  refine For_obl (h₀ := g) rfl ?_ (by intro _; rfl)
  k_steps
  (rename IsRange _ _ _ _ _ _ _ _ => R1)
  (rename Fr _ _ _ _ => F1)
  (rename News _ _ _ ((_, listOf _ 0) :: _) => N1)
  (rename ∀ p : Addr × Obj, p ∈ _ → p.1 < _ => l1)
  refine ⟨[], [], items.length, _, _, _, fun i m' nw => ∃ Nl xs n, nw = (Nl, listOf (ivals xs).toArray n) :: rest ∧ m' "numbers" = some (.ref Nl) ∧ m' "script" = some (.ref Sl) ∧ xs.length = 7 ∧ ∀ p ∈ xs, p.1 ≤ 17 + 10 ^ 6 * i, _, src_range R1 (small_one (by (first | lia | omega)) (by (first | lia | omega)) (by (first | lia | omega)) (by (first | lia | omega))) _ (by rw [rangeSize_nat]; (first | lia | omega)), (by simp), ⟨F1, N1, G, rfl, DN.cons_of D l1⟩,
    ⟨_, [(1, _), (6, _), (9, _), (8, _), (4, _), (17, _), (13, _)], 0, rfl, by ktr_unf, by ktr_unf, rfl, by simp⟩, fun I o i u m' nw s₂ Q' hP hi hJ S _ h => asg_name rfl rfl S h, ?_, ?_⟩
  · rintro I o i u m' nw s₂ ⟨tu, rfl⟩ hi2 ⟨Nl, xs, n, rfl, hm1, hm2, hx7, hxs⟩ ⟨F2, N2, G2, ho2, D2⟩
    dsimp only [List.cons_append, List.nil_append] at N2 D2
    have hGate : Gate "subscriptTail" := ⟨⟩; have hGate : Gate "getItem ref int" := ⟨⟩; have hGate : Gate "setItem ref int" := ⟨⟩
    k_steps
    (repeat (with_reducible rename Gate _ => hG; clear hG))
    refine Stop.go ?_
    have hk7 : ((0 + (i : Int) * 1).fmod 7) = ((i % 7 : Nat) : Int) := by rw [Int.fmod_eq_emod_of_nonneg _ (by decide)]; (first | lia | omega)
    have hkl : i % 7 < xs.length := by (first | lia | omega)
    obtain ⟨p, hp⟩ : ∃ p, xs[i % 7]? = some p := ⟨_, List.getElem?_eq_getElem hkl⟩
    have hpl := hxs p (List.mem_of_getElem? hp)
    obtain ⟨ks, tks, hks⟩ := hi _ (List.getElem_mem hi2)
    refine wpAny_getItem_list (x := .int (p.1 : Int) p.2) (News.isList N2 (by k_mem)) (by rw [hk7]; (first | lia | omega)) (by rw [hk7]; (first | lia | omega)) (by rw [hk7, List.getElem?_toArray]; unfold ivals; rw [List.getElem?_map]; show (xs[((i % 7 : Nat) : Int).toNat]?).map _ = _; rw [Int.toNat_natCast, hp]; rfl) ?_
    have hGate : Gate "subscriptTail" := ⟨⟩; have hGate : Gate "getItem ref int" := ⟨⟩; have hGate : Gate "setItem ref int" := ⟨⟩
    k_steps
    (repeat (with_reducible rename Gate _ => hG; clear hG))
    refine Stop.go ?_
    refine item_at (vs := items) (v := .int ks tks) (hsl.at fun o e => F2.keep _ o e) (by (first | lia | omega)) (by (first | lia | omega)) (by rw [show (0 + (i : Int) * 1).toNat = i by (first | lia | omega), List.getElem?_eq_getElem hi2, hks]) ?_ (by with_unfolding_all rfl)
    have hm0 : 0 ≤ ks.fmod 1000000 := by rw [Int.fmod_eq_emod_of_nonneg _ (by decide)]; (first | lia | omega)
    have hm6 : ks.fmod 1000000 < 1000000 := by rw [Int.fmod_eq_emod_of_nonneg _ (by decide)]; (first | lia | omega)
    have hGate : Gate "subscriptTail" := ⟨⟩; have hGate : Gate "getItem ref int" := ⟨⟩; have hGate : Gate "setItem ref int" := ⟨⟩
    k_steps
    (repeat (with_reducible rename Gate _ => hG; clear hG))
    refine Stop.go ?_
    obtain ⟨kn, hkn⟩ : ∃ kn : Nat, (p.1 : Int) + ks.fmod 1000000 = (kn : Int) := ⟨((p.1 : Int) + ks.fmod 1000000).toNat, by (first | lia | omega)⟩
    have key : ∀ (v : Value) (tt : Tok), v = .int ((p.1 : Int) + ks.fmod 1000000) tt → (ivals xs).set (i % 7) v = ivals (xs.set (i % 7) (kn, tt)) := fun v tt e => by
      rw [e, hkn]; unfold ivals; rw [List.map_set]
    refine ki_set (its := (ivals xs).toArray) (n := n) F2 N2 (by rw [hk7]; (first | lia | omega)) (by rw [hk7]; (first | lia | omega)) (q := ivals (xs.set (i % 7) (kn, _))) (by rw [hk7, Int.toNat_natCast, ← key _ _ rfl]; exact ki_setL_eq (by rw [ivals_len]; exact hkl)) (upd_dn D2 (.tail .head)) ?_
    intro h9 F9 N9
    k_steps
    refine ⟨_, _, ⟨F9, N9, G2, ho2, D2⟩, Nl, _, n, rfl, by ktr_unf, by ktr_unf, by rw [List.length_set]; exact hx7, ?_⟩
    intro q hq
    rcases List.mem_or_eq_of_mem_set hq with h | rfl
    · have := hxs q h
      (first | lia | omega)
    · show kn ≤ _
      (first | lia | omega)
  · rintro m' nw s₂ ⟨Nl, xs, n, rfl, hm1, hm2, hx7, hxs⟩ ⟨F2, N2, G2, ho2, D2⟩
    dsimp only [List.cons_append, List.nil_append] at N2 D2
    k_steps
    subst hQB; refine BodyPost.mk [_] F2 N2 G2 ho2 D2 ⟨Nl, xs, n, rfl, rfl, hx7, fun p hp => ?_⟩
    have := hxs p hp
    (first | lia | omega)
end Mine
end
section
open PySem PySem.W PyProof.Rows
set_option maxRecDepth 100000
set_option maxHeartbeats 8000000
namespace Mine
theorem reply_spec (w : World) (resp : Str) (t1 : Tok) (hw : resp.length ≤ 1000) (h3 : resp.cps.toList.take 3 = [50, 53, 55]) :
  Does PySem.Challenge.rw_wr0021_01.row.prog w (Mine.frag.heap_1 w.params) topProg (.ref 208) 20 160 [.str resp t1] [] (fun v nw => (∃ t, v = .str (parseM resp) t) ∧ nw = []) := by
  have hP := parse_spec w resp t1 hw h3
  w_top off
  k_fill
  k_dflt (refine' does_of ?k1 ?k2 (fun _ kX => ?k3) ?k4 (by decide) (by decide) ?_ ?k5 ?k6 ?k7 ?k8; (case k1 => k_is); (case k2 => k_is); (case k3 => first | exact BindsTo.of_eq rfl | exact binds_K kX rfl (by k_is) rfl rfl rfl); (case k4 => exact locs rfl); (case k5 => decide); (case k6 => exact rfl); (case k7 => exact rfl); (case k8 => exact rfl)); intro loose mean mg mb dp un gd outer A₀ base g L' s₁ rest B F X N T G D hlt hdp hun; (try dsimp only); (try dsimp only [List.nil_append, List.cons_append] at N D hlt); have hL := F.ns.lt; (try (refine letA ?_; intro kA))
  refine wpAny_mono (Q := fun f s' => BodyPost g L' s₁.os rest (fun v nw => (∃ t, v = .str (parseM resp) t) ∧ nw = []) f s') ?_ (fun _ _ h => h) fun _ _ e => e
  k_steps
  first
  | exact BodyPost.mk [] (by assumption) (by assumption) (by assumption) (by assumption) D ⟨⟨_, rfl⟩, rfl⟩
  | (refine wpAny_Try_except ?_
     k_steps
     exact BodyPost.mk [] (by assumption) (by assumption) (by assumption) (by assumption) D ⟨⟨_, rfl⟩, rfl⟩)
end Mine
end
section
open PySem PySem.W PyProof.Rows
open Mine
-- a name of the block
local macro_rules | `(tactic| walk_at "eval Name") => `(tactic| (k_here; (with_reducible show wpAny _ _ (eval (Expr.Name _ _) (compEnvC _ _ _ _)) _ _ _); k_dflt (refine blk_own (by rfl) (by rfl) (by decide) (by k_asm) (by k_mem) (by assumption) (by ktr_units) ?_; k_whole)))
section
open PySem PySem.W PyProof.Rows
set_option maxRecDepth 100000
set_option maxHeartbeats 8000000
namespace Mine
theorem end_pc {h₀ : Heap} {L I C D' T : Addr} {os : OsState} {m m₃ : Str → Option Value} {o oC : Obj} {ts : List Pc} {rest : Led} {f g' : Str} {tf tg : Tok} {s : Shared} {J : List Value → Led → Prop} (hC : LCg.NsObj oC m₃) (F : Fr h₀ L s.heap m)
    (N : News h₀ L s.heap ((T, tupO (.str f tf) (.str g' tg)) :: (I, o) :: (C, oC) :: (D', LCg.lst (refs ts)) :: (ts.map Pc.ent ++ rest))) (G : AllBare s.gens) (ho : s.os = os) (D2 : DN ((I, o) :: (C, oC) :: (D', LCg.lst (refs ts)) :: (ts.map Pc.ent ++ rest)))
    (l : AllLt T ((I, o) :: (C, oC) :: (D', LCg.lst (refs ts)) :: (ts.map Pc.ent ++ rest))) (hl : ts.length ≤ sizeLine) (hJ : J (refs (ts ++ [Pc.mk T f tf g' tg])) ((ts ++ [Pc.mk T f tf g' tg]).map Pc.ent ++ rest)) : EltEnd h₀ L os m I o [] C D' (refs ts) (fun _ => True) J (.ref T) s := by
  refine ⟨oC, m₃, _, hC, trivial, (LoopSt.mk F N G ho (D2.more l)).perm (l' := (I, o) :: [] ++ (C, oC) :: (D', LCg.lst (refs ts)) :: ((ts ++ [Pc.mk T f tf g' tg]).map Pc.ent ++ rest)) ?_, by rw [refs_len]; exact hl, by rw [← show refs (ts ++ [Pc.mk T f tf g' tg]) = refs ts ++ [.ref T] from refs_app ..]; exact hJ⟩
  show List.Perm (Pc.ent (Pc.mk T f tf g' tg) :: _) _
  exact (perm_of_cnt fun q => by simp only [pile, cnt_cons, cnt_app, cnt_nil, List.map_append, List.map_cons, List.map_nil, List.append_assoc, List.cons_append, List.nil_append, Nat.add_zero, Nat.zero_add] <;> first | ac_rfl | (first | lia | omega))
theorem pieces_spec (w : World) (text : Str) (t : Tok) (hw : text.length ≤ 900) :
  Does PySem.Challenge.rw_wr0021_01.row.prog w (Mine.frag.heap_1 w.params) topProg (.ref 182) 10 80 [.str text t] [] (fun v nw => ∃ D ts, v = .ref D ∧ nw = (D, LCg.lst (refs ts)) :: ts.map Pc.ent ∧ ts.map (fun p => (p.f.cps.toList, p.g.cps.toList)) = text.cps.toList.map (fun c => if c = 34 then ([c], []) else ([], [c]))) := by
  w_top off
  k_fill
  k_dflt (refine' does_of ?k1 ?k2 (fun _ kX => ?k3) ?k4 (by decide) (by decide) ?_ ?k5 ?k6 ?k7 ?k8; (case k1 => k_is); (case k2 => k_is); (case k3 => first | exact BindsTo.of_eq rfl | exact binds_K kX rfl (by k_is) rfl rfl rfl); (case k4 => exact locs rfl); (case k5 => decide); (case k6 => exact rfl); (case k7 => exact rfl); (case k8 => exact rfl)); intro loose mean mg mb dp un gd outer A₀ base g L' s₁ rest B F X N T G D hlt hdp hun; (try dsimp only); (try dsimp only [List.nil_append, List.cons_append] at N D hlt); have hL := F.ns.lt; (try (refine letA ?_; intro kA)); refine open_Q ?_; intro QB hQB
  have hGate : Gate "eval ListComp" := ⟨⟩
  k_steps
  (repeat (with_reducible rename Gate _ => hG; clear hG))
  refine Stop.go ?_
  refine Comp_obl F rfl (by with_unfolding_all rfl) (fun I C D => turn_one ..) ?_ (by decide) rfl (by decide) (by intro _; rfl)
  k_steps
  refine ⟨[], [], _, _, rest, fun i ys nw => ∃ ts, ys = refs ts ∧ nw = ts.map Pc.ent ++ rest ∧ ts.map (fun p => (p.f.cps.toList, p.g.cps.toList)) = (text.cps.toList.take i).map (fun c => if c = 34 then ([c], []) else ([], [c])), src_str, (by simp), ⟨F, N, G, rfl, D⟩, ⟨[], rfl, rfl, rfl⟩, ?_, ?_⟩
  · rintro I o C D' oC m₂ i u ys nw s₂ hP hi ⟨ts, rfl, rfl, hts⟩ hC S hpl
    refine blk_name rfl rfl hC S fun oC' s₃ hC' S' => tests_none ?_
    simp only [if_true]
    refine emit_obl (ys := refs ts) ?_
    obtain ⟨F2, N2, G2, ho2, D2⟩ := S'
    dsimp only [List.cons_append, List.nil_append] at N2 D2
    obtain ⟨c, tu, hc, rfl⟩ := hP
    k_steps
    · (rename Fr _ _ _ _ => F9)
      (rename News _ _ _ ((_, tupO _ _) :: _) => N9)
      (rename (_ == _) = true => hq)
      (rename (_ ∧ _ ∧ _ ∧ AllLt _ _) => l9)
      have hc34 : c = 34 := by rw [mark_str, sign_eq, decide_eq_true_eq] at hq; exact hq
      refine end_pc hC' F9 N9 G2 ho2 D2 l9 ?_ ⟨_, rfl, rfl, ?_⟩
      · have h1 := congrArg List.length hts
        rw [List.length_map, List.length_map, List.length_take, len_list] at h1
        rw [sizeLine_eq]; (first | lia | omega)
      · rw [List.map_append, hts, List.take_add_one, show text.cps.toList[i]? = some c by simpa using hc, List.map_append]
        simp [hc34]
        decide +kernel
    · (rename Fr _ _ _ _ => F9)
      (rename News _ _ _ ((_, tupO _ _) :: _) => N9)
      (rename (_ == _) = false => hq)
      (rename (_ ∧ _ ∧ _ ∧ AllLt _ _) => l9)
      have hc34 : ¬ c = 34 := by rw [mark_str, sign_eq, decide_eq_false_iff_not] at hq; exact hq
      refine end_pc hC' F9 N9 G2 ho2 D2 l9 ?_ ⟨_, rfl, rfl, ?_⟩
      · have h1 := congrArg List.length hts
        rw [List.length_map, List.length_map, List.length_take, len_list] at h1
        rw [sizeLine_eq]; (first | lia | omega)
      · rw [List.map_append, hts, List.take_add_one, show text.cps.toList[i]? = some c by simpa using hc, List.map_append]
        simp [hc34]
        decide +kernel
  · rintro D' ys nw s₂ ⟨ts, rfl, rfl, hts⟩ S s₃ S'
    obtain ⟨F2, N2, G2, ho2, D2⟩ := S'
    subst hQB; refine BodyPost.mk ((D', LCg.lst (refs ts)) :: ts.map Pc.ent) F2 N2 G2 ho2 D2 ⟨_, ts, rfl, rfl, ?_⟩
    rw [hts, List.take_of_length_le (by simp)]
end Mine
end
section
open PySem PySem.W PyProof.Rows
set_option maxRecDepth 100000
set_option maxHeartbeats 8000000
namespace Mine
noncomputable def zvals (zs : List (Int × Tok)) : List Value := zs.map fun p => .int p.1 p.2
theorem sym_lo {x : Nat} (h : x % 6 < 3) : sym x = 255 - ((x % 6 : Nat) : Int) := by unfold sym; rw [if_pos h]
theorem sym_hi {x : Nat} (h : ¬ x % 6 < 3) : sym x = 253 + ((x % 6 : Nat) : Int) := by unfold sym; rw [if_neg h]
theorem fmod6 (x : Nat) : ((x : Nat) : Int).fmod 6 = ((x % 6 : Nat) : Int) := by rw [Int.fmod_eq_emod_of_nonneg _ (by decide)]; (first | lia | omega)
theorem ivals_at {xs : List (Nat × Tok)} {i : Nat} {u : Value} (h : (ivals xs).toArray[i]? = some u) : ∃ p, xs[i]? = some p ∧ u = .int (p.1 : Int) p.2 := by
  rw [List.getElem?_toArray] at h
  unfold ivals at h
  rw [List.getElem?_map] at h
  cases e : xs[i]? with
  | none => rw [e] at h; cases h
  | some p => rw [e] at h; exact ⟨p, rfl, (Option.some.inj h).symm⟩
theorem typed_spec (w : World) (Nl Ll : Addr) (xs : List (Nat × Tok)) (nn n3 : Nat) (a b c : Str) (ta tb tc : Tok) (hx : xs.length ≤ 20) (hk : ∀ p ∈ xs, p.1 ≤ 10 ^ 8) (hl : a.length ≤ 2 ∧ b.length ≤ 2 ∧ c.length ≤ 2) :
  Does PySem.Challenge.rw_wr0021_01.row.prog w (Mine.frag.heap_1 w.params) topProg (.ref 177) 40 400 [.ref Nl, .ref Ll] [(Nl, listOf (ivals xs).toArray nn), (Ll, listOf [.str a ta, .str b tb, .str c tc].toArray n3)]
    (fun v nw => (∃ y ty, v = .str y ty ∧ L y = typeL [L a, L b, L c] (xs.map (·.1))) ∧ nw = [(Nl, listOf (ivals xs).toArray nn), (Ll, listOf [.str a ta, .str b tb, .str c tc].toArray n3)]) := by
  w_top off
  k_fill
  k_dflt (refine' does_of ?k1 ?k2 (fun _ kX => ?k3) ?k4 (by decide) (by decide) ?_ ?k5 ?k6 ?k7 ?k8; (case k1 => k_is); (case k2 => k_is); (case k3 => first | exact BindsTo.of_eq rfl | exact binds_K kX rfl (by k_is) rfl rfl rfl); (case k4 => exact locs rfl); (case k5 => decide); (case k6 => exact rfl); (case k7 => exact rfl); (case k8 => exact rfl)); intro loose mean mg mb dp un gd outer A₀ base g L' s₁ rest B F X N T G D hlt hdp hun; (try dsimp only); (try dsimp only [List.nil_append, List.cons_append] at N D hlt); have hL := F.ns.lt; (try (refine letA ?_; intro kA)); refine open_Q ?_; intro QB hQB
  have hGate : Gate "exec For" := ⟨⟩; have hGate : Gate "exec For Name BinOp cons nil" := ⟨⟩
  k_steps
  (repeat (with_reducible rename Gate _ => hG; clear hG))
  refine Stop.go ?_
  refine For_obl (h₀ := g) rfl ?_ (by intro _; rfl)
  have hGate : Gate "eval ListComp" := ⟨⟩
  k_steps
  (repeat (with_reducible rename Gate _ => hG; clear hG))
  refine Stop.go ?_
  (rename Fr _ _ _ _ => F1)
  (rename News _ _ _ _ => N1)
  refine Comp_obl F1 rfl (by with_unfolding_all rfl) (fun I C D => turn_one ..) ?_ (by decide) rfl (by decide) (by intro _; rfl)
  k_steps
  refine ⟨[Nl], [(Nl, listOf (ivals xs).toArray nn)], xs.length, _, _, fun i ys nw => ∃ zs, ys = zvals zs ∧ nw = (Ll, listOf [.str a ta, .str b tb, .str c tc].toArray n3) :: rest ∧ zs.map (·.1) = ((xs.map (·.1)).take i).map sym,
    by rw [← ivals_len xs]; exact src_list ⟨_, (N1 _ (.head _)).1, rfl, _, rfl⟩, by simp, ⟨F1, N1, G, rfl, D⟩, ⟨[], rfl, rfl, rfl⟩, ?_, ?_⟩
  · rintro I o C D' oC m₂ i u ys nw s₂ hP hi ⟨zs, rfl, rfl, hzs⟩ hC S hpl
    obtain ⟨p, hp, rfl⟩ := ivals_at hP
    have hpm := List.mem_of_getElem? hp
    refine blk_name rfl rfl hC S fun oC' s₃ hC' S' => tests_none ?_
    simp only [if_true]
    have hzl : zs.length ≤ 20 := by have := congrArg List.length hzs; simp at this; (first | lia | omega)
    have hstep : ((xs.map (·.1)).take (i + 1)).map sym = zs.map (·.1) ++ [sym p.1] := by rw [List.take_add_one, List.getElem?_map, hp, List.map_append, hzs]; rfl
    refine emit_obl (ys := zvals zs) ?_
    obtain ⟨F2, N2, G2, ho2, D2⟩ := S'
    dsimp only [List.cons_append, List.nil_append] at N2 D2
    k_steps
    · (rename _ < (3 : Int) => hlt3)
      rw [fmod6] at hlt3
      refine ⟨oC', _, _, hC', trivial, ⟨F2, N2, G2, ho2, D2⟩, by rw [sizeLine_eq]; simp [zvals]; (first | lia | omega), zs ++ [(sym p.1, _)], by unfold zvals; rw [List.map_append, sym_lo (by (first | lia | omega)), ← fmod6]; rfl, rfl, by rw [hstep, List.map_append]; rfl⟩
    · (rename ¬ _ < (3 : Int) => hlt3)
      rw [fmod6] at hlt3
      refine ⟨oC', _, _, hC', trivial, ⟨F2, N2, G2, ho2, D2⟩, by rw [sizeLine_eq]; simp [zvals]; (first | lia | omega), zs ++ [(sym p.1, _)], by unfold zvals; rw [List.map_append, sym_hi (by (first | lia | omega)), ← fmod6]; rfl, rfl, by rw [hstep, List.map_append]; rfl⟩
  · rintro D' ys nw s₂ ⟨zs, rfl, rfl, hzs⟩ S s₃ S'
    obtain ⟨F2, N2, G2, ho2, D2⟩ := S'
    dsimp only [List.cons_append, List.nil_append] at N2 D2
    have hGate : Gate "subscriptTail" := ⟨⟩; have hGate : Gate "binaryOp Add ref ref" := ⟨⟩
    k_steps
    (repeat (with_reducible rename Gate _ => hG; clear hG))
    refine Stop.go ?_
    (rename Fr _ _ _ _ => F3)
    (rename News _ _ _ ((_, listOf _ 0) :: _) => N3)
    have hzl : zs.length = xs.length := by have := congrArg List.length hzs; simpa using this
    (rename (_ ∧ _ ∧ _ ∧ AllLt _ _) => l3)
    rename_i lq _
    obtain ⟨t0, t1, t2, N3⟩ : ∃ t0 t1 t2, News g L' _ ((lq, listOf [Value.int 0 t0, Value.int 254 t1, Value.int 257 t2].toArray 0) :: (Nl, listOf (ivals xs).toArray nn) :: (D', LCg.lst (zvals zs)) :: (Ll, listOf [.str a ta, .str b tb, .str c tc].toArray n3) :: rest) := ⟨_, _, _, N3⟩
    refine add_lists (s := ⟨_, _, _, _, _⟩) (vs := zvals zs) (ws := [Value.int 0 t0, Value.int 254 t1, Value.int 257 t2]) (hsz := ?hsz) F3 N3 ⟨_, (N3 _ (.tail _ (.tail _ (.head _)))).1, rfl, _, rfl⟩ ⟨_, (N3 _ (.head _)).1, rfl, _, rfl⟩ ?_
    case hsz => rw [sizeLine_eq]; simp [zvals]; (first | lia | omega)
    intro h4 F4 N4
    have hML : ∀ q ∈ (lq, listOf [Value.int 0 t0, Value.int 254 t1, Value.int 257 t2].toArray 0) :: (Nl, listOf (ivals xs).toArray nn) :: (D', LCg.lst (zvals zs)) :: (Ll, listOf [.str a ta, .str b tb, .str c tc].toArray n3) :: rest, q.1 < _ := fun q hq => Heap.lt_size (N3 q hq).1
    have D4 := DN.cons_of (o := ({ cls := .type "list", data := .seq (zvals zs ++ [Value.int 0 t0, Value.int 254 t1, Value.int 257 t2]).toArray } : Obj)) (D2.more (T := lq) (o := listOf [Value.int 0 t0, Value.int 254 t1, Value.int 257 t2].toArray 0) l3) hML
    dsimp only at N4 D4 ⊢
    have hsub : ∀ (M : Addr) (oM : Obj), ∃ r, ((M, oM) :: (lq, listOf [Value.int 0 t0, Value.int 254 t1, Value.int 257 t2].toArray 0) :: (Nl, listOf (ivals xs).toArray nn) :: (D', LCg.lst (zvals zs)) :: (Ll, listOf [.str a ta, .str b tb, .str c tc].toArray n3) :: rest).Perm (r ++ ((M, oM) :: (Nl, listOf (ivals xs).toArray nn) :: (Ll, listOf [.str a ta, .str b tb, .str c tc].toArray n3) :: rest)) :=
      fun M oM => ⟨(lq, listOf [Value.int 0 t0, Value.int 254 t1, Value.int 257 t2].toArray 0) :: (D', LCg.lst (zvals zs)) :: [], (perm_of_cnt fun q => by simp only [pile, cnt_cons, cnt_app, cnt_nil, List.map_append, List.map_cons, List.map_nil, List.append_assoc, List.cons_append, List.nil_append, Nat.add_zero, Nat.zero_add] <;> first | ac_rfl | (first | lia | omega))⟩
    replace N4 := sub_nw N4 (hsub _ _)
    replace D4 := sub_dn D4 (hsub _ _)
    clear hsub hML N3 D2 l3 S F3 hlt hL
    generalize (Heap.objs _).size = M at N4 D4 ⊢
    refine ⟨[M], [(M, _)], (zvals zs ++ [Value.int 0 t0, Value.int 254 t1, Value.int 257 t2]).length, _, _, _, fun i m' nw => nw = (Nl, listOf (ivals xs).toArray nn) :: (Ll, listOf [.str a ta, .str b tb, .str c tc].toArray n3) :: rest ∧ i ≤ xs.length ∧ ∃ y ty, m' "typed" = some (.str y ty) ∧ m' "letters" = some (.ref Ll) ∧ L y = typeL [L a, L b, L c] ((xs.map (·.1)).take i), _,
      src_list ⟨_, (N4 _ (.head _)).1, rfl, _, rfl⟩, by simp, ⟨F4, N4, G2, rfl, D4⟩, ⟨rfl, Nat.zero_le _, _, _, by ktr_unf, by ktr_unf, by rw [List.take_zero]; show L (Str.ofString "") = []; decide +kernel⟩, fun I o i u m' nw s₂ Q' hP hi hJ S _ h => asg_name rfl rfl S h, ?_, ?_⟩
    · rintro I o i u m' nw s₅ hP hi ⟨rfl, hix, y, ty, hm1, hm2, hy⟩ ⟨F5, N5, G5, ho5, D5⟩
      dsimp only [List.cons_append, List.nil_append] at N5 D5
      rw [List.getElem?_toArray] at hP
      have hyl : y.length ≤ 60 := by
        have h1 := len_typeL (ls := [L a, L b, L c]) (by simp only [List.mem_cons, List.not_mem_nil, or_false]; rintro l (rfl | rfl | rfl) <;> rw [L_len] <;> (first | lia | omega)) ((xs.map (·.1)).take i)
        rw [← hy, L_len, List.length_take, List.length_map] at h1; (first | lia | omega)
      rcases Nat.lt_or_eq_of_le hix with hlt | rfl
      · obtain ⟨p, hp⟩ : ∃ p, xs[i]? = some p := ⟨_, List.getElem?_eq_getElem hlt⟩
        have hz : (zs.map (·.1))[i]? = some (sym p.1) := by rw [hzs, List.getElem?_map, List.take_of_length_le (by simp), List.getElem?_map, hp]; rfl
        obtain ⟨tz, rfl⟩ : ∃ tz, u = .int (sym p.1) tz := by
          rw [List.getElem?_append_left (by simp [zvals]; (first | lia | omega))] at hP
          unfold zvals at hP
          rw [List.getElem?_map] at hP hz
          cases e : zs[i]? with
          | none => rw [e] at hP; cases hP
          | some z => rw [e] at hP hz; exact ⟨z.2, by rw [← Option.some.inj hz]; exact (Option.some.inj hP).symm⟩
        have hstep : L y = typeL [L a, L b, L c] ((xs.map (·.1)).take i) → typeL [L a, L b, L c] ((xs.map (·.1)).take (i + 1)) = stepT [L a, L b, L c] (L y) p.1 := fun e => by
          rw [List.take_add_one, List.getElem?_map, hp, e]; exact typeL_snoc _ _ _
        replace hstep := hstep hy
        by_cases h3 : p.1 % 6 < 3
        · have hs := sym_lo h3
          have hE : Does PySem.Challenge.rw_wr0021_01.row.prog w (Mine.frag.heap_1 w.params) topProg (.ref 165) 4 30 [.int (sym p.1) tz] [] (fun v nw => v = .bool false ∧ nw = []) := by have h := eof_spec w (sym p.1) tz; rwa [decide_eq_false (by (first | lia | omega))] at h
          have hT : Does PySem.Challenge.rw_wr0021_01.row.prog w (Mine.frag.heap_1 w.params) topProg (.ref 151) 4 30 [.int (sym p.1) tz] [] (fun v nw => v = .bool true ∧ nw = []) := by have h := term_spec w (sym p.1) tz; rwa [decide_eq_true (by (first | lia | omega))] at h
          have hN : Does PySem.Challenge.rw_wr0021_01.row.prog w (Mine.frag.heap_1 w.params) topProg (.ref 158) 4 30 [.int (sym p.1) tz] [] (fun v nw => v = .bool false ∧ nw = []) := by have h := nterm_spec w (sym p.1) tz; rwa [decide_eq_false (by (first | lia | omega))] at h
          generalize sym p.1 = sy at *
          have hGate : Gate "subscriptTail" := ⟨⟩; have hGate : Gate "binaryOp Add ref ref" := ⟨⟩
          obtain ⟨z, tzz, hzi, hzL, hz2⟩ : ∃ z tzz, [Value.str a ta, Value.str b tb, Value.str c tc][(255 - sy).toNat]? = some (.str z tzz) ∧ L z = [L a, L b, L c].getD (p.1 % 6) [] ∧ z.length ≤ 2 := by
            have hcase : p.1 % 6 = 0 ∨ p.1 % 6 = 1 ∨ p.1 % 6 = 2 := by (first | lia | omega)
            rcases hcase with h | h | h <;> rw [h] at hs ⊢ <;> rw [hs]
            · exact ⟨a, ta, rfl, rfl, hl.1⟩
            · exact ⟨b, tb, rfl, rfl, hl.2.1⟩
            · exact ⟨c, tc, rfl, rfl, hl.2.2⟩
          k_steps
          (repeat (with_reducible rename Gate _ => hG; clear hG))
          refine Stop.go ?_
          (rename News _ _ _ _ => N6)
          refine item_at (News.isList N6 (by k_mem)) (by (first | lia | omega)) (by (first | lia | omega)) hzi ?_ (by with_unfolding_all rfl)
          k_steps
          (rename Fr _ _ _ _ => F9)
          (rename News _ _ _ _ => N9)
          (rename AllBare _ => G9)
          (rename DN _ => D9)
          refine ⟨_, _, ⟨F9, N9, G9, (by repeat (first | assumption | exact rfl | (refine Eq.trans (by assumption) ?_))), D9⟩, rfl, by (first | lia | omega), _, _, by ktr_unf, by ktr_unf, ?_⟩
          rw [hstep, L_app, hzL]
          unfold stepT
          rw [if_pos h3]
        · have hs := sym_hi h3
          have hE : Does PySem.Challenge.rw_wr0021_01.row.prog w (Mine.frag.heap_1 w.params) topProg (.ref 165) 4 30 [.int (sym p.1) tz] [] (fun v nw => v = .bool false ∧ nw = []) := by have h := eof_spec w (sym p.1) tz; rwa [decide_eq_false (by (first | lia | omega))] at h
          have hT : Does PySem.Challenge.rw_wr0021_01.row.prog w (Mine.frag.heap_1 w.params) topProg (.ref 151) 4 30 [.int (sym p.1) tz] [] (fun v nw => v = .bool false ∧ nw = []) := by have h := term_spec w (sym p.1) tz; rwa [decide_eq_false (by (first | lia | omega))] at h
          have hN : Does PySem.Challenge.rw_wr0021_01.row.prog w (Mine.frag.heap_1 w.params) topProg (.ref 158) 4 30 [.int (sym p.1) tz] [] (fun v nw => v = .bool true ∧ nw = []) := by have h := nterm_spec w (sym p.1) tz; rwa [decide_eq_true (by (first | lia | omega))] at h
          generalize sym p.1 = sy at *
          k_steps
          (rename Fr _ _ _ _ => F9)
          (rename News _ _ _ _ => N9)
          (rename AllBare _ => G9)
          (rename DN _ => D9)
          refine ⟨_, _, ⟨F9, N9, G9, (by repeat (first | assumption | exact rfl | (refine Eq.trans (by assumption) ?_))), D9⟩, rfl, by (first | lia | omega), _, _, by ktr_unf, by ktr_unf, ?_⟩
          rw [hstep, L_app, show (255 : Int) - sy = -(((p.1 % 6 - 2 : Nat)) : Int) by (first | lia | omega), L_last y _ (by (first | lia | omega))]
          unfold stepT
          rw [if_neg h3, L_len]
      · obtain ⟨rfl⟩ : u = .int 0 t0 := by
          rw [List.getElem?_append_right (by simp [zvals]; (first | lia | omega))] at hP
          rw [show xs.length - (zvals zs).length = 0 by simp [zvals]; (first | lia | omega)] at hP
          exact (Option.some.inj hP).symm
        have hE : Does PySem.Challenge.rw_wr0021_01.row.prog w (Mine.frag.heap_1 w.params) topProg (.ref 165) 4 30 [.int 0 t0] [] (fun v nw => v = .bool true ∧ nw = []) := eof_spec w 0 t0
        k_steps
        (rename Fr _ _ _ _ => F9)
        (rename News _ _ _ _ => N9)
        (rename AllBare _ => G9)
        dsimp only [TurnPost]
        subst hQB; refine BodyPost.mk [_, _] F9 (fun q hq => N9 q (.tail _ (.tail _ hq))) G9 (by repeat (first | assumption | exact rfl | (refine Eq.trans (by assumption) ?_))) D ⟨⟨y, ty, rfl, ?_⟩, rfl⟩
        rw [hy, List.take_of_length_le (by simp)]
    · rintro m' nw s₅ ⟨rfl, hix, y, ty, hm1, hm2, hy⟩ S
      exfalso
      simp [zvals] at hix
      (first | lia | omega)
end Mine
end
end
section
open PySem PySem.W PyProof.Rows
set_option maxRecDepth 100000
set_option maxHeartbeats 8000000
namespace Mine
-- a call of _ellipsis_match with texts of a known size
local macro_rules | `(tactic| k_offL) => `(tactic| (with_reducible refine ell_spec _ _ _ _ _ ?_ ?_ <;> first | exact ell_c (by assumption) (by decide) | exact ell_d (by assumption) (by decide) | exact ell_a (by assumption) (by decide) | exact ell_b (by assumption) (by decide)))

/-- mended from the front, k stutters tried -/
noncomputable def mfs : Nat → List Nat → List Nat
  | 0, l => l
  | k + 1, l => mf (k + 1) (mfs k l)
theorem mf_sub (k : Nat) (l : List Nat) : (∀ c ∈ mf k l, c ∈ l) ∧ (mf k l).length ≤ l.length := by
  unfold mf
  split
  · exact ⟨fun c h => List.mem_of_mem_drop h, by simp⟩
  · exact ⟨fun c h => h, Nat.le_refl _⟩
theorem mfs_sub : ∀ (k : Nat) (l : List Nat), (∀ c ∈ mfs k l, c ∈ l) ∧ (mfs k l).length ≤ l.length
  | 0, l => ⟨fun c h => h, Nat.le_refl _⟩
  | k + 1, l => by
    have h1 := mfs_sub k l
    have h2 := mf_sub (k + 1) (mfs k l)
    exact ⟨fun c h => h1.1 c (h2.1 c h), Nat.le_trans h2.2 h1.2⟩
theorem ends_spec (w : World) (text : Str) (t : Tok) (hw : text.length ≤ 900) (hd : nodot text) :
  Does PySem.Challenge.rw_wr0021_01.row.prog w (Mine.frag.heap_1 w.params) topProg (.ref 196) 20 160 [.str text t] [] (fun v nw => (∃ t, v = .str ⟨(root (L text).reverse).toArray⟩ t) ∧ nw = []) := by
  w_top off
  k_fill
  k_dflt (refine' does_of ?k1 ?k2 (fun _ kX => ?k3) ?k4 (by decide) (by decide) ?_ ?k5 ?k6 ?k7 ?k8; (case k1 => k_is); (case k2 => k_is); (case k3 => first | exact BindsTo.of_eq rfl | exact binds_K kX rfl (by k_is) rfl rfl rfl); (case k4 => exact locs rfl); (case k5 => decide); (case k6 => exact rfl); (case k7 => exact rfl); (case k8 => exact rfl)); intro loose mean mg mb dp un gd outer A₀ base g L' s₁ rest B F X N T G D hlt hdp hun; (try dsimp only); (try dsimp only [List.nil_append, List.cons_append] at N D hlt); have hL := F.ns.lt; (try (refine letA ?_; intro kA)); refine open_Q ?_; intro QB hQB
  have hGate : Gate "exec For Name Tuple cons nil" := ⟨⟩; have hGate : Gate "exec For" := ⟨⟩
  k_steps
  (repeat (with_reducible rename Gate _ => hG; clear hG))
  refine Stop.go ?_
  refine For_obl (h₀ := g) rfl ?_ (by intro _; rfl)
  k_steps
  (rename Fr _ _ _ _ => F1)
  (rename News _ _ _ _ => N1)
  refine ⟨[], [], _, _, _, rest, fun i m' nw => nw = rest ∧ ∃ left tl, m' "left" = some (.str left tl) ∧ L left = root ((L text).reverse.take i), _, src_str, (by simp), ⟨F1, N1, G, rfl, D⟩, ⟨rfl, _, _, by ktr_unf, by rw [List.take_zero]; decide +kernel⟩,
    fun I o i u m' nw s₂ Q' hP hi hJ S _ h => asg_name rfl rfl S h, ?_, ?_⟩
  · rintro I o i u m' nw s₂ ⟨c, tu, hc, rfl⟩ hi ⟨rfl, left, tl, hm, hl⟩ ⟨F2, N2, G2, ho2, D2⟩
    dsimp only [List.cons_append, List.nil_append] at N2 D2
    have hc' : (L text).reverse[i]? = some c := by have h := hc; rw [← Array.getElem?_toList] at h; rw [← L_rev text]; exact h
    have hlen : left.length ≤ 900 := by
      have h1 := len_root ((L text).reverse.take i)
      rw [← hl, L_len, List.length_take, List.length_reverse, L_len] at h1; (first | lia | omega)
    have hGate : Gate "exec For Name Tuple cons nil" := ⟨⟩; have hGate : Gate "exec For" := ⟨⟩
    k_steps
    (repeat (with_reducible rename Gate _ => hG; clear hG))
    refine Stop.go ?_
    refine For_obl (h₀ := g) rfl ?_ (by intro _; rfl)
    k_steps
    (rename Fr _ _ _ _ => F3)
    (rename News _ _ _ _ => N3)
    (rename (_ ∧ AllLt _ _) => l3)
    have hlc : L (⟨#[c]⟩ ++ left) = c :: L left := by rw [L_app]; rfl
    refine ⟨[_], [_], _, _, _, (I, o) :: nw, fun j m' nw' => nw' = (I, o) :: nw ∧ ∃ x tx, m' "left" = some (.str x tx) ∧ L x = mfs j (c :: L left), _, src_tuple ⟨_, (N3 _ (.head _)).1, rfl, _, rfl⟩, (by simp), ⟨F3, N3, G2, rfl, D2.more l3⟩, ⟨rfl, _, _, by ktr_unf, hlc⟩,
      fun I o i u m' nw s₂ Q' hP hi hJ S _ h => asg_name rfl rfl S h, ?_, ?_⟩
    · rintro I2 o2 j u m2 nw2 s₃ hP hj ⟨rfl, x, tx, hmx, hx⟩ ⟨F4, N4, G4, ho4, D4⟩
      dsimp only [List.cons_append, List.nil_append] at N4 D4
      obtain ⟨tu2, rfl⟩ : ∃ tu2, u = .int (((j + 1 : Nat)) : Int) tu2 := by
        rcases one_two_three hP with ⟨rfl, rfl⟩ | ⟨rfl, rfl⟩ | ⟨rfl, rfl⟩ <;> exact ⟨_, rfl⟩
      have hxl : x.length ≤ 901 := by
        have h1 := (mfs_sub j (c :: L left)).2
        rw [← hx, L_len, List.length_cons, L_len] at h1; (first | lia | omega)
      have hxd : nodot x := nodot_of hd fun b hb => by
        have h1 := (mfs_sub j (c :: L left)).1 b (by rw [← hx]; exact hb)
        rcases List.mem_cons.mp h1 with rfl | h1
        · exact List.mem_reverse.mp (List.mem_of_getElem? hc')
        · rw [hl] at h1; exact List.mem_reverse.mp (List.mem_of_mem_take (mem_root h1))
      k_steps
      · (rename Fr _ _ _ _ => F5)
        (rename News _ _ _ _ => N5)
        (rename AllBare _ => G5)
        (rename (_ : OsState) = _ => ho5)
        (rename DN _ => D5)
        (rename ellM _ _ = true => he)
        rw [ell_front hxd] at he
        refine ⟨_, (I, o) :: nw, ⟨F5, N5, G5, ho5.trans ho4, D5⟩, rfl, _, _, by ktr_unf, ?_⟩
        rw [L_drop, hx]
        rw [hx] at he
        show _ = mf (j + 1) (mfs j (c :: L left))
        unfold mf; rw [if_pos he]
      · (rename Fr _ _ _ _ => F5)
        (rename News _ _ _ _ => N5)
        (rename AllBare _ => G5)
        (rename (_ : OsState) = _ => ho5)
        (rename DN _ => D5)
        (rename ellM _ _ = false => he)
        rw [ell_front hxd] at he
        refine ⟨_, (I, o) :: nw, ⟨F5, N5, G5, ho5.trans ho4, D5⟩, rfl, _, _, by ktr_unf, ?_⟩
        rw [hx] at he
        rw [hx]
        show _ = mf (j + 1) (mfs j (c :: L left))
        unfold mf; rw [if_neg (by rw [he]; decide)]
    · rintro m2 nw2 s₃ ⟨rfl, x, tx, hmx, hx⟩ ⟨F4, N4, G4, ho4, D4⟩
      k_steps
      refine ⟨m2, nw, ⟨F4, sub_nw N4 ⟨[_], List.Perm.refl _⟩, G4, ho4.trans ho2, sub_dn D4 ⟨[_], List.Perm.refl _⟩⟩, rfl, x, tx, hmx, ?_⟩
      rw [hx, List.take_add_one, hc']
      show mf 3 (mf 2 (mf 1 (c :: L left))) = root (_ ++ [c])
      rw [hl, mf_push (root_ok _), root_snoc]
  · rintro m' nw s₂ ⟨rfl, left, tl, hm, hl⟩ ⟨F2, N2, G2, ho2, D2⟩
    k_steps
    subst hQB; refine BodyPost.mk [] F2 N2 G2 ho2 D2 ⟨⟨tl, ?_⟩, rfl⟩
    show Value.str left tl = _
    rw [List.take_of_length_le (by rw [← L_rev text]; exact Nat.le_refl _)] at hl
    rw [← hl]
end Mine
end
section
open PySem PySem.W PyProof.Rows
open Mine
local macro_rules | `(tactic| k_inst) => `(tactic| refine acc_inst (by k_asm) (by k_mem) (by k_mem))
local macro_rules | `(tactic| walk_at "getMethod ref") => `(tactic| (k_here; refine acc_method (by assumption) (by k_in) (by k_inst) (by exact rfl) (by k_is) (by k_is) (by decide +kernel) (by k_get) ?_))
section
open PySem PySem.W PyProof.Rows
open Mine
local macro_rules | `(tactic| walk_at "getMethod ref") => `(tactic| (k_here; (first | refine' sup_len ?F ?X ?N ?m ?I ?c ?o ?hm ?_ | refine' sup_pop ?F ?X ?N ?m ?I ?c ?o ?hm ?_ | refine' sup_init ?F ?X ?N ?m ?I ?c ?o ?hm ?_); (case F => k_asm); (case X => k_asm); (case N => k_asm); (case m => k_mem); (case I => k_inst); (case c => assumption); (case o => k_is); (case hm => ks_is); intro q' h' F' N' l1; (try k_lt l1)))
local macro_rules | `(tactic| walk_at "callWith ref") => `(tactic| (k_here; first | refine cw_wrap (by k_asm) (by k_mem) ?_ | refine cw_func (by k_asm) (by k_mem) ?_))
local macro_rules | `(tactic| walk_at "call ref") => `(tactic| (k_here; refine bound_len (by k_asm) (by k_mem) (by k_mem) ?_))
local macro_rules | `(tactic| walk_at "call ref") => `(tactic| (k_here; refine bound_init (by k_asm) (by k_asm) (by k_mem) (by k_upd) ?_; intro h' F' N'; (try dsimp only)))
local macro_rules | `(tactic| walk_at "call ref") => `(tactic| (k_here; refine bound_pop (by k_asm) (by k_asm) (by k_asm) (by k_mem) (by k_upd) (by exact rfl) (by k_is) (by k_is) (by exact rfl) (by first | omega | (simp; omega)) ?_; intro h' F' N'; (try dsimp only)))
local macro_rules | `(tactic| walk_at "setAttr ref") => `(tactic| (k_here; refine acc_set (by k_asm) (by k_asm) (by k_asm) (by k_inst) (by exact rfl) (by k_is) (by exact rfl) (by exact rfl) (by k_is) (by exact rfl) (by k_get) (by k_put) (by k_upd) (by exact Nat.le_of_ble_eq_true rfl) ?_; intro h' F' N'; (try dsimp only)))
local macro_rules | `(tactic| walk_at "call builtin:list.append") => `(tactic| (k_here; refine' acc_append (by assumption) (by k_asm) (by k_asm) (by k_asm) ?m (by k_upd) (by first | omega | (simp; omega)) ?_; (case m => k_mem); intro h' F' N'; (try dsimp only)))
local macro_rules | `(tactic| walk_at $k:str) => `(tactic| ((with_reducible rename Gate $k => hGate); refine stop_here ?_))
section
open PySem PySem.W PyProof.Rows
set_option maxRecDepth 100000
set_option maxHeartbeats 8000000
namespace Mine
theorem lcls (w : World) : LCls (Mine.frag.heap_1 w.params) 108 := ⟨by kernel_rfl, by kernel_rfl, by kernel_rfl, by kernel_rfl⟩
theorem push_spec (w : World) (a : At) (ts : List Pc) (n : Nat) (f g' : Str) (tf tg : Tok) (hl : ts.length ≤ 900) :
  Does PySem.Challenge.rw_wr0021_01.row.prog w (Mine.frag.heap_1 w.params) topProg (.ref 52) 8 60 [.ref a.P, .str f tf, .str g' tg] (pile w 108 a ts n) (fun v nw => v = .none ∧ ∃ T n', nw = pile w 108 a (ts ++ [⟨T, f, tf, g', tg⟩]) n') := by
  have hC := lcls w
  have hrl : (refs ts).length ≤ 900 := by rw [refs_len]; exact hl
  w_top off
  k_fill
  obtain ⟨P, dx, sz, tk, tz⟩ := a
  dsimp only [pile]
  k_dflt (refine' does_of ?k1 ?k2 (fun _ kX => ?k3) ?k4 (by decide) (by decide) ?_ ?k5 ?k6 ?k7 ?k8; (case k1 => k_is); (case k2 => k_is); (case k3 => first | exact BindsTo.of_eq rfl | exact binds_K kX rfl (by k_is) rfl rfl rfl); (case k4 => exact locs rfl); (case k5 => decide); (case k6 => exact rfl); (case k7 => exact rfl); (case k8 => exact rfl)); intro loose mean mg mb dp un gd outer A₀ base g L' s₁ rest B F X N T G D hlt hdp hun; (try dsimp only); (try dsimp only [List.nil_append, List.cons_append] at N D hlt); have hL := F.ns.lt; (try (refine letA ?_; intro kA))
  have mkD : ∀ T, (P < T ∧ dx < T ∧ AllLt T (ts.map Pc.ent ++ rest)) → DN (Pc.ent ⟨T, f, tf, g', tg⟩ :: (P, accO 108 dx (refs ts ++ [Value.ref T]).toArray (n + 1)) :: (dx, sizeD w sz tk tz) :: (ts.map Pc.ent ++ rest)) := fun T l =>
    dn_cons (AllNe.cons (Nat.ne_of_lt l.1) (AllNe.cons (Nat.ne_of_lt l.2.1) (AllLt.ne l.2.2 (Nat.le_refl _)))) D
  k_steps
  (rename Fr _ _ _ _ => F9)
  (rename News _ _ _ ((_, tupO _ _) :: _) => N9)
  (rename (_ ∧ _ ∧ AllLt _ _) => l9)
  have pm := fun T => (pile_push (w := w) (C := 108) (a := ⟨P, dx, sz, tk, tz⟩) (ts := ts) (n := n + 1) (p := ⟨T, f, tf, g', tg⟩)).append_right rest
  refine BodyPost.mk _ F9 (News.perm N9 (pm _)) G rfl (DN.perm (mkD _ l9) (pm _)) ⟨rfl, _, n + 1, rfl⟩
theorem count_spec (w : World) (a : At) (ts : List Pc) (n : Nat) :
  Does PySem.Challenge.rw_wr0021_01.row.prog w (Mine.frag.heap_1 w.params) topProg (.ref 105) 8 60 [.ref a.P] (pile w 108 a ts n) (fun v nw => (∃ t, v = .int (ts.length : Int) t) ∧ nw = pile w 108 a ts n) := by
  have hC := lcls w
  w_top off
  k_fill
  obtain ⟨P, dx, sz, tk, tz⟩ := a
  dsimp only [pile]
  k_dflt (refine' does_ofS ?k1 ?k2 (fun _ kX => ?k3) ?k4 (by decide) (by decide) ?_ ?k5 ?k6 ?k7 ?k8; (case k1 => k_is); (case k2 => k_is); (case k3 => first | exact BindsTo.of_eq rfl | exact binds_K kX rfl (by k_is) rfl rfl rfl); (case k4 => exact locs rfl); (case k5 => decide); (case k6 => exact rfl); (case k7 => exact rfl); (case k8 => exact rfl)); intro loose mean mg mb dp un gd outer A₀ base g L' s₁ rest B F X N T G D hlt hdp hun; (try dsimp only); (try dsimp only [List.nil_append, List.cons_append] at N D hlt); have hL := F.ns.lt; (try (refine letA ?_; intro kA))
  k_steps
  (rename Fr _ _ _ _ => F9)
  (rename News _ _ _ _ => N9)
  exact BodyPost.mk (_ :: _ :: ts.map Pc.ent) F9 (fun q hq => N9 q (.tail _ (.tail _ hq))) G rfl D ⟨⟨_, by show Value.int ((refs ts).length : Int) _ = _; rw [refs_len]⟩, rfl⟩
theorem pop_some (w : World) (a : At) (ini : List Pc) (p : Pc) (n : Nat) (hl : ini.length ≤ 900) :
  Does PySem.Challenge.rw_wr0021_01.row.prog w (Mine.frag.heap_1 w.params) topProg (.ref 68) 16 120 [.ref a.P] (pile w 108 a (ini ++ [p]) n) (fun v nw => v = .ref p.T ∧ ∃ n', nw = p.ent :: pile w 108 a ini n') := by
  have hC := lcls w
  have hcnt := count_spec w a (ini ++ [p]) n
  have hrl : (refs ini).length ≤ 900 := by rw [refs_len]; exact hl
  w_top off
  k_fill
  obtain ⟨P, dx, sz, tk, tz⟩ := a
  dsimp only [pile] at hcnt ⊢
  rw [refs_app] at hcnt ⊢
  rw [show refs [p] = [Value.ref p.T] from rfl] at hcnt ⊢
  k_dflt (refine' does_ofS ?k1 ?k2 (fun _ kX => ?k3) ?k4 (by decide) (by decide) ?_ ?k5 ?k6 ?k7 ?k8; (case k1 => k_is); (case k2 => k_is); (case k3 => first | exact BindsTo.of_eq rfl | exact binds_K kX rfl (by k_is) rfl rfl rfl); (case k4 => exact locs rfl); (case k5 => decide); (case k6 => exact rfl); (case k7 => exact rfl); (case k8 => exact rfl)); intro loose mean mg mb dp un gd outer A₀ base g L' s₁ rest B F X N T G D hlt hdp hun; (try dsimp only); (try dsimp only [List.nil_append, List.cons_append] at N D hlt); have hL := F.ns.lt; (try (refine letA ?_; intro kA))
  refine ks_wpAt_execs_cons (ks_wpAt_If (wpAt_of_wpAny ?_))
  have hGate : Gate "wpAt" := ⟨⟩
  k_steps
  · exfalso
    (rename _ = _ => hz)
    simp at hz
    (first | lia | omega)
  · (repeat (with_reducible rename Gate _ => hG; clear hG))
    refine Stop.go ?_
    refine wpAt_of_wpAny (wpAny_execs_nil ?_)
    refine ks_wpAt_execs_cons ?_
    k_steps
    (rename Fr _ _ _ _ => F9)
    (rename News _ _ _ _ => N9)
    (rename AllBare _ => G9)
    (rename _ = _ => ho9)
    have pm := (pile_pop (w := w) (C := 108) (a := ⟨P, dx, sz, tk, tz⟩) (ini := ini) (n := n + 1) (p := p)).append_right rest
    exact BodyPost.mk _ F9 (News.perm (fun q hq => N9 q (.tail _ (.tail _ hq))) pm) G9 ho9 (DN.perm (by exact D) pm) ⟨rfl, n + 1, rfl⟩
theorem pop_none (w : World) (a : At) (n : Nat) :
  Does PySem.Challenge.rw_wr0021_01.row.prog w (Mine.frag.heap_1 w.params) topProg (.ref 68) 16 120 [.ref a.P] (pile w 108 a [] n) (fun v nw => ∃ p : Pc, v = .ref p.T ∧ p.f = Str.empty ∧ p.g = Str.empty ∧ nw = p.ent :: pile w 108 a [] n) := by
  have hC := lcls w
  have hcnt := count_spec w a [] n
  w_top off
  k_fill
  obtain ⟨P, dx, sz, tk, tz⟩ := a
  dsimp only [pile] at hcnt ⊢
  k_dflt (refine' does_ofS ?k1 ?k2 (fun _ kX => ?k3) ?k4 (by decide) (by decide) ?_ ?k5 ?k6 ?k7 ?k8; (case k1 => k_is); (case k2 => k_is); (case k3 => first | exact BindsTo.of_eq rfl | exact binds_K kX rfl (by k_is) rfl rfl rfl); (case k4 => exact locs rfl); (case k5 => decide); (case k6 => exact rfl); (case k7 => exact rfl); (case k8 => exact rfl)); intro loose mean mg mb dp un gd outer A₀ base g L' s₁ rest B F X N T G D hlt hdp hun; (try dsimp only); (try dsimp only [List.nil_append, List.cons_append] at N D hlt); have hL := F.ns.lt; (try (refine letA ?_; intro kA))
  refine ks_wpAt_execs_cons (ks_wpAt_If (wpAt_of_wpAny ?_))
  have hGate : Gate "wpAt" := ⟨⟩
  have mkD : ∀ T u v, (P < T ∧ dx < T ∧ AllLt T ([].map Pc.ent ++ rest)) → DN (Pc.ent ⟨T, Str.ofString "", u, Str.ofString "", v⟩ :: (P, accO 108 dx (refs []).toArray n) :: (dx, sizeD w sz tk tz) :: ([].map Pc.ent ++ rest)) := fun T u v l =>
    dn_cons (AllNe.cons (Nat.ne_of_lt l.1) (AllNe.cons (Nat.ne_of_lt l.2.1) (AllLt.ne l.2.2 (Nat.le_refl _)))) D
  k_steps
  (repeat (with_reducible rename Gate _ => hG; clear hG))
  refine Stop.go ?_
  k_steps
  (rename Fr _ _ _ _ => F9)
  (rename News _ _ _ ((_, tupO _ _) :: _) => N9)
  (rename AllBare _ => G9)
  (rename _ = _ => ho9)
  (rename (_ ∧ _ ∧ AllLt _ _) => l9)
  exact BodyPost.mk (Pc.ent ⟨_, Str.ofString "", _, Str.ofString "", _⟩ :: (P, accO 108 dx (refs []).toArray n) :: (dx, sizeD w sz tk tz) :: []) F9 N9 G9 ho9 (mkD _ _ _ l9) ⟨_, rfl, rfl, rfl, rfl⟩
end Mine
end
section
open PySem PySem.W PyProof.Rows
set_option maxRecDepth 100000
set_option maxHeartbeats 8000000
namespace Mine
theorem lcls' (w : World) : LCls (Mine.frag.heap_1 w.params) 108 := ⟨by kernel_rfl, by kernel_rfl, by kernel_rfl, by kernel_rfl⟩
theorem makes (w : World) : ∀ (M : Model) (h : Heap), Frag.In (Mine.frag.heap_1 w.params) h → MakesL M h 108 := fun M h X => makesL_of X (by exact rfl) rfl rfl rfl rfl (by decide +kernel) (by decide +kernel) (by kernel_rfl) (by kernel_rfl)
theorem make_spec (w : World) (sz : Int) (tz : Tok) :
  Does PySem.Challenge.rw_wr0021_01.row.prog w (Mine.frag.heap_1 w.params) topProg (.ref 108) 20 160 [.int sz tz] [] (fun v nw => ∃ P dx tk n, v = .ref P ∧ nw = pile w 108 ⟨P, dx, sz, tk, tz⟩ [] n) := by
  have hC := lcls' w
  w_top off
  k_fill
  k_dflt (refine' does_cls (binds := fun x => [(Str.ofString "self", Value.ref x), (Str.ofString "initial_size", Value.int sz tz)]) (makes w) ?k0 ?k9 (fun sig hs => ln_args _ _ sig hs) ?k1 ?k2 (fun _ _ kX => ?k3) (fun _ => ?k4) (by decide) (by decide) ?_ ?k5 ?k6 ?k7 ?k8; (case k0 => k_is); (case k9 => k_is); (case k1 => k_is); (case k2 => k_is); (case k3 => first | exact BindsTo.of_eq rfl | exact binds_K kX rfl (by k_is) rfl rfl rfl); (case k4 => exact locs rfl); (case k5 => decide); (case k6 => exact rfl); (case k7 => exact rfl); (case k8 => exact rfl))
  intro P dx loose mean mg mb dp un gd outer A₀ base g L' s₁ rest B F X N T G D hlt hdp hun
  (try dsimp only)
  dsimp only [List.nil_append, List.cons_append] at N D hlt
  refine ks_wpAt_execs_cons (wpAt_of_wpAny ?_)
  have hGate : Gate "wpAt" := ⟨⟩
  k_steps
  (repeat (with_reducible rename Gate _ => hG; clear hG))
  refine Stop.go ?_
  refine ks_wpAt_execs_cons (ks_wpAt_Expr_any (ks_wpAt_MethodCall ?_))
  k_steps
  (rename Fr _ _ _ _ => F9)
  (rename News _ _ _ _ => N9)
  exact BodyPost.mk ((P, accO 108 dx (refs []).toArray 0) :: (dx, sizeD w sz _ tz) :: []) F9 (fun q hq => N9 q (.tail _ (.tail _ hq))) G rfl D ⟨rfl, P, dx, _, _, rfl, rfl⟩
end Mine
end
section
open PySem PySem.W PyProof.Rows
set_option maxRecDepth 100000
set_option maxHeartbeats 8000000
namespace Mine
local macro_rules | `(tactic| walk_at "getAttr ref") => `(tactic| (k_here; refine acc_size (by assumption) (by k_in) (by k_inst) (by k_is) ?_))
theorem codeLen (w : World) : CodeK (Mine.frag.heap_1 w.params) 74 70 := ⟨⟨_, _, _, _, _, _, _, _, _, by exact rfl, rfl, rfl, rfl, rfl, rfl, rfl, rfl⟩, by decide⟩
theorem lcls2 (w : World) : LCls (Mine.frag.heap_1 w.params) 108 := ⟨by kernel_rfl, by kernel_rfl, by kernel_rfl, by kernel_rfl⟩
theorem iterIn (w : World) : findIn (Mine.frag.heap_1 w.params) (.ref 108) "__iter__" = some (some (.builtin "list.__iter__")) := by kernel_rfl
theorem len_spec (w : World) (a : At) (ts : List Pc) (n : Nat) (pl : Array Value) (hp : TriplesOk pl.toList) (hsz : 0 ≤ a.sz ∧ a.sz ≤ 10000) (hl : ts.length ≤ 900) (hlen : ∀ p ∈ ts, p.f.length ≤ 1000 ∧ p.g.length ≤ 1000) :
  Does PySem.Challenge.rw_wr0021_01.row.prog w (Mine.frag.heap_1 w.params) topProg (.ref 75) 10 100 [.ref a.P] ((70, tabO pl) :: pile w 108 a ts n) (fun v nw => (∃ t, v = .int (a.sz + (total ts : Nat)) t) ∧ ∃ pl', TriplesOk pl'.toList ∧ nw = (70, tabO pl') :: pile w 108 a ts n) := by
  have hC := lcls2 w
  have hcK := codeLen w
  have hit := iterIn w
  w_top off
  k_fill
  obtain ⟨P, dx, sz, tk, tz⟩ := a
  dsimp only [pile] at hsz ⊢
  k_dflt (refine' does_of ?k1 ?k2 (fun _ kX => ?k3) ?k4 (by decide) (by decide) ?_ ?k5 ?k6 ?k7 ?k8; (case k1 => k_is); (case k2 => k_is); (case k3 => first | exact BindsTo.of_eq rfl | exact binds_K kX rfl (by k_is) rfl rfl rfl); (case k4 => exact locs rfl); (case k5 => decide); (case k6 => exact rfl); (case k7 => exact rfl); (case k8 => exact rfl)); intro loose mean mg mb dp un gd outer A₀ base g L' s₁ rest B F X N T G D hlt hdp hun; (try dsimp only); (try dsimp only [List.nil_append, List.cons_append] at N D hlt); have hL := F.ns.lt; (try (refine letA ?_; intro kA))
  have hGate : Gate "eval GeneratorExp" := ⟨⟩; have hGate : Gate "call builtin:sum" := ⟨⟩
  k_steps
  (repeat (with_reducible rename Gate _ => hG; clear hG))
  refine Stop.go ?_
  refine gen_led (rest := (P, accO 108 dx (refs ts).toArray n) :: (dx, sizeD w sz tk tz) :: (ts.map Pc.ent ++ rest)) (its := (refs ts).toArray) (Ts := fun i => (ts.getD i pc0).T) (va := fun i => .str (ts.getD i pc0).f (ts.getD i pc0).tf) (vb := fun i => .str (ts.getD i pc0).g (ts.getD i pc0).tg)
    (F' := fun i v => ∃ t, v = .int (((ts.getD i pc0).f.length + (ts.getD i pc0).g.length : Nat) : Int) t) rfl (show dp < recursionLimit by (first | lia | omega)) F X N T G hcK hp D.ne rfl rfl rfl rfl (by decide) rfl rfl rfl (by decide) rfl ?hev hC hit (.head _) (.tail _ (.head _)) ?hts ?helt ?hQ (fun _ => rfl)
  case hev =>
    intro Q' E' hq
    exact wpAny_Name (wpAny_loadName_local rfl rfl F.ns rfl hq)
  case hts => exact fun j hj => rows_at j (by simpa [refs] using hj)
  case helt =>
    intro C' cv A' E' i t m₂ hA hD hU hi hF hma hmb
    have hi' : i < ts.length := by simpa [refs] using hi
    have hb := hlen _ (getD_mem hi')
    exact gn_lens rfl rfl rfl rfl rfl (by decide) (by decide) hF T (mg_none_of X T.g (by kernel_rfl)) (by first | boot_by_name | rfl | kernel_rfl) hma hmb (Nat.le_trans hb.1 (by decide)) (Nat.le_trans hb.2 (by decide))
  case hQ =>
    intro ps' ag Kb s₅ hps hF5 hN5 hG5 hos hLK hle hGen
    clear F N
    have hGate : Gate "eval GeneratorExp" := ⟨⟩; have hGate : Gate "call builtin:sum" := ⟨⟩
    k_steps
    (repeat (with_reducible rename Gate _ => hG; clear hG))
    refine Stop.go ?_
    refine sum_pile (s := { s₅ with toks := s₅.toks + 1 }) hF5 hN5 hG5 (Gen.toks hGen (Nat.le_succ _)) hLK hle (fun i => (ts.getD i pc0).f.length + (ts.getD i pc0).g.length) (fun j v hv => hv) ⟨hsz.1, by (first | lia | omega)⟩ (fun j => getD_len hlen j) (by simp [refs]; (first | lia | omega)) ?_
    intro s6 t6 F6 N6 G6 ho6
    refine BodyPost.mk ((70, tabO ps') :: _ :: _ :: ts.map Pc.ent) F6 N6 G6 (ho6.trans hos) D ⟨⟨t6, ?_⟩, ps', hps, rfl⟩
    show Value.int (sz + _) t6 = _
    rw [show (refs ts).toArray.size = ts.length by simp [refs], sumTo_list ts (fun p => p.f.length + p.g.length) pc0]
    rfl
end Mine
end
section
open PySem PySem.W PyProof.Rows
set_option maxRecDepth 100000
set_option maxHeartbeats 8000000
namespace Mine
local macro_rules | `(tactic| walk_at "no tree at all") => `(tactic| skip)
local macro_rules | `(tactic| walk_at "getAttr ref") => `(tactic| (k_here; refine acc_size (by assumption) (by k_in) (by k_inst) (by k_is) ?_))
theorem codeStr (w : World) : CodeK (Mine.frag.heap_1 w.params) 81 77 := ⟨⟨_, _, _, _, _, _, _, _, _, by exact rfl, rfl, rfl, rfl, rfl, rfl, rfl, rfl⟩, by decide⟩
theorem lcls3 (w : World) : LCls (Mine.frag.heap_1 w.params) 108 := ⟨by kernel_rfl, by kernel_rfl, by kernel_rfl, by kernel_rfl⟩
theorem iterIn3 (w : World) : findIn (Mine.frag.heap_1 w.params) (.ref 108) "__iter__" = some (some (.builtin "list.__iter__")) := by kernel_rfl
theorem str_spec (w : World) (a : At) (ts : List Pc) (n : Nat) (pl : Array Value) (hp : TriplesOk pl.toList) (hl : ts.length ≤ 900) (hlen : ∀ p ∈ ts, p.f.length ≤ 500 ∧ p.g.length ≤ 500) :
  Does PySem.Challenge.rw_wr0021_01.row.prog w (Mine.frag.heap_1 w.params) topProg (.ref 82) 10 100 [.ref a.P] ((77, tabO pl) :: pile w 108 a ts n) (fun v nw => (∃ t, v = .str (shown ts) t) ∧ ∃ pl', TriplesOk pl'.toList ∧ nw = (77, tabO pl') :: pile w 108 a ts n) := by
  have hC := lcls3 w
  have hcK := codeStr w
  have hit := iterIn3 w
  w_top off
  k_fill
  obtain ⟨P, dx, sz, tk, tz⟩ := a
  dsimp only [pile]
  k_dflt (refine' does_of ?k1 ?k2 (fun _ kX => ?k3) ?k4 (by decide) (by decide) ?_ ?k5 ?k6 ?k7 ?k8; (case k1 => k_is); (case k2 => k_is); (case k3 => first | exact BindsTo.of_eq rfl | exact binds_K kX rfl (by k_is) rfl rfl rfl); (case k4 => exact locs rfl); (case k5 => decide); (case k6 => exact rfl); (case k7 => exact rfl); (case k8 => exact rfl)); intro loose mean mg mb dp un gd outer A₀ base g L' s₁ rest B F X N T G D hlt hdp hun; (try dsimp only); (try dsimp only [List.nil_append, List.cons_append] at N D hlt); have hL := F.ns.lt; (try (refine letA ?_; intro kA))
  have hGate : Gate "eval GeneratorExp" := ⟨⟩; have hGate : Gate "call builtin:str.join" := ⟨⟩
  k_steps
  (repeat (with_reducible rename Gate _ => hG; clear hG))
  refine Stop.go ?_
  refine gen_led (rest := (P, accO 108 dx (refs ts).toArray n) :: (dx, sizeD w sz tk tz) :: (ts.map Pc.ent ++ rest)) (its := (refs ts).toArray) (Ts := fun i => (ts.getD i pc0).T) (va := fun i => .str (ts.getD i pc0).f (ts.getD i pc0).tf) (vb := fun i => .str (ts.getD i pc0).g (ts.getD i pc0).tg)
    (F' := fun i v => ∃ t, v = .str (pcS (ts.getD i pc0)) t) rfl (show dp < recursionLimit by (first | lia | omega)) F X N T G hcK hp D.ne rfl rfl rfl rfl (by decide) rfl rfl rfl (by decide) rfl ?hev hC hit (.head _) (.tail _ (.head _)) ?hts ?helt ?hQ (fun _ => rfl)
  case hev =>
    intro Q' E' hq
    exact wpAny_Name (wpAny_loadName_local rfl rfl F.ns rfl hq)
  case hts => exact fun j hj => rows_at j (by simpa [refs] using hj)
  case helt =>
    intro C' cv A' E' i t m₂ hA hD hU hi hF hma hmb
    have hi' : i < ts.length := by simpa [refs] using hi
    have hb := hlen _ (getD_mem hi')
    exact gn_join rfl rfl rfl rfl rfl (by decide) (by decide) (by decide) hF T (mg_of X T.g (by k_is)) hma hmb (Nat.le_trans hb.1 (by decide)) (Nat.le_trans hb.2 (by decide)) rfl
  case hQ =>
    intro ps' ag Kb s₅ hps hF5 hN5 hG5 hos hLK hle hGen
    clear F N
    have hGate : Gate "eval GeneratorExp" := ⟨⟩; have hGate : Gate "call builtin:str.join" := ⟨⟩
    k_steps
    (repeat (with_reducible rename Gate _ => hG; clear hG))
    refine Stop.go ?_
    refine join_pile (s := s₅) hF5 hN5 hG5 hGen hLK hle (fun i => pcS (ts.getD i pc0)) (fun j v hv => hv) ?_ (by simp [refs]; (first | lia | omega)) ?_
    · rw [show (refs ts).toArray.size = ts.length by simp [refs], map_range_getD ts pcS]
      have := weigh ts hlen
      exact joinOk_of_weight (by simp only [List.length_map]; (first | lia | omega)) (by decide)
    · intro s6 t6 F6 N6 G6 ho6
      refine BodyPost.mk ((77, tabO ps') :: _ :: _ :: ts.map Pc.ent) F6 N6 G6 (ho6.trans hos) D ⟨⟨t6, ?_⟩, ps', hps, rfl⟩
      show Value.str _ t6 = _
      rw [show (refs ts).toArray.size = ts.length by simp [refs], map_range_getD ts pcS]
      exact congrArg (fun x => Value.str x t6) (shown_join ts)
end Mine
end
section
open PySem PySem.W PyProof.Rows
set_option maxRecDepth 100000
set_option maxHeartbeats 8000000
namespace Mine
local macro_rules | `(tactic| walk_at "subscriptTail Name Slice ref ref") => `(tactic| (k_here; refine acc_tail (by assumption) (by k_asm) (by k_asm) (by k_asm) (by k_mem) (by k_mem) (by k_is) (by k_is) (.int _ _) .none (by omega) ?_ (by with_unfolding_all rfl) (by intro _; with_unfolding_all rfl); intro D' h' F' N' l1; (try k_lt l1)))
theorem lcls4 (w : World) : LCls (Mine.frag.heap_1 w.params) 108 := ⟨by kernel_rfl, by kernel_rfl, by kernel_rfl, by kernel_rfl⟩
theorem popf_spec (w : World) (a : At) (ini lst : List Pc) (n : Nat) (i : Int) (ti : Tok) (hi : i = ini.length) (hl : (ini ++ lst).length ≤ 900) :
  Does PySem.Challenge.rw_wr0021_01.row.prog w (Mine.frag.heap_1 w.params) topProg (.ref 60) 10 100 [.ref a.P, .int i ti] (pile w 108 a (ini ++ lst) n) (fun v nw => ∃ l n', v = .ref l ∧ nw = (l, listOf (refs lst).toArray 0) :: (lst.map Pc.ent ++ pile w 108 a ini n')) := by
  have hC := lcls4 w
  have hrl : (refs (ini ++ lst)).length ≤ 900 := by rw [refs_len]; exact hl
  w_top off
  k_fill
  obtain ⟨P, dx, sz, tk0, tz⟩ := a
  dsimp only [pile]
  rw [refs_app] at hrl ⊢
  k_dflt (refine' does_of ?k1 ?k2 (fun _ kX => ?k3) ?k4 (by decide) (by decide) ?_ ?k5 ?k6 ?k7 ?k8; (case k1 => k_is); (case k2 => k_is); (case k3 => first | exact BindsTo.of_eq rfl | exact binds_K kX rfl (by k_is) rfl rfl rfl); (case k4 => exact locs rfl); (case k5 => decide); (case k6 => exact rfl); (case k7 => exact rfl); (case k8 => exact rfl)); intro loose mean mg mb dp un gd outer A₀ base g L' s₁ rest B F X N T G D hlt hdp hun; (try dsimp only); (try dsimp only [List.nil_append, List.cons_append] at N D hlt); have hL := F.ns.lt; (try (refine letA ?_; intro kA))
  have hGate : Gate "setItem ref ref" := ⟨⟩
  k_steps
  (repeat (with_reducible rename Gate _ => hG; clear hG))
  refine Stop.go ?_
  (rename (_ ∧ _ ∧ _ ∧ AllLt _ _) => l8)
  (rename AllLt _ _ => l9)
  refine' acc_cut_new (us := refs ini) (vs := refs lst) (n' := if (refs ini).length = (refs ini ++ refs lst).length then n else n + 1) hC X ?F ?N (.head _) (Nat.ne_of_gt l8.2.1) ?q ?g ?lo ?sz ?U (.tail _ (.tail _ (.tail _ (.head _)))) rfl ?_
  case F => assumption
  case N => assumption
  case q => k_is
  case g => k_is
  case lo => rw [refs_len]; exact hi
  case sz => exact hrl
  case U =>
    refine' upd_dn ?D (.tail (.tail .head))
    case D => ktr_rel
  intro h' F' N'
  k_steps
  rw [pick_from _ _ i (by rw [refs_len]; exact hi)] at N'
  have pm := fun D' => (pile_split (w := w) (C := 108) (x := (D', listOf (refs lst).toArray 0)) (a := ⟨P, dx, sz, tk0, tz⟩) (ini := ini) (lst := lst) (n := if (refs ini).length = (refs ini ++ refs lst).length then n else n + 1)).append_right rest
  refine BodyPost.mk _ F' (News.perm (fun q hq => N' q (.tail _ hq)) (pm _)) G rfl (DN.perm ?_ (pm _)) ⟨_, _, rfl, rfl⟩
  exact dn_cons (AllLt.ne l9 (Nat.le_refl _)) D
end Mine
end
end
section
open PySem PySem.W PyProof.Rows
set_option maxRecDepth 100000
set_option maxHeartbeats 8000000
namespace Mine
-- a call of _ellipsis_match with texts of a known size
local macro_rules | `(tactic| k_offL) => `(tactic| (with_reducible refine ell_spec _ _ _ _ _ ?_ ?_ <;> first | exact ell_c (by assumption) (by decide) | exact ell_d (by assumption) (by decide) | exact ell_a (by assumption) (by decide) | exact ell_b (by assumption) (by decide)))

theorem lclsP (w : World) : LCls (Mine.frag.heap_1 w.params) 108 := ⟨by kernel_rfl, by kernel_rfl, by kernel_rfl, by kernel_rfl⟩
noncomputable abbrev flat (w : World) (a : At) (ts : List Pc) (n : Nat) (Sl : Addr) (xs : List (Str × Tok)) (n2 : Nat) (pl : Array Value) (R : Led) : Led := (a.P, accO 108 a.dx (refs ts).toArray n) :: (a.dx, sizeD w a.sz a.tk a.tz) :: (Sl, listOf (strValues xs).toArray n2) :: (77, tabO pl) :: (ts.map Pc.ent ++ R)
theorem PcsAre.at {ts : List Pc} {l : List Nat} {i c : Nat} (h : PcsAre ts l) (hi : l[i]? = some c) : L (ts.getD i pc0).f = (pcOf c).1 ∧ L (ts.getD i pc0).g = (pcOf c).2 := by
  have e : (ts.map fun p => (L p.f, L p.g))[i]? = some (pcOf c) := by rw [h, List.getElem?_map, hi]; rfl
  rw [List.getElem?_map] at e
  cases hq : ts[i]? with
  | none => rw [hq] at e; cases e
  | some p =>
    rw [hq] at e
    rw [List.getD_eq_getElem?_getD, hq]
    simp only [Option.map_some, Option.some.injEq] at e
    exact ⟨congrArg Prod.fst e, congrArg Prod.snd e⟩
theorem pile_spec (w : World) (text : Str) (t : Tok) (sz : Int) (tz : Tok) (hw : text.length ≤ 300) (hf : Fine text) (hsz : 0 ≤ sz ∧ sz ≤ 10000) (pl : Array Value) (hp : TriplesOk pl.toList) :
  Does PySem.Challenge.rw_wr0021_01.row.prog w (Mine.frag.heap_1 w.params) topProg (.ref 189) 40 400 [.str text t, .int sz tz] [(77, tabO pl)] (fun v nw => ∃ R S P dx tk n n2 ts, ∃ xs : List (Str × Tok), ∃ pl' tail, v = .ref R ∧ TriplesOk pl'.toList ∧ PcsAre ts (root (L text)).reverse ∧ xs.map (fun x => L x.1) = (List.range (text.length + 1)).map (fun i => (root ((L text).take i)).reverse) ∧
    nw = (77, tabO pl') :: (R, tupO (.ref P) (.ref S)) :: (S, listOf (strValues xs).toArray n2) :: (pile w 108 ⟨P, dx, sz, tk, tz⟩ ts n ++ tail)) := by
  have hC := lclsP w
  w_top off
  k_fill
  k_dflt (refine' does_of ?k1 ?k2 (fun _ kX => ?k3) ?k4 (by decide) (by decide) ?_ ?k5 ?k6 ?k7 ?k8; (case k1 => k_is); (case k2 => k_is); (case k3 => first | exact BindsTo.of_eq rfl | exact binds_K kX rfl (by k_is) rfl rfl rfl); (case k4 => exact locs rfl); (case k5 => decide); (case k6 => exact rfl); (case k7 => exact rfl); (case k8 => exact rfl)); intro loose mean mg mb dp un gd outer A₀ base g L' s₁ rest B F X N T G D hlt hdp hun; (try dsimp only); (try dsimp only [List.nil_append, List.cons_append] at N D hlt); have hL := F.ns.lt; (try (refine letA ?_; intro kA)); refine open_Q ?_; intro QB hQB
  have hGate : Gate "call ref" := ⟨⟩; have hGate : Gate "compareOp NotEq ref ref" := ⟨⟩; have hGate : Gate "call type:str" := ⟨⟩
  k_steps
  (repeat (with_reducible rename Gate _ => hG; clear hG))
  refine Stop.go ?_
  refine Does.at (make_spec w sz tz) B (by assumption) X (by assumption) T (by assumption) (by assumption) rfl _ (List.Perm.refl _) (by first | exact room1 (by assumption) (by decide) | exact room2 (by assumption) (by decide) | exact room3 (by assumption) (by decide) | (first | lia | omega)) (by first | exact room1 (by assumption) (by decide) | exact room2 (by assumption) (by decide) | exact room3 (by assumption) (by decide) | (first | lia | omega)) ?_
  rintro v s2 nw F2 N2 G2 ho2 D2 ⟨P, dx, tk0, n, rfl, rfl⟩
  have hGate : Gate "exec For Name Tuple cons nil" := ⟨⟩; have hGate : Gate "exec For" := ⟨⟩
  k_steps
  (repeat (with_reducible rename Gate _ => hG; clear hG))
  refine Stop.go ?_
  (rename Fr _ _ _ _ => F3)
  (rename News _ _ _ ((_, listOf _ 0) :: _) => N3)
  (rename ∀ p : Addr × Obj, p ∈ _ → p.1 < _ => l3)
  rename_i Sl _ _
  have D3 := DN.cons_of (o := listOf [.str (Str.ofString "") 0].toArray 0) D2 l3
  refine For_obl (h₀ := g) rfl ?_ (by intro _; rfl)
  have hGate : Gate "call ref" := ⟨⟩; have hGate : Gate "compareOp NotEq ref ref" := ⟨⟩; have hGate : Gate "call type:str" := ⟨⟩
  k_steps
  (repeat (with_reducible rename Gate _ => hG; clear hG))
  refine Stop.go ?_
  refine Does.at (pieces_spec w text t (Nat.le_trans hw (by decide))) B F3 X N3 T (by assumption) D3 rfl _ (List.Perm.refl _) (by first | exact room1 (by assumption) (by decide) | exact room2 (by assumption) (by decide) | exact room3 (by assumption) (by decide) | (first | lia | omega)) (by first | exact room1 (by assumption) (by decide) | exact room2 (by assumption) (by decide) | exact room3 (by assumption) (by decide) | (first | lia | omega)) ?_
  rintro v s4 nw F4 N4 G4 ho4 D4 ⟨Dl, us, rfl, rfl, hus⟩
  have hus : PcsAre us (L text) := hus
  have hul : us.length = text.length := by rw [hus.len, L_len]
  dsimp only [List.cons_append] at N4 D4
  refine ⟨[Dl], (Dl, LCg.lst (refs us)) :: us.map Pc.ent, us.length, _, _, _,
    fun i m' nw => ∃ n n2 ts, ∃ xs : List (Str × Tok), ∃ pl', nw = (Sl, listOf (strValues xs).toArray n2) :: (pile w 108 ⟨P, dx, sz, tk0, tz⟩ ts n ++ (77, tabO pl') :: rest) ∧ TriplesOk pl'.toList ∧ PcsAre ts (root ((L text).take i)).reverse ∧ xs.map (fun x => L x.1) = (List.range (i + 1)).map (fun i => (root ((L text).take i)).reverse) ∧
      m' "pile" = some (.ref P) ∧ m' "shown" = some (.ref Sl), fun i u m' z => if z = "part" then some (.str (us.getD i pc0).g (us.getD i pc0).tg) else if z = "fws" then some (.str (us.getD i pc0).f (us.getD i pc0).tf) else m' z,
    by rw [← refs_len us]; exact src_list ⟨_, (N4 _ (.head _)).1, rfl, _, rfl⟩, by simp, ⟨F4, N4, G4, rfl, D4⟩, ⟨n, 0, [], [(Str.ofString "", _)], pl, rfl, hp, rfl, by simp; decide +kernel, by ktr_unf, by ktr_unf⟩, ?_, ?_, ?_⟩
  · rintro I o i u m' nw s₂ Q' hP hi hJ S hpl h
    have hus2 : us[i]? = some (us.getD i pc0) := by rw [List.getD_eq_getElem?_getD, List.getElem?_eq_getElem hi]; rfl
    have hu : u = .ref (us.getD i pc0).T := by
      have e : (refs us)[i]? = some u := by rw [← List.getElem?_toArray]; exact hP
      unfold refs at e
      rw [List.getElem?_map, hus2] at e
      simpa using e.symm
    subst hu
    exact asg_pair rfl rfl rfl rfl S hpl (List.mem_append_left _ (.tail _ (List.mem_map.mpr ⟨_, List.mem_of_getElem? hus2, rfl⟩))) rfl ⟨_, rfl⟩ h
  · rintro I o i u m' nw s₂ hP hi ⟨n, n2, ts, xs, pl', rfl, hp', hts, hxs, hm1, hm2⟩ ⟨F5, N5, G5, ho5, D5⟩
    refine open_Q ?_
    intro QT hQT
    dsimp only [List.cons_append] at F5
    generalize hR : (I, o) :: (Dl, LCg.lst (refs us)) :: us.map Pc.ent ++ rest = R at *
    have pm : ((I, o) :: ((Dl, LCg.lst (refs us)) :: us.map Pc.ent) ++ (Sl, listOf (strValues xs).toArray n2) :: (pile w 108 ⟨P, dx, sz, tk0, tz⟩ ts n ++ (77, tabO pl') :: rest)).Perm (flat w ⟨P, dx, sz, tk0, tz⟩ ts n Sl xs n2 pl' R) := by rw [← hR]; exact (perm_of_cnt fun q => by simp only [pile, cnt_cons, cnt_app, cnt_nil, List.map_append, List.map_cons, List.map_nil, List.append_assoc, List.cons_append, List.nil_append, Nat.add_zero, Nat.zero_add] <;> first | ac_rfl | (first | lia | omega))
    have N6 := News.perm N5 pm
    have D6 := DN.perm D5 pm
    clear N5 D5 pm
    dsimp only [flat] at N6 D6
    have hil : i < (L text).length := by rw [L_len, ← hul]; exact hi
    obtain ⟨c, hc⟩ : ∃ c, (L text)[i]? = some c := ⟨_, List.getElem?_eq_getElem hil⟩
    have hpc := hus.at hc
    generalize us.getD i pc0 = pc at *
    have hrl : (root ((L text).take i)).length ≤ 300 := by have h1 := len_root ((L text).take i); rw [List.length_take, L_len] at h1; (first | lia | omega)
    have htl : ts.length ≤ 300 := by rw [hts.len, List.length_reverse]; exact hrl
    have hGate : Gate "call ref" := ⟨⟩; have hGate : Gate "compareOp NotEq ref ref" := ⟨⟩; have hGate : Gate "call type:str" := ⟨⟩
    k_steps
    (repeat (with_reducible rename Gate _ => hG; clear hG))
    refine Stop.go ?_
    refine Does.at (push_spec w ⟨P, dx, sz, tk0, tz⟩ ts n _ _ _ _ (by (first | lia | omega))) B F5 X N6 T G5 D6 rfl ((Sl, listOf (strValues xs).toArray n2) :: (77, tabO pl') :: R) (perm_of_cnt fun q => by simp only [pile, cnt_cons, cnt_app, cnt_nil, List.map_append, List.map_cons, List.map_nil, List.append_assoc, List.cons_append, List.nil_append, Nat.add_zero, Nat.zero_add] <;> first | ac_rfl | (first | lia | omega)) (by first | exact room1 (by assumption) (by decide) | exact room2 (by assumption) (by decide) | exact room3 (by assumption) (by decide) | (first | lia | omega)) (by first | exact room1 (by assumption) (by decide) | exact room2 (by assumption) (by decide) | exact room3 (by assumption) (by decide) | (first | lia | omega)) ?_
    rintro v s6 nw F6 N6 G6 ho6 D6 ⟨rfl, Tn, n', rfl⟩
    generalize hts' : ts ++ [Pc.mk Tn pc.f pc.tf pc.g pc.tg] = ts' at *
    have hpts : PcsAre ts' ((root ((L text).take i)).reverse ++ [c]) := by
      rw [← hts']
      refine hts.app ?_
      unfold PcsAre
      simp [hpc.1, hpc.2]
    have htl' : ts'.length ≤ 301 := by rw [← hts']; simp; (first | lia | omega)
    have pm : (pile w 108 ⟨P, dx, sz, tk0, tz⟩ ts' n' ++ (Sl, listOf (strValues xs).toArray n2) :: (77, tabO pl') :: R).Perm (flat w ⟨P, dx, sz, tk0, tz⟩ ts' n' Sl xs n2 pl' R) := (perm_of_cnt fun q => by simp only [pile, cnt_cons, cnt_app, cnt_nil, List.map_append, List.map_cons, List.map_nil, List.append_assoc, List.cons_append, List.nil_append, Nat.add_zero, Nat.zero_add] <;> first | ac_rfl | (first | lia | omega))
    have N7 := News.perm N6 pm
    have D7 := DN.perm D6 pm
    clear N6 D6 pm F5
    dsimp only [flat] at N7 D7
    have hGate : Gate "call ref" := ⟨⟩; have hGate : Gate "compareOp NotEq ref ref" := ⟨⟩; have hGate : Gate "call type:str" := ⟨⟩
    k_steps
    (repeat (with_reducible rename Gate _ => hG; clear hG))
    refine Stop.go ?_
    refine Does.str (str_spec w ⟨P, dx, sz, tk0, tz⟩ ts' n' pl' hp' (by (first | lia | omega)) (fun p hp => by have := hpts.sz p hp; (first | lia | omega))) (fun v nw h => ⟨_, _, h.1.choose_spec⟩) (acc_inst N7 (.head _) (.tail _ (.head _))) (by k_is) (by k_is) B F6 X N7 T G6 D7 rfl ((Sl, listOf (strValues xs).toArray n2) :: R) (perm_of_cnt fun q => by simp only [pile, cnt_cons, cnt_app, cnt_nil, List.map_append, List.map_cons, List.map_nil, List.append_assoc, List.cons_append, List.nil_append, Nat.add_zero, Nat.zero_add] <;> first | ac_rfl | (first | lia | omega)) (by first | exact room1 (by assumption) (by decide) | exact room2 (by assumption) (by decide) | exact room3 (by assumption) (by decide) | (first | lia | omega)) (by first | exact room1 (by assumption) (by decide) | exact room2 (by assumption) (by decide) | exact room3 (by assumption) (by decide) | (first | lia | omega)) ?_
    rintro y ty s8 nw F8 N8 G8 ho8 D8 ⟨⟨_, hy⟩, pl2, hp2, rfl⟩
    cases hy
    have hLy : L (shown ts') = (root ((L text).take i)).reverse ++ [c] := hpts.shown
    generalize hlying : shown ts' = lying at *
    have pm : ((77, tabO pl2) :: pile w 108 ⟨P, dx, sz, tk0, tz⟩ ts' n' ++ (Sl, listOf (strValues xs).toArray n2) :: R).Perm (flat w ⟨P, dx, sz, tk0, tz⟩ ts' n' Sl xs n2 pl2 R) := (perm_of_cnt fun q => by simp only [pile, cnt_cons, cnt_app, cnt_nil, List.map_append, List.map_cons, List.map_nil, List.append_assoc, List.cons_append, List.nil_append, Nat.add_zero, Nat.zero_add] <;> first | ac_rfl | (first | lia | omega))
    have N9 := News.perm N8 pm
    have D9 := DN.perm D8 pm
    clear N8 D8 pm N7 F6
    dsimp only [flat] at N9 D9
    have hGate : Gate "exec For Name Tuple cons nil" := ⟨⟩; have hGate : Gate "exec For" := ⟨⟩
    k_steps
    (repeat (with_reducible rename Gate _ => hG; clear hG))
    refine Stop.go ?_
    have hLen : lying.length = (root ((L text).take i)).length + 1 := by rw [← L_len, hLy]; simp
    have hcs : (L lying).reverse = c :: root ((L text).take i) := by rw [hLy]; simp
    have hOk := root_ok ((L text).take i)
    have hfly : Fine lying := fun b hb => by
      rw [hLy] at hb
      rcases List.mem_append.mp hb with h | h
      · exact hf b (List.mem_of_mem_take (mem_root (List.mem_reverse.mp h)))
      · rw [List.mem_singleton.mp h]; exact hf c (List.mem_of_getElem? hc)
    generalize hrt : root ((L text).take i) = rt at *
    refine For_obl (h₀ := g) rfl ?_ (by intro _; rfl)
    k_steps
    (rename Fr _ _ _ _ => F10)
    (rename News _ _ _ ((_, _) :: _) => N10)
    (rename AllBare _ => G10)
    (rename (_ ∧ _ ∧ _ ∧ _ ∧ AllLt _ _) => l10)
    rename_i T3 _
    obtain ⟨oT, ta, tb, tc, nT, N10, hcT, hdT⟩ : ∃ oT ta tb tc nT, News g L' _ ((T3, oT) :: flat w ⟨P, dx, sz, tk0, tz⟩ ts' n' Sl xs n2 pl2 R) ∧ oT.cls = .type "tuple" ∧ oT.data = .seq #[.int 1 ta, .int 2 tb, .int 3 tc] nT := ⟨_, _, _, _, _, N10, rfl, rfl⟩
    refine ⟨[_], [_], _, _, _, _, fun j m' nw' => ∃ n3 ts2, nw' = flat w ⟨P, dx, sz, tk0, tz⟩ ts2 n3 Sl xs n2 pl2 R ∧ PcsAre ts2 (ps (c :: rt) j).reverse ∧ m' "pile" = some (.ref P) ∧ m' "shown" = some (.ref Sl) ∧ m' "lying" = some (.str lying ty), _, src_tuple ⟨_, (N10 _ (.head _)).1, hcT, _, hdT⟩, (by simp), ⟨F10, N10, G10, rfl, D9.more l10⟩,
      ⟨n', ts', rfl, by unfold ps; rw [List.reverse_cons]; exact hpts, by ktr_unf, by ktr_unf, by ktr_unf⟩,
      fun I o i u m' nw s₂ Q' hP hi hJ S _ h => asg_name rfl rfl S h, ?_, ?_⟩
    · rintro I2 o2 j u2 m2 nw2 s11 hP2 hj ⟨n3, ts2, rfl, hts2, hm21, hm22, hm23⟩ ⟨F11, N11, G11, ho11, D11⟩
      refine open_Q ?_
      intro QT2 hQT2
      dsimp only [List.cons_append, List.nil_append] at N11 D11
      have hj3 : j < 3 := hj
      obtain ⟨tu2, rfl⟩ : ∃ tu2, u2 = .int (((j + 1 : Nat)) : Int) tu2 := by
        rcases one_two_three hP2 with ⟨rfl, rfl⟩ | ⟨rfl, rfl⟩ | ⟨rfl, rfl⟩ <;> exact ⟨_, rfl⟩
      have hll : lying.length ≤ 301 := by (first | lia | omega)
      k_steps
      · (rename Fr _ _ _ _ => F12)
        (rename News _ _ _ _ => N12)
        (rename AllBare _ => G12)
        (rename (_ : OsState) = _ => ho12)
        (rename DN _ => D12)
        (rename ellM _ _ = true => he)
        rw [ell_back hfly.nodot (j + 1) (by (first | lia | omega)), hcs] at he
        have hps := ps_before hOk hj3 he
        have hkl : j + 1 ≤ (c :: rt).length := by
          have := ((front_stut (l := c :: rt) (by simp) (by (first | lia | omega))).mp he).1; (first | lia | omega)
        have hkl' : j + 1 ≤ lying.length := by rw [hLen]; simpa using hkl
        rw [hps, ← hcs, List.reverse_reverse] at hts2
        have hts2l := hts2.len
        have hll2 : (L lying).length = lying.length := L_len _
        obtain ⟨ini, lst, hini, rfl⟩ : ∃ ini lst, ini.length = lying.length - (j + 1) ∧ ts2 = ini ++ lst := ⟨ts2.take (lying.length - (j + 1)), ts2.drop (lying.length - (j + 1)), by rw [List.length_take]; (first | lia | omega), (List.take_append_drop _ _).symm⟩
        have hpi : PcsAre ini ((L lying).take (lying.length - (j + 1))) := by have h := hts2.take (lying.length - (j + 1)); rwa [List.take_left' hini] at h
        have hpl : PcsAre lst ((L lying).drop (lying.length - (j + 1))) := by have h := hts2.drop (lying.length - (j + 1)); rwa [List.drop_left' hini] at h
        have hii : (((ini ++ lst).length : Nat) : Int) - ((j + 1 : Nat) : Int) = (ini.length : Int) := by (first | lia | omega)
        show wpAny _ _ (call (.ref 105) [.ref P]) _ _ _
        refine Does.at (count_spec w ⟨P, dx, sz, tk0, tz⟩ (ini ++ lst) n3) B F12 X N12 T G12 D12 rfl ((I2, o2) :: (T3, oT) :: (Sl, listOf (strValues xs).toArray n2) :: (77, tabO pl2) :: R) (perm_of_cnt fun q => by simp only [pile, cnt_cons, cnt_app, cnt_nil, List.map_append, List.map_cons, List.map_nil, List.append_assoc, List.cons_append, List.nil_append, Nat.add_zero, Nat.zero_add] <;> first | ac_rfl | (first | lia | omega)) (by first | exact room1 (by assumption) (by decide) | exact room2 (by assumption) (by decide) | exact room3 (by assumption) (by decide) | (first | lia | omega)) (by first | exact room1 (by assumption) (by decide) | exact room2 (by assumption) (by decide) | exact room3 (by assumption) (by decide) | (first | lia | omega)) ?_
        rintro v s13 nw F13 N13 G13 ho13 D13 ⟨⟨t13, rfl⟩, rfl⟩
        have hGate : Gate "call ref" := ⟨⟩; have hGate : Gate "compareOp NotEq ref ref" := ⟨⟩; have hGate : Gate "call type:str" := ⟨⟩
        k_steps
        (repeat (with_reducible rename Gate _ => hG; clear hG))
        refine Stop.go ?_
        refine Does.at (popf_spec w ⟨P, dx, sz, tk0, tz⟩ ini lst n3 _ _ hii (by (first | lia | omega))) B F13 X N13 T G13 D13 rfl ((I2, o2) :: (T3, oT) :: (Sl, listOf (strValues xs).toArray n2) :: (77, tabO pl2) :: R) (perm_of_cnt fun q => by simp only [pile, cnt_cons, cnt_app, cnt_nil, List.map_append, List.map_cons, List.map_nil, List.append_assoc, List.cons_append, List.nil_append, Nat.add_zero, Nat.zero_add] <;> first | ac_rfl | (first | lia | omega)) (by first | exact room1 (by assumption) (by decide) | exact room2 (by assumption) (by decide) | exact room3 (by assumption) (by decide) | (first | lia | omega)) (by first | exact room1 (by assumption) (by decide) | exact room2 (by assumption) (by decide) | exact room3 (by assumption) (by decide) | (first | lia | omega)) ?_
        rintro v s14 nw F14 N14 G14 ho14 D14 ⟨lp, n4, rfl, rfl⟩
        have hGate : Gate "call ref" := ⟨⟩; have hGate : Gate "compareOp NotEq ref ref" := ⟨⟩; have hGate : Gate "call type:str" := ⟨⟩
        k_steps
        (repeat (with_reducible rename Gate _ => hG; clear hG))
        refine Stop.go ?_
        (rename Fr _ _ _ _ => F15)
        (rename News _ _ _ _ => N15)
        refine Does.at (pieces_spec w _ _ (Nat.le_trans (le_slice hll) (by decide))) B F15 X N15 T G14 D14 rfl _ (List.Perm.refl _) (by first | exact room1 (by assumption) (by decide) | exact room2 (by assumption) (by decide) | exact room3 (by assumption) (by decide) | (first | lia | omega)) (by first | exact room1 (by assumption) (by decide) | exact room2 (by assumption) (by decide) | exact room3 (by assumption) (by decide) | (first | lia | omega)) ?_
        rintro v s16 nw F16 N16 G16 ho16 D16 ⟨lq, vs, rfl, rfl, hvs⟩
        have hvs : PcsAre vs ((L lying).drop (lying.length - (j + 1))) := by rw [← L_last lying (j + 1) (by (first | lia | omega))]; exact hvs
        have hfin : ∀ b ∈ (L lying).drop (lying.length - (j + 1)), b < 60000 := fun b hb => (hfly b (List.mem_of_mem_drop hb)).2
        have hGate : Gate "call ref" := ⟨⟩; have hGate : Gate "compareOp NotEq ref ref" := ⟨⟩; have hGate : Gate "call type:str" := ⟨⟩
        k_steps
        (repeat (with_reducible rename Gate _ => hG; clear hG))
        refine Stop.go ?_
        refine ne_pcs (t1 := lst) (t2 := vs) (N16 _ (List.mem_append_right _ (List.mem_append_left _ (.head _)))).1 rfl rfl (fun p hp => (N16 _ (List.mem_append_right _ (List.mem_append_left _ (.tail _ (List.mem_append_left _ (List.mem_map.mpr ⟨p, hp, rfl⟩)))))).1)
          (N16 _ (.head _)).1 rfl rfl (fun p hp => (N16 _ (.tail _ (List.mem_append_left _ (List.mem_map.mpr ⟨p, hp, rfl⟩)))).1) (hpl.ok hfin) (hvs.ok hfin) (by show un + 64 < cLine; (first | lia | omega)) ?_
        rw [hpl.fg_eq hvs]
        simp only [decide_true, Bool.not_true]
        k_steps
        have hsub : ∃ r, ((lq, LCg.lst (refs vs)) :: vs.map Pc.ent ++ ((lp, listOf (refs lst).toArray 0) :: (lst.map Pc.ent ++ pile w 108 ⟨P, dx, sz, tk0, tz⟩ ini n4) ++ ((I2, o2) :: (T3, oT) :: (Sl, listOf (strValues xs).toArray n2) :: (77, tabO pl2) :: R))).Perm (r ++ ([(I2, o2), (T3, oT)] ++ flat w ⟨P, dx, sz, tk0, tz⟩ ini n4 Sl xs n2 pl2 R)) :=
          ⟨(lq, LCg.lst (refs vs)) :: vs.map Pc.ent ++ (lp, listOf (refs lst).toArray 0) :: lst.map Pc.ent, (perm_of_cnt fun q => by simp only [pile, cnt_cons, cnt_app, cnt_nil, List.map_append, List.map_cons, List.map_nil, List.append_assoc, List.cons_append, List.nil_append, Nat.add_zero, Nat.zero_add] <;> first | ac_rfl | (first | lia | omega))⟩
        subst hQT2
        refine ⟨_, _, ⟨F16, sub_nw N16 hsub, G16, ho16.trans (ho14.trans (ho13.trans (ho12.trans ho11))), sub_dn D16 hsub⟩, n4, ini, rfl, ?_, by ktr_unf, by ktr_unf, by ktr_unf⟩
        have e : ps (c :: rt) (j + 1) = (ps (c :: rt) j).drop (j + 1) := by
          show (if _ then _ else _) = _
          rw [if_pos he]
        rw [e, hps, ← hcs, List.drop_reverse, List.reverse_reverse, hll2]
        exact hpi
      · (rename Fr _ _ _ _ => F12)
        (rename News _ _ _ _ => N12)
        (rename AllBare _ => G12)
        (rename (_ : OsState) = _ => ho12)
        (rename DN _ => D12)
        (rename ellM _ _ = false => he)
        rw [ell_back hfly.nodot (j + 1) (by (first | lia | omega)), hcs] at he
        subst hQT2
        refine ⟨_, _, ⟨F12, N12, G12, ho12.trans ho11, D12⟩, n3, ts2, rfl, ?_, by ktr_unf, by ktr_unf, by ktr_unf⟩
        have e : ps (c :: rt) (j + 1) = ps (c :: rt) j := by
          show (if _ then _ else _) = _
          rw [if_neg (by rw [he]; decide)]
        rw [e]
        exact hts2
    · rintro m2 nw2 s11 ⟨n3, ts2, rfl, hts2, hm21, hm22, hm23⟩ ⟨F11, N11, G11, ho11, D11⟩
      dsimp only [List.cons_append, List.nil_append] at N11 D11
      have N11 : News _ _ _ (flat w ⟨P, dx, sz, tk0, tz⟩ ts2 n3 Sl xs n2 pl2 R) := fun q hq => N11 q (.tail _ hq)
      have D11 : DN (flat w ⟨P, dx, sz, tk0, tz⟩ ts2 n3 Sl xs n2 pl2 R) := D11.tail
      have hts2 : PcsAre ts2 (push c rt).reverse := by rw [← (ps_all hOk).1]; exact hts2
      have hpush := len_push c rt
      have hl2 : ts2.length ≤ 302 := by rw [hts2.len, List.length_reverse]; (first | lia | omega)
      have hGate : Gate "call ref" := ⟨⟩; have hGate : Gate "compareOp NotEq ref ref" := ⟨⟩; have hGate : Gate "call type:str" := ⟨⟩
      k_steps
      (repeat (with_reducible rename Gate _ => hG; clear hG))
      refine Stop.go ?_
      refine Does.str (str_spec w ⟨P, dx, sz, tk0, tz⟩ ts2 n3 pl2 hp2 (by (first | lia | omega)) (fun p hp => by have := hts2.sz p hp; (first | lia | omega))) (fun v nw h => ⟨_, _, h.1.choose_spec⟩) (acc_inst N11 (.head _) (.tail _ (.head _))) (by k_is) (by k_is) B F11 X N11 T G11 D11 rfl ((Sl, listOf (strValues xs).toArray n2) :: R) (perm_of_cnt fun q => by simp only [pile, cnt_cons, cnt_app, cnt_nil, List.map_append, List.map_cons, List.map_nil, List.append_assoc, List.cons_append, List.nil_append, Nat.add_zero, Nat.zero_add] <;> first | ac_rfl | (first | lia | omega)) (by first | exact room1 (by assumption) (by decide) | exact room2 (by assumption) (by decide) | exact room3 (by assumption) (by decide) | (first | lia | omega)) (by first | exact room1 (by assumption) (by decide) | exact room2 (by assumption) (by decide) | exact room3 (by assumption) (by decide) | (first | lia | omega)) ?_
      rintro y2 ty2 s12 nw F12 N12 G12 ho12 D12 ⟨⟨_, hy2⟩, pl3, hp3, rfl⟩
      cases hy2
      have hLy2 : L (shown ts2) = (push c rt).reverse := hts2.shown
      generalize shown ts2 = y2 at *
      have pm : ((77, tabO pl3) :: pile w 108 ⟨P, dx, sz, tk0, tz⟩ ts2 n3 ++ (Sl, listOf (strValues xs).toArray n2) :: R).Perm (flat w ⟨P, dx, sz, tk0, tz⟩ ts2 n3 Sl xs n2 pl3 R) := (perm_of_cnt fun q => by simp only [pile, cnt_cons, cnt_app, cnt_nil, List.map_append, List.map_cons, List.map_nil, List.append_assoc, List.cons_append, List.nil_append, Nat.add_zero, Nat.zero_add] <;> first | ac_rfl | (first | lia | omega))
      have N13 := News.perm N12 pm
      have D13 := DN.perm D12 pm
      clear N12 D12 pm F11
      dsimp only [flat] at N13 D13
      have hxl : xs.length ≤ 301 := by
        have := congrArg List.length hxs
        simp at this; (first | lia | omega)
      k_steps
      refine append_K (hsz := ?hsz) F12 N13 (upd_dn D13 (.tail (.tail .head))) ?_
      case hsz => rw [sizeLine_eq]; simp [strValues]; (first | lia | omega)
      intro h14 F14 N14
      have exs : listOf ((strValues xs).toArray.push (.str y2 ty2)) (n2 + 1) = listOf (strValues (xs ++ [(y2, ty2)])).toArray (n2 + 1) := by rw [List.push_toArray, strVals_app]; rfl
      rw [exs] at N14
      k_steps
      have D14 : DN (flat w ⟨P, dx, sz, tk0, tz⟩ ts2 n3 Sl (xs ++ [(y2, ty2)]) (n2 + 1) pl3 R) := D13
      have pm : (flat w ⟨P, dx, sz, tk0, tz⟩ ts2 n3 Sl (xs ++ [(y2, ty2)]) (n2 + 1) pl3 R).Perm ((I, o) :: (Dl, LCg.lst (refs us)) :: us.map Pc.ent ++ ((Sl, listOf (strValues (xs ++ [(y2, ty2)])).toArray (n2 + 1)) :: (pile w 108 ⟨P, dx, sz, tk0, tz⟩ ts2 n3 ++ (77, tabO pl3) :: rest))) := by
        rw [← hR]; exact (perm_of_cnt fun q => by simp only [pile, cnt_cons, cnt_app, cnt_nil, List.map_append, List.map_cons, List.map_nil, List.append_assoc, List.cons_append, List.nil_append, Nat.add_zero, Nat.zero_add] <;> first | ac_rfl | (first | lia | omega))
      have hstep : root ((L text).take (i + 1)) = push c rt := by rw [List.take_add_one, hc]; show root (_ ++ [c]) = _; rw [root_snoc, hrt]
      subst hQT
      refine ⟨_, _, ⟨F14, News.perm N14 pm, G12, ho12.trans (ho11.trans (ho8.trans (ho6.trans ho5))), DN.perm D14 pm⟩, n3, n2 + 1, ts2, xs ++ [(y2, ty2)], pl3, rfl, hp3, by rw [hstep]; exact hts2, ?_, by ktr_unf, by ktr_unf⟩
      rw [List.map_append, hxs, List.range_succ (n := i + 1), List.map_append]
      simp only [List.map_cons, List.map_nil, hLy2, hstep]
  · rintro m' nw s₂ ⟨n, n2, ts, xs, pl', rfl, hp', hts, hxs, hm1, hm2⟩ ⟨F5, N5, G5, ho5, D5⟩
    dsimp only [List.cons_append] at N5 D5
    k_steps
    (rename Fr _ _ _ _ => F6)
    (rename News _ _ _ ((_, tupO _ _) :: _) => N6)
    (rename (_ ∧ AllLt _ _) => l6)
    have D6 := fun o => D5.more (o := o) l6
    rename_i Tt _
    have pm : ((Tt, tupO (.ref P) (.ref Sl)) :: (Dl, LCg.lst (refs us)) :: (us.map Pc.ent ++ (Sl, listOf (strValues xs).toArray n2) :: (pile w 108 ⟨P, dx, sz, tk0, tz⟩ ts n ++ (77, tabO pl') :: rest))).Perm (((77, tabO pl') :: (Tt, tupO (.ref P) (.ref Sl)) :: (Sl, listOf (strValues xs).toArray n2) :: (pile w 108 ⟨P, dx, sz, tk0, tz⟩ ts n ++ (Dl, LCg.lst (refs us)) :: us.map Pc.ent)) ++ rest) := (perm_of_cnt fun q => by simp only [pile, cnt_cons, cnt_app, cnt_nil, List.map_append, List.map_cons, List.map_nil, List.append_assoc, List.cons_append, List.nil_append, Nat.add_zero, Nat.zero_add] <;> first | ac_rfl | (first | lia | omega))
    subst hQB; refine BodyPost.mk _ F6 (News.perm N6 pm) G5 (ho5.trans (ho4.trans ho2)) (DN.perm (D6 _) pm) ⟨Tt, Sl, P, dx, tk0, n, n2, ts, xs, pl', _, rfl, hp', ?_, ?_, rfl⟩
    · rw [List.take_of_length_le (by rw [L_len, hul]; exact Nat.le_refl _)] at hts; exact hts
    · rw [hxs, hul]
end Mine
end
section
open PySem PySem.W PyProof.Rows
open Mine
-- a name of the block
local macro_rules | `(tactic| walk_at "eval Name") => `(tactic| (k_here; (with_reducible show wpAny _ _ (eval (Expr.Name _ _) (compEnvC _ _ _ _)) _ _ _); k_dflt (refine blk_own (by rfl) (by rfl) (by decide) (by k_asm) (by k_mem) (by assumption) (by ktr_units) ?_; k_whole)))
-- a cell of the frame
local macro_rules | `(tactic| walk_at "eval Name") => `(tactic| (k_here; (with_reducible show wpAny _ _ (eval (Expr.Name _ _) (envOfC _ _ _ _ _)) _ _ _); k_dflt (refine nm_cell (by rfl) (by rfl) (by rfl) (by decide) (by k_asm) (by k_mem) (by assumption) ?_; k_whole)))
-- a name of a frame with cells
local macro_rules | `(tactic| walk_at "eval Name") => `(tactic| (k_here; (with_reducible show wpAny _ _ (eval (Expr.Name _ _) (envOfC _ _ _ _ _)) _ _ _); k_dflt (refine nm_C (by rfl) (by rfl) (by decide) (by k_asm) (by ktr_units) ?_; k_whole)))
section
open PySem PySem.W PyProof.Rows
set_option maxRecDepth 100000
set_option maxHeartbeats 8000000
namespace Mine
theorem lclsG (w : World) : LCls (Mine.frag.heap_1 w.params) 108 := ⟨by kernel_rfl, by kernel_rfl, by kernel_rfl, by kernel_rfl⟩
theorem total_shown : ∀ ts : List Pc, total ts = (L (shown ts)).length
  | [] => rfl
  | p :: r => by
    have ih := total_shown r
    unfold total shown L at ih ⊢
    simp only [List.map_cons, List.sum_cons, List.flatten_cons, List.length_append] at ih ⊢
    rw [ih, len_list, len_list]
theorem Px.Ok.tl {Z : Px} {P : Pm} (h : Z.Ok P) : Z.ts.length = Z.rt.length ∧ total Z.ts = Z.rt.length := by
  have h1 := h.pcs.len
  have h2 := h.pcs.shown
  rw [← h.rt] at h1 h2
  rw [L_len] at h1
  refine ⟨h1, ?_⟩
  rw [total_shown, h2, L_len]
theorem law_g (w : World) (Sl : Addr) (so : Obj) (P : Pm) (hP : P.Ok) (Z : Px) (hZ : Z.Ok P)
  (next : LawFrom PySem.Challenge.rw_wr0021_01.row.prog w (Mine.frag.heap_1 w.params) 213 12 Sl so 70 77 50 500 (st2 w 108 70 77 P Z)) :
  LawFrom PySem.Challenge.rw_wr0021_01.row.prog w (Mine.frag.heap_1 w.params) 213 11 Sl so 70 77 50 500 (st2 w 108 70 77 P Z) := by
  have hC := lclsG w
  w_top off
  k_fill
  refine law_from (by k_is) ?_
  rintro loose mean mg mb dp un gd A₀ g L' fa ccd m led os s₁ Q E B X O T S ⟨Hm, Hz, oP, oL, pl, pl', dP, dL, hpl, hpl', rfl⟩ hdp hun hret
  have hm2 := Hm.total
  have hm4 := Hz.root
  have hlen := hZ.len hP
  obtain ⟨htl, htt⟩ := hZ.tl
  have hsz := hZ.size
  have ht4 : ((P.tot : Nat) : Int).fmod 4 = ((P.tot % 4 : Nat) : Int) := by rw [Int.fmod_eq_emod_of_nonneg _ (by decide)]; (first | lia | omega)
  obtain ⟨F, N, G, ho, D⟩ : LoopSt g L' os s₁ m ((L' + 1 + 1, oP) :: (L' + 1, oL) :: (Z.at_.P, accO 108 Z.at_.dx (refs Z.ts).toArray Z.n) :: (Z.at_.dx, sizeD w Z.at_.sz Z.at_.tk Z.at_.tz) :: (Z.S, listOf (strValues Z.ss).toArray Z.n2) :: (70, tabO pl) :: (77, tabO pl') :: (P.Nl, listOf (ivals P.xs).toArray P.nn) :: (P.Ll, listOf [Value.str P.a P.ta, Value.str P.b P.tb, Value.str P.c P.tc].toArray P.n3) :: Z.ts.map Pc.ent) := S.perm (perm_of_cnt fun q => by simp only [pile, cnt_cons, cnt_app, cnt_nil, List.map_append, List.map_cons, List.map_nil, List.append_assoc, List.cons_append, List.nil_append, Nat.add_zero, Nat.zero_add] <;> first | ac_rfl | (first | lia | omega))
  dsimp only [List.drop]
  (try (refine letA ?_; intro kA))
  have hGate : Gate "call builtin:len" := ⟨⟩
  k_steps
  (repeat (with_reducible rename Gate _ => hG; clear hG))
  refine Stop.go ?_
  have hsz2 : 0 ≤ Z.at_.sz ∧ Z.at_.sz ≤ 10000 := by (first | lia | omega)
  have hts2 : Z.ts.length ≤ 900 := by (first | lia | omega)
  have hpc2 : ∀ p ∈ Z.ts, p.f.length ≤ 1000 ∧ p.g.length ≤ 1000 := fun p hp => by have := hZ.pcs.sz p hp; (first | lia | omega)
  have hb1 : 0 ≤ Z.at_.sz + (total Z.ts : Nat) := by (first | lia | omega)
  have hb2 : Z.at_.sz + (total Z.ts : Nat) < 2 ^ 63 := by (first | lia | omega)
  refine Does.len (len_spec w Z.at_ Z.ts Z.n pl hpl hsz2 hts2 hpc2) (fun v nw h => by obtain ⟨⟨t, rfl⟩, _⟩ := h; exact ⟨_, _, rfl, hb1, hb2⟩) (acc_inst N (.tail _ (.tail _ (.head _))) (.tail _ (.tail _ (.tail _ (.head _))))) (by k_is) (by k_is) B F X N T G D rfl ((Z.S, listOf (strValues Z.ss).toArray Z.n2) :: (L' + 1 + 1, oP) :: (L' + 1, oL) :: (77, tabO pl') :: (P.Nl, listOf (ivals P.xs).toArray P.nn) :: (P.Ll, listOf [Value.str P.a P.ta, Value.str P.b P.tb, Value.str P.c P.tc].toArray P.n3) :: []) (perm_of_cnt fun q => by simp only [pile, cnt_cons, cnt_app, cnt_nil, List.map_append, List.map_cons, List.map_nil, List.append_assoc, List.cons_append, List.nil_append, Nat.add_zero, Nat.zero_add] <;> first | ac_rfl | (first | lia | omega)) (by first | exact room1 (by assumption) (by decide) | exact room2 (by assumption) (by decide) | exact room3 (by assumption) (by decide) | (first | lia | omega)) (by first | exact room1 (by assumption) (by decide) | exact room2 (by assumption) (by decide) | exact room3 (by assumption) (by decide) | (first | lia | omega)) ?_
  rintro n2 t2 t2' s2 nw F2 N2 G2 ho2 D2 ⟨⟨t3, hn⟩, pl2, hpl2, rfl⟩
  cases hn
  have hp2 : ((70, tabO pl2) :: pile w 108 Z.at_ Z.ts Z.n ++ (Z.S, listOf (strValues Z.ss).toArray Z.n2) :: (L' + 1 + 1, oP) :: (L' + 1, oL) :: (77, tabO pl') :: (P.Nl, listOf (ivals P.xs).toArray P.nn) :: (P.Ll, listOf [Value.str P.a P.ta, Value.str P.b P.tb, Value.str P.c P.tc].toArray P.n3) :: []).Perm ((L' + 1 + 1, oP) :: (L' + 1, oL) :: (Z.at_.P, accO 108 Z.at_.dx (refs Z.ts).toArray Z.n) :: (Z.at_.dx, sizeD w Z.at_.sz Z.at_.tk Z.at_.tz) :: (Z.S, listOf (strValues Z.ss).toArray Z.n2) :: (70, tabO pl2) :: (77, tabO pl') :: (P.Nl, listOf (ivals P.xs).toArray P.nn) :: (P.Ll, listOf [Value.str P.a P.ta, Value.str P.b P.tb, Value.str P.c P.tc].toArray P.n3) :: Z.ts.map Pc.ent) := (perm_of_cnt fun q => by simp only [pile, cnt_cons, cnt_app, cnt_nil, List.map_append, List.map_cons, List.map_nil, List.append_assoc, List.cons_append, List.nil_append, Nat.add_zero, Nat.zero_add] <;> first | ac_rfl | (first | lia | omega))
  replace N2 := Mine.News.perm N2 hp2
  replace D2 := D2.perm hp2
  clear F N hp2
  have hGate : Gate "call ref" := ⟨⟩
  k_steps
  (repeat (with_reducible rename Gate _ => hG; clear hG))
  refine Stop.go ?_
  refine Does.at (count_spec w Z.at_ Z.ts Z.n) B (by assumption) X (by assumption) T (by assumption) D2 rfl ((Z.S, listOf (strValues Z.ss).toArray Z.n2) :: (L' + 1 + 1, oP) :: (L' + 1, oL) :: (70, tabO pl2) :: (77, tabO pl') :: (P.Nl, listOf (ivals P.xs).toArray P.nn) :: (P.Ll, listOf [Value.str P.a P.ta, Value.str P.b P.tb, Value.str P.c P.tc].toArray P.n3) :: []) (perm_of_cnt fun q => by simp only [pile, cnt_cons, cnt_app, cnt_nil, List.map_append, List.map_cons, List.map_nil, List.append_assoc, List.cons_append, List.nil_append, Nat.add_zero, Nat.zero_add] <;> first | ac_rfl | (first | lia | omega)) (by first | exact room1 (by assumption) (by decide) | exact room2 (by assumption) (by decide) | exact room3 (by assumption) (by decide) | (first | lia | omega)) (by first | exact room1 (by assumption) (by decide) | exact room2 (by assumption) (by decide) | exact room3 (by assumption) (by decide) | (first | lia | omega)) ?_
  rintro v s3 nw F3 N3 G3 ho3 D3 ⟨⟨t4, rfl⟩, rfl⟩
  have hp3 : (pile w 108 Z.at_ Z.ts Z.n ++ (Z.S, listOf (strValues Z.ss).toArray Z.n2) :: (L' + 1 + 1, oP) :: (L' + 1, oL) :: (70, tabO pl2) :: (77, tabO pl') :: (P.Nl, listOf (ivals P.xs).toArray P.nn) :: (P.Ll, listOf [Value.str P.a P.ta, Value.str P.b P.tb, Value.str P.c P.tc].toArray P.n3) :: []).Perm ((L' + 1 + 1, oP) :: (L' + 1, oL) :: (Z.at_.P, accO 108 Z.at_.dx (refs Z.ts).toArray Z.n) :: (Z.at_.dx, sizeD w Z.at_.sz Z.at_.tk Z.at_.tz) :: (Z.S, listOf (strValues Z.ss).toArray Z.n2) :: (70, tabO pl2) :: (77, tabO pl') :: (P.Nl, listOf (ivals P.xs).toArray P.nn) :: (P.Ll, listOf [Value.str P.a P.ta, Value.str P.b P.tb, Value.str P.c P.tc].toArray P.n3) :: Z.ts.map Pc.ent) := (perm_of_cnt fun q => by simp only [pile, cnt_cons, cnt_app, cnt_nil, List.map_append, List.map_cons, List.map_nil, List.append_assoc, List.cons_append, List.nil_append, Nat.add_zero, Nat.zero_add] <;> first | ac_rfl | (first | lia | omega))
  replace N3 := Mine.News.perm N3 hp3
  replace D3 := D3.perm hp3
  clear F2 N2 hp3
  rw [htl, htt, hsz]
  have hGate : Gate "compareOp NotEq ref ref" := ⟨⟩
  k_steps
  (repeat (with_reducible rename Gate _ => hG; clear hG))
  refine Stop.go ?_
  (rename News _ _ _ _ => N4)
  have r1 := reads_list_at (h := _) (N4 _ (.tail _ (.head _))).1 rfl rfl (.cons (.int _ _) (.cons (.int _ _) .nil))
  have r2 := reads_list_at (h := _) (N4 _ (.head _)).1 rfl rfl (.cons (.int _ _) (.cons (.int _ _) .nil))
  rw [ht4] at r2
  refine ne_same r1 r2 ?_ rfl (by show un + 64 < cLine; (first | lia | omega)) ?_
  · unfold PySem.SeqAt.shaped
    simp [PyData.canLay0, PyData.canLayAll0, PyData.depth, PyData.depthAll]
  clear r1 r2
  have hGate : Gate "execs cons" := ⟨⟩
  k_steps
  (repeat (with_reducible rename Gate _ => hG; clear hG))
  refine Stop.go ?_
  dsimp only
  (rename Fr _ _ _ _ => F5)
  refine LawFrom.go next (by k_is) rfl B X O T (by exact LoopSt.perm ⟨F5, fun q hq => N4 q (.tail _ (.tail _ hq)), G3, ho3.trans (ho2.trans ho), D3⟩ (perm_of_cnt fun q => by simp only [pile, cnt_cons, cnt_app, cnt_nil, List.map_append, List.map_cons, List.map_nil, List.append_assoc, List.cons_append, List.nil_append, Nat.add_zero, Nat.zero_add] <;> first | ac_rfl | (first | lia | omega))) ⟨Hm, Hz, oP, oL, pl2, pl', dP, dL, hpl2, hpl', rfl⟩ hdp hun hret
end Mine
end
section
open PySem PySem.W PyProof.Rows
set_option maxRecDepth 100000
set_option maxHeartbeats 8000000
namespace Mine
theorem pc_of {h : Heap} {T : Addr} {f g : Str} {t1 t2 : Tok} (e : h.get? T = some (tupO (.str f t1) (.str g t2))) : ∃ q : Pc, q.T = T ∧ q.f = f ∧ q.g = g ∧ h.get? T = some q.ent.2 := ⟨⟨T, f, t1, g, t2⟩, rfl, rfl, rfl, e⟩
theorem lclsH (w : World) : LCls (Mine.frag.heap_1 w.params) 108 := ⟨by kernel_rfl, by kernel_rfl, by kernel_rfl, by kernel_rfl⟩
theorem law_h (w : World) (Sl : Addr) (so : Obj) (P : Pm) (hP : P.Ok) (Z : Px) (hZ : Z.Ok P)
  (next : LawFromT PySem.Challenge.rw_wr0021_01.row.prog w (Mine.frag.heap_1 w.params) 213 13 Sl so 70 77 50 500 (st3 70 77 P Z)) :
  LawFrom PySem.Challenge.rw_wr0021_01.row.prog w (Mine.frag.heap_1 w.params) 213 12 Sl so 70 77 50 500 (st2 w 108 70 77 P Z) := by
  have hC := lclsH w
  w_top off
  k_fill
  refine law_from (by k_is) ?_
  rintro loose mean mg mb dp un gd A₀ g L' fa ccd m led os s₁ Q E B X O T S ⟨Hm, Hz, oP, oL, pl, pl', dP, dL, hpl, hpl', rfl⟩ hdp hun hret
  have hm4 := Hz.root
  have hlen := hZ.len hP
  have htl : Z.ts.length = Z.rt.length := by rw [hZ.pcs.len, ← hZ.rt, L_len]
  obtain ⟨F, N, G, ho, D⟩ : LoopSt g L' os s₁ m ((L' + 1 + 1, oP) :: (L' + 1, oL) :: (Z.S, listOf (strValues Z.ss).toArray Z.n2) :: (70, tabO pl) :: (77, tabO pl') :: (P.Nl, listOf (ivals P.xs).toArray P.nn) :: (P.Ll, listOf [Value.str P.a P.ta, Value.str P.b P.tb, Value.str P.c P.tc].toArray P.n3) :: pile w 108 Z.at_ Z.ts Z.n) := S.perm (perm_of_cnt fun q => by simp only [pile, cnt_cons, cnt_app, cnt_nil, List.map_append, List.map_cons, List.map_nil, List.append_assoc, List.cons_append, List.nil_append, Nat.add_zero, Nat.zero_add] <;> first | ac_rfl | (first | lia | omega))
  dsimp only [List.drop]
  (try (refine letA ?_; intro kA))
  have hGate : Gate "eval ListComp" := ⟨⟩
  k_steps
  (repeat (with_reducible rename Gate _ => hG; clear hG))
  refine Stop.go ?_
  refine Comp_obl F rfl (by with_unfolding_all rfl) (fun I C D => turn_one ..) ?_ (by decide) rfl (by decide) (by intro _; rfl)
  k_steps
  (rename _ ∧ _ => hxl)
  have hq1 : (Str.ofString "\"").length = 1 := by decide +kernel
  rw [hq1] at hxl
  generalize Z.rt ++ Str.ofString "\"" = x at *
  have hxn : x.cps.size = Z.rt.length + 1 := by have : x.cps.size = x.length := rfl; (first | lia | omega)
  clear hq1 hxl
  let nwOf : List Pc → Nat → List Pc → Led := fun us n' ps => (L' + 1 + 1, oP) :: (L' + 1, oL) :: (Z.at_.P, accO 108 Z.at_.dx (refs ps).toArray n') :: (Z.at_.dx, sizeD w Z.at_.sz Z.at_.tk Z.at_.tz) :: (Z.S, listOf (strValues Z.ss).toArray Z.n2) :: (70, tabO pl) :: (77, tabO pl') :: (P.Nl, listOf (ivals P.xs).toArray P.nn) :: (P.Ll, listOf [Value.str P.a P.ta, Value.str P.b P.tb, Value.str P.c P.tc].toArray P.n3) :: (ps.map Pc.ent ++ us.map Pc.ent)
  refine ⟨[], [], Z.rt.length + 1, _, nwOf [] Z.n Z.ts, fun i ys nw => ∃ us n', ys = refs us ∧ nw = nwOf us n' (Z.ts.take (Z.rt.length - i)) ∧ (i ≤ Z.rt.length → us = Z.ts.reverse.take i) ∧ (i = Z.rt.length + 1 → ∃ pe, pe.f = Str.empty ∧ pe.g = Str.empty ∧ us = Z.ts.reverse ++ [pe]),
    by rw [← hxn]; exact src_str, (by simp), LoopSt.perm ⟨by assumption, N, G, rfl, D⟩ (by dsimp only [nwOf]; exact (perm_of_cnt fun q => by simp only [pile, cnt_cons, cnt_app, cnt_nil, List.map_append, List.map_cons, List.map_nil, List.append_assoc, List.cons_append, List.nil_append, Nat.add_zero, Nat.zero_add] <;> first | ac_rfl | (first | lia | omega))), ⟨[], Z.n, rfl, by rw [List.take_of_length_le (by (first | lia | omega))], by simp, by intro h; (first | lia | omega)⟩, ?_, ?_⟩
  · rintro I o C D' oC m₂ i u ys nw s₂ hPi hi ⟨us, n', rfl, rfl, h1, h2⟩ hC1 S hpl
    refine blk_name rfl rfl hC1 S fun oC' s₃ hC2 S' => tests_none ?_
    simp only [if_true]
    refine emit_obl (ys := refs us) ?_
    refine open_Q ?_
    intro QT hQT
    obtain ⟨F2, N2, G2, ho2, D2⟩ := S'
    have hus := h1 (by (first | lia | omega))
    have hul : (refs us).length ≤ 900 := by rw [refs_len, hus, List.length_take, List.length_reverse]; (first | lia | omega)
    have hpm : ((I, o) :: [] ++ (C, oC') :: (D', LCg.lst (refs us)) :: nwOf us n' (Z.ts.take (Z.rt.length - i))).Perm ((L' + 1 + 1, oP) :: (L' + 1, oL) :: (Z.at_.P, accO 108 Z.at_.dx (refs (Z.ts.take (Z.rt.length - i))).toArray n') :: (Z.at_.dx, sizeD w Z.at_.sz Z.at_.tk Z.at_.tz) :: (I, o) :: (C, oC') :: (D', LCg.lst (refs us)) :: (Z.S, listOf (strValues Z.ss).toArray Z.n2) :: (70, tabO pl) :: (77, tabO pl') :: (P.Nl, listOf (ivals P.xs).toArray P.nn) :: (P.Ll, listOf [Value.str P.a P.ta, Value.str P.b P.tb, Value.str P.c P.tc].toArray P.n3) :: ((Z.ts.take (Z.rt.length - i)).map Pc.ent ++ us.map Pc.ent)) := by dsimp only [nwOf]; exact (perm_of_cnt fun q => by simp only [pile, cnt_cons, cnt_app, cnt_nil, List.map_append, List.map_cons, List.map_nil, List.append_assoc, List.cons_append, List.nil_append, Nat.add_zero, Nat.zero_add] <;> first | ac_rfl | (first | lia | omega))
    replace N2 := Mine.News.perm N2 hpm
    replace D2 := D2.perm hpm
    clear hpm
    have hGate : Gate "call ref" := ⟨⟩
    k_steps
    (repeat (with_reducible rename Gate _ => hG; clear hG))
    refine Stop.go ?_
    dsimp only [List.append_nil]
    have hrest : ∀ (v : Value) (s' : Shared) (p : Pc) (n2 : Nat), v = .ref p.T → Fr g L' s'.heap m → AllBare s'.gens → s'.os = s₃.os → (i < Z.rt.length → Z.ts.reverse.take i ++ [p] = Z.ts.reverse.take (i + 1)) → (i = Z.rt.length → p.f = Str.empty ∧ p.g = Str.empty) →
        News g L' s'.heap ((p.ent :: pile w 108 Z.at_ (Z.ts.take (Z.rt.length - (i + 1))) n2) ++ ((L' + 1 + 1, oP) :: (L' + 1, oL) :: (I, o) :: (C, oC') :: (D', LCg.lst (refs us)) :: (Z.S, listOf (strValues Z.ss).toArray Z.n2) :: (70, tabO pl) :: (77, tabO pl') :: (P.Nl, listOf (ivals P.xs).toArray P.nn) :: (P.Ll, listOf [Value.str P.a P.ta, Value.str P.b P.tb, Value.str P.c P.tc].toArray P.n3) :: us.map Pc.ent)) →
        DN ((p.ent :: pile w 108 Z.at_ (Z.ts.take (Z.rt.length - (i + 1))) n2) ++ ((L' + 1 + 1, oP) :: (L' + 1, oL) :: (I, o) :: (C, oC') :: (D', LCg.lst (refs us)) :: (Z.S, listOf (strValues Z.ss).toArray Z.n2) :: (70, tabO pl) :: (77, tabO pl') :: (P.Nl, listOf (ivals P.xs).toArray P.nn) :: (P.Ll, listOf [Value.str P.a P.ta, Value.str P.b P.tb, Value.str P.c P.tc].toArray P.n3) :: us.map Pc.ent)) → QT v s' := by
      intro v s' p n2 hv F3 G3 ho3 hp1 hp2 N3 D3
      have hpm2 : ((p.ent :: pile w 108 Z.at_ (Z.ts.take (Z.rt.length - (i + 1))) n2) ++ ((L' + 1 + 1, oP) :: (L' + 1, oL) :: (I, o) :: (C, oC') :: (D', LCg.lst (refs us)) :: (Z.S, listOf (strValues Z.ss).toArray Z.n2) :: (70, tabO pl) :: (77, tabO pl') :: (P.Nl, listOf (ivals P.xs).toArray P.nn) :: (P.Ll, listOf [Value.str P.a P.ta, Value.str P.b P.tb, Value.str P.c P.tc].toArray P.n3) :: us.map Pc.ent)).Perm ((I, o) :: [] ++ (C, oC') :: (D', LCg.lst (refs us)) :: nwOf (us ++ [p]) n2 (Z.ts.take (Z.rt.length - (i + 1)))) := by dsimp only [nwOf]; exact (perm_of_cnt fun q => by simp only [pile, cnt_cons, cnt_app, cnt_nil, List.map_append, List.map_cons, List.map_nil, List.append_assoc, List.cons_append, List.nil_append, Nat.add_zero, Nat.zero_add] <;> first | ac_rfl | (first | lia | omega))
      subst hQT
      show EltEnd g L' _ m I o [] C D' (refs us) _ _ _ _
      refine ⟨oC', _, _, hC2, trivial, LoopSt.perm ⟨F3, N3, G3, ho3.trans ho2, D3⟩ hpm2, by rw [sizeLine_eq]; (first | lia | omega), us ++ [p], n2, by rw [hv, refs_app]; rfl, rfl, fun h => by rw [hus]; exact hp1 (by (first | lia | omega)), fun h => ⟨p, (hp2 (by (first | lia | omega))).1, (hp2 (by (first | lia | omega))).2, by rw [hus, List.take_of_length_le (by rw [List.length_reverse]; (first | lia | omega))]⟩⟩
    rcases Nat.lt_or_eq_of_le (show i ≤ Z.rt.length by (first | lia | omega)) with hil | hil
    · obtain ⟨p, hp⟩ : ∃ p, Z.ts[Z.rt.length - (i + 1)]? = some p := ⟨_, List.getElem?_eq_getElem (by (first | lia | omega))⟩
      have htk : Z.ts.take (Z.rt.length - i) = Z.ts.take (Z.rt.length - (i + 1)) ++ [p] := by
        rw [show Z.rt.length - i = Z.rt.length - (i + 1) + 1 by (first | lia | omega), List.take_add_one, hp]; rfl
      have htr : Z.ts.reverse.take i ++ [p] = Z.ts.reverse.take (i + 1) := by
        rw [List.take_add_one, List.getElem?_reverse (by (first | lia | omega)), show Z.ts.length - 1 - i = Z.rt.length - (i + 1) by (first | lia | omega), hp]; rfl
      rw [htk] at N2 D2
      refine Does.at (pop_some w Z.at_ (Z.ts.take (Z.rt.length - (i + 1))) p n' (by rw [List.length_take]; (first | lia | omega))) B F2 X N2 T G2 D2 rfl ((L' + 1 + 1, oP) :: (L' + 1, oL) :: (I, o) :: (C, oC') :: (D', LCg.lst (refs us)) :: (Z.S, listOf (strValues Z.ss).toArray Z.n2) :: (70, tabO pl) :: (77, tabO pl') :: (P.Nl, listOf (ivals P.xs).toArray P.nn) :: (P.Ll, listOf [Value.str P.a P.ta, Value.str P.b P.tb, Value.str P.c P.tc].toArray P.n3) :: us.map Pc.ent) (perm_of_cnt fun q => by simp only [pile, cnt_cons, cnt_app, cnt_nil, List.map_append, List.map_cons, List.map_nil, List.append_assoc, List.cons_append, List.nil_append, Nat.add_zero, Nat.zero_add] <;> first | ac_rfl | (first | lia | omega)) (by first | exact room1 (by assumption) (by decide) | exact room2 (by assumption) (by decide) | exact room3 (by assumption) (by decide) | (first | lia | omega)) (by first | exact room1 (by assumption) (by decide) | exact room2 (by assumption) (by decide) | exact room3 (by assumption) (by decide) | (first | lia | omega)) ?_
      rintro v s3 nw F3 N3 G3 ho3 D3 ⟨rfl, n2, rfl⟩
      exact hrest _ s3 p n2 rfl F3 G3 ho3 (fun _ => htr) (fun h => absurd h (by (first | lia | omega))) N3 D3
    · have htk : Z.ts.take (Z.rt.length - i) = [] := by rw [hil, Nat.sub_self, List.take_zero]
      rw [htk] at N2 D2
      refine Does.at (pop_none w Z.at_ n') B F2 X N2 T G2 D2 rfl ((L' + 1 + 1, oP) :: (L' + 1, oL) :: (I, o) :: (C, oC') :: (D', LCg.lst (refs us)) :: (Z.S, listOf (strValues Z.ss).toArray Z.n2) :: (70, tabO pl) :: (77, tabO pl') :: (P.Nl, listOf (ivals P.xs).toArray P.nn) :: (P.Ll, listOf [Value.str P.a P.ta, Value.str P.b P.tb, Value.str P.c P.tc].toArray P.n3) :: us.map Pc.ent) (perm_of_cnt fun q => by simp only [pile, cnt_cons, cnt_app, cnt_nil, List.map_append, List.map_cons, List.map_nil, List.append_assoc, List.cons_append, List.nil_append, Nat.add_zero, Nat.zero_add] <;> first | ac_rfl | (first | lia | omega)) (by first | exact room1 (by assumption) (by decide) | exact room2 (by assumption) (by decide) | exact room3 (by assumption) (by decide) | (first | lia | omega)) (by first | exact room1 (by assumption) (by decide) | exact room2 (by assumption) (by decide) | exact room3 (by assumption) (by decide) | (first | lia | omega)) ?_
      rintro v s3 nw F3 N3 G3 ho3 D3 ⟨p, rfl, hpf, hpg, rfl⟩
      refine hrest _ s3 p n' rfl F3 G3 ho3 (fun h => absurd h (by (first | lia | omega))) (fun _ => ⟨hpf, hpg⟩) ?_ ?_
      · rw [show Z.rt.length - (i + 1) = 0 by (first | lia | omega), List.take_zero]; exact N3
      · rw [show Z.rt.length - (i + 1) = 0 by (first | lia | omega), List.take_zero]; exact D3
  · rintro D' ys nw s₄ ⟨us, n', rfl, rfl, h1, h2⟩ S4 s₅ S5
    obtain ⟨pe, hpf, hpg, rfl⟩ := h2 rfl
    obtain ⟨F5, N5, G5, ho5, D5⟩ := S5
    replace F5 : Fr g L' s₅.heap _ := F5
    replace N5 : News g L' s₅.heap _ := N5
    replace ho5 : s₅.os = s₁.os := ho5
    have hsub : ∃ r : Led, ([] ++ (D', LCg.lst (refs (Z.ts.reverse ++ [pe]))) :: nwOf (Z.ts.reverse ++ [pe]) n' (Z.ts.take (Z.rt.length - (Z.rt.length + 1)))).Perm (r ++ ((L' + 1 + 1, oP) :: (L' + 1, oL) :: (D', LCg.lst (refs (Z.ts.reverse ++ [pe]))) :: (Z.S, listOf (strValues Z.ss).toArray Z.n2) :: (70, tabO pl) :: (77, tabO pl') :: (P.Nl, listOf (ivals P.xs).toArray P.nn) :: (P.Ll, listOf [Value.str P.a P.ta, Value.str P.b P.tb, Value.str P.c P.tc].toArray P.n3) :: (Z.ts.reverse ++ [pe]).map Pc.ent)) := ⟨(Z.at_.P, accO 108 Z.at_.dx (refs (Z.ts.take (Z.rt.length - (Z.rt.length + 1)))).toArray n') :: (Z.at_.dx, sizeD w Z.at_.sz Z.at_.tk Z.at_.tz) :: (Z.ts.take (Z.rt.length - (Z.rt.length + 1))).map Pc.ent, by dsimp only [nwOf]; exact (perm_of_cnt fun q => by simp only [pile, cnt_cons, cnt_app, cnt_nil, List.map_append, List.map_cons, List.map_nil, List.append_assoc, List.cons_append, List.nil_append, Nat.add_zero, Nat.zero_add] <;> first | ac_rfl | (first | lia | omega))⟩
    replace N5 := sub_nw N5 hsub
    replace D5 := sub_dn D5 hsub
    clear hsub S4 F N D h1 h2 S nwOf
    have hGate : Gate "call ref" := ⟨⟩
    k_steps
    (repeat (with_reducible rename Gate _ => hG; clear hG))
    refine Stop.go ?_
    (rename Fr _ _ _ _ => F6)
    (rename News _ _ _ _ => N6)
    have hrv := L_rev Z.rt (s₅.toks + 1)
    generalize hrx : Txt.sliceBy Z.rt none none (-1, _) = rx at *
    have hrl : rx.length ≤ 21 := by rw [← L_len, hrv, List.length_reverse, L_len]; exact hlen
    refine Does.at (pieces_spec w rx _ (Nat.le_trans hrl (by decide))) B F6 X N6 T G5 D5 rfl _ (.refl _) (by first | exact room1 (by assumption) (by decide) | exact room2 (by assumption) (by decide) | exact room3 (by assumption) (by decide) | (first | lia | omega)) (by first | exact room1 (by assumption) (by decide) | exact room2 (by assumption) (by decide) | exact room3 (by assumption) (by decide) | (first | lia | omega)) ?_
    rintro v s7 nw F7 N7 G7 ho7 D7 ⟨D2, us, rfl, rfl, hus⟩
    have hp7 : ((D2, LCg.lst (refs us)) :: us.map Pc.ent ++ ((L' + 1 + 1, oP) :: (L' + 1, oL) :: (D', LCg.lst (refs (Z.ts.reverse ++ [pe]))) :: (Z.S, listOf (strValues Z.ss).toArray Z.n2) :: (70, tabO pl) :: (77, tabO pl') :: (P.Nl, listOf (ivals P.xs).toArray P.nn) :: (P.Ll, listOf [Value.str P.a P.ta, Value.str P.b P.tb, Value.str P.c P.tc].toArray P.n3) :: (Z.ts.reverse ++ [pe]).map Pc.ent)).Perm ((L' + 1 + 1, oP) :: (L' + 1, oL) :: (D2, LCg.lst (refs us)) :: (D', LCg.lst (refs (Z.ts.reverse ++ [pe]))) :: (Z.S, listOf (strValues Z.ss).toArray Z.n2) :: (70, tabO pl) :: (77, tabO pl') :: (P.Nl, listOf (ivals P.xs).toArray P.nn) :: (P.Ll, listOf [Value.str P.a P.ta, Value.str P.b P.tb, Value.str P.c P.tc].toArray P.n3) :: (us.map Pc.ent ++ (Z.ts.reverse ++ [pe]).map Pc.ent)) := (perm_of_cnt fun q => by simp only [pile, cnt_cons, cnt_app, cnt_nil, List.map_append, List.map_cons, List.map_nil, List.append_assoc, List.cons_append, List.nil_append, Nat.add_zero, Nat.zero_add] <;> first | ac_rfl | (first | lia | omega))
    replace N7 := Mine.News.perm N7 hp7
    replace D7 := D7.perm hp7
    clear hp7 F6 N6
    have hGate : Gate "binaryOp Add ref ref" := ⟨⟩
    k_steps
    (repeat (with_reducible rename Gate _ => hG; clear hG))
    refine Stop.go ?_
    (rename Fr _ _ _ _ => F8)
    (rename News _ _ _ _ => N8)
    have hul : us.length ≤ 21 := by
      have := congrArg List.length hus
      rw [List.length_map, List.length_map, len_list] at this
      (first | lia | omega)
    refine kmk_add_lit F8 N8 (News.isList N8 (.tail _ (.tail _ (.tail _ (.tail _ (.head _)))))) (News.isList N8 (.head _)) rfl ?_ (by rw [sizeLine_eq]; show (refs us).length + 1 ≤ _; rw [refs_len]; (first | lia | omega))
    intro D9 h9 F9 N9 l9
    have hGate : Gate "compareOp NotEq ref ref" := ⟨⟩
    k_steps
    (repeat (with_reducible rename Gate _ => hG; clear hG))
    refine Stop.go ?_
    have hpR : PcsAre Z.ts.reverse (L Z.rt).reverse := by
      have h := hZ.pcs
      rw [← hZ.rt] at h
      unfold PcsAre at h ⊢
      rw [List.map_reverse, h, List.map_reverse]
    have hpU : PcsAre us (L Z.rt).reverse := by
      unfold PcsAre
      rw [← hrv]
      exact hus
    have hfr : ∀ c ∈ (L Z.rt).reverse, c < 60000 := fun c hc => (hZ.fine hP c (List.mem_reverse.mp hc)).2
    have hok0 : PySem.PyData.strOk Str.empty = true := by decide +kernel
    have hok1 : PySem.PyData.strOk (Str.ofString "") = true := by decide +kernel
    have e1 : h9.get? D' = some (LCg.lst (refs (Z.ts.reverse ++ [pe]))) := (N9 (D', _) (by k_mem)).1
    have eT : ∀ p ∈ Z.ts.reverse ++ [pe], h9.get? p.T = some p.ent.2 := fun p hp => (N9 p.ent (by repeat (first | exact List.mem_append_right _ (List.mem_map_of_mem hp) | refine List.mem_cons_of_mem _ ?_))).1
    have eU : ∀ p ∈ us, h9.get? p.T = some p.ent.2 := fun p hp => (N9 p.ent (by repeat (first | exact List.mem_append_left _ (List.mem_map_of_mem hp) | refine List.mem_cons_of_mem _ ?_))).1
    obtain ⟨q, hqT, hqf, hqg, hqe⟩ := pc_of (f := Str.ofString "") (g := Str.ofString "") (N9 _ (.tail _ (.tail _ (.head _)))).1
    refine ne_pcs (t1 := Z.ts.reverse ++ [pe]) (t2 := us ++ [q]) e1 rfl rfl eT
      (N9 _ (.head _)).1 rfl (by rw [refs_app, show refs [q] = [.ref q.T] from rfl, hqT]) ?hq2 ?hs1 ?hs2 (by show un + 64 < cLine; (first | lia | omega)) ?_
    case hq2 =>
      intro p hp
      rcases List.mem_append.mp hp with h | h
      · exact eU p h
      · rw [List.mem_singleton.mp h, hqT]
        exact hqe
    case hs1 =>
      intro p hp
      rcases List.mem_append.mp hp with h | h
      · exact hpR.ok hfr p h
      · rw [List.mem_singleton.mp h, hpf, hpg]; exact ⟨hok0, hok0⟩
    case hs2 =>
      intro p hp
      rcases List.mem_append.mp hp with h | h
      · exact hpU.ok hfr p h
      · rw [List.mem_singleton.mp h, hqf, hqg]; exact ⟨hok1, hok1⟩
    rw [show (!decide (fg (Z.ts.reverse ++ [pe]) = fg (us ++ [q]))) = false by
      unfold fg
      rw [List.map_append, List.map_append]
      have := hpR.fg_eq hpU
      unfold fg at this
      rw [this]
      simp [hqf, hqg, hpf, hpg, show Str.ofString "" = Str.empty by decide +kernel]]
    have hsub : ∃ r : Led, (((L' + 1 + 1, oP) :: (L' + 1, oL) :: (D2, LCg.lst (refs us)) :: (D', LCg.lst (refs (Z.ts.reverse ++ [pe]))) :: (Z.S, listOf (strValues Z.ss).toArray Z.n2) :: (70, tabO pl) :: (77, tabO pl') :: (P.Nl, listOf (ivals P.xs).toArray P.nn) :: (P.Ll, listOf [Value.str P.a P.ta, Value.str P.b P.tb, Value.str P.c P.tc].toArray P.n3) :: (us.map Pc.ent ++ (Z.ts.reverse ++ [pe]).map Pc.ent)) : Led).Perm (r ++ (P.core 70 77 L' oP oL pl pl' ++ [(Z.S, listOf (strValues Z.ss).toArray Z.n2)])) := ⟨(D2, LCg.lst (refs us)) :: (D', LCg.lst (refs (Z.ts.reverse ++ [pe]))) :: (us.map Pc.ent ++ (Z.ts.reverse ++ [pe]).map Pc.ent), (perm_of_cnt fun q => by simp only [pile, cnt_cons, cnt_app, cnt_nil, List.map_append, List.map_cons, List.map_nil, List.append_assoc, List.cons_append, List.nil_append, Nat.add_zero, Nat.zero_add] <;> first | ac_rfl | (first | lia | omega))⟩
    refine gen_toks (Nat.succ_ne_zero _) ?_
    intro tk htk
    have hGate : Gate "execs cons" := ⟨⟩
    k_steps
    (repeat (with_reducible rename Gate _ => hG; clear hG))
    refine Stop.go ?_
    dsimp only
    refine LawFromT.go next (by k_is) rfl B X O T (by exact ⟨F9, sub_nw (fun q hq => N9 q (.tail _ (.tail _ (.tail _ hq)))) hsub, G7, ho7.trans (ho5.trans ho), sub_dn D7 hsub⟩) htk ⟨Hm, Hz, oP, oL, pl, pl', dP, dL, hpl, hpl', rfl⟩ hdp hun hret
end Mine
end
end
end
section
open PySem PySem.W PyProof.Rows
open Mine
-- a cell of the frame
local macro_rules | `(tactic| walk_at "eval Name") => `(tactic| (k_here; (with_reducible show wpAny _ _ (eval (Expr.Name _ _) (envOfC _ _ _ _ _)) _ _ _); k_dflt (refine nm_cell (by rfl) (by rfl) (by rfl) (by decide) (by k_asm) (by k_mem) (by assumption) ?_; k_whole)))
-- a name of a frame with cells
local macro_rules | `(tactic| walk_at "eval Name") => `(tactic| (k_here; (with_reducible show wpAny _ _ (eval (Expr.Name _ _) (envOfC _ _ _ _ _)) _ _ _); k_dflt (refine nm_C (by rfl) (by rfl) (by decide) (by k_asm) (by ktr_units) ?_; k_whole)))
section
open PySem PySem.W PyProof.Rows
set_option maxRecDepth 100000
set_option maxHeartbeats 8000000
namespace Mine
theorem law_a (w : World) (Sl : Addr) (so : Obj) (items : List Value) (sn : Nat) (hcls : so.cls = .type "list") (hdat : so.data = .seq items.toArray sn) (hi : ∀ v ∈ items, ∃ (k : Int) (t : Tok), v = .int k t) (hl : items.length ≤ 63)
  (next : ∀ P : Pm, P.Ok0 → LawFrom PySem.Challenge.rw_wr0021_01.row.prog w (Mine.frag.heap_1 w.params) 213 3 Sl so 70 77 50 500 (fun L' m led => P.In0 m ∧ ∃ oP oL, oP.data = .cell none ∧ oL.data = .cell (some (.ref P.Ll)) ∧ led = P.core 70 77 L' oP oL #[] #[])) :
  LawFrom PySem.Challenge.rw_wr0021_01.row.prog w (Mine.frag.heap_1 w.params) 213 0 Sl so 70 77 50 500 (fun L' m led => m "script" = some (.ref Sl) ∧ ∃ oP oL, oP.data = .cell none ∧ oL.data = .cell none ∧ led = [(L' + 1 + 1, oP), (L' + 1, oL), (70, tabO #[]), (77, tabO #[])]) := by
  w_top off
  k_fill
  refine law_from (by k_is) ?_
  rintro loose mean mg mb dp un gd A₀ g L' fa ccd m led os s₁ Q E B X O T ⟨F, N, G, ho, D⟩ ⟨hm, oP, oL, dP, dL, rfl⟩ hdp hun hret
  dsimp only [List.drop]
  (try (refine letA ?_; intro kA))
  have hGate : Gate "call ref" := ⟨⟩
  k_steps
  (all_goals (try k_data))
  (repeat (with_reducible rename Gate _ => hG; clear hG))
  refine Stop.go ?_
  refine nums_spec w Sl so items sn hcls hdat hi hl _ _ _ _ _ _ _ _ _ _ _ _ _ _ _ _ _ _ _ _ _ _ B F X (fun q hq => by rw [List.mem_singleton.mp hq]; exact O) N T rfl G D (by first | exact room1 (by assumption) (by decide) | exact room2 (by assumption) (by decide) | exact room3 (by assumption) (by decide) | (first | lia | omega)) (by first | exact room1 (by assumption) (by decide) | exact room2 (by assumption) (by decide) | exact room3 (by assumption) (by decide) | (first | lia | omega)) ?_
  rintro v s2 nw F2 N2 G2 ho2 D2 ⟨Nl, xs, nn, rfl, rfl, hx, hk⟩
  dsimp only [List.cons_append, List.nil_append] at N2 D2
  k_steps
  (all_goals (try k_data))
  (rename Fr _ _ _ _ => F3)
  (rename News _ _ _ _ => N3)
  refine sum_ivals rfl F3 N3 (.head _) ?_
  intro h4 tk4 tt4 F4 N4
  (try dsimp only at F4 N4)
  clear F3 N3
  have hGate : Gate "execs cons" := ⟨⟩
  k_steps
  (all_goals (try k_data))
  (repeat (with_reducible rename Gate _ => hG; clear hG))
  refine Stop.go ?_
  refine wpAny_execs_cons ?_
  (try dsimp only)
  have hGate : Gate "execs cons" := ⟨⟩
  k_steps
  (all_goals (try k_data))
  all_goals (
    (repeat (with_reducible rename Gate _ => hG; clear hG))
    refine Stop.go ?_
    (rename Fr _ _ _ _ => F5)
    (rename News _ _ _ _ => N5)
    (rename (_ ∧ _ ∧ _ ∧ _ ∧ _) => l5)
    (rename _ = Data.cell (some (Value.ref _)) => hc5)
    have hs0 : (0 : Int) ≤ (((xs.map (·.1)).sum : Nat) : Int) := Int.natCast_nonneg _
    obtain ⟨l, a, ta, b, tb, c, tc, o5, N5, hc5, l5, ha, hb, hcc⟩ : ∃ l a ta b tb c tc o5, News g L' _ [(l, listOf [.str a ta, .str b tb, .str c tc].toArray 0), (Nl, listOf (ivals xs).toArray nn), (L' + 1 + 1, oP), (L' + 1, o5), (70, tabO #[]), (77, tabO #[])] ∧ o5.data = .cell (some (.ref l)) ∧ (Nl < l ∧ L' + 1 + 1 < l ∧ L' + 1 < l ∧ 70 < l ∧ 77 < l) ∧ L a = [34, 34] ∧ L b = [97 + (xs.map (·.1)).sum % 50000] ∧ L c = [if (xs.map (·.1)).sum % 3 = 1 then 10 else 98 + (xs.map (·.1)).sum % 50000] := by
      refine ⟨_, _, _, _, _, _, _, _, N5, hc5, l5, by decide +kernel, ?_, ?_⟩
      · show [_] = [_]
        rw [Int.fmod_eq_emod_of_nonneg _ (by decide)]
        first | done | rfl | (congr 1; done) | (congr 1; (first | lia | omega))
      · (first | (rename Int.fmod _ _ = _ => hm3) | (rename Int.fmod _ _ ≠ _ => hm3))
        rw [Int.fmod_eq_emod_of_nonneg _ (by decide)] at hm3
        first
        | (rw [if_pos (by (first | lia | omega))]; decide +kernel)
        | (rw [if_neg (by (first | lia | omega))]; show [_] = [_]; rw [Int.fmod_eq_emod_of_nonneg _ (by decide)]; first | done | rfl | (congr 1; done) | (congr 1; (first | lia | omega)))
    have D5 : DN ((l, listOf [.str a ta, .str b tb, .str c tc].toArray 0) :: (Nl, listOf (ivals xs).toArray nn) :: (L' + 1 + 1, oP) :: (L' + 1, o5) :: (70, tabO #[]) :: (77, tabO #[]) :: []) := DN.cons_of (DN.set5 D2) (by intro q hq; simp only [List.mem_cons, List.not_mem_nil, or_false] at hq; obtain ⟨e1, e2, e3, e4, e5⟩ := l5; rcases hq with rfl | rfl | rfl | rfl | rfl <;> assumption)
    refine LawFrom.go (next ⟨Nl, l, xs, nn, 0, a, b, c, Str.empty, ta, tb, tc, tt4, tt4⟩ ⟨hx, hk, ha, hb, hcc⟩) (by k_is) rfl B X O T (by exact LoopSt.perm ⟨F5, N5, G2, ho2.trans ho, D5⟩ (perm_of_cnt fun q => by simp only [Pm.core, cnt_cons, cnt_app, cnt_nil, List.cons_append, List.nil_append, Nat.add_zero]; first | ac_rfl | (first | lia | omega))) ⟨⟨?m1, ?m2⟩, oP, o5, dP, hc5, rfl⟩ hdp hun hret
    case m1 => ktr_unf
    case m2 => ktr_unf)
end Mine
end
section
open PySem PySem.W PyProof.Rows
set_option maxRecDepth 100000
set_option maxHeartbeats 8000000
namespace Mine
theorem law_b (w : World) (Sl : Addr) (so : Obj) (P : Pm) (hP : P.Ok0)
  (next : ∀ P : Pm, P.Ok → LawFrom PySem.Challenge.rw_wr0021_01.row.prog w (Mine.frag.heap_1 w.params) 213 6 Sl so 70 77 50 500 (fun L' m led => P.In m ∧ ∃ oP oL, oP.data = .cell none ∧ oL.data = .cell (some (.ref P.Ll)) ∧ led = P.core 70 77 L' oP oL #[] #[])) :
  LawFrom PySem.Challenge.rw_wr0021_01.row.prog w (Mine.frag.heap_1 w.params) 213 3 Sl so 70 77 50 500 (fun L' m led => P.In0 m ∧ ∃ oP oL, oP.data = .cell none ∧ oL.data = .cell (some (.ref P.Ll)) ∧ led = P.core 70 77 L' oP oL #[] #[]) := by
  w_top off
  k_fill
  refine law_from (by k_is) ?_
  obtain ⟨Nl, Ll, xs, nn, n3, a, b, c, y0, ta, tb, tc, ty0, ttot⟩ := P
  rintro loose mean mg mb dp un gd A₀ g L' fa ccd m led os s₁ Q E B X O T S ⟨Hm, oP, oL, dP, dL, rfl⟩ hdp hun hret
  dsimp only at dL
  have hm1 : m "numbers" = some (.ref Nl) := Hm.nums
  have hl3 : a.length ≤ 2 ∧ b.length ≤ 2 ∧ c.length ≤ 2 := by
    have h1 : L a = _ := hP.la
    have h2 : L b = _ := hP.lb
    have h3 : L c = _ := hP.lc
    rw [← L_len a, ← L_len b, ← L_len c, h1, h2, h3]; simp
  have hk : ∀ p ∈ xs, p.1 ≤ 10 ^ 8 := hP.le
  have hx : xs.length = 7 := hP.len
  obtain ⟨F, N, G, ho, D⟩ : LoopSt g L' os s₁ m ((Nl, listOf (ivals xs).toArray nn) :: (L' + 1, oL) :: (L' + 1 + 1, oP) :: (70, tabO #[]) :: (77, tabO #[]) :: (Ll, listOf [.str a ta, .str b tb, .str c tc].toArray n3) :: []) := S.perm (perm_of_cnt fun q => by simp only [Pm.core, cnt_cons, cnt_app, cnt_nil, List.cons_append, List.nil_append, Nat.add_zero]; first | ac_rfl | (first | lia | omega))
  clear S
  dsimp only [List.drop]
  (try (refine letA ?_; intro kA))
  have hGate : Gate "exec For" := ⟨⟩
  k_steps
  (repeat (with_reducible rename Gate _ => hG; clear hG))
  refine Stop.go ?_
  refine For_obl (h₀ := g) rfl ?_ (by intro _; rfl)
  k_steps
  (rename Fr _ _ _ _ => F1)
  (rename News _ _ _ _ => N1)
  refine ⟨[Nl], [(Nl, listOf (ivals xs).toArray nn)], xs.length, _, _, _, fun i m' nw => nw = (L' + 1, oL) :: (L' + 1 + 1, oP) :: (70, tabO #[]) :: (77, tabO #[]) :: (Ll, listOf [.str a ta, .str b tb, .str c tc].toArray n3) :: [] ∧ m' "numbers" = some (.ref Nl) ∧ m' "total" = some (.int (((xs.map (·.1)).sum : Nat) : Int) ttot) ∧ ∃ y ty, m' "text" = some (.str y ty) ∧ L y = typeL [L a, L b, L c] ((xs.map (·.1)).take i), _,
    by rw [← ivals_len xs]; exact src_list ⟨_, (N1 _ (.head _)).1, rfl, _, rfl⟩, by simp, ⟨F1, N1, G, rfl, D⟩, ⟨rfl, by ktr_unf, (by (repeat (refine nm_ne (by decide) ?_)); exact Hm.total), _, _, by ktr_unf, by rw [List.take_zero]; show L (Str.ofString "") = []; decide +kernel⟩, fun I o i u m' nw s₂ Q' hP hi hJ S _ h => asg_name rfl rfl S h, ?_, ?_⟩
  · rintro I o i u m' nw s₅ hP hi ⟨rfl, hm1, hmt, y, ty, hm2, hy⟩ ⟨F5, N5, G5, ho5, D5⟩
    dsimp only [List.cons_append, List.nil_append] at N5 D5
    have hyl : y.length ≤ 60 := by
      have h1 := len_typeL (ls := [L a, L b, L c]) (by simp only [List.mem_cons, List.not_mem_nil, or_false]; rintro l (rfl | rfl | rfl) <;> rw [L_len] <;> (first | lia | omega)) ((xs.map (·.1)).take i)
      rw [← hy, L_len, List.length_take, List.length_map] at h1; (first | lia | omega)
    obtain ⟨p, hp, rfl⟩ := ivals_at hP
    replace F5 : Fr g L' s₅.heap _ := F5
    replace N5 : News g L' s₅.heap _ := N5
    replace ho5 : s₅.os = s₁.os := ho5
    have hstep : typeL [L a, L b, L c] ((xs.map (·.1)).take (i + 1)) = stepT [L a, L b, L c] (L y) p.1 := by
      rw [List.take_add_one, List.getElem?_map, hp, hy]; exact typeL_snoc _ _ _
    clear F1 N1 hP hi
    have hGate : Gate "subscriptTail" := ⟨⟩
    k_steps
    (all_goals (try k_data))
    · (rename _ < (3 : Int) => hlt3)
      rw [fmod6] at hlt3
      obtain ⟨z, tzz, hzi, hzL, hz2⟩ : ∃ z tzz, [Value.str a ta, Value.str b tb, Value.str c tc][((p.1 : Nat) : Int).fmod 6 |>.toNat]? = some (.str z tzz) ∧ L z = [L a, L b, L c].getD (p.1 % 6) [] ∧ z.length ≤ 2 := by
        have hcase : p.1 % 6 = 0 ∨ p.1 % 6 = 1 ∨ p.1 % 6 = 2 := by (first | lia | omega)
        rw [fmod6]
        rcases hcase with h | h | h <;> rw [h]
        · exact ⟨a, ta, rfl, rfl, hl3.1⟩
        · exact ⟨b, tb, rfl, rfl, hl3.2.1⟩
        · exact ⟨c, tc, rfl, rfl, hl3.2.2⟩
      (repeat (with_reducible rename Gate _ => hG; clear hG))
      refine Stop.go ?_
      (rename Fr _ _ _ _ => F6)
      (rename News _ _ _ _ => N6)
      refine item_at (News.isList N6 (by k_mem)) (by rw [fmod6]; (first | lia | omega)) (by rw [fmod6]; (first | lia | omega)) hzi ?_ (by with_unfolding_all rfl)
      k_steps
      (rename Fr _ _ _ _ => F9)
      (rename News _ _ _ _ => N9)
      refine ⟨_, _, ⟨F9, N9, G5, ho5, D5⟩, rfl, by ktr_unf, by ktr_unf, _, _, by ktr_unf, ?_⟩
      rw [hstep, L_app, hzL]
      unfold stepT
      rw [if_pos (by (first | lia | omega))]
    · (rename ¬ _ < (3 : Int) => hlt3)
      rw [fmod6] at hlt3
      (rename Fr _ _ _ _ => F9)
      (rename News _ _ _ _ => N9)
      refine ⟨_, _, ⟨F9, N9, G5, ho5, D5⟩, rfl, by ktr_unf, by ktr_unf, _, _, by ktr_unf, ?_⟩
      rw [hstep, L_app, show (2 : Int) - ((p.1 : Nat) : Int).fmod 6 = -(((p.1 % 6 - 2 : Nat)) : Int) by rw [fmod6]; (first | lia | omega), L_last y _ (by (first | lia | omega))]
      unfold stepT
      rw [if_neg (by (first | lia | omega)), L_len]
  · rintro m' nw s₅ ⟨rfl, hm1, hmt, y, ty, hm2, hy⟩ ⟨F5, N5, G5, ho5, D5⟩
    dsimp only [List.cons_append, List.nil_append] at N5 D5
    replace F5 : Fr g L' s₅.heap _ := F5
    replace N5 : News g L' s₅.heap _ := N5
    replace ho5 : s₅.os = s₁.os := ho5
    rw [List.take_of_length_le (by simp)] at hy
    clear F1 N1
    have hGate : Gate "call ref" := ⟨⟩
    k_steps
    (repeat (with_reducible rename Gate _ => hG; clear hG))
    refine Stop.go ?_
    refine Does.at (typed_spec w Nl Ll xs nn n3 a b c ta tb tc (by (first | lia | omega)) hk hl3) B F5 X N5 T G5 D5 rfl [(L' + 1, oL), (L' + 1 + 1, oP), (70, tabO #[]), (77, tabO #[])] (perm_of_cnt fun q => by simp only [pile, cnt_cons, cnt_app, cnt_nil, List.map_append, List.map_cons, List.map_nil, List.append_assoc, List.cons_append, List.nil_append, Nat.add_zero, Nat.zero_add] <;> first | ac_rfl | (first | lia | omega)) (by first | exact room1 (by assumption) (by decide) | exact room2 (by assumption) (by decide) | exact room3 (by assumption) (by decide) | (first | lia | omega)) (by first | exact room1 (by assumption) (by decide) | exact room2 (by assumption) (by decide) | exact room3 (by assumption) (by decide) | (first | lia | omega)) ?_
    rintro v s6 nw F6 N6 G6 ho6 D6 ⟨⟨y2, ty2, rfl, hy2⟩, rfl⟩
    obtain rfl : y2 = y := str_ext (show L y2 = L y by rw [hy2, hy])
    dsimp only [List.cons_append, List.nil_append] at N6 D6
    clear F5 N5
    have hGate : Gate "execs cons" := ⟨⟩
    k_steps
    · exfalso
      (rename (_ != _) = true => hne)
      simp at hne
    · (repeat (with_reducible rename Gate _ => hG; clear hG))
      refine Stop.go ?_
      dsimp only
      (rename Fr _ _ _ _ => F7)
      (rename News _ _ _ _ => N7)
      have hP2 : Pm.Ok ⟨Nl, Ll, xs, nn, n3, a, b, c, y2, ta, tb, tc, ty, ttot⟩ := ⟨⟨hP.len, hP.le, hP.la, hP.lb, hP.lc⟩, hy⟩
      refine LawFrom.go (next _ hP2) (by k_is) rfl B X O T (by exact LoopSt.perm ⟨F7, N7, G6, ho6.trans (ho5.trans ho), D6⟩ (perm_of_cnt fun q => by simp only [Pm.core, cnt_cons, cnt_app, cnt_nil, List.cons_append, List.nil_append, Nat.add_zero]; first | ac_rfl | (first | lia | omega))) ⟨⟨⟨hm1, hmt⟩, hm2⟩, oP, oL, dP, dL, rfl⟩ hdp hun hret
end Mine
end
section
open PySem PySem.W PyProof.Rows
set_option maxRecDepth 100000
set_option maxHeartbeats 8000000
namespace Mine
theorem law_c (w : World) (Sl : Addr) (so : Obj) (P : Pm) (hP : P.Ok)
  (next : ∀ Z : Px, Z.Ok P → LawFrom PySem.Challenge.rw_wr0021_01.row.prog w (Mine.frag.heap_1 w.params) 213 8 Sl so 70 77 50 500 (st2 w 108 70 77 P Z)) :
  LawFrom PySem.Challenge.rw_wr0021_01.row.prog w (Mine.frag.heap_1 w.params) 213 6 Sl so 70 77 50 500 (fun L' m led => P.In m ∧ ∃ oP oL, oP.data = .cell none ∧ oL.data = .cell (some (.ref P.Ll)) ∧ led = P.core 70 77 L' oP oL #[] #[]) := by
  w_top off
  k_fill
  refine law_from (by k_is) ?_
  rintro loose mean mg mb dp un gd A₀ g L' fa ccd m led os s₁ Q E B X O T S ⟨Hm, oP, oL, dP, dL, rfl⟩ hdp hun hret
  have hm1 := Hm.text
  have hm2 := Hm.total
  have hm3 := Hm.nums
  obtain ⟨F, N, G, ho, D⟩ := S
  have ht4 : ((P.tot : Nat) : Int).fmod 4 = ((P.tot % 4 : Nat) : Int) := by rw [Int.fmod_eq_emod_of_nonneg _ (by decide)]; (first | lia | omega)
  dsimp only [List.drop]
  (try (refine letA ?_; intro kA))
  have hGate : Gate "call ref" := ⟨⟩
  k_steps
  (repeat (with_reducible rename Gate _ => hG; clear hG))
  refine Stop.go ?_
  refine Does.at (pile_spec w P.text _ _ _ (Nat.le_trans hP.tlen (by decide)) hP.fine (by rw [ht4]; (first | lia | omega)) #[] trivial) B F X N T G D rfl [(L' + 1 + 1, oP), (L' + 1, oL), (70, tabO #[]), (P.Nl, listOf (ivals P.xs).toArray P.nn), (P.Ll, listOf [.str P.a P.ta, .str P.b P.tb, .str P.c P.tc].toArray P.n3)] (perm_of_cnt fun q => by simp only [pile, cnt_cons, cnt_app, cnt_nil, List.map_append, List.map_cons, List.map_nil, List.append_assoc, List.cons_append, List.nil_append, Nat.add_zero, Nat.zero_add] <;> first | ac_rfl | (first | lia | omega)) (by first | exact room1 (by assumption) (by decide) | exact room2 (by assumption) (by decide) | exact room3 (by assumption) (by decide) | (first | lia | omega)) (by first | exact room1 (by assumption) (by decide) | exact room2 (by assumption) (by decide) | exact room3 (by assumption) (by decide) | (first | lia | omega)) ?_
  rintro v s2 nw F2 N2 G2 ho2 D2 ⟨R, S, Pl, dx, tk, n, n2, ts, xs, pl', tail, rfl, hpl, hts, hxs, rfl⟩
  dsimp only [List.cons_append, List.nil_append] at N2 D2
  obtain ⟨at_, hat, hatP, N2, D2⟩ : ∃ at_ : At, at_.sz = ((P.tot % 4 : Nat) : Int) ∧ at_.P = Pl ∧ News g L' s2.heap ((77, tabO pl') :: (R, tupO (.ref Pl) (.ref S)) :: (S, listOf (strValues xs).toArray n2) :: ((pile w 108 at_ ts n ++ tail) ++ [(L' + 1 + 1, oP), (L' + 1, oL), (70, tabO #[]), (P.Nl, listOf (ivals P.xs).toArray P.nn), (P.Ll, listOf [.str P.a P.ta, .str P.b P.tb, .str P.c P.tc].toArray P.n3)])) ∧
    DN ((77, tabO pl') :: (R, tupO (.ref Pl) (.ref S)) :: (S, listOf (strValues xs).toArray n2) :: ((pile w 108 at_ ts n ++ tail) ++ [(L' + 1 + 1, oP), (L' + 1, oL), (70, tabO #[]), (P.Nl, listOf (ivals P.xs).toArray P.nn), (P.Ll, listOf [.str P.a P.ta, .str P.b P.tb, .str P.c P.tc].toArray P.n3)])) := ⟨_, ht4, rfl, N2, D2⟩
  subst hatP
  k_steps
  (rename Fr _ _ _ _ => F3)
  (rename News _ _ _ _ => N3)
  have hsub : ∃ r, ((77, tabO pl') :: (R, tupO (.ref at_.P) (.ref S)) :: (S, listOf (strValues xs).toArray n2) :: ((pile w 108 at_ ts n ++ tail) ++ [(L' + 1 + 1, oP), (L' + 1, oL), (70, tabO #[]), (P.Nl, listOf (ivals P.xs).toArray P.nn), (P.Ll, listOf [.str P.a P.ta, .str P.b P.tb, .str P.c P.tc].toArray P.n3)])).Perm
    (r ++ ([] ++ (L' + 1 + 1, oP) :: ([(L' + 1, oL), (70, tabO #[]), (77, tabO pl'), (P.Nl, listOf (ivals P.xs).toArray P.nn), (P.Ll, listOf [.str P.a P.ta, .str P.b P.tb, .str P.c P.tc].toArray P.n3)] ++ (S, listOf (strValues xs).toArray n2) :: pile w 108 at_ ts n))) := ⟨(R, tupO (.ref at_.P) (.ref S)) :: tail, (perm_of_cnt fun q => by simp only [pile, cnt_cons, cnt_app, cnt_nil, List.map_append, List.map_cons, List.map_nil, List.append_assoc, List.cons_append, List.nil_append, Nat.add_zero, Nat.zero_add] <;> first | ac_rfl | (first | lia | omega))⟩
  replace N3 := sub_nw N3 hsub
  replace D2 := sub_dn D2 hsub
  clear hsub
  refine st_cell (pre := []) (c := L' + 1 + 1) (o := oP) (os := os) ⟨F3, N3, G2, ho2.trans ho, D2⟩ rfl rfl dP rfl ?_
  intro h13 oc2 hoc2 S13
  obtain ⟨F13, N13, G13, ho13, D13⟩ := S13
  dsimp only [List.nil_append] at N13 D13
  clear N3 D2 F3
  obtain ⟨ini, last, rfl, hlast⟩ := shows_last hxs
  have hGate : Gate "subscriptTail" := ⟨⟩
  k_steps
  (repeat (with_reducible rename Gate _ => hG; clear hG))
  refine Stop.go ?_
  (rename News _ _ _ _ => N14)
  have e14 : strValues (ini ++ [last]) = strValues ini ++ [.str last.1 last.2] := by rw [strVals_app]; rfl
  refine item_last (ini := strValues ini) (v := .str last.1 last.2) (by rw [← e14]; exact News.isList N14 (.tail _ (List.mem_append_right _ (.head _)))) ?_ (by with_unfolding_all rfl)
  have hGate : Gate "execs cons" := ⟨⟩
  k_steps
  (repeat (with_reducible rename Gate _ => hG; clear hG))
  refine Stop.go ?_
  (rename Fr _ _ _ _ => F15)
  (rename News _ _ _ _ => N15)
  have hrt : L last.1 = (root (L P.text)).reverse := by rw [hlast, List.take_of_length_le (by rw [L_len]; exact Nat.le_refl _)]
  refine LawFrom.go (next ⟨S, n2, ini ++ [last], at_, ts, n, last.1, last.2⟩ ⟨hts, hxs, hat, hrt⟩) (by k_is) rfl B X O T (by exact ⟨F15, N15, G13, ho13, D13⟩) ⟨⟨⟨by ktr_unf, by ktr_unf⟩, by ktr_unf⟩, ⟨by ktr_unf, by ktr_unf⟩, oc2, oL, #[], pl', hoc2, dL, trivial, hpl, rfl⟩ hdp hun hret
end Mine
end
section
open PySem PySem.W PyProof.Rows
open Mine
-- a name of the block
local macro_rules | `(tactic| walk_at "eval Name") => `(tactic| (k_here; (with_reducible show wpAny _ _ (eval (Expr.Name _ _) (compEnvC _ _ _ _)) _ _ _); k_dflt (refine blk_own (by rfl) (by rfl) (by decide) (by k_asm) (by k_mem) (by assumption) (by ktr_units) ?_; k_whole)))
section
open PySem PySem.W PyProof.Rows
set_option maxRecDepth 100000
set_option maxHeartbeats 8000000
namespace Mine
-- a call of _ellipsis_match with texts of a known size
local macro_rules | `(tactic| k_offL) => `(tactic| (with_reducible refine ell_spec _ _ _ _ _ ?_ ?_ <;> first | exact ell_c (by assumption) (by decide) | exact ell_d (by assumption) (by decide) | exact ell_a (by assumption) (by decide) | exact ell_b (by assumption) (by decide)))

theorem rs_to (a : Int) (h : 0 ≤ a) : Builtin.Range.rangeSize 0 a 1 = a := by
  rw [rangeSize_nat]; (first | lia | omega)
/-- a pair of ints in the ledger -/
structure Pi where
  T : Addr
  a : Nat
  ta : Tok
  k : Nat
  tk : Tok
noncomputable def Pi.ent (p : Pi) : Addr × Obj := (p.T, tupO (.int (p.a : Int) p.ta) (.int (p.k : Int) p.tk))
noncomputable def prefs (ps : List Pi) : List Value := ps.map fun p => .ref p.T
theorem slice_stut (x : Str) (a k : Nat) : (Txt.slice x (some (a : Int)) (some ((a : Int) + (k : Int))) == Txt.slice x (some ((a : Int) + (k : Int))) (some ((a : Int) + 2 * (k : Int)))) = true ↔ stutAt (L x) a k := by
  rw [show (a : Int) + (k : Int) = ((a + k : Nat) : Int) by (first | lia | omega), show (a : Int) + 2 * (k : Int) = ((a + 2 * k : Nat) : Int) by (first | lia | omega), beq_iff_eq]
  unfold stutAt
  rw [← L_slice, ← L_slice]
  exact ⟨fun h => by rw [h], fun h => str_ext h⟩
theorem prefs_len (ps : List Pi) : (prefs ps).length = ps.length := by simp [prefs]
theorem pi_map_app (ps : List Pi) (p : Pi) : (ps ++ [p]).map Pi.ent = ps.map Pi.ent ++ [(p.T, tupO (.int (p.a : Int) p.ta) (.int (p.k : Int) p.tk))] := by rw [List.map_append]; rfl
noncomputable def datI (qs : List Pi) : List PyData := qs.map fun p => .tuple [.int (p.a : Int), .int (p.k : Int)]
theorem readsAll_pis {h : Heap} : ∀ qs : List Pi, (∀ p ∈ qs, h.get? p.T = some p.ent.2) → ∃ as, ReadsAll h (prefs qs) (datI qs) as
  | [], _ => ⟨_, .nil⟩
  | p :: r, hp => by
    obtain ⟨as, ih⟩ := readsAll_pis r fun q hq => hp q (.tail _ hq)
    exact ⟨_, .cons (reads_tuple_at (hp p (.head _)) rfl rfl (.cons (.int _ _) (.cons (.int _ _) .nil))) ih⟩
theorem lay_pis : ∀ a : List Pi, PyData.canLayAll0 (datI a) = true ∧ PyData.depthAll (datI a) ≤ 1
  | [] => by simp [datI, PyData.canLayAll0, PyData.depthAll]
  | p :: r => by
    have ih := lay_pis r
    unfold datI at ih ⊢
    refine ⟨?_, ?_⟩
    · simp only [List.map_cons, PyData.canLayAll0, PyData.canLay0, ih.1, Bool.and_true]
    · simp only [List.map_cons, PyData.depthAll, PyData.depth]
      (first | lia | omega)
theorem eq_pis {prog : Program} {w : World} {A : Around} {s : Shared} {E : Value → Shared → Prop} {Q : Value → Shared → Prop} {D1 D2 : Addr} {o1 o2 : Obj} {n1 n2 : Nat} {qs : List Pi} (h1 : s.heap.get? D1 = some o1) (c1 : o1.cls = .type "list") (d1 : o1.data = .seq (prefs qs).toArray n1) (p1 : ∀ q ∈ qs, s.heap.get? q.T = some q.ent.2)
    (h2 : s.heap.get? D2 = some o2) (c2 : o2.cls = .type "list") (d2 : o2.data = .seq #[] n2) (hu : A.units + 64 < cLine) (h : Q (.bool (decide (qs = []))) s) : wpAny (model prog w) A (compareOp .Eq (.ref D1) (.ref D2)) Q E s := by
  obtain ⟨as, ra⟩ := readsAll_pis qs p1
  refine eq_dataH (da := .list (datI qs)) (db := .list []) (reads_list_at h1 c1 d1 (by simpa using ra)) (reads_list_at h2 c2 d2 (by simpa using ReadsAll.nil)) ?_ (by decide +kernel) hu ?_
  · have := lay_pis qs
    unfold PySem.SeqAt.shaped
    simp only [PyData.canLay0, PyData.depth, this.1, Bool.true_and]
    exact decide_eq_true (by (first | lia | omega))
  · have e : PyData.eqv (.list (datI qs)) (.list []) = decide (qs = []) := by
      cases qs with
      | nil => simp [datI, PyData.eqv, PyData.eqvAll]
      | cons => simp [datI, PyData.eqv, PyData.eqvAll]
    rw [e]; exact h
theorem fm2 (a : Int) : a.fmod 2 = 0 ∨ a.fmod 2 = 1 := by rw [Int.fmod_eq_emod_of_nonneg _ (by decide)]; (first | lia | omega)
theorem mul_dots {prog : Program} {w : World} {A : Around} {s : Shared} {E : Value → Shared → Prop} {Q : Value → Shared → Prop} {n : Int} {t u : Tok} (h0 : n = 0 ∨ n = 1) (h : ∀ da t' k, (da = Str.empty ∨ da = dots) → da.length ≤ 3 → Q (.str da t') { s with toks := k }) :
    wpAny (model prog w) A (binaryOp .Mult (.str (Str.ofString "...") t) (.int n u)) Q E s := by
  refine SB.mul ?_ fun t' k => h _ t' k (mul_01 h0) ?_
  · unfold MulOk; rcases h0 with rfl | rfl <;> simp
  · rcases h0 with rfl | rfl <;> decide +kernel
local macro_rules | `(tactic| walk_at "binaryOp Add str str") => `(tactic| (k_here; refine add_led (by first | exact le_slice (by assumption) | assumption | exact len_dots) (by first | exact le_slice (by assumption) | assumption | exact len_dots) (by decide) ?_; intro t' k' hadd))
local macro_rules | `(tactic| walk_at "binaryOp Mult str int") => `(tactic| (k_here; refine mul_dots (fm2 _) ?_; intro da t' k' hda hdal))
theorem any_spec (w : World) (text : Str) (t : Tok) (Nl : Addr) (vs : List Value) (nn : Nat) (hw : text.length ≤ 300) (hf : nodot text) (hv : vs.length = 7 ∧ ∀ v ∈ vs, ∃ (k : Nat) (t : Tok), v = .int (k : Int) t ∧ k ≤ 10 ^ 8) :
  Does PySem.Challenge.rw_wr0021_01.row.prog w (Mine.frag.heap_1 w.params) topProg (.ref 201) 40 400 [.str text t, .ref Nl] [(Nl, listOf vs.toArray nn)] (fun v nw => (∃ y ty, v = .str y ty ∧ L y = (root (L text)).reverse) ∧ nw = [(Nl, listOf vs.toArray nn)]) := by
  w_top off
  k_fill
  k_dflt (refine' does_ofC ?k1 ?k2 (fun _ kX => ?k3) ?k4 ?k5 (by decide) (by decide) ?_ ?k6 ?k7 ?k8; (case k1 => k_is); (case k2 => k_is); (case k3 => first | exact BindsTo.of_eq rfl | exact binds_K kX rfl (by k_is) rfl rfl rfl); (case k4 => exact rfl); (case k5 => decide); (case k6 => exact rfl); (case k7 => exact rfl); (case k8 => exact rfl)); intro loose mean mg mb dp un gd outer A₀ base g L' s₁ cells rest B F X N Y T G D hlt hdp hun; (try dsimp only); (try dsimp only [List.nil_append, List.cons_append] at N D hlt); have hL := F.ns.lt; (try (refine letA ?_; intro kA)); refine open_Q ?_; intro QB hQB
  obtain ⟨oc, rfl, hoc⟩ := CellsAre.one Y
  replace hoc : oc.data = .cell (some (.str text t)) := hoc
  replace F : Fr g L' s₁.heap (fun y => if y = "numbers" then some (.ref Nl) else none) := F
  clear Y
  dsimp only [List.nil_append, List.cons_append] at N
  have Dc : DN ((L' + 1, oc) :: (Nl, listOf vs.toArray nn) :: rest) := DN.cons_of D fun q hq => Nat.lt_succ_of_lt (allLt_all hlt q hq)
  have hGate : Gate "exec For Name Tuple cons nil" := ⟨⟩; have hGate : Gate "exec For Name Call cons nil" := ⟨⟩; have hGate : Gate "exec For" := ⟨⟩
  k_steps
  (repeat (with_reducible rename Gate _ => hG; clear hG))
  refine Stop.go ?_
  refine For_obl (h₀ := g) rfl ?_ (by intro _; rfl)
  k_steps
  (rename IsRange _ _ _ _ _ _ _ _ => R1)
  (rename Fr _ _ _ _ => F1)
  (rename News _ _ _ _ => N1)
  refine ⟨[], [], text.length + 1, _, _, _, fun i m' nw => ∃ x tx oc', nw = (L' + 1, oc') :: (Nl, listOf vs.toArray nn) :: rest ∧ oc'.data = .cell (some (.str x tx)) ∧ m' "numbers" = some (.ref Nl) ∧ Mends (L text) (L x) ∧ x.length + i ≤ text.length ∧ nodot x, _, src_range R1 (small_one (by (first | lia | omega)) (by (first | lia | omega)) (by (first | lia | omega)) (by (first | lia | omega))) _ (rs_to _ (by (first | lia | omega))), (by simp), ⟨F1, N1, G, rfl, Dc⟩,
    ⟨text, t, oc, rfl, hoc, by ktr_unf, .refl _, by (first | lia | omega), hf⟩, fun I o i u m' nw s₂ Q' hP hi hJ S _ h => asg_name rfl rfl S h, ?_, ?_⟩
  · rintro I o i u m' nw s₂ ⟨tu, rfl⟩ hi ⟨x, tx, oc', rfl, hoc', hm, hmd, hxl, hxd⟩ ⟨F2, N2, G2, ho2, D2⟩
    dsimp only [List.cons_append, List.nil_append] at N2 D2
    replace F2 : Fr g L' s₂.heap _ := F2
    replace N2 : News g L' s₂.heap _ := N2
    refine open_Q ?_
    intro QT hQT
    have hGate : Gate "exec Assign cons ListComp" := ⟨⟩
    k_steps
    (repeat (with_reducible rename Gate _ => hG; clear hG))
    refine Stop.go ?_
    refine CompAssign_obl F2 rfl (by with_unfolding_all rfl) (by with_unfolding_all rfl) (fun I C D => turn_first2 ..) ?_ rfl rfl (by decide) rfl (by decide) (by intro _; rfl)
    k_steps
    (rename Fr _ _ _ _ => F3)
    (rename News _ _ _ _ => N3)
    (rename (_ ∧ _ ∧ _ ∧ AllLt _ _) => l3)
    rename_i T3 _
    have D3 := fun o => D2.more (o := o) l3
    obtain ⟨oT, ta, tb, tc, nT, N3, hcT, hdT⟩ : ∃ oT ta tb tc nT, News g L' _ ((T3, oT) :: (I, o) :: (L' + 1, oc') :: (Nl, listOf vs.toArray nn) :: rest) ∧ oT.cls = .type "tuple" ∧ oT.data = .seq #[.int 1 ta, .int 2 tb, .int 3 tc] nT := ⟨_, _, _, _, _, N3, rfl, rfl⟩
    refine ⟨[T3], [(T3, oT)], _, _, (I, o) :: (L' + 1, oc') :: (Nl, listOf vs.toArray nn) :: rest, fun b ys nw => ∃ qs : List Pi, ys = prefs qs ∧ nw = (I, o) :: (L' + 1, oc') :: (Nl, listOf vs.toArray nn) :: (qs.map Pi.ent ++ rest) ∧ qs.length ≤ b * x.length ∧ (∀ q ∈ qs, q.a < x.length ∧ 1 ≤ q.k ∧ q.k ≤ 3 ∧ stutAt (L x) q.a q.k) ∧ (qs = [] → ∀ k a, 1 ≤ k → k ≤ b → a < x.length → ¬ stutAt (L x) a k),
      src_tuple ⟨_, (N3 _ (.head _)).1, hcT, _, hdT⟩, (by simp), ⟨F3, N3, G2, rfl, D3 _⟩, ⟨[], rfl, rfl, by simp, by simp, by intro _ k a h1 h0; (first | lia | omega)⟩, ?_, ?_⟩
    · -- DEV<
      rintro Ib ob C D' oC m₂ b u ys nw s₄ hP hb ⟨qs, rfl, rfl, hqn, hqs, hqe⟩ hC S hpl
      obtain ⟨tu2, rfl⟩ : ∃ tu2, u = .int (((b + 1 : Nat)) : Int) tu2 := by
        rcases one_two_three hP with ⟨rfl, rfl⟩ | ⟨rfl, rfl⟩ | ⟨rfl, rfl⟩ <;> exact ⟨_, rfl⟩
      refine blk_name rfl rfl hC S fun oC' s₅ hC' S' => tests_none ?_
      simp only [if_true]
      refine inner_obl S' rfl ?_ (by intro _; rfl)
      obtain ⟨F5, N5, G5, ho5, D5⟩ := S'
      dsimp only [List.cons_append, List.nil_append] at N5 D5
      k_steps
      (rename IsRange _ _ _ _ _ _ _ _ => R6)
      (rename Fr _ _ _ _ => F6)
      (rename News _ _ _ _ => N6)
      refine ⟨[], [], x.length, _, _, fun a led => ∃ n', led = (Ib, ob) :: (T3, oT) :: n' ∧ BlockJ C D' (fun m => m "k" = some (.int (((b + 1 : Nat)) : Int) tu2)) (fun ys nw => ∃ qs : List Pi, ys = prefs qs ∧ nw = (I, o) :: (L' + 1, oc') :: (Nl, listOf vs.toArray nn) :: (qs.map Pi.ent ++ rest) ∧ qs.length ≤ b * x.length + a ∧ (∀ q ∈ qs, q.a < x.length ∧ 1 ≤ q.k ∧ q.k ≤ 3 ∧ stutAt (L x) q.a q.k) ∧
          (qs = [] → (∀ k a, 1 ≤ k → k ≤ b → a < x.length → ¬ stutAt (L x) a k) ∧ ∀ a' < a, ¬ stutAt (L x) a' (b + 1))) n',
        src_range R6 (small_one (by (first | lia | omega)) (by (first | lia | omega)) (by (first | lia | omega)) (by (first | lia | omega))) _ (rs_to _ (by (first | lia | omega))), (by simp), ⟨F6, N6, G5, ho5, D5⟩, ⟨_, rfl, oC', _, _, _, rfl, hC', by ktr_unf, qs, rfl, rfl, by (first | lia | omega), hqs, fun e => ⟨hqe e, by intro a' h; (first | lia | omega)⟩⟩, ?_, ?_⟩
      · rintro I2 o2 a u news' s₆ hPa ha ⟨n', rfl, oC2, m3, ys2, n2, rfl, hC2, hk2, qs2, rfl, rfl, hn2, hqs2, hqe2⟩ S2 hpl2
        obtain ⟨tu3, rfl⟩ : ∃ t, u = .int ((a : Nat) : Int) t := by obtain ⟨t, e⟩ := hPa; exact ⟨t, by rw [e]; simp⟩
        refine blk_name (keep := [(Ib, ob), (T3, oT)]) rfl rfl hC2 S2 fun oC3 s₇ hC3 S3 => tests_one ?_
        obtain ⟨F7, N7, G7, ho7, D7⟩ := S3
        dsimp only [List.cons_append, List.nil_append] at N7 D7
        k_steps
        · (rename (_ == _) = true => hq)
          (rename Fr _ _ _ _ => F8)
          (rename News _ _ _ _ => N8)
          have hst := (slice_stut x a (b + 1)).mp hq
          refine emit_turn (keep := [(Ib, ob), (T3, oT)]) (ys := prefs qs2) (C := C) (Z := fun m => m "k" = some (.int (((b + 1 : Nat)) : Int) tu2)) F8 (fun news hB => ⟨news, rfl, hB⟩) ?_
          k_steps
          (rename Fr _ _ _ _ => F9)
          (rename News _ _ _ ((_, tupO _ _) :: _) => N9)
          (rename (_ ∧ _ ∧ _ ∧ _ ∧ _ ∧ _ ∧ _ ∧ _ ∧ AllLt _ _) => l9)
          rename_i T4 _
          have D9 := D7.more (o := tupO (.int (a : Int) tu3) (.int (((b + 1 : Nat)) : Int) tu2)) l9
          have pm : ((T4, tupO (.int (a : Int) tu3) (.int (((b + 1 : Nat)) : Int) tu2)) :: (I2, o2) :: (Ib, ob) :: (T3, oT) :: (C, oC3) :: (D', LCg.lst (prefs qs2)) :: (I, o) :: (L' + 1, oc') :: (Nl, listOf vs.toArray nn) :: (qs2.map Pi.ent ++ rest)).Perm
            ((I2, o2) :: [(Ib, ob), (T3, oT)] ++ (C, oC3) :: (D', LCg.lst (prefs qs2)) :: ((I, o) :: (L' + 1, oc') :: (Nl, listOf vs.toArray nn) :: ((qs2 ++ [Pi.mk T4 a tu3 (b + 1) tu2]).map Pi.ent ++ rest))) := (perm_of_cnt fun q => by simp only [pi_map_app, cnt_cons, cnt_app, cnt_nil, List.append_assoc, List.cons_append, List.nil_append, Nat.add_zero, Nat.zero_add] <;> first | ac_rfl | (first | lia | omega))
          have hb2 : b * x.length ≤ 3 * 300 := Nat.mul_le_mul (by have : b < 3 := hb; (first | lia | omega)) (by (first | lia | omega))
          refine ⟨oC3, _, _, hC3, by ktr_unf, by exact LoopSt.perm ⟨F9, N9, G7, ho7, D9⟩ pm, by rw [sizeLine_eq, prefs_len]; (first | lia | omega), qs2 ++ [Pi.mk T4 a tu3 (b + 1) tu2], by simp [prefs], rfl, by simp; (first | lia | omega), ?_, by simp⟩
          intro q hq
          rcases List.mem_append.mp hq with h | h
          · exact hqs2 q h
          · rw [List.mem_singleton.mp h]
            have : b < 3 := hb
            exact ⟨ha, by show 1 ≤ b + 1; (first | lia | omega), by show b + 1 ≤ 3; (first | lia | omega), hst⟩
        · (rename (_ == _) = false => hq)
          (rename Fr _ _ _ _ => F8)
          (rename News _ _ _ _ => N8)
          have hst : ¬ stutAt (L x) a (b + 1) := fun h => by rw [(slice_stut x a (b + 1)).mpr h] at hq; cases hq
          refine ⟨(Ib, ob) :: (T3, oT) :: _, ⟨F8, N8, G7, ho7, D7⟩, _, rfl, oC3, _, _, _, rfl, hC3, by ktr_unf, qs2, rfl, rfl, by (first | lia | omega), hqs2, fun e => ⟨(hqe2 e).1, fun a' h => ?_⟩⟩
          rcases Nat.lt_succ_iff_lt_or_eq.mp h with h | rfl
          · exact (hqe2 e).2 a' h
          · exact hst
      · rintro news' s₆ ⟨n', rfl, oC2, m3, ys2, n2, rfl, hC2, hk2, qs2, rfl, rfl, hn2, hqs2, hqe2⟩ S2
        refine ⟨(C, oC2) :: (D', LCg.lst (prefs qs2)) :: _, S2, oC2, m3, _, _, rfl, hC2, trivial, qs2, rfl, rfl, by rw [Nat.succ_mul]; exact hn2, hqs2, fun e k a h1 h2 ha => ?_⟩
        rcases Nat.lt_or_eq_of_le h2 with h | rfl
        · exact (hqe2 e).1 k a h1 (by (first | lia | omega)) ha
        · exact (hqe2 e).2 a ha
      -- >DEV
    · rintro D' ys nw s₄ ⟨qs, rfl, rfl, hqn, hqs, hqe⟩ S s₅ S5
      obtain ⟨F5, N5, G5, ho5, D5⟩ := S5
      dsimp only [List.cons_append, List.nil_append] at N5 D5
      replace F5 : Fr g L' s₅.heap _ := F5
      replace N5 : News g L' s₅.heap _ := N5
      replace ho5 : s₅.os = s₁.os := ho5.trans ho2
      (try clear S); (try clear F2); (try clear N2); (try clear ho2); (try clear l3); (try clear D3); (try clear hcT); (try clear hdT); (try clear D2); (try clear G2); (try clear R1); (try clear hoc); (try clear Dc); (try clear hlt); (try clear hL)
      have hb3 : (3 : Nat) * x.length ≤ 900 := by (first | lia | omega)
      replace hqn : qs.length ≤ 900 := by
        have : qs.length ≤ 3 * x.length := hqn
        (first | lia | omega)
      replace hqe : qs = [] → ∀ k a, 1 ≤ k → k ≤ 3 → a < x.length → ¬ stutAt (L x) a k := hqe
      have hGate : Gate "compareOp Eq ref ref" := ⟨⟩
      k_steps
      (repeat (with_reducible rename Gate _ => hG; clear hG))
      refine Stop.go ?_
      (rename Fr _ _ _ _ => F6)
      (rename News _ _ _ _ => N6)
      refine eq_pis (N6 _ (.tail _ (.tail _ (.head _)))).1 rfl rfl (fun q hq => (N6 _ (.tail _ (.tail _ (.tail _ (.tail _ (.tail _ (.tail _ (List.mem_append_left _ (List.mem_map.mpr ⟨q, hq, rfl⟩))))))))).1) (N6 _ (.head _)).1 rfl rfl (by show un + 64 < cLine; (first | lia | omega)) ?_
      have hGate : Gate "subscriptTail" := ⟨⟩
      k_steps
      · (rename _ = ([] : List Pi) => hq)
        (rename Fr _ _ _ _ => F7)
        (rename News _ _ _ _ => N7)
        subst hq
        subst hQT
        dsimp only [TurnPost]
        subst hQB; refine BodyPost.mk [(Nl, listOf vs.toArray nn)] F7 (fun q hq => N7 q (.tail _ (.tail _ (.tail _ (.tail _ (.tail _ hq)))))) G5 ho5 D ⟨⟨x, tx, rfl, ?_⟩, rfl⟩
        rw [mends_root hmd (ok_of_none (hqe rfl)), List.reverse_reverse]
      · (rename ¬ _ = ([] : List Pi) => hq)
        have hql : 0 < qs.length := List.length_pos_iff.mpr hq
        have hpl : (prefs qs).length = qs.length := prefs_len qs
        (repeat (with_reducible rename Gate _ => hG; clear hG))
        refine Stop.go ?_
        (rename Fr _ _ _ _ => F7)
        (rename News _ _ _ _ => N7)
        have hi7 : (((x.length : Nat) : Int).fmod 7).toNat < vs.length := by rw [hv.1, Int.fmod_eq_emod_of_nonneg _ (by decide)]; (first | lia | omega)
        have h07 : 0 ≤ ((x.length : Nat) : Int).fmod 7 := by rw [Int.fmod_eq_emod_of_nonneg _ (by decide)]; (first | lia | omega)
        have h17 : ((x.length : Nat) : Int).fmod 7 < 2 ^ 63 := by rw [Int.fmod_eq_emod_of_nonneg _ (by decide)]; (first | lia | omega)
        obtain ⟨kn, tkn, hkn, hkl⟩ := hv.2 _ (List.getElem_mem hi7)
        refine item_at (v := .int (kn : Int) tkn) (News.isList N7 (by k_mem)) h07 h17 (by rw [List.getElem?_eq_getElem hi7, hkn]) ?_ (by with_unfolding_all rfl)
        have hGate : Gate "subscriptTail" := ⟨⟩
        k_steps
        (repeat (with_reducible rename Gate _ => hG; clear hG))
        refine Stop.go ?_
        (rename Fr _ _ _ _ => F8)
        (rename News _ _ _ _ => N8)
        have hm0 : 0 ≤ ((kn : Nat) : Int).fmod (((prefs qs).length : Nat) : Int) := by rw [Int.fmod_eq_emod_of_nonneg _ (by (first | lia | omega))]; exact Int.emod_nonneg _ (by (first | lia | omega))
        have hm1 : ((kn : Nat) : Int).fmod (((prefs qs).length : Nat) : Int) < (((prefs qs).length : Nat) : Int) := by rw [Int.fmod_eq_emod_of_nonneg _ (by (first | lia | omega))]; exact Int.emod_lt_of_pos _ (by (first | lia | omega))
        have him : (((kn : Nat) : Int).fmod (((prefs qs).length : Nat) : Int)).toNat < qs.length := by (first | lia | omega)
        obtain ⟨q, hq2⟩ : ∃ q, qs[(((kn : Nat) : Int).fmod (((prefs qs).length : Nat) : Int)).toNat]? = some q := ⟨_, List.getElem?_eq_getElem him⟩
        have hqm := List.mem_of_getElem? hq2
        obtain ⟨hqa, hqk1, hqk3, hqst⟩ := hqs q hqm
        refine item_at (v := .ref q.T) (News.isList N8 (by k_mem)) hm0 (by (first | lia | omega)) (by unfold prefs; rw [List.getElem?_map]; unfold prefs at hq2; rw [hq2]; rfl) ?_ (by with_unfolding_all rfl)
        have N8 : News g L' _ ((D', LCg.lst (prefs qs)) :: (I, o) :: (L' + 1, oc') :: (Nl, listOf vs.toArray nn) :: (qs.map Pi.ent ++ rest)) := fun q hq => N8 q (.tail _ (.tail _ hq))
        have D8 : DN ((D', LCg.lst (prefs qs)) :: (I, o) :: (L' + 1, oc') :: (Nl, listOf vs.toArray nn) :: (qs.map Pi.ent ++ rest)) := D5.tail
        refine tup_pair rfl rfl rfl rfl F8 N8 (.tail _ (.tail _ (.tail _ (.tail _ (List.mem_append_left _ (List.mem_map.mpr ⟨q, hqm, rfl⟩)))))) rfl ⟨_, rfl⟩ ?_
        intro h9 t9 F9 N9
        have F9 : Fr g L' h9 _ := F9
        have N9 : News g L' h9 _ := N9
        clear F8 N8 D5 hm0 hm1 him hkn hi7 h07 h17 hkl hq2 hqn hqe hb3 hql hpl
        have hx300 : x.length ≤ 300 := by (first | lia | omega)
        have hGate : Gate "call ref" := ⟨⟩
        k_steps
        (repeat (with_reducible rename Gate _ => hG; clear hG))
        refine Stop.go ?_
        (rename Fr _ _ _ _ => F10)
        (rename News _ _ _ _ => N10)
        (rename Str.length _ ≤ 300 + 300 => hml)
        (rename Str.length _ ≤ 3 + 300 + 3 + 300 + 3 => hwl)
        have hak : ((q.a : Nat) : Int) + ((q.k : Nat) : Int) = ((q.a + q.k : Nat) : Int) := by (first | lia | omega)
        have hmd2 := stutAt_mend (by rw [L_len]; exact hqa) hqk1 hqk3 hqst
        have hml2 : (L x).length = (L (Txt.slice x none (some ((q.a : Nat) : Int)) ++ Txt.slice x (some (((q.a : Nat) : Int) + ((q.k : Nat) : Int))) none)).length + q.k := by
          have := stutAt_len (by rw [L_len]; exact hqa) hqk1 hqst
          rw [hak, L_app, L_take, L_drop, List.length_append, List.length_take, List.length_drop]; (first | lia | omega)
        refine Does.at (ell_spec w _ _ _ _ (Nat.le_trans hwl (by decide)) (Nat.le_trans hx300 (by decide))) B F10 X N10 T G5 D8 rfl _ (List.Perm.refl _) (by first | exact room1 (by assumption) (by decide) | exact room2 (by assumption) (by decide) | exact room3 (by assumption) (by decide) | (first | lia | omega)) (by first | exact room1 (by assumption) (by decide) | exact room2 (by assumption) (by decide) | exact room3 (by assumption) (by decide) | (first | lia | omega)) ?_
        rintro v s11 nw F11 N11 G11 ho11 D11 ⟨hv11, rfl⟩
        rw [hak, want_takes hxd ?h1 ?h2 (q.a + q.k)] at hv11
        case h1 => assumption
        case h2 => assumption
        subst hv11
        replace N11 : News g L' s11.heap ((D', LCg.lst (prefs qs)) :: (I, o) :: (L' + 1, oc') :: (Nl, listOf vs.toArray nn) :: (qs.map Pi.ent ++ rest)) := N11
        clear F10 N10
        have hGate : Gate "call ref" := ⟨⟩
        k_steps
        (repeat (with_reducible rename Gate _ => hG; clear hG))
        refine Stop.go ?_
        refine Does.at (ell_spec w _ _ _ _ (Nat.le_trans hwl (by decide)) (Nat.le_trans hml (by decide))) B F11 X N11 T G11 D8 rfl _ (List.Perm.refl _) (by first | exact room1 (by assumption) (by decide) | exact room2 (by assumption) (by decide) | exact room3 (by assumption) (by decide) | (first | lia | omega)) (by first | exact room1 (by assumption) (by decide) | exact room2 (by assumption) (by decide) | exact room3 (by assumption) (by decide) | (first | lia | omega)) ?_
        rintro v s12 nw F12 N12 G12 ho12 D12 ⟨hv12, rfl⟩
        have hsh : (Txt.slice x none (some ((q.a : Nat) : Int)) ++ Txt.slice x (some (((q.a : Nat) : Int) + ((q.k : Nat) : Int))) none).length < x.length := by rw [L_len, L_len] at hml2; (first | lia | omega)
        generalize hmE : Txt.slice x none (some ((q.a : Nat) : Int)) ++ Txt.slice x (some (((q.a : Nat) : Int) + ((q.k : Nat) : Int))) none = md at *
        rw [hak, want_short hxd ?h1 ?h2 (q.a + q.k) hsh] at hv12
        case h1 => assumption
        case h2 => assumption
        subst hv12
        replace N12 : News g L' s12.heap ((D', LCg.lst (prefs qs)) :: (I, o) :: (L' + 1, oc') :: (Nl, listOf vs.toArray nn) :: (qs.map Pi.ent ++ rest)) := N12
        clear F11 N11
        k_steps
        refine st_cell (pre := [(D', LCg.lst (prefs qs)), (I, o)]) (c := L' + 1) (o := oc') ⟨F12, N12, G12, ho12.trans (ho11.trans ho5), D8⟩ rfl rfl hoc' rfl ?_
        intro h13 oc2 hoc2 S13
        obtain ⟨F13, N13, G13, ho13, D13⟩ := S13
        k_steps
        have hsub : ∃ r, ((D', LCg.lst (prefs qs)) :: (I, o) :: (L' + 1, oc2) :: (Nl, listOf vs.toArray nn) :: (qs.map Pi.ent ++ rest)).Perm (r ++ ((I, o) :: [] ++ (L' + 1, oc2) :: (Nl, listOf vs.toArray nn) :: rest)) := ⟨(D', LCg.lst (prefs qs)) :: qs.map Pi.ent, (perm_of_cnt fun q => by simp only [pile, cnt_cons, cnt_app, cnt_nil, List.map_append, List.map_cons, List.map_nil, List.append_assoc, List.cons_append, List.nil_append, Nat.add_zero, Nat.zero_add] <;> first | ac_rfl | (first | lia | omega))⟩
        have hLm : L md = (L x).take q.a ++ (L x).drop (q.a + q.k) := by rw [← hmE, hak, L_app, L_take, L_drop]
        subst hQT
        refine ⟨_, _, ⟨F13, sub_nw N13 hsub, G13, ho13, sub_dn D13 hsub⟩, md, _, oc2, rfl, hoc2, by ktr_unf, hmd.trans (.step (by rw [hLm]; exact hmd2) (.refl _)), by (first | lia | omega), nodot_of hxd fun c hc => ?_⟩
        rw [hLm] at hc
        rcases List.mem_append.mp hc with h | h
        · exact List.mem_of_mem_take h
        · exact List.mem_of_mem_drop h
  · rintro m' nw s₂ ⟨x, tx, oc', rfl, hoc', hm, hmd, hxl, hxd⟩ S
    exfalso
    (first | lia | omega)
end Mine
end
section
open PySem PySem.W PyProof.Rows
set_option maxRecDepth 100000
set_option maxHeartbeats 8000000
namespace Mine
theorem lone_snoc (ls : List (List Nat)) (xs : List Nat) (x : Nat) : lone ls (xs ++ [x]) = lone ls xs ++ (if x % 6 < 3 then ls.getD (x % 6) [] else []) := by
  unfold lone
  rw [List.filter_append, List.flatMap_append]
  congr 1
  by_cases h : x % 6 < 3 <;> simp [h]
theorem mem_lone {ls : List (List Nat)} {x : Nat} {xs : List Nat} (h : x ∈ lone ls xs) : ∃ l ∈ ls, x ∈ l := by
  unfold lone at h
  obtain ⟨y, _, hy⟩ := List.mem_flatMap.mp h
  rw [List.getD_eq_getElem?_getD] at hy
  cases e : ls[y % 6]? with
  | none => rw [e] at hy; cases hy
  | some l => rw [e] at hy; exact ⟨l, List.mem_of_getElem? e, hy⟩
theorem len_lone {ls : List (List Nat)} (h : ∀ l ∈ ls, l.length ≤ 2) : ∀ xs : List Nat, (lone ls xs).length ≤ 2 * xs.length
  | [] => by simp [lone]
  | x :: xs => by
    have ih := len_lone h xs
    have e : lone ls (x :: xs) = (if x % 6 < 3 then ls.getD (x % 6) [] else []) ++ lone ls xs := by
      unfold lone
      by_cases hx : x % 6 < 3 <;> simp [hx]
    have h2 : (if x % 6 < 3 then ls.getD (x % 6) [] else []).length ≤ 2 := by
      split
      · rw [List.getD_eq_getElem?_getD]
        cases e : ls[x % 6]? with
        | none => simp
        | some l => exact h l (List.mem_of_getElem? e)
      · simp
    rw [e, List.length_append, List.length_cons]
    (first | lia | omega)
theorem law_d (w : World) (Sl : Addr) (so : Obj) (P : Pm) (hP : P.Ok) (Z : Px) (hZ : Z.Ok P)
  (next : ∀ t, LawFrom PySem.Challenge.rw_wr0021_01.row.prog w (Mine.frag.heap_1 w.params) 213 9 Sl so 70 77 50 500 (fun L' m led => st2 w 108 70 77 P Z L' m led ∧ m "plain" = some (.str Z.rt t))) :
  LawFrom PySem.Challenge.rw_wr0021_01.row.prog w (Mine.frag.heap_1 w.params) 213 8 Sl so 70 77 50 500 (st2 w 108 70 77 P Z) := by
  w_top off
  k_fill
  refine law_from (by k_is) ?_
  rintro loose mean mg mb dp un gd A₀ g L' fa ccd m led os s₁ Q E B X O T S ⟨Hm, Hz, oP, oL, pl, pl', dP, dL, hpl, hpl', rfl⟩ hdp hun hret
  have hm1 := Hm.text
  have hm2 := Hm.total
  have hm3 := Hm.nums
  have hm4 := Hz.root
  have hm5 := Hz.shown
  obtain ⟨F, N, G, ho, D⟩ : LoopSt g L' os s₁ m ((P.Nl, listOf (ivals P.xs).toArray P.nn) :: (L' + 1, oL) :: (L' + 1 + 1, oP) :: (70, tabO pl) :: (77, tabO pl') :: (P.Ll, listOf [.str P.a P.ta, .str P.b P.tb, .str P.c P.tc].toArray P.n3) :: (Z.S, listOf (strValues Z.ss).toArray Z.n2) :: pile w 108 Z.at_ Z.ts Z.n) := S.perm (perm_of_cnt fun q => by simp only [pile, cnt_cons, cnt_app, cnt_nil, List.map_append, List.map_cons, List.map_nil, List.append_assoc, List.cons_append, List.nil_append, Nat.add_zero, Nat.zero_add] <;> first | ac_rfl | (first | lia | omega))
  dsimp only [List.drop]
  (try (refine letA ?_; intro kA))
  have hGate : Gate "eval ListComp" := ⟨⟩
  k_steps
  (repeat (with_reducible rename Gate _ => hG; clear hG))
  refine Stop.go ?_
  refine Comp_obl F rfl (by with_unfolding_all rfl) (fun I C D => turn_one ..) ?_ (by decide) rfl (by decide) (by intro _; rfl)
  k_steps
  (rename Fr _ _ _ _ => F1)
  (rename News _ _ _ _ => N1)
  refine ⟨[P.Nl], [(P.Nl, listOf (ivals P.xs).toArray P.nn)], P.xs.length, _, _, fun i ys nw => ∃ zs : List (Str × Tok), ys = strValues zs ∧ nw = (L' + 1, oL) :: (L' + 1 + 1, oP) :: (70, tabO pl) :: (77, tabO pl') :: (P.Ll, listOf [.str P.a P.ta, .str P.b P.tb, .str P.c P.tc].toArray P.n3) :: (Z.S, listOf (strValues Z.ss).toArray Z.n2) :: pile w 108 Z.at_ Z.ts Z.n ∧ zs.length ≤ i ∧ zs.flatMap (fun z => L z.1) = lone [L P.a, L P.b, L P.c] ((P.xs.map (·.1)).take i),
    by rw [← ivals_len P.xs]; exact src_list ⟨_, (N1 _ (.head _)).1, rfl, _, rfl⟩, by simp, ⟨F1, N1, G, rfl, D⟩, ⟨[], rfl, rfl, by simp, rfl⟩, ?_, ?_⟩
  · rintro I o C D' oC m₂ i u ys nw s₂ hPi hi ⟨zs, rfl, rfl, hzl, hzs⟩ hC S hpl
    obtain ⟨p, hp, rfl⟩ := ivals_at hPi
    refine blk_name rfl rfl hC S fun oC' s₃ hC' S' => tests_one ?_
    obtain ⟨F2, N2, G2, ho2, D2⟩ := S'
    dsimp only [List.cons_append, List.nil_append] at N2 D2
    have hGate : Gate "subscriptTail" := ⟨⟩
    k_steps
    · (rename _ < (3 : Int) => hlt3)
      rw [fmod6] at hlt3
      refine emit_obl (ys := strValues zs) ?_
      refine open_Q ?_
      intro QT hQT
      k_steps
      (repeat (with_reducible rename Gate _ => hG; clear hG))
      refine Stop.go ?_
      (rename Fr _ _ _ _ => F6)
      (rename News _ _ _ _ => N6)
      obtain ⟨z, tzz, hzi, hzL⟩ : ∃ z tzz, [Value.str P.a P.ta, Value.str P.b P.tb, Value.str P.c P.tc][((p.1 : Nat) : Int).fmod 6 |>.toNat]? = some (.str z tzz) ∧ L z = [L P.a, L P.b, L P.c].getD (p.1 % 6) [] := by
        have hcase : p.1 % 6 = 0 ∨ p.1 % 6 = 1 ∨ p.1 % 6 = 2 := by (first | lia | omega)
        rw [fmod6]
        rcases hcase with h | h | h <;> rw [h]
        · exact ⟨P.a, P.ta, rfl, rfl⟩
        · exact ⟨P.b, P.tb, rfl, rfl⟩
        · exact ⟨P.c, P.tc, rfl, rfl⟩
      refine item_at (News.isList N6 (by k_mem)) (by rw [fmod6]; (first | lia | omega)) (by rw [fmod6]; (first | lia | omega)) hzi ?_ (by with_unfolding_all rfl)
      subst hQT
      refine ⟨oC', _, _, hC', trivial, ⟨F6, N6, G2, ho2, D2⟩, by rw [sizeLine_eq, show (strValues zs).length = zs.length by simp [strValues]]; have := hP.len; (first | lia | omega), zs ++ [(z, tzz)], by simp [strValues], rfl, by simp; (first | lia | omega), ?_⟩
      rw [List.flatMap_append, hzs, List.take_add_one, List.getElem?_map, hp]
      show _ = lone _ (_ ++ [p.1])
      rw [lone_snoc, if_pos (by (first | lia | omega)), ← hzL]
      simp
    · (rename ¬ _ < (3 : Int) => hlt3)
      rw [fmod6] at hlt3
      refine ⟨_, ⟨F2, N2, G2, ho2, D2⟩, oC', _, _, _, rfl, hC', trivial, zs, rfl, rfl, by (first | lia | omega), ?_⟩
      rw [hzs, List.take_add_one, List.getElem?_map, hp]
      show _ = lone _ (_ ++ [p.1])
      rw [lone_snoc, if_neg (by (first | lia | omega)), List.append_nil]
  · rintro D' ys nw s₄ ⟨zs, rfl, rfl, hzl, hzs⟩ S s₅ S5
    obtain ⟨F5, N5, G5, ho5, D5⟩ := S5
    dsimp only [List.cons_append, List.nil_append] at N5 D5
    replace F5 : Fr g L' s₅.heap _ := F5
    replace N5 : News g L' s₅.heap _ := N5
    replace ho5 : s₅.os = s₁.os := ho5
    clear F1 N1 S
    have hGate : Gate "call builtin:str.join" := ⟨⟩
    k_steps
    (repeat (with_reducible rename Gate _ => hG; clear hG))
    refine Stop.go ?_
    (rename Fr _ _ _ _ => F6)
    (rename News _ _ _ _ => N6)
    rw [List.take_of_length_le (by simp)] at hzs
    have hln := len_lone (ls := [L P.a, L P.b, L P.c]) (by simp only [List.mem_cons, List.not_mem_nil, or_false]; rintro l (rfl | rfl | rfl) <;> rw [L_len] <;> first | exact hP.len2.1 | exact hP.len2.2.1 | exact hP.len2.2.2) (P.xs.map (·.1))
    rw [List.length_map, hP.len] at hln
    refine join_led0 (News.isList N6 (.tail _ (.head _))) (by rw [hzs]; have := hP.len; (first | lia | omega)) ?_
    intro y t' k hy
    rw [hzs] at hy
    have hyl : y.length ≤ 14 := by rw [← L_len, hy]; exact hln
    have hyf : Fine y := fun x hx => by
      rw [hy] at hx
      obtain ⟨l, hl, h2⟩ := mem_lone hx
      exact hP.letter l hl x h2
    have hGate : Gate "call ref" := ⟨⟩
    k_steps
    (repeat (with_reducible rename Gate _ => hG; clear hG))
    refine Stop.go ?_
    (rename Fr _ _ _ _ => F7)
    (rename News _ _ _ _ => N7)
    refine Does.at (pile_spec w y _ 1 _ (Nat.le_trans hyl (by decide)) hyf ⟨by decide, by decide⟩ pl' hpl') B F7 X N7 T G5 D5 rfl ((P.Nl, listOf (ivals P.xs).toArray P.nn) :: (D', LCg.lst (strValues zs)) :: (L' + 1, oL) :: (L' + 1 + 1, oP) :: (70, tabO pl) :: (P.Ll, listOf [.str P.a P.ta, .str P.b P.tb, .str P.c P.tc].toArray P.n3) :: (Z.S, listOf (strValues Z.ss).toArray Z.n2) :: pile w 108 Z.at_ Z.ts Z.n) (perm_of_cnt fun q => by simp only [pile, cnt_cons, cnt_app, cnt_nil, List.map_append, List.map_cons, List.map_nil, List.append_assoc, List.cons_append, List.nil_append, Nat.add_zero, Nat.zero_add] <;> first | ac_rfl | (first | lia | omega)) (by first | exact room1 (by assumption) (by decide) | exact room2 (by assumption) (by decide) | exact room3 (by assumption) (by decide) | (first | lia | omega)) (by first | exact room1 (by assumption) (by decide) | exact room2 (by assumption) (by decide) | exact room3 (by assumption) (by decide) | (first | lia | omega)) ?_
    rintro v s8 nw F8 N8 G8 ho8 D8 ⟨R2, S2, Pl2, dx2, tk2, n2, n3, ts2, xs2, pl2, tail2, rfl, hpl2, hts2, hxs2, rfl⟩
    obtain ⟨rest8, N8, D8, hsub⟩ : ∃ rest8, News g L' s8.heap ((R2, tupO (.ref Pl2) (.ref S2)) :: (S2, listOf (strValues xs2).toArray n3) :: rest8) ∧ DN ((R2, tupO (.ref Pl2) (.ref S2)) :: (S2, listOf (strValues xs2).toArray n3) :: rest8) ∧
      ∃ r, ((R2, tupO (.ref Pl2) (.ref S2)) :: (S2, listOf (strValues xs2).toArray n3) :: rest8).Perm (r ++ ((P.Nl, listOf (ivals P.xs).toArray P.nn) :: (L' + 1, oL) :: (L' + 1 + 1, oP) :: (70, tabO pl) :: (77, tabO pl2) :: (P.Ll, listOf [.str P.a P.ta, .str P.b P.tb, .str P.c P.tc].toArray P.n3) :: (Z.S, listOf (strValues Z.ss).toArray Z.n2) :: pile w 108 Z.at_ Z.ts Z.n)) := by
      have e : ∃ rest8 : Led, ((77, tabO pl2) :: (R2, tupO (.ref Pl2) (.ref S2)) :: (S2, listOf (strValues xs2).toArray n3) :: (pile w 108 ⟨Pl2, dx2, 1, tk2, k⟩ ts2 n2 ++ tail2) ++ ((P.Nl, listOf (ivals P.xs).toArray P.nn) :: (D', LCg.lst (strValues zs)) :: (L' + 1, oL) :: (L' + 1 + 1, oP) :: (70, tabO pl) :: (P.Ll, listOf [.str P.a P.ta, .str P.b P.tb, .str P.c P.tc].toArray P.n3) :: (Z.S, listOf (strValues Z.ss).toArray Z.n2) :: pile w 108 Z.at_ Z.ts Z.n)).Perm
        ((R2, tupO (.ref Pl2) (.ref S2)) :: (S2, listOf (strValues xs2).toArray n3) :: rest8) ∧ ∃ r, ((R2, tupO (.ref Pl2) (.ref S2)) :: (S2, listOf (strValues xs2).toArray n3) :: rest8).Perm (r ++ ((P.Nl, listOf (ivals P.xs).toArray P.nn) :: (L' + 1, oL) :: (L' + 1 + 1, oP) :: (70, tabO pl) :: (77, tabO pl2) :: (P.Ll, listOf [.str P.a P.ta, .str P.b P.tb, .str P.c P.tc].toArray P.n3) :: (Z.S, listOf (strValues Z.ss).toArray Z.n2) :: pile w 108 Z.at_ Z.ts Z.n)) :=
        ⟨(77, tabO pl2) :: (pile w 108 ⟨Pl2, dx2, 1, tk2, k⟩ ts2 n2 ++ tail2) ++ ((P.Nl, listOf (ivals P.xs).toArray P.nn) :: (D', LCg.lst (strValues zs)) :: (L' + 1, oL) :: (L' + 1 + 1, oP) :: (70, tabO pl) :: (P.Ll, listOf [.str P.a P.ta, .str P.b P.tb, .str P.c P.tc].toArray P.n3) :: (Z.S, listOf (strValues Z.ss).toArray Z.n2) :: pile w 108 Z.at_ Z.ts Z.n), (perm_of_cnt fun q => by simp only [pile, cnt_cons, cnt_app, cnt_nil, List.map_append, List.map_cons, List.map_nil, List.append_assoc, List.cons_append, List.nil_append, Nat.add_zero, Nat.zero_add] <;> first | ac_rfl | (first | lia | omega)),
          (R2, tupO (.ref Pl2) (.ref S2)) :: (S2, listOf (strValues xs2).toArray n3) :: (D', LCg.lst (strValues zs)) :: (pile w 108 ⟨Pl2, dx2, 1, tk2, k⟩ ts2 n2 ++ tail2), (perm_of_cnt fun q => by simp only [pile, cnt_cons, cnt_app, cnt_nil, List.map_append, List.map_cons, List.map_nil, List.append_assoc, List.cons_append, List.nil_append, Nat.add_zero, Nat.zero_add] <;> first | ac_rfl | (first | lia | omega))⟩
      obtain ⟨rest8, e1, e2⟩ := e
      exact ⟨rest8, Mine.News.perm N8 e1, D8.perm e1, e2⟩
    (try clear F7); (try clear N7); (try clear N6); (try clear D5)
    obtain ⟨ini, last, rfl, hlast⟩ := shows_last hxs2
    have hrt : last.1 = Z.rt := str_ext (by
      show L last.1 = L Z.rt
      rw [hlast, hZ.rt, List.take_of_length_le (by rw [L_len]; exact Nat.le_refl _), hy, root_typed, ← hP.lt])
    have hGate : Gate "subscriptTail" := ⟨⟩
    k_steps
    (repeat (with_reducible rename Gate _ => hG; clear hG))
    refine Stop.go ?_
    (rename Fr _ _ _ _ => F9)
    (rename News _ _ _ _ => N9)
    refine item_tup (vs := [.ref Pl2, .ref S2]) (News.isTup N9 (.head _)) (by decide) (by decide) rfl ?_ (by with_unfolding_all rfl)
    have hGate : Gate "subscriptTail" := ⟨⟩
    k_steps
    (repeat (with_reducible rename Gate _ => hG; clear hG))
    refine Stop.go ?_
    have e14 : strValues (ini ++ [last]) = strValues ini ++ [.str last.1 last.2] := by rw [strVals_app]; rfl
    refine item_last (ini := strValues ini) (v := .str last.1 last.2) (by rw [← e14]; exact News.isList N9 (.tail _ (.head _))) ?_ (by with_unfolding_all rfl)
    rw [hrt]
    have hGate : Gate "execs cons" := ⟨⟩
    k_steps
    (repeat (with_reducible rename Gate _ => hG; clear hG))
    refine Stop.go ?_
    (rename Fr _ _ _ _ => F10)
    (rename News _ _ _ _ => N10)
    refine LawFrom.go (next last.2) (by k_is) rfl B X O T (by exact LoopSt.perm ⟨F10, sub_nw N10 hsub, G8, ho8.trans (ho5.trans ho), sub_dn D8 hsub⟩ (perm_of_cnt fun q => by simp only [pile, cnt_cons, cnt_app, cnt_nil, List.map_append, List.map_cons, List.map_nil, List.append_assoc, List.cons_append, List.nil_append, Nat.add_zero, Nat.zero_add] <;> first | ac_rfl | (first | lia | omega))) ⟨⟨⟨⟨(by ktr_unf), (by ktr_unf)⟩, (by ktr_unf)⟩, ⟨(by ktr_unf), (by ktr_unf)⟩, oP, oL, pl, pl2, dP, dL, hpl, hpl2, rfl⟩, ?m4⟩ hdp hun hret
    ktr_unf
end Mine
end
section
open PySem PySem.W PyProof.Rows
set_option maxRecDepth 100000
set_option maxHeartbeats 8000000
namespace Mine
theorem law_e (w : World) (Sl : Addr) (so : Obj) (P : Pm) (hP : P.Ok) (Z : Px) (hZ : Z.Ok P) (tq : Tok)
  (next : LawFrom PySem.Challenge.rw_wr0021_01.row.prog w (Mine.frag.heap_1 w.params) 213 10 Sl so 70 77 50 500 (st2 w 108 70 77 P Z)) :
  LawFrom PySem.Challenge.rw_wr0021_01.row.prog w (Mine.frag.heap_1 w.params) 213 9 Sl so 70 77 50 500 (fun L' m led => st2 w 108 70 77 P Z L' m led ∧ m "plain" = some (.str Z.rt tq)) := by
  w_top off
  k_fill
  refine law_from (by k_is) ?_
  rintro loose mean mg mb dp un gd A₀ g L' fa ccd m led os s₁ Q E B X O T S ⟨⟨Hm, Hz, oP, oL, pl, pl', dP, dL, hpl, hpl', rfl⟩, hm6⟩ hdp hun hret
  have hm1 := Hm.text
  have hm2 := Hm.total
  have hm3 := Hm.nums
  have hm4 := Hz.root
  have hm5 := Hz.shown
  obtain ⟨F, N, G, ho, D⟩ : LoopSt g L' os s₁ m ((L' + 1 + 1, oP) :: (L' + 1, oL) :: (70, tabO pl) :: (77, tabO pl') :: (P.Nl, listOf (ivals P.xs).toArray P.nn) :: (P.Ll, listOf [Value.str P.a P.ta, Value.str P.b P.tb, Value.str P.c P.tc].toArray P.n3) :: (Z.S, listOf (strValues Z.ss).toArray Z.n2) :: pile w 108 Z.at_ Z.ts Z.n) := by simpa only [Pm.core, List.cons_append, List.nil_append] using S
  clear S
  dsimp only [List.drop]
  (try (refine letA ?_; intro kA))
  have hGate : Gate "call ref" := ⟨⟩
  k_steps
  (repeat (with_reducible rename Gate _ => hG; clear hG))
  refine Stop.go ?_
  refine Does.at (ends_spec w P.text _ (Nat.le_trans hP.tlen (by decide)) hP.fine.nodot) B (by assumption) X (by assumption) T (by assumption) D rfl _ (.refl _) (by first | exact room1 (by assumption) (by decide) | exact room2 (by assumption) (by decide) | exact room3 (by assumption) (by decide) | (first | lia | omega)) (by first | exact room1 (by assumption) (by decide) | exact room2 (by assumption) (by decide) | exact room3 (by assumption) (by decide) | (first | lia | omega)) ?_
  rintro v s2 nw F2 N2 G2 ho2 D2 ⟨⟨t2, rfl⟩, rfl⟩
  have hGate : Gate "call ref" := ⟨⟩
  k_steps
  (repeat (with_reducible rename Gate _ => hG; clear hG))
  refine Stop.go ?_
  refine Does.at (any_spec w P.text P.tt P.Nl (ivals P.xs) P.nn (Nat.le_trans hP.tlen (by decide)) hP.fine.nodot ⟨(ivals_len _).trans hP.len, ?hv⟩) B (by assumption) X (by assumption) T (by assumption) D2 rfl ((L' + 1 + 1, oP) :: (L' + 1, oL) :: (70, tabO pl) :: (77, tabO pl') :: (P.Ll, listOf [Value.str P.a P.ta, Value.str P.b P.tb, Value.str P.c P.tc].toArray P.n3) :: (Z.S, listOf (strValues Z.ss).toArray Z.n2) :: pile w 108 Z.at_ Z.ts Z.n) (perm_of_cnt fun q => by simp only [pile, cnt_cons, cnt_app, cnt_nil, List.map_append, List.map_cons, List.map_nil, List.append_assoc, List.cons_append, List.nil_append, Nat.add_zero, Nat.zero_add] <;> first | ac_rfl | (first | lia | omega)) (by first | exact room1 (by assumption) (by decide) | exact room2 (by assumption) (by decide) | exact room3 (by assumption) (by decide) | (first | lia | omega)) (by first | exact room1 (by assumption) (by decide) | exact room2 (by assumption) (by decide) | exact room3 (by assumption) (by decide) | (first | lia | omega)) ?_
  case hv =>
    intro v hv
    obtain ⟨p, hp, rfl⟩ := List.mem_map.mp hv
    exact ⟨p.1, p.2, rfl, hP.le p hp⟩
  rintro v s3 nw F3 N3 G3 ho3 D3 ⟨⟨y, ty, rfl, hy⟩, rfl⟩
  have hr2 : (⟨(root (L P.text).reverse).toArray⟩ : Str) = Z.rt := str_ext (by rw [show Z.rt.cps.toList = L Z.rt from rfl, hZ.rt, root_back (L P.text).reverse, List.reverse_reverse])
  have hr3 : y = Z.rt := str_ext (by show L y = L Z.rt; rw [hZ.rt, hy])
  subst hr3
  rw [hr2]
  clear hr2
  dsimp only [List.nil_append, List.cons_append] at N3 D3
  (try clear F); (try clear N)
  have hGate : Gate "compareOp NotEq ref ref" := ⟨⟩
  k_steps
  (repeat (with_reducible rename Gate _ => hG; clear hG))
  refine Stop.go ?_
  (rename News _ _ _ _ => N4)
  have hok : ∀ x ∈ [Z.rt, Z.rt, Z.rt], PySem.PyData.strOk x = true := by
    intro x hx
    simp only [List.mem_cons, List.not_mem_nil, or_false, or_self] at hx
    subst hx
    exact (hZ.fine hP).ok
  refine ne_txts (a := [(Z.rt, _), (Z.rt, _), (Z.rt, _)]) (b := [(Z.rt, _), (Z.rt, _), (Z.rt, _)]) (N4 _ (.tail _ (.head _))).1 rfl rfl (N4 _ (.head _)).1 rfl rfl hok hok (by show un + 64 < cLine; (first | lia | omega)) ?_
  rw [show (!decide (([(Z.rt, _), (Z.rt, _), (Z.rt, _)] : List (Str × Tok)).map (·.1) = ([(Z.rt, _), (Z.rt, _), (Z.rt, _)] : List (Str × Tok)).map (·.1))) = false by simp]
  have hGate : Gate "execs cons" := ⟨⟩
  k_steps
  (repeat (with_reducible rename Gate _ => hG; clear hG))
  refine Stop.go ?_
  dsimp only
  (rename Fr _ _ _ _ => F5)
  refine LawFrom.go next (by k_is) rfl B X O T (by exact LoopSt.perm ⟨F5, fun q hq => N4 q (.tail _ (.tail _ hq)), G3, ho3.trans (ho2.trans ho), D3⟩ (perm_of_cnt fun q => by simp only [pile, cnt_cons, cnt_app, cnt_nil, List.map_append, List.map_cons, List.map_nil, List.append_assoc, List.cons_append, List.nil_append, Nat.add_zero, Nat.zero_add] <;> first | ac_rfl | (first | lia | omega))) ⟨Hm, Hz, oP, oL, pl, pl', dP, dL, hpl, hpl', rfl⟩ hdp hun hret
end Mine
end
section
open PySem PySem.W PyProof.Rows
set_option maxRecDepth 100000
set_option maxHeartbeats 8000000
namespace Mine
theorem law_f (w : World) (Sl : Addr) (so : Obj) (P : Pm) (hP : P.Ok) (Z : Px) (hZ : Z.Ok P)
  (next : LawFrom PySem.Challenge.rw_wr0021_01.row.prog w (Mine.frag.heap_1 w.params) 213 11 Sl so 70 77 50 500 (st2 w 108 70 77 P Z)) :
  LawFrom PySem.Challenge.rw_wr0021_01.row.prog w (Mine.frag.heap_1 w.params) 213 10 Sl so 70 77 50 500 (st2 w 108 70 77 P Z) := by
  w_top off
  k_fill
  refine law_from (by k_is) ?_
  rintro loose mean mg mb dp un gd A₀ g L' fa ccd m led os s₁ Q E B X O T S ⟨Hm, Hz, oP, oL, pl, pl', dP, dL, hpl, hpl', rfl⟩ hdp hun hret
  have hm5 := Hz.shown
  obtain ⟨F, N, G, ho, D⟩ : LoopSt g L' os s₁ m ((Z.S, listOf (strValues Z.ss).toArray Z.n2) :: (L' + 1 + 1, oP) :: (L' + 1, oL) :: (70, tabO pl) :: (77, tabO pl') :: (P.Nl, listOf (ivals P.xs).toArray P.nn) :: (P.Ll, listOf [Value.str P.a P.ta, Value.str P.b P.tb, Value.str P.c P.tc].toArray P.n3) :: pile w 108 Z.at_ Z.ts Z.n) := S.perm (perm_of_cnt fun q => by simp only [pile, cnt_cons, cnt_app, cnt_nil, List.map_append, List.map_cons, List.map_nil, List.append_assoc, List.cons_append, List.nil_append, Nat.add_zero, Nat.zero_add] <;> first | ac_rfl | (first | lia | omega))
  dsimp only [List.drop]
  (try (refine letA ?_; intro kA))
  have hGate : Gate "exec For" := ⟨⟩
  k_steps
  (repeat (with_reducible rename Gate _ => hG; clear hG))
  refine Stop.go ?_
  refine For_obl (h₀ := g) rfl ?_ (by intro _; rfl)
  k_steps
  (rename Fr _ _ _ _ => F1)
  (rename News _ _ _ _ => N1)
  refine ⟨[Z.S], [(Z.S, listOf (strValues Z.ss).toArray Z.n2)], Z.ss.length, _, _, _, fun i m' nw => nw = (L' + 1 + 1, oP) :: (L' + 1, oL) :: (70, tabO pl) :: (77, tabO pl') :: (P.Nl, listOf (ivals P.xs).toArray P.nn) :: (P.Ll, listOf [Value.str P.a P.ta, Value.str P.b P.tb, Value.str P.c P.tc].toArray P.n3) :: pile w 108 Z.at_ Z.ts Z.n ∧ P.In m' ∧ Z.In m', _,
    by rw [← show (strValues Z.ss).length = Z.ss.length by simp [strValues]]; exact src_list ⟨_, (N1 _ (.head _)).1, rfl, _, rfl⟩, by simp, ⟨F1, N1, G, rfl, D⟩, ⟨rfl, Hm, Hz⟩, fun I o i u m' nw s₂ Q' hP hi hJ S _ h => asg_name rfl rfl S h, ?_, ?_⟩
  · rintro I o i u m' nw s₅ hPi hi ⟨rfl, Hm', Hz'⟩ ⟨F5, N5, G5, ho5, D5⟩
    obtain ⟨p, hp, rfl⟩ := strVals_at hPi
    have hm1 := Hm'.text
    have hm2 := Hm'.total
    have hm3 := Hm'.nums
    have hm4 := Hz'.root
    have hm6 := Hz'.shown
    dsimp only [List.cons_append, List.nil_append] at N5 D5
    replace F5 : Fr g L' s₅.heap _ := F5
    replace N5 : News g L' s₅.heap _ := N5
    replace ho5 : s₅.os = s₁.os := ho5
    clear F1 N1 hPi
    refine open_Q ?_
    intro QT hQT
    have hGate : Gate "call ref" := ⟨⟩
    k_steps
    (repeat (with_reducible rename Gate _ => hG; clear hG))
    refine Stop.go ?_
    refine Does.at (ell_spec w _ _ _ _ (Nat.le_trans (hZ.atLen hP hp) (by decide)) (Nat.le_trans (hZ.len hP) (by decide))) B F5 X N5 T G5 D5 rfl _ (List.Perm.refl _) (by first | exact room1 (by assumption) (by decide) | exact room2 (by assumption) (by decide) | exact room3 (by assumption) (by decide) | (first | lia | omega)) (by first | exact room1 (by assumption) (by decide) | exact room2 (by assumption) (by decide) | exact room3 (by assumption) (by decide) | (first | lia | omega)) ?_
    rintro v s6 nw F6 N6 G6 ho6 D6 ⟨hv6, rfl⟩
    rw [ellM_plain (hZ.atFine hP hp).nodot] at hv6
    subst hv6
    dsimp only [List.cons_append, List.nil_append] at N6 D6
    have hGate : Gate "call ref" := ⟨⟩
    k_steps
    (repeat (with_reducible rename Gate _ => hG; clear hG))
    refine Stop.go ?_
    refine Does.at (ell_spec w _ _ _ _ (Nat.le_trans (hZ.len hP) (by decide)) (Nat.le_trans (hZ.atLen hP hp) (by decide))) B F6 X N6 T G6 D6 rfl _ (List.Perm.refl _) (by first | exact room1 (by assumption) (by decide) | exact room2 (by assumption) (by decide) | exact room3 (by assumption) (by decide) | (first | lia | omega)) (by first | exact room1 (by assumption) (by decide) | exact room2 (by assumption) (by decide) | exact room3 (by assumption) (by decide) | (first | lia | omega)) ?_
    rintro v s7 nw F7 N7 G7 ho7 D7 ⟨hv7, rfl⟩
    rw [ellM_plain (hZ.fine hP).nodot] at hv7
    subst hv7
    dsimp only [List.cons_append, List.nil_append] at N7 D7
    clear F5 N5 F6 N6
    rw [show (Z.rt == p.1) = (p.1 == Z.rt) from Bool.beq_comm] at *
    have hGate : Gate "binaryOp Mult ref int" := ⟨⟩
    k_steps
    (repeat (with_reducible rename Gate _ => hG; clear hG))
    refine Stop.go ?_
    (rename Fr _ _ _ _ => F8)
    (rename News _ _ _ _ => N8)
    refine KMa.mul (vs := [.bool (p.1 == Z.rt)]) F8 N8 (News.isList N8 (.head _)) (by decide) (by decide) (by simp) rfl ?_
    intro D9 h9 F9 N9 l9
    have hGate : Gate "compareOp NotEq ref ref" := ⟨⟩
    k_steps
    (repeat (with_reducible rename Gate _ => hG; clear hG))
    refine Stop.go ?_
    refine ne_same (d := .list [.bool (p.1 == Z.rt), .bool (p.1 == Z.rt)]) (reads_list_at (N9 _ (.tail _ (.tail _ (.head _)))).1 rfl rfl (.cons (.bool _) (.cons (.bool _) .nil))) (reads_list_at (N9 _ (.head _)).1 rfl rfl (.cons (.bool _) (.cons (.bool _) .nil))) rfl rfl (by show un + 64 < cLine; (first | lia | omega)) ?_
    have hGate : Gate "execs cons" := ⟨⟩
    k_steps
    subst hQT
    refine ⟨_, _, ⟨F9, fun q hq => N9 q (.tail _ (.tail _ (.tail _ hq))), G7, ho7.trans (ho6.trans ho5), D7⟩, rfl, ⟨⟨⟨(by ktr_unf), (by ktr_unf)⟩, (by ktr_unf)⟩, ⟨(by ktr_unf), (by ktr_unf)⟩⟩⟩
  · rintro m' nw s₅ ⟨rfl, Hm', Hz'⟩ S5
    dsimp only
    obtain ⟨F5, N5, G5, ho5, D5⟩ := S5
    refine LawFrom.go next (by k_is) rfl B X O T (by exact LoopSt.perm ⟨F5, N5, G5, ho5.trans ho, D5⟩ (perm_of_cnt fun q => by simp only [pile, cnt_cons, cnt_app, cnt_nil, List.map_append, List.map_cons, List.map_nil, List.append_assoc, List.cons_append, List.nil_append, Nat.add_zero, Nat.zero_add] <;> first | ac_rfl | (first | lia | omega))) ⟨Hm', Hz', oP, oL, pl, pl', dP, dL, hpl, hpl', rfl⟩ hdp hun hret
end Mine
end
section
open PySem PySem.W PyProof.Rows
set_option maxRecDepth 100000
set_option maxHeartbeats 8000000
namespace Mine
theorem law_i (w : World) (Sl : Addr) (so : Obj) (P : Pm) (hP : P.Ok) (Z : Px) (hZ : Z.Ok P)
  (next : ∀ (ah : Str) (ta : Tok), L ah = aheadL (L P.text) → LawFrom PySem.Challenge.rw_wr0021_01.row.prog w (Mine.frag.heap_1 w.params) 213 14 Sl so 70 77 50 500 (fun L' m led => st3 70 77 P Z L' m led ∧ m "ahead" = some (.str ah ta))) :
  LawFromT PySem.Challenge.rw_wr0021_01.row.prog w (Mine.frag.heap_1 w.params) 213 13 Sl so 70 77 50 500 (st3 70 77 P Z) := by
  w_top off
  k_fill
  refine law_fromT (by k_is) ?_
  rintro loose mean mg mb dp un gd A₀ g L' fa ccd m led os s₁ Q E B X O T S htk ⟨Hm, Hz, oP, oL, pl, pl', dP, dL, hpl, hpl', rfl⟩ hdp hun hret
  have hm1 := Hm.text
  have htl := hP.tlen
  have hm2 := Hm.total
  have hm3 := Hm.nums
  have hm4 := Hz.root
  have hm5 := Hz.shown
  obtain ⟨F, N, G, ho, D⟩ : LoopSt g L' os s₁ m ((L' + 1 + 1, oP) :: (L' + 1, oL) :: (Z.S, listOf (strValues Z.ss).toArray Z.n2) :: (70, tabO pl) :: (77, tabO pl') :: (P.Nl, listOf (ivals P.xs).toArray P.nn) :: (P.Ll, listOf [Value.str P.a P.ta, Value.str P.b P.tb, Value.str P.c P.tc].toArray P.n3) :: []) := S.perm (perm_of_cnt fun q => by simp only [pile, cnt_cons, cnt_app, cnt_nil, List.map_append, List.map_cons, List.map_nil, List.append_assoc, List.cons_append, List.nil_append, Nat.add_zero, Nat.zero_add] <;> first | ac_rfl | (first | lia | omega))
  dsimp only [List.drop]
  (try (refine letA ?_; intro kA))
  have hGate : Gate "call builtin:str.split" := ⟨⟩
  k_steps
  (repeat (with_reducible rename Gate _ => hG; clear hG))
  refine Stop.go ?_
  have hrp := replace_pairs P.text
  generalize Txt.replace P.text (Str.ofString "\"\"") (Str.ofString ".") = rp at *
  have hrl : rp.length ≤ 21 := by rw [← L_len, hrp]; exact Nat.le_trans (rd_len _) (by rw [L_len]; exact htl)
  refine splitN1 F N (by decide +kernel) ?_ (by rw [sizeLine_eq]; (first | lia | omega))
  intro l h2 tk2 hl F2 N2
  obtain ⟨z, r, hs, hz⟩ := split_first rp 34
  rw [mark_str, hs] at hl
  obtain ⟨p, l, rfl, rfl, hl2⟩ := List.map_eq_cons_iff.mp hl
  have hGate : Gate "subscriptTail" := ⟨⟩
  k_steps
  (repeat (with_reducible rename Gate _ => hG; clear hG))
  refine Stop.go ?_
  refine item_at (vs := strValues (p :: l)) (News.isList N2 (.head _)) (by decide) (by decide) rfl ?_ (by with_unfolding_all rfl)
  have hGate : Gate "execs cons" := ⟨⟩
  k_steps
  (repeat (with_reducible rename Gate _ => hG; clear hG))
  refine Stop.go ?_
  (rename Fr _ _ _ _ => F3)
  (rename News _ _ _ _ => N3)
  refine LawFrom.go (next p.1 p.2 (by rw [hz, hrp]; rfl)) (by k_is) rfl B X O T (by exact LoopSt.perm ⟨F3, fun q hq => N3 q (.tail _ hq), G, ho, D⟩ (perm_of_cnt fun q => by simp only [pile, cnt_cons, cnt_app, cnt_nil, List.map_append, List.map_cons, List.map_nil, List.append_assoc, List.cons_append, List.nil_append, Nat.add_zero, Nat.zero_add] <;> first | ac_rfl | (first | lia | omega))) ⟨⟨⟨⟨(by ktr_unf), (by ktr_unf)⟩, (by ktr_unf)⟩, ⟨(by ktr_unf), (by ktr_unf)⟩, oP, oL, pl, pl', dP, dL, hpl, hpl', rfl⟩, ?m4⟩ hdp hun hret
  ktr_unf
end Mine
end
section
open PySem PySem.W PyProof.Rows
set_option maxRecDepth 100000
set_option maxHeartbeats 8000000
namespace Mine
theorem mem_p257 : ∀ (n : Nat) (l : List Nat), l.length ≤ n → (∀ x ∈ p257 l, x ∈ l) ∧ (p257 l).length ≤ l.length
  | 0, l, h => by
    cases List.length_eq_zero_iff.mp (Nat.le_zero.mp h)
    rw [p257]; exact ⟨fun _ h => h, Nat.le_refl 0⟩
  | n + 1, [], _ => by rw [p257]; exact ⟨fun _ h => h, Nat.le_refl _⟩
  | n + 1, c :: r, h => by
    simp only [List.length_cons] at h
    by_cases hc : c = 34
    · subst hc
      by_cases h2 : r.head? = some 34
      · cases r with
        | nil => cases h2
        | cons d r =>
          obtain rfl : d = 34 := by simpa using h2
          have ih := mem_p257 n r (by simp only [List.length_cons] at h; (first | lia | omega))
          rw [p257_mark]
          refine ⟨fun x hx => ?_, by have := ih.2; simp only [List.length_cons]; (first | lia | omega)⟩
          rcases List.mem_cons.mp hx with h | hx
          · rw [h]; exact .head _
          · exact .tail _ (.tail _ (ih.1 x hx))
      · rw [p257_mark_end h2]; exact ⟨fun x hx => (nomatch hx), Nat.zero_le _⟩
    · have ih := mem_p257 n r (by (first | lia | omega))
      rw [p257_sign hc]
      refine ⟨fun x hx => ?_, by have := ih.2; simp only [List.length_cons]; (first | lia | omega)⟩
      rcases List.mem_cons.mp hx with rfl | hx
      · exact .head _
      · exact .tail _ (ih.1 x hx)
theorem law_j (w : World) (Sl : Addr) (so : Obj) (P : Pm) (hP : P.Ok) (Z : Px) (hZ : Z.Ok P) (ah : Str) (ta : Tok) (hah : L ah = aheadL (L P.text))
  (next : LawFrom PySem.Challenge.rw_wr0021_01.row.prog w (Mine.frag.heap_1 w.params) 213 16 Sl so 70 77 50 500 (st3 70 77 P Z)) :
  LawFrom PySem.Challenge.rw_wr0021_01.row.prog w (Mine.frag.heap_1 w.params) 213 14 Sl so 70 77 50 500 (fun L' m led => st3 70 77 P Z L' m led ∧ m "ahead" = some (.str ah ta)) := by
  w_top off
  k_fill
  refine law_from (by k_is) ?_
  rintro loose mean mg mb dp un gd A₀ g L' fa ccd m led os s₁ Q E B X O T S ⟨⟨Hm, Hz, oP, oL, pl, pl', dP, dL, hpl, hpl', rfl⟩, hm6⟩ hdp hun hret
  have hm1 := Hm.text
  have hm2 := Hm.total
  have hm3 := Hm.nums
  have hm4 := Hz.root
  have hm5 := Hz.shown
  have htl := hP.tlen
  have hnd : 46 ∉ L P.text := hP.fine.nodot
  obtain ⟨htd1, htd2, htd3⟩ := told_root hnd
  obtain ⟨hpm, hpl9⟩ := mem_p257 _ (L P.text) (Nat.le_refl _)
  have hahl : ah.length ≤ 21 := by
    rw [← L_len, hah]
    unfold aheadL
    exact Nat.le_trans (List.takeWhile_sublist _).length_le (Nat.le_trans (rd_len _) (by rw [L_len]; exact htl))
  obtain ⟨F, N, G, ho, D⟩ : LoopSt g L' os s₁ m ((L' + 1 + 1, oP) :: (L' + 1, oL) :: (Z.S, listOf (strValues Z.ss).toArray Z.n2) :: (70, tabO pl) :: (77, tabO pl') :: (P.Nl, listOf (ivals P.xs).toArray P.nn) :: (P.Ll, listOf [Value.str P.a P.ta, Value.str P.b P.tb, Value.str P.c P.tc].toArray P.n3) :: []) := S.perm (perm_of_cnt fun q => by simp only [pile, cnt_cons, cnt_app, cnt_nil, List.map_append, List.map_cons, List.map_nil, List.append_assoc, List.cons_append, List.nil_append, Nat.add_zero, Nat.zero_add] <;> first | ac_rfl | (first | lia | omega))
  dsimp only [List.drop]
  (try (refine letA ?_; intro kA))
  have hGate : Gate "binaryOp Add str str" := ⟨⟩
  k_steps
  (repeat (with_reducible rename Gate _ => hG; clear hG))
  refine Stop.go ?_
  refine with_toks ?_
  refine add_led (a := 5) (b := 21) (by decide +kernel) htl (by decide) ?_
  intro t1 k1 hrl htk1
  have hk1 : k1 ≠ 0 := Nat.ne_of_gt (Nat.lt_of_lt_of_le (Nat.succ_pos _) htk1)
  clear htk1
  have hGate : Gate "call ref" := ⟨⟩
  k_steps
  (repeat (with_reducible rename Gate _ => hG; clear hG))
  refine Stop.go ?_
  have hresp : L (Str.ofString "257 \"" ++ P.text) = [50, 53, 55, 32, 34] ++ L P.text := by rw [L_app]; congr 1
  generalize Str.ofString "257 \"" ++ P.text = resp at *
  refine with_toks ?_
  refine Does.at (reply_spec w resp _ (Nat.le_trans hrl (by decide)) (by rw [show resp.cps.toList = L resp from rfl, hresp]; rfl)) B (by assumption) X (by assumption) T (by assumption) D rfl _ (.refl _) (by first | exact room1 (by assumption) (by decide) | exact room2 (by assumption) (by decide) | exact room3 (by assumption) (by decide) | (first | lia | omega)) (by first | exact room1 (by assumption) (by decide) | exact room2 (by assumption) (by decide) | exact room3 (by assumption) (by decide) | (first | lia | omega)) ?_
  rintro v s2 nw F2 N2 G2 ho2 D2 ⟨⟨t2, rfl⟩, rfl⟩ htk2
  have ht2 : s2.toks ≠ 0 := by have h : k1 ≤ s2.toks := htk2; (first | lia | omega)
  clear htk2
  have htd : L (parseM resp) = p257 (L P.text) := by
    unfold parseM
    rw [show resp.cps.toList = L resp from rfl, hresp, if_pos (by rfl)]
    rfl
  generalize parseM resp = td at *
  have hGate : Gate "execs cons" := ⟨⟩
  k_steps
  (repeat (with_reducible rename Gate _ => hG; clear hG))
  refine Stop.go ?_
  refine gen_toks (by exact Nat.succ_ne_zero _) ?_
  intro k3 hk3
  have hGate : Gate "compareOp NotEq str str" := ⟨⟩
  k_steps
  (repeat (with_reducible rename Gate _ => hG; clear hG))
  refine Stop.go ?_
  have hr1 : Txt.replace ah (Str.ofString ".") (Str.ofString "\"") = td := str_ext (by
    show L _ = L td
    rw [show Str.ofString "." = ⟨#[46]⟩ by decide +kernel, replace_sign, hah, htd, ← htd1, show L (Str.ofString "\"") = [34] by decide +kernel]
    rfl)
  rw [hr1]
  have hGate : Gate "call ref" := ⟨⟩
  k_steps
  · exfalso
    (rename (_ != _) = true => hne)
    simp at hne
  · (repeat (with_reducible rename Gate _ => hG; clear hG))
    refine Stop.go ?_
    (rename Fr _ _ _ _ => F3)
    (rename News _ _ _ _ => N3)
    have htdl : td.length ≤ 21 := by rw [← L_len, htd]; exact Nat.le_trans hpl9 (by rw [L_len]; exact htl)
    have htdf : Fine td := hP.fine.of fun c hc => by rw [htd] at hc; exact hpm c hc
    refine with_toks ?_
    refine Does.at (pile_spec w td _ 0 _ (Nat.le_trans htdl (by decide)) htdf ⟨by decide, by decide⟩ pl' hpl') B F3 X N3 T G2 D2 rfl ((L' + 1 + 1, oP) :: (L' + 1, oL) :: (Z.S, listOf (strValues Z.ss).toArray Z.n2) :: (70, tabO pl) :: (P.Nl, listOf (ivals P.xs).toArray P.nn) :: (P.Ll, listOf [Value.str P.a P.ta, Value.str P.b P.tb, Value.str P.c P.tc].toArray P.n3) :: []) (perm_of_cnt fun q => by simp only [pile, cnt_cons, cnt_app, cnt_nil, List.map_append, List.map_cons, List.map_nil, List.append_assoc, List.cons_append, List.nil_append, Nat.add_zero, Nat.zero_add] <;> first | ac_rfl | (first | lia | omega)) (by first | exact room1 (by assumption) (by decide) | exact room2 (by assumption) (by decide) | exact room3 (by assumption) (by decide) | (first | lia | omega)) (by first | exact room1 (by assumption) (by decide) | exact room2 (by assumption) (by decide) | exact room3 (by assumption) (by decide) | (first | lia | omega)) ?_
    rintro v s8 nw F8 N8 G8 ho8 D8 ⟨R2, S2, Pl2, dx2, tk2, n2, n3, ts2, xs2, pl2, tail2, rfl, hpl2, hts2, hxs2, rfl⟩ htk8
    have ht8 : s8.toks ≠ 0 := Nat.ne_of_gt (Nat.lt_of_lt_of_le (Nat.succ_pos _) htk8)
    clear htk8
    obtain ⟨at2, N8, D8⟩ : ∃ at2 : At, News g L' s8.heap ((77, tabO pl2) :: (R2, tupO (.ref Pl2) (.ref S2)) :: (S2, listOf (strValues xs2).toArray n3) :: (pile w 108 at2 ts2 n2 ++ tail2) ++ ((L' + 1 + 1, oP) :: (L' + 1, oL) :: (Z.S, listOf (strValues Z.ss).toArray Z.n2) :: (70, tabO pl) :: (P.Nl, listOf (ivals P.xs).toArray P.nn) :: (P.Ll, listOf [Value.str P.a P.ta, Value.str P.b P.tb, Value.str P.c P.tc].toArray P.n3) :: [])) ∧ DN ((77, tabO pl2) :: (R2, tupO (.ref Pl2) (.ref S2)) :: (S2, listOf (strValues xs2).toArray n3) :: (pile w 108 at2 ts2 n2 ++ tail2) ++ ((L' + 1 + 1, oP) :: (L' + 1, oL) :: (Z.S, listOf (strValues Z.ss).toArray Z.n2) :: (70, tabO pl) :: (P.Nl, listOf (ivals P.xs).toArray P.nn) :: (P.Ll, listOf [Value.str P.a P.ta, Value.str P.b P.tb, Value.str P.c P.tc].toArray P.n3) :: [])) := ⟨_, N8, D8⟩
    have e8 : ((77, tabO pl2) :: (R2, tupO (.ref Pl2) (.ref S2)) :: (S2, listOf (strValues xs2).toArray n3) :: (pile w 108 at2 ts2 n2 ++ tail2) ++ ((L' + 1 + 1, oP) :: (L' + 1, oL) :: (Z.S, listOf (strValues Z.ss).toArray Z.n2) :: (70, tabO pl) :: (P.Nl, listOf (ivals P.xs).toArray P.nn) :: (P.Ll, listOf [Value.str P.a P.ta, Value.str P.b P.tb, Value.str P.c P.tc].toArray P.n3) :: [])).Perm ((L' + 1 + 1, oP) :: (L' + 1, oL) :: (Z.S, listOf (strValues Z.ss).toArray Z.n2) :: (R2, tupO (.ref Pl2) (.ref S2)) :: (S2, listOf (strValues xs2).toArray n3) :: (70, tabO pl) :: (77, tabO pl2) :: (P.Nl, listOf (ivals P.xs).toArray P.nn) :: (P.Ll, listOf [Value.str P.a P.ta, Value.str P.b P.tb, Value.str P.c P.tc].toArray P.n3) :: (pile w 108 at2 ts2 n2 ++ tail2)) := (perm_of_cnt fun q => by simp only [pile, cnt_cons, cnt_app, cnt_nil, List.map_append, List.map_cons, List.map_nil, List.append_assoc, List.cons_append, List.nil_append, Nat.add_zero, Nat.zero_add] <;> first | ac_rfl | (first | lia | omega))
    replace N8 := Mine.News.perm N8 e8
    replace D8 := D8.perm e8
    clear e8 F3 N3
    generalize pile w 108 at2 ts2 n2 ++ tail2 = rest8 at *
    obtain ⟨ini, last, rfl, hlast⟩ := shows_last hxs2
    have hGate : Gate "subscriptTail" := ⟨⟩
    k_steps
    (repeat (with_reducible rename Gate _ => hG; clear hG))
    refine Stop.go ?_
    (rename Fr _ _ _ _ => F9)
    (rename News _ _ _ _ => N9)
    refine item_tup (vs := [.ref Pl2, .ref S2]) (News.isTup N9 (.tail _ (.tail _ (.tail _ (.head _))))) (by decide) (by decide) rfl ?_ (by with_unfolding_all rfl)
    have hGate : Gate "subscriptTail" := ⟨⟩
    k_steps
    (repeat (with_reducible rename Gate _ => hG; clear hG))
    refine Stop.go ?_
    have e14 : strValues (ini ++ [last]) = strValues ini ++ [.str last.1 last.2] := by rw [strVals_app]; rfl
    refine item_last (ini := strValues ini) (v := .str last.1 last.2) (by rw [← e14]; exact News.isList N9 (.tail _ (.tail _ (.tail _ (.tail _ (.head _)))))) ?_ (by with_unfolding_all rfl)
    clear e14
    have hGate : Gate "call builtin:len" := ⟨⟩
    k_steps
    (repeat (with_reducible rename Gate _ => hG; clear hG))
    refine Stop.go ?_
    have hr2 : L (Txt.replace ah (Str.ofString ".") (Str.ofString "\"\"")) = und [34, 34] (aheadL (L P.text)) := by
      rw [show Str.ofString "." = ⟨#[46]⟩ by decide +kernel, replace_sign, hah, show L (Str.ofString "\"\"") = [34, 34] by decide +kernel]
      rfl
    generalize Txt.replace ah (Str.ofString ".") (Str.ofString "\"\"") = r2 at *
    rw [← hr2] at htd2 htd3
    rw [L_len, L_len] at htd2
    rw [L_len] at htd3
    have hr2l : r2.length ≤ 21 := Nat.le_trans htd2 htl
    have hGate : Gate "subscriptTail" := ⟨⟩
    k_steps
    (repeat (with_reducible rename Gate _ => hG; clear hG))
    refine Stop.go ?_
    obtain ⟨p, hp, hpL⟩ : ∃ p, Z.ss[r2.length]? = some p ∧ p.1 = last.1 := by
      have hsl := congrArg List.length hZ.shows
      rw [List.length_map, List.length_map, List.length_range] at hsl
      obtain ⟨p, hp⟩ : ∃ p, Z.ss[r2.length]? = some p := ⟨_, List.getElem?_eq_getElem (by (first | lia | omega))⟩
      refine ⟨p, hp, str_ext ?_⟩
      show L p.1 = L last.1
      rw [(hZ.at hp).2, hlast, show List.take td.length (L td) = L td from List.take_of_length_le (by rw [L_len]; exact Nat.le_refl _), htd, htd3]
    refine item_at (vs := strValues Z.ss) (v := .str p.1 p.2) (News.isList N9 (.tail _ (.tail _ (.head _)))) (by (first | lia | omega)) (by (first | lia | omega)) (by unfold strValues; rw [List.getElem?_map, Int.toNat_natCast, hp]; rfl) ?_ (by with_unfolding_all rfl)
    rw [hpL]
    have hGate : Gate "execs cons" := ⟨⟩
    k_steps
    · exfalso
      (rename (_ != _) = true => hne)
      simp at hne
    · (repeat (with_reducible rename Gate _ => hG; clear hG))
      refine Stop.go ?_
      dsimp only
      have hsub : ∃ r : Led, (((L' + 1 + 1, oP) :: (L' + 1, oL) :: (Z.S, listOf (strValues Z.ss).toArray Z.n2) :: (R2, tupO (.ref Pl2) (.ref S2)) :: (S2, listOf (strValues (ini ++ [last])).toArray n3) :: (70, tabO pl) :: (77, tabO pl2) :: (P.Nl, listOf (ivals P.xs).toArray P.nn) :: (P.Ll, listOf [Value.str P.a P.ta, Value.str P.b P.tb, Value.str P.c P.tc].toArray P.n3) :: rest8) : Led).Perm (r ++ (P.core 70 77 L' oP oL pl pl2 ++ [(Z.S, listOf (strValues Z.ss).toArray Z.n2)])) := ⟨(R2, tupO (.ref Pl2) (.ref S2)) :: (S2, listOf (strValues (ini ++ [last])).toArray n3) :: rest8, (perm_of_cnt fun q => by simp only [pile, cnt_cons, cnt_app, cnt_nil, List.map_append, List.map_cons, List.map_nil, List.append_assoc, List.cons_append, List.nil_append, Nat.add_zero, Nat.zero_add] <;> first | ac_rfl | (first | lia | omega))⟩
      refine LawFrom.go next (by k_is) rfl B X O T (by exact ⟨F9, sub_nw N9 hsub, G8, ho8.trans (ho2.trans ho), sub_dn D8 hsub⟩) ⟨⟨⟨(by ktr_unf), (by ktr_unf)⟩, (by ktr_unf)⟩, ⟨(by ktr_unf), (by ktr_unf)⟩, oP, oL, pl, pl2, dP, dL, hpl, hpl2, rfl⟩ hdp hun hret
end Mine
end
section
open PySem PySem.W PyProof.Rows
set_option maxRecDepth 100000
set_option maxHeartbeats 8000000
namespace Mine
theorem law_k (w : World) (Sl : Addr) (so : Obj) (P : Pm) (hP : P.Ok) (Z : Px) (hZ : Z.Ok P)
  (next : ∀ (cl : Str) (tc : Tok), L cl = [50, 53, 55, 32, 34] ++ (dblL (L P.text) ++ [34]) → LawFrom PySem.Challenge.rw_wr0021_01.row.prog w (Mine.frag.heap_1 w.params) 213 18 Sl so 70 77 50 500 (fun L' m led => st3 70 77 P Z L' m led ∧ m "closed" = some (.str cl tc))) :
  LawFrom PySem.Challenge.rw_wr0021_01.row.prog w (Mine.frag.heap_1 w.params) 213 16 Sl so 70 77 50 500 (st3 70 77 P Z) := by
  w_top off
  k_fill
  refine law_from (by k_is) ?_
  rintro loose mean mg mb dp un gd A₀ g L' fa ccd m led os s₁ Q E B X O T S ⟨Hm, Hz, oP, oL, pl, pl', dP, dL, hpl, hpl', rfl⟩ hdp hun hret
  have hm1 := Hm.text
  have hm2 := Hm.total
  have hm3 := Hm.nums
  have hm4 := Hz.root
  have hm5 := Hz.shown
  have htl := hP.tlen
  obtain ⟨F, N, G, ho, D⟩ : LoopSt g L' os s₁ m ((L' + 1 + 1, oP) :: (L' + 1, oL) :: (P.Ll, listOf [Value.str P.a P.ta, Value.str P.b P.tb, Value.str P.c P.tc].toArray P.n3) :: (Z.S, listOf (strValues Z.ss).toArray Z.n2) :: (70, tabO pl) :: (77, tabO pl') :: (P.Nl, listOf (ivals P.xs).toArray P.nn) :: []) := S.perm (perm_of_cnt fun q => by simp only [pile, cnt_cons, cnt_app, cnt_nil, List.map_append, List.map_cons, List.map_nil, List.append_assoc, List.cons_append, List.nil_append, Nat.add_zero, Nat.zero_add] <;> first | ac_rfl | (first | lia | omega))
  dsimp only [List.drop]
  (try (refine letA ?_; intro kA))
  have hGate : Gate "binaryOp Add str str" := ⟨⟩
  k_steps
  (repeat (with_reducible rename Gate _ => hG; clear hG))
  refine Stop.go ?_
  have hrm := replace_marks P.text
  generalize Txt.replace P.text (Str.ofString "\"") (Str.ofString "\"\"") = dt at *
  have hdl : dt.length ≤ 42 := by
    rw [← L_len, hrm]
    have := dblL_len (L P.text)
    rw [L_len] at this
    (first | lia | omega)
  refine add_led (a := 5) (b := 42) (by decide +kernel) hdl (by decide) ?_
  intro t1 k1 hl1
  have hGate : Gate "binaryOp Add str str" := ⟨⟩
  k_steps
  (repeat (with_reducible rename Gate _ => hG; clear hG))
  refine Stop.go ?_
  refine add_led (a := 47) (b := 1) hl1 (by decide +kernel) (by decide) ?_
  intro t2 k2 hl2
  have hcl : L (Str.ofString "257 \"" ++ dt ++ Str.ofString "\"") = [50, 53, 55, 32, 34] ++ (dblL (L P.text) ++ [34]) := by
    rw [L_app, L_app, hrm, show L (Str.ofString "257 \"") = [50, 53, 55, 32, 34] by decide +kernel, show L (Str.ofString "\"") = [34] by decide +kernel, List.append_assoc]
  generalize Str.ofString "257 \"" ++ dt ++ Str.ofString "\"" = cl at *
  have hGate : Gate "call ref" := ⟨⟩
  k_steps
  (repeat (with_reducible rename Gate _ => hG; clear hG))
  refine Stop.go ?_
  (rename Fr _ _ _ _ => F3)
  (rename News _ _ _ _ => N3)
  refine Does.at (reply_spec w cl _ (Nat.le_trans hl2 (by decide)) (by rw [show cl.cps.toList = L cl from rfl, hcl]; rfl)) B F3 X N3 T (by assumption) D rfl _ (.refl _) (by first | exact room1 (by assumption) (by decide) | exact room2 (by assumption) (by decide) | exact room3 (by assumption) (by decide) | (first | lia | omega)) (by first | exact room1 (by assumption) (by decide) | exact room2 (by assumption) (by decide) | exact room3 (by assumption) (by decide) | (first | lia | omega)) ?_
  rintro v s2 nw F2 N2 G2 ho2 D2 ⟨⟨t3, rfl⟩, rfl⟩
  rw [parseM_dbl (x := P.text) (tail := []) hcl (by simp)]
  (try clear F3); (try clear N3); (try clear N)
  dsimp only [List.nil_append] at N2 D2
  have hGate : Gate "binaryOp Add str str" := ⟨⟩
  k_steps
  (repeat (with_reducible rename Gate _ => hG; clear hG))
  refine Stop.go ?_
  refine add_led (a := 48) (b := 1) hl2 (by decide +kernel) (by decide) ?_
  intro t4 k4 hl4
  have hGate : Gate "subscriptTail" := ⟨⟩
  k_steps
  (repeat (with_reducible rename Gate _ => hG; clear hG))
  refine Stop.go ?_
  (rename Fr _ _ _ _ => F5)
  (rename News _ _ _ _ => N5)
  refine item_at (vs := [.str P.a P.ta, .str P.b P.tb, .str P.c P.tc]) (News.isList N5 (.tail _ (.tail _ (.head _)))) (by decide) (by decide) rfl ?_ (by with_unfolding_all rfl)
  have hbl : P.b.length ≤ 1 := by rw [← L_len, hP.lb]; simp
  have hGate : Gate "binaryOp Add str str" := ⟨⟩
  k_steps
  (repeat (with_reducible rename Gate _ => hG; clear hG))
  refine Stop.go ?_
  refine add_led (a := 49) (b := 1) hl4 hbl (by decide) ?_
  intro t5 k5 hl5
  have hGate : Gate "binaryOp Add str str" := ⟨⟩
  k_steps
  (repeat (with_reducible rename Gate _ => hG; clear hG))
  refine Stop.go ?_
  refine add_led (a := 50) (b := 1) hl5 (by decide +kernel) (by decide) ?_
  intro t6 k6 hl6
  have hcl2 : L (cl ++ Str.ofString " " ++ P.b ++ Str.ofString "\"") = [50, 53, 55, 32, 34] ++ (dblL (L P.text) ++ 34 :: ([32] ++ L P.b ++ [34])) := by
    rw [L_app, L_app, L_app, hcl, show L (Str.ofString " ") = [32] by decide +kernel, show L (Str.ofString "\"") = [34] by decide +kernel]
    simp
  generalize cl ++ Str.ofString " " ++ P.b ++ Str.ofString "\"" = cl2 at *
  have hGate : Gate "call ref" := ⟨⟩
  k_steps
  (repeat (with_reducible rename Gate _ => hG; clear hG))
  refine Stop.go ?_
  refine Does.at (reply_spec w cl2 _ (Nat.le_trans hl6 (by decide)) (by rw [show cl2.cps.toList = L cl2 from rfl, hcl2]; rfl)) B F5 X N5 T (by assumption) D2 rfl _ (.refl _) (by first | exact room1 (by assumption) (by decide) | exact room2 (by assumption) (by decide) | exact room3 (by assumption) (by decide) | (first | lia | omega)) (by first | exact room1 (by assumption) (by decide) | exact room2 (by assumption) (by decide) | exact room3 (by assumption) (by decide) | (first | lia | omega)) ?_
  rintro v s7 nw F7 N7 G7 ho7 D7 ⟨⟨t7, rfl⟩, rfl⟩
  rw [parseM_dbl (x := P.text) (tail := [32] ++ L P.b ++ [34]) hcl2 (by simp)]
  (try clear F5); (try clear N5)
  dsimp only [List.nil_append] at N7 D7
  have hGate : Gate "compareOp NotEq ref ref" := ⟨⟩
  k_steps
  (repeat (with_reducible rename Gate _ => hG; clear hG))
  refine Stop.go ?_
  (rename News _ _ _ _ => N8)
  have hok : ∀ x ∈ [P.text, P.text], PySem.PyData.strOk x = true := by
    intro x hx
    simp only [List.mem_cons, List.not_mem_nil, or_false, or_self] at hx
    subst hx
    exact hP.fine.ok
  refine ne_txts (a := [(P.text, _), (P.text, _)]) (b := [(P.text, _), (P.text, _)]) (N8 _ (.tail _ (.head _))).1 rfl rfl (N8 _ (.head _)).1 rfl rfl hok hok (by show un + 64 < cLine; (first | lia | omega)) ?_
  rw [show (!decide (([(P.text, _), (P.text, _)] : List (Str × Tok)).map (·.1) = ([(P.text, _), (P.text, _)] : List (Str × Tok)).map (·.1))) = false by simp]
  have hGate : Gate "execs cons" := ⟨⟩
  k_steps
  (repeat (with_reducible rename Gate _ => hG; clear hG))
  refine Stop.go ?_
  dsimp only
  (rename Fr _ _ _ _ => F9)
  refine LawFrom.go (next cl t2 hcl) (by k_is) rfl B X O T (by exact LoopSt.perm ⟨F9, fun q hq => N8 q (.tail _ (.tail _ hq)), G7, ho7.trans (ho2.trans ho), D7⟩ (perm_of_cnt fun q => by simp only [pile, cnt_cons, cnt_app, cnt_nil, List.map_append, List.map_cons, List.map_nil, List.append_assoc, List.cons_append, List.nil_append, Nat.add_zero, Nat.zero_add] <;> first | ac_rfl | (first | lia | omega))) ⟨⟨⟨⟨(by ktr_unf), (by ktr_unf)⟩, (by ktr_unf)⟩, ⟨(by ktr_unf), (by ktr_unf)⟩, oP, oL, pl, pl', dP, dL, hpl, hpl', rfl⟩, ?m4⟩ hdp hun hret
  ktr_unf
end Mine
end
section
open PySem PySem.W PyProof.Rows
set_option maxRecDepth 100000
set_option maxHeartbeats 8000000
namespace Mine
theorem two_of {α : Type} {l : List α} (h : l.length = 2) : ∃ a b, l = [a, b] := by
  obtain ⟨a, r, rfl⟩ := List.exists_cons_of_length_eq_add_one h
  obtain ⟨b, r, rfl⟩ := List.exists_cons_of_length_eq_add_one (by simpa using h)
  cases List.length_eq_zero_iff.mp (show r.length = 0 by simpa using h)
  exact ⟨a, b, rfl⟩
theorem law_l (w : World) (Sl : Addr) (so : Obj) (P : Pm) (hP : P.Ok) (Z : Px) (hZ : Z.Ok P) (cl : Str) (tc : Tok) (hcl : L cl = [50, 53, 55, 32, 34] ++ (dblL (L P.text) ++ [34])) :
  LawFrom PySem.Challenge.rw_wr0021_01.row.prog w (Mine.frag.heap_1 w.params) 213 18 Sl so 70 77 50 500 (fun L' m led => st3 70 77 P Z L' m led ∧ m "closed" = some (.str cl tc)) := by
  w_top off
  k_fill
  refine law_from (by k_is) ?_
  rintro loose mean mg mb dp un gd A₀ g L' fa ccd m led os s₁ Q E B X O T S ⟨⟨Hm, Hz, oP, oL, pl, pl', dP, dL, hpl, hpl', rfl⟩, hm6⟩ hdp hun hret
  have hm1 := Hm.text
  have hm2 := Hm.total
  have hm3 := Hm.nums
  have hm4 := Hz.root
  have hm5 := Hz.shown
  have htl := hP.tlen
  have hcll : cl.length ≤ 48 := by
    have := dblL_len (L P.text)
    rw [← L_len, hcl]
    rw [L_len] at this
    simp only [List.length_append, List.length_cons, List.length_nil]
    (first | lia | omega)
  have hbl : P.b.length ≤ 1 := by rw [← L_len, hP.lb]; simp
  obtain ⟨F, N, G, ho, D⟩ : LoopSt g L' os s₁ m ((L' + 1 + 1, oP) :: (L' + 1, oL) :: (P.Ll, listOf [Value.str P.a P.ta, Value.str P.b P.tb, Value.str P.c P.tc].toArray P.n3) :: (Z.S, listOf (strValues Z.ss).toArray Z.n2) :: (70, tabO pl) :: (77, tabO pl') :: (P.Nl, listOf (ivals P.xs).toArray P.nn) :: []) := S.perm (perm_of_cnt fun q => by simp only [pile, cnt_cons, cnt_app, cnt_nil, List.map_append, List.map_cons, List.map_nil, List.append_assoc, List.cons_append, List.nil_append, Nat.add_zero, Nat.zero_add] <;> first | ac_rfl | (first | lia | omega))
  dsimp only [List.drop]
  (try (refine letA ?_; intro kA))
  have hGate : Gate "subscriptTail" := ⟨⟩
  k_steps
  (repeat (with_reducible rename Gate _ => hG; clear hG))
  refine Stop.go ?_
  refine item_at (vs := [.str P.a P.ta, .str P.b P.tb, .str P.c P.tc]) (News.isList (by assumption) (.tail _ (.tail _ (.head _)))) (by decide) (by decide) rfl ?_ (by with_unfolding_all rfl)
  have hGate : Gate "binaryOp Add str str" := ⟨⟩
  k_steps
  (repeat (with_reducible rename Gate _ => hG; clear hG))
  refine Stop.go ?_
  refine add_new (a := 5) (b := 1) (by decide +kernel) hbl (by decide) ?_
  intro z1 t1 k1 hz1 hl1
  have hGate : Gate "binaryOp Add str str" := ⟨⟩
  k_steps
  (repeat (with_reducible rename Gate _ => hG; clear hG))
  refine Stop.go ?_
  refine add_new (a := 6) (b := 21) hl1 htl (by decide) ?_
  intro o1 t2 k2 ho1 hl2
  rw [hz1, show L (Str.ofString "257-\"") = [50, 53, 55, 45, 34] by decide +kernel] at ho1
  have hGate : Gate "subscriptTail" := ⟨⟩
  k_steps
  (repeat (with_reducible rename Gate _ => hG; clear hG))
  refine Stop.go ?_
  refine item_at (vs := [.str P.a P.ta, .str P.b P.tb, .str P.c P.tc]) (News.isList (by assumption) (.tail _ (.tail _ (.head _)))) (by decide) (by decide) rfl ?_ (by with_unfolding_all rfl)
  have hGate : Gate "binaryOp Mult str int" := ⟨⟩
  k_steps
  (repeat (with_reducible rename Gate _ => hG; clear hG))
  refine Stop.go ?_
  refine SB.mul (mulOk_two (by (first | lia | omega))) ?_
  intro t3 k3
  have hbb := mul_two P.b
  have hbbl : (Txt.mul P.b 2).length ≤ 2 := by rw [← L_len, hbb, List.length_append, L_len]; (first | lia | omega)
  generalize Txt.mul P.b 2 = bb at *
  have hGate : Gate "binaryOp Add str str" := ⟨⟩
  k_steps
  (repeat (with_reducible rename Gate _ => hG; clear hG))
  refine Stop.go ?_
  refine add_new (a := 4) (b := 2) (by decide +kernel) hbbl (by decide) ?_
  intro z4 t4 k4 hz4 hl4
  have hGate : Gate "binaryOp Add str str" := ⟨⟩
  k_steps
  (repeat (with_reducible rename Gate _ => hG; clear hG))
  refine Stop.go ?_
  refine add_new (a := 6) (b := 21) hl4 htl (by decide) ?_
  intro o2 t5 k5 ho2 hl5
  rw [hz4, hbb, show L (Str.ofString "257 ") = [50, 53, 55, 32] by decide +kernel] at ho2
  have hGate : Gate "binaryOp Add str str" := ⟨⟩
  k_steps
  (repeat (with_reducible rename Gate _ => hG; clear hG))
  refine Stop.go ?_
  refine add_new (a := 3) (b := 48) (by decide +kernel) (le_slice hcll) (by decide) ?_
  intro o3 t6 k6 ho3 hl6
  rw [show L (Txt.slice cl (some 3) none) = (L cl).drop 3 from L_drop cl 3, show L (Str.ofString "258") = [50, 53, 56] by decide +kernel] at ho3
  have hGate : Gate "eval ListComp" := ⟨⟩
  k_steps
  (repeat (with_reducible rename Gate _ => hG; clear hG))
  refine Stop.go ?_
  (rename Fr _ _ _ _ => F1)
  (rename News _ _ _ _ => N1)
  (rename _ ∧ _ => l1)
  rename_i T1 _ _
  have D1 : ∀ o, DN ((T1, o) :: ((L' + 1 + 1, oP) :: (L' + 1, oL) :: (P.Ll, listOf [Value.str P.a P.ta, Value.str P.b P.tb, Value.str P.c P.tc].toArray P.n3) :: (Z.S, listOf (strValues Z.ss).toArray Z.n2) :: (70, tabO pl) :: (77, tabO pl') :: (P.Nl, listOf (ivals P.xs).toArray P.nn) :: [])) := fun o => D.more (o := o) (by simp only [AllLt, and_true]; exact l1)
  obtain ⟨oT, N1, hcT, hdT⟩ : ∃ oT, News g L' _ ((T1, oT) :: ((L' + 1 + 1, oP) :: (L' + 1, oL) :: (P.Ll, listOf [Value.str P.a P.ta, Value.str P.b P.tb, Value.str P.c P.tc].toArray P.n3) :: (Z.S, listOf (strValues Z.ss).toArray Z.n2) :: (70, tabO pl) :: (77, tabO pl') :: (P.Nl, listOf (ivals P.xs).toArray P.nn) :: [])) ∧ oT.cls = .type "list" ∧ oT.data = .seq (strValues [(o1, t2), (o2, t5), (o3, t6)]).toArray 0 := ⟨_, N1, rfl, rfl⟩
  refine Comp_obl F1 rfl (by with_unfolding_all rfl) (fun I C D => turn_one ..) ?_ (by decide) rfl (by decide) (by intro _; rfl)
  k_steps
  refine ⟨[T1], [(T1, oT)], 3, _, _, fun i ys nw => (i < 3 → ∃ zs : List (Str × Tok), zs.length = i ∧ (∀ z ∈ zs, z.1 = Str.empty) ∧ ys = strValues zs ∧ nw = (L' + 1 + 1, oP) :: (L' + 1, oL) :: (P.Ll, listOf [Value.str P.a P.ta, Value.str P.b P.tb, Value.str P.c P.tc].toArray P.n3) :: (Z.S, listOf (strValues Z.ss).toArray Z.n2) :: (70, tabO pl) :: (77, tabO pl') :: (P.Nl, listOf (ivals P.xs).toArray P.nn) :: []) ∧
      (i = 3 → ∃ ta tb l t, ys = [.str Str.empty ta, .str Str.empty tb, .ref l] ∧ nw = (l, listOf [.str o3 t].toArray 0) :: (L' + 1 + 1, oP) :: (L' + 1, oL) :: (P.Ll, listOf [Value.str P.a P.ta, Value.str P.b P.tb, Value.str P.c P.tc].toArray P.n3) :: (Z.S, listOf (strValues Z.ss).toArray Z.n2) :: (70, tabO pl) :: (77, tabO pl') :: (P.Nl, listOf (ivals P.xs).toArray P.nn) :: []),
    src_list ⟨_, (N1 _ (.head _)).1, hcT, _, hdT⟩, by simp, ⟨F1, N1, G, rfl, D1 _⟩, ⟨fun _ => ⟨[], rfl, by simp, rfl, rfl⟩, by (first | lia | omega)⟩, ?_, ?_⟩
  · rintro I o C D' oC m₂ i u ys nw s₂ hPi hi ⟨h1, _⟩ hC1 S hpl
    obtain ⟨zs, hzl, hze, rfl, rfl⟩ := h1 hi
    refine blk_name rfl rfl hC1 S fun oC' s₃ hC2 S' => tests_none ?_
    simp only [if_true]
    refine emit_obl (ys := strValues zs) ?_
    refine open_Q ?_
    intro QT hQT
    obtain ⟨F2, N2, G2, ho2', D2⟩ := S'
    obtain ⟨p, hp, rfl⟩ := strVals_at hPi
    dsimp only [List.cons_append, List.nil_append] at N2 D2
    have hGate : Gate "call ref" := ⟨⟩
    k_steps
    (repeat (with_reducible rename Gate _ => hG; clear hG))
    refine Stop.go ?_
    have hstr : ∀ (v : Value) (s' : Shared) (t : Tok), v = .str Str.empty t → i < 2 → Fr g L' s'.heap (fun y => if y = Str.ofString "others" then some (Value.ref T1) else m y) → News g L' s'.heap ((I, o) :: (T1, oT) :: (C, oC') :: (D', LCg.lst (strValues zs)) :: (L' + 1 + 1, oP) :: (L' + 1, oL) :: (P.Ll, listOf [Value.str P.a P.ta, Value.str P.b P.tb, Value.str P.c P.tc].toArray P.n3) :: (Z.S, listOf (strValues Z.ss).toArray Z.n2) :: (70, tabO pl) :: (77, tabO pl') :: (P.Nl, listOf (ivals P.xs).toArray P.nn) :: []) → AllBare s'.gens → s'.os = s₃.os → QT v s' := by
      intro v s' t hv hi2 F3 N3 G3 ho3
      subst hQT
      show EltEnd g L' _ _ I o [(T1, oT)] C D' (strValues zs) _ _ _ _
      refine ⟨oC', _, _, hC2, trivial, ⟨F3, N3, G3, ho3.trans ho2', D2⟩, by rw [sizeLine_eq, show (strValues zs).length = zs.length by simp [strValues]]; (first | lia | omega), fun _ => ⟨zs ++ [(Str.empty, t)], by simp [hzl], fun z hz => ?_, by rw [hv, strVals_app]; rfl, rfl⟩, fun h => absurd h (by (first | lia | omega))⟩
      rcases List.mem_append.mp hz with h | h
      · exact hze z h
      · rw [List.mem_singleton.mp h]
    have hi3 : i = 0 ∨ i = 1 ∨ i = 2 := by (first | lia | omega)
    rcases hi3 with rfl | rfl | rfl
    · obtain rfl : (o1, t2) = p := Option.some.inj hp
      refine Does.at (reply_spec w o1 _ (Nat.le_trans hl2 (by decide)) (by rw [show o1.cps.toList = L o1 from rfl, ho1]; rfl)) B F2 X N2 T G2 D2 rfl _ (.refl _) (by first | exact room1 (by assumption) (by decide) | exact room2 (by assumption) (by decide) | exact room3 (by assumption) (by decide) | (first | lia | omega)) (by first | exact room1 (by assumption) (by decide) | exact room2 (by assumption) (by decide) | exact room3 (by assumption) (by decide) | (first | lia | omega)) ?_
      rintro v s7 nw F7 N7 G7 ho7 D7 ⟨⟨t7, rfl⟩, rfl⟩
      exact hstr _ s7 t7 (by rw [parseM_other (by rw [ho1]; simp)]) (by (first | lia | omega)) F7 N7 G7 ho7
    · obtain rfl : (o2, t5) = p := Option.some.inj hp
      refine Does.at (reply_spec w o2 _ (Nat.le_trans hl5 (by decide)) (by rw [show o2.cps.toList = L o2 from rfl, ho2]; rfl)) B F2 X N2 T G2 D2 rfl _ (.refl _) (by first | exact room1 (by assumption) (by decide) | exact room2 (by assumption) (by decide) | exact room3 (by assumption) (by decide) | (first | lia | omega)) (by first | exact room1 (by assumption) (by decide) | exact room2 (by assumption) (by decide) | exact room3 (by assumption) (by decide) | (first | lia | omega)) ?_
      rintro v s7 nw F7 N7 G7 ho7 D7 ⟨⟨t7, rfl⟩, rfl⟩
      exact hstr _ s7 t7 (by rw [parseM_other (by rw [ho2, hP.lb]; simp; (first | lia | omega))]) (by (first | lia | omega)) F7 N7 G7 ho7
    · obtain rfl : (o3, t6) = p := Option.some.inj hp
      refine reply_other w o3 _ (Nat.le_trans hl6 (by decide)) (by rw [show o3.cps.toList = L o3 from rfl, ho3]; rfl) _ _ _ _ _ _ _ _ _ _ _ _ _ _ _ _ _ _ _ _ B F2 X N2 T rfl G2 D2 (by first | exact room1 (by assumption) (by decide) | exact room2 (by assumption) (by decide) | exact room3 (by assumption) (by decide) | (first | lia | omega)) (by first | exact room1 (by assumption) (by decide) | exact room2 (by assumption) (by decide) | exact room3 (by assumption) (by decide) | (first | lia | omega)) ?_
      intro l t s7 F7 N7 G7 ho7 D7
      subst hQT
      show EltEnd g L' _ _ I o [(T1, oT)] C D' (strValues zs) _ _ _ _
      obtain ⟨z1, z2, rfl⟩ := two_of hzl
      have e1 := hze z1 (.head _)
      have e2 := hze z2 (.tail _ (.head _))
      refine ⟨oC', _, _, hC2, trivial, LoopSt.perm ⟨F7, N7, G7, ho7.trans ho2', D7⟩ ?hp, by rw [sizeLine_eq]; show 2 ≤ _; decide, fun h => absurd h (by (first | lia | omega)), fun _ => ⟨z1.2, z2.2, l, t, by (show [Value.str z1.1 z1.2, Value.str z2.1 z2.2, Value.ref l] = _); rw [e1, e2], rfl⟩⟩
      exact (perm_of_cnt fun q => by simp only [pile, cnt_cons, cnt_app, cnt_nil, List.map_append, List.map_cons, List.map_nil, List.append_assoc, List.cons_append, List.nil_append, Nat.add_zero, Nat.zero_add] <;> first | ac_rfl | (first | lia | omega))
  · rintro D' ys nw s₄ ⟨_, h2⟩ S4 s₅ S5
    obtain ⟨ta, tb, l, t, rfl, rfl⟩ := h2 rfl
    obtain ⟨F5, N5, G5, ho5, D5⟩ := S5
    dsimp only [List.cons_append, List.nil_append] at N5 D5
    have hGate : Gate "compareOp Eq ref ref" := ⟨⟩
    k_steps
    (repeat (with_reducible rename Gate _ => hG; clear hG))
    refine Stop.go ?_
    (rename Fr _ _ _ _ => F6)
    (rename News _ _ _ _ => N6)
    have he3 : Str.ofString "258" ++ Txt.slice cl (some 3) none = o3 := str_ext (by
      show L _ = L o3
      rw [ho3, L_app, show L (Txt.slice cl (some 3) none) = (L cl).drop 3 from L_drop cl 3, show L (Str.ofString "258") = [50, 53, 56] by decide +kernel])
    have he0 : Str.ofString "" = Str.empty := by decide +kernel
    have hok3 : PySem.PyData.strOk o3 = true := ok_lt fun c hc => by
      rw [ho3, hcl] at hc
      rcases List.mem_append.mp hc with h | h
      · simp only [List.mem_cons, List.not_mem_nil, or_false] at h; (first | lia | omega)
      · rcases List.mem_append.mp (List.mem_of_mem_drop h) with h | h
        · simp only [List.mem_cons, List.not_mem_nil, or_false] at h; (first | lia | omega)
        · rcases List.mem_append.mp h with h | h
          · rcases mem_dblL h with h | h
            · (first | lia | omega)
            · exact (hP.fine c h).2
          · rw [List.mem_singleton.mp h]; decide
    have hok0 : PySem.PyData.strOk Str.empty = true := by decide +kernel
    have r1 := reads_list_at (h := _) (N6 (D', _) (.tail _ (.tail _ (.tail _ (.head _))))).1 rfl rfl (.cons (.str _ _) (.cons (.str _ _) (.cons (reads_list_at (N6 (l, _) (.tail _ (.tail _ (.tail _ (.tail _ (.head _)))))).1 rfl rfl (.cons (.str _ _) .nil)) .nil)))
    have r2 := reads_list_at (h := _) (N6 _ (.head _)).1 rfl rfl (.cons (.str _ _) (.cons (.str _ _) (.cons (reads_list_at (N6 _ (.tail _ (.head _))).1 rfl rfl (.cons (.str _ _) .nil)) .nil)))
    rw [he3, he0] at r2
    refine eq_same r1 r2 ?_ rfl (by show un + 64 < cLine; (first | lia | omega)) ?_
    · unfold PySem.SeqAt.shaped
      simp [PyData.canLay0, PyData.canLayAll0, PyData.depth, PyData.depthAll, hok3, hok0]
    refine hret _ _ _ _ _ F6 N6 (by k_mem) (by k_mem) G5 (ho5.trans ho)
end Mine
end
end
end
end
section
open PySem PySem.W PyProof.Rows
set_option maxRecDepth 100000
set_option maxHeartbeats 8000000
namespace Mine
theorem law_walk (w : World) (Sl : Addr) (so : Obj) (items : List Value) (sn : Nat) (hcls : so.cls = .type "list") (hdat : so.data = .seq items.toArray sn) (hi : ∀ v ∈ items, ∃ (k : Int) (t : Tok), v = .int k t) (hl : items.length ≤ 63) :
  LawFrom PySem.Challenge.rw_wr0021_01.row.prog w (Mine.frag.heap_1 w.params) 213 0 Sl so 70 77 50 500 (fun L' m led => m "script" = some (.ref Sl) ∧ ∃ oP oL, oP.data = .cell none ∧ oL.data = .cell none ∧ led = [(L' + 1 + 1, oP), (L' + 1, oL), (70, tabO #[]), (77, tabO #[])]) :=
  law_a w Sl so items sn hcls hdat hi hl fun P hP0 => law_b w Sl so P hP0 fun P hP => law_c w Sl so P hP fun Z hZ => law_d w Sl so P hP Z hZ fun t => law_e w Sl so P hP Z hZ t <| law_f w Sl so P hP Z hZ <| law_g w Sl so P hP Z hZ <| law_h w Sl so P hP Z hZ <|
    law_i w Sl so P hP Z hZ fun ah ta hah => law_j w Sl so P hP Z hZ ah ta hah <| law_k w Sl so P hP Z hZ fun cl tc hcl => law_l w Sl so P hP Z hZ cl tc hcl
end Mine
end
section
open PySem PySem.W PyProof.Rows
set_option maxRecDepth 100000
set_option maxHeartbeats 8000000
namespace Mine
theorem dn4 {n a b : Nat} {o1 o2 o3 o4 : Obj} (ha : a < n) (hb : b < n) (hab : a ≠ b) : DN [(n + 1 + 1, o1), (n + 1, o2), (a, o3), (b, o4)] := by
  show ([n + 1 + 1, n + 1, a, b] : List Nat).Nodup
  simp only [List.nodup_cons, List.mem_cons, List.not_mem_nil, or_false, not_or, not_false_eq_true, and_true, List.nodup_nil]
  (first | lia | omega)
/-! ## the head, at one blow: the top is run in one check, so that nothing of its state need be written out -/
noncomputable def keepL (l : List Stmt) : List Stmt := match l with
  | a0 :: _ :: a2 :: a3 :: _ :: a5 :: a6 :: _ :: a8 :: a9 :: a10 :: _ :: a12 :: a13 :: a14 :: a15 :: a16 :: _ :: r => a0 :: a2 :: a3 :: a5 :: a6 :: a8 :: a9 :: a10 :: a12 :: a13 :: a14 :: a15 :: a16 :: r
  | _ => l
noncomputable def view : Program := { PySem.Challenge.pw_wr0021_01 with main := { PySem.Challenge.pw_wr0021_01.main with body := keepL PySem.Challenge.pw_wr0021_01.main.body } }
noncomputable def hook : Hook := kmHook Mine.frag.heap_1 [2, 3, 15, 17, 18, 20, 21, 22, 24, 25, 27, 28, 29, 32, 37, 38, 39, 41, 42, 44, 45, 46, 48, 49, 51, 52, 53, 54, 56, 57,
  59, 60, 61, 62, 64, 65, 67, 68, 69, 71, 72, 74, 75, 76, 78, 79, 81, 82, 83, 84, 86, 87, 89, 90, 91, 93, 94, 96, 97,
  98, 99, 101, 102, 104, 105, 106, 107, 108, 109, 110, 113, 120, 121, 122, 123, 126, 133, 134, 135, 138, 140, 141, 143,
  144, 145, 147, 148, 150, 151, 152, 154, 155, 157, 158, 159, 161, 162, 164, 165, 166, 168, 169, 171, 172, 173, 176,
  177, 178, 181, 182, 183, 185, 186, 188, 189, 190, 192, 193, 195, 196, 197, 200, 201, 202, 204, 205, 207, 208, 209,
  212, 213] (fun _ => by kernel_rfl) [70, 77]
theorem head_said : PySem.Challenge.rw_wr0021_01.wellSaid = true := by kernel_rfl
theorem head_left : LeftO PySem.Challenge.rw_wr0021_01.row.prog view [Str.ofString "_Accumulator"] (fun s => xlAt view [] s && recOk (RowW.records PySem.Challenge.rw_wr0021_01.row.toRowW) s) (Hook.obs hook) (Hook.val hook) 2946 := fun w => by kernel_rfl
theorem law_holds : PySem.Challenge.rw_wr0021_01.Holds := by
  w_on
  refine holds_law head_said fun said => ?_
  refine holds_open (q := view) (loose := [Str.ofString "_Accumulator"]) (Xt := fun s => xlAt view [] s && recOk (RowW.records PySem.Challenge.rw_wr0021_01.row.toRowW) s) (XP := XL view []) (Yf := Hook.obs hook) (Ya := Hook.val hook) (YP := fun w h => InK Mine.frag.heap_1 w h ∧ ∀ P ∈ ([70, 77] : List Addr), h.get? P = some (tabObj #[])) (N := 2946) head_left (Hook.of hook) (Hook.keeps hook) (fun s e => xl_of s (Bool.and_eq_true_iff.mp e).1) XL.keeps (by rfl) (by rfl) (by rfl) (fun s e => recFacts_of (Bool.and_eq_true_iff.mp e).2) (by rfl) (by first | assumption | decide +kernel) (by decide +kernel) ⟨rfl, rfl, rfl, rfl, rfl, by decide +kernel⟩ ?hw ?hc
  (case hw => w_witness2)
  w_strict (
    k_fill
    intro w s₀ s₁ mg mb G Y fa o pm cd doc dV kV ho hd hcd hD hmg hg args vals as hpre hlay hrd hwl hlo
    have KX : (Mine.frag.heap_1 w.params).In s₁.heap := Y.1
    have hT8 : ∀ P ∈ ([70, 77] : List Addr), s₁.heap.get? P = some (tabObj #[]) := Y.2
    have X := (Ground.X G).1
    have V := (Ground.X G).2
    refine Ground.open G ?_
    intro T B D TE TW
    try (refine guard_noD D (by decide +kernel) ?_; clear D)
    have hT9 : TabsAt [(74, 70), (81, 77)] s₁.heap := List.forall_mem_cons.mpr ⟨⟨codeHd_of_K (c := 74) (P := 70) KX (by kernel_rfl), hT8 70 (by k_mem)⟩, List.forall_mem_cons.mpr ⟨⟨codeHd_of_K (c := 81) (P := 77) KX (by kernel_rfl), hT8 77 (by k_mem)⟩, fun _ h => nomatch h⟩⟩
    clear hmg
    wrow_args hpre hlay hrd hwl hlo
    all_goals (
      first | refine callC_kw (enter_call ?_) | refine enter_call ?_
      w_top on
      refine law_post hT9 (fun _ => rfl) ?hp ?_
      (case hp => exact bool_post _ rfl rfl _)
      w_call any ho hd hcd hD T F
      clear hd
      kn_ghosts F T
      (rename Below callerA _ _ _ => K2)
      (rename News _ _ _ _ => N2)
      (rename Fr _ _ _ _ => F2)
      (rename IntsAre _ _ => I2)
      (rename ¬ _ < _ => hc2)
      (rename Top topProg _ _ _ _ _ => T2)
      obtain ⟨so, eso, cso, nso, dso⟩ := lifted
      refine law_walk w _ so _ nso cso dso ?zi ?zl _ _ _ _ _ _ _ _ _ _ _ _ _ _ _ (by k_is) _ _ _ _ _ _ _ _ _ _ _ _ _ _ _ _ _ _ K2 ?zx eso T2 ⟨F2, N2, ?zb, rfl, ?zdn⟩ ?zst ?zd ?zu ?zr
      case zi => exact ints_of I2
      case zl => have := I2.length; (first | lia | omega)
      case zx => assumption
      case zb => exact AllBare.of_eq hg
      case zdn =>
        (rename _ < _ ∧ _ < _ => l9)
        exact dn4 l9.1 l9.2 (by decide)
      case zst => exact ⟨rfl, _, _, by assumption, by assumption, rfl⟩
      case zd => decide +kernel
      case zu => decide +kernel
      case zr => exact fun s' m' news' pl pl' F9 N9 h1 h2 G9 ho9 => ⟨rfl, fun b o e => F9.keep b o e, ho9, G9, ⟨GrownAt.of N9 h1, GrownAt.of N9 h2, trivial⟩⟩))
end Mine
end
theorem PySem.Challenge.cw_wr0021_01_holds : PySem.Challenge.rw_wr0021_01.Holds := by
  exact Mine.law_holds
