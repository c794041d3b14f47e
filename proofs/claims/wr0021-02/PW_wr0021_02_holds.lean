import PyProof.Rows.All
import Wide.All
import OpenK.AllK
import Wide.FinOn
import PySem.Challenge.RW_wr0021_02
set_option Elab.async false
set_option linter.all false
set_option compiler.extract_closed false
set_option genSizeOf false
set_option genInjectivity false
local macro_rules | `(tactic| ktr_room) => `(tactic| first | exact Nat.le_trans (by assumption) (by decide) | exact Nat.lt_of_le_of_lt (by assumption) (by decide) | lia | omega)
section
open PySem PySem.W PyProof.Rows
set_option maxRecDepth 100000
set_option maxHeartbeats 8000000
namespace Mine
section
-- the written part of the state alone: the head's name for it, without the head
local macro_rules | `(tactic| o_head $_h:term) => `(tactic| assumption)
theorem frag (h : PySem.Challenge.rw_wr0021_02.row.Holds) : PySem.Challenge.rw_wr0021_02.row.Holds := by
  k_head
end
end Mine
namespace Mine
theorem nm_ne2 {x y : PySem.Str} {a b : Option PySem.Value} {v : PySem.Value} (h : (y == x) = false) (hm : b = some v) : (if y = x then a else b) = some v := by
  have : ¬ y = x := by simpa using h
  simp [this, hm]
/-- a letter that is laid keeps standing in the proof -/
theorem wrap {p : Prop} (h : p) : p := h
end Mine
end
section
open PySem PySem.W PyProof.Rows
set_option maxRecDepth 100000
set_option maxHeartbeats 8000000
namespace Mine
/-! ## the head, at one blow: the top is run in one check, so that nothing of its state need be written out -/
noncomputable def keepL (l : List Stmt) : List Stmt := match l with
  | a0 :: _ :: a2 :: a3 :: _ :: a5 :: a6 :: _ :: a8 :: a9 :: a10 :: _ :: a12 :: a13 :: a14 :: a15 :: a16 :: _ :: r => a0 :: a2 :: a3 :: a5 :: a6 :: a8 :: a9 :: a10 :: a12 :: a13 :: a14 :: a15 :: a16 :: r
  | _ => l
noncomputable def view : Program := { PySem.Challenge.pw_wr0021_02 with main := { PySem.Challenge.pw_wr0021_02.main with body := keepL PySem.Challenge.pw_wr0021_02.main.body } }
noncomputable def hook : Hook := kmHook Mine.frag.heap_1 [2, 3, 15, 17, 18, 20, 21, 22, 25, 30, 31, 32, 34, 35, 37, 38, 39, 41, 42, 44, 45, 46, 47, 49, 50, 52, 53, 54, 55, 57,
  58, 60, 61, 62, 64, 65, 67, 68, 69, 71, 72, 74, 75, 76, 77, 79, 80, 82, 83, 84, 86, 87, 89, 90, 91, 92, 94, 95,
  97, 98, 99, 100, 101, 102, 103, 106, 108, 109, 111, 112, 113, 120, 121, 122, 123, 126, 133, 134, 135, 138, 140,
  141, 143, 144, 145, 147, 148, 150, 151, 152, 154, 155, 157, 158, 159, 161, 162, 164, 165, 166, 168, 169, 171, 172,
  173, 175, 176, 178, 179, 180, 183, 184, 185, 188, 189, 190, 193, 194, 195, 198, 199, 200, 203, 204, 205, 208,
  209] (fun _ => by kernel_rfl) [63, 70]
theorem head_said : PySem.Challenge.rw_wr0021_02.wellSaid = true := by kernel_rfl
theorem head_left : LeftO PySem.Challenge.rw_wr0021_02.row.prog view [Str.ofString "_Accumulator"] (fun s => xlAt view [] s && recOk (RowW.records PySem.Challenge.rw_wr0021_02.row.toRowW) s) (Hook.obs hook) (Hook.val hook) 2916 := fun w => by kernel_rfl
end Mine
end
section
open PySem PySem.W PyProof.Rows
set_option maxRecDepth 100000
set_option maxHeartbeats 8000000
namespace Mine
noncomputable abbrev Led := List (Addr × Obj)
noncomputable def DN (news : Led) : Prop := (news.map (·.1)).Nodup
/-- what a call does: for whatever frame and base, from the ledger `news` to a value and a ledger told by `post` -/
noncomputable def Does (prog : Program) (w : World) (K : Frag) (p : Program) (f : Value) (d u : Nat) (vs : List Value) (news : Led) (post : Value → Led → Prop) : Prop :=
  ∀ (loose : List Str) (mean : ExcName → Option Value) (mg mb : Str → Option Value) (dp un : Nat) (gd : Option (List Code)) (cn : Str) (cs : Scope) (a : Addr) (ccd : Value) (cl : List (Str × Addr)) (outer : List Env) (A₀ : Around) (base h₀ : Heap) (L : Addr) (m : Str → Option Value) (s : Shared) (rest : Led) (Q E : Value → Shared → Prop),
    Below A₀ base outer h₀ → Fr h₀ L s.heap m → K.In h₀ → News h₀ L s.heap (news ++ rest) → Top p loose mean mg mb h₀ → cs.kind = .function → AllBare s.gens → DN (news ++ rest) →
      dp + d < recursionLimit → un + u < cLine → (∀ v (s' : Shared) (news' : Led), Fr h₀ L s'.heap m → News h₀ L s'.heap (news' ++ rest) → AllBare s'.gens → s'.os = s.os → DN (news' ++ rest) → post v news' → Q v s') →
      wpAny (model prog w) (ktrTop dp un gd cn cs L a ccd cl outer) (call f vs) Q E s
/-- the end of a body -/
noncomputable def BodyPost (g : Heap) (L : Addr) (os : OsState) (rest : Led) (post : Value → Led → Prop) (fl : Flow) (s' : Shared) : Prop :=
  ∃ m' news', Fr g L s'.heap m' ∧ News g L s'.heap (news' ++ rest) ∧ AllBare s'.gens ∧ s'.os = os ∧ DN (news' ++ rest) ∧ post (match fl with | .ret v => v | _ => .none) news'
theorem BodyPost.mk {g : Heap} {L : Addr} {os : OsState} {rest : Led} {post : Value → Led → Prop} {fl : Flow} {s' : Shared} {m' : Str → Option Value} (news' : Led) (F : Fr g L s'.heap m') (N : News g L s'.heap (news' ++ rest)) (G : AllBare s'.gens) (ho : s'.os = os) (D : DN (news' ++ rest))
    (h : post (match fl with | .ret v => v | _ => .none) news') : BodyPost g L os rest post fl s' := ⟨m', news', F, N, G, ho, D, h⟩
section
variable {prog : Program} {w : World} {K : Frag} {p : Program} {f : Addr} {d u : Nat} {vs : List Value} {news : Led} {post : Value → Led → Prop}
  {name qual : Str} {params : Arguments} {body : List Stmt} {scope : Scope} {dV kV doc pm cdv ct oc : Value} {an od : Option Addr} {osl : Array (Option Value)} {binds : List (Str × Value)}
theorem does_of (ho : K.lookup f = some ⟨oc, od, .func (fnOf name qual params body scope dV kV doc pm an cdv ct), osl⟩) (hcd : codeIn K cdv qual = true)
    (hbind : ∀ (s : Shared), K.In s.heap → BindsTo s (fnOf name qual params body scope dV kV doc pm an cdv ct) ⟨vs, []⟩ binds) (hloc : ∀ y ∈ binds, scope.names.lookup y.1 = some .local)
    (hd : 1 ≤ d) (_hu : 3 ≤ u)
    (h : ∀ (loose : List Str) (mean : ExcName → Option Value) (mg mb : Str → Option Value) (dp un : Nat) (gd : Option (List Code)) (outer : List Env) (A₀ : Around) (base g : Heap) (L' : Addr) (s₁ : Shared) (rest : Led),
      Below A₀ base outer g → Fr g L' s₁.heap (fun y => binds.reverse.lookup y) → K.In g → News g L' s₁.heap (news ++ rest) → Top p loose mean mg mb g → AllBare s₁.gens → DN (news ++ rest) → AllLt L' (news ++ rest) →
      dp + d < recursionLimit + 1 → un + u < cLine + 3 →
      wpAny (model prog w) (ktrTop dp un gd qual scope L' f cdv [] outer) (execs body (envX qual scope L' f cdv [])) (BodyPost g L' s₁.os rest post) (fun _ _ => False) s₁)
    (hcell : ∀ x ∈ scope.names, x.2 ≠ .cell) (hco : scope.isCoroutine = false) (hgen : scope.isGenerator = false) (hk : scope.kind = .function) : Does prog w K p (.ref f) d u vs news post := by
  intro loose mean mg mb dp un gd cn cs a ccd cl outer A₀ base h₀ L m s rest Q E B F X N T hkc G D hdp hun hret
  refine wpAny_call ?_
  refine callX_plain (cl := []) B F N T.nolimit rfl rfl hkc ((X.keeps F.keep) _ _ ho) rfl (codeRec_of (X.keeps F.keep) hcd) (show dp < _ by ktr_room) (hbind s (X.keeps F.keep)) hloc (fun g L' h₁ FG F' N' B' st l => ?_) hcell hco hgen hk
  refine wpAny_mono (h loose mean mg mb (dp + 1) (un + 3) gd _ _ base g L' _ rest B' F' (X.keeps st) N' (T.keeps st) G D (allLt_of l) (by ktr_room) (by ktr_room)) (fun fl s' hb => ?_) (fun _ _ e => e.elim)
  obtain ⟨m', news', F2, N2, G2, ho2, D2, hp⟩ := hb
  exact leaveK_ F2 N2 fun F3 N3 => hret _ s' news' F3 N3 G2 ho2 D2 hp
theorem does_ofC (ho : K.lookup f = some ⟨oc, od, .func (fnOf name qual params body scope dV kV doc pm an cdv ct), osl⟩) (hcd : codeIn K cdv qual = true)
    (hbind : ∀ (s : Shared), K.In s.heap → BindsTo s (fnOf name qual params body scope dV kV doc pm an cdv ct) ⟨vs, []⟩ binds) (hkind : (binds.all fun y => scope.names.lookup y.1 == some .local || scope.names.lookup y.1 == some .cell) = true)
    (hnd : ((cellsFrom 0 scope.names []).map (·.1)).Nodup)
    (hd : 1 ≤ d) (_hu : 3 ≤ u)
    (h : ∀ (loose : List Str) (mean : ExcName → Option Value) (mg mb : Str → Option Value) (dp un : Nat) (gd : Option (List Code)) (outer : List Env) (A₀ : Around) (base g : Heap) (L' : Addr) (s₁ : Shared) (cells rest : Led),
      Below A₀ base outer g → Fr g L' s₁.heap (bindL (envOfC qual scope L' f cdv).kindOf binds fun _ => none) → K.In g → News g L' s₁.heap (cells ++ (news ++ rest)) →
      CellsAre (bindC (envOfC qual scope L' f cdv).kindOf binds fun _ => none) (cellsFrom (L' + 1) scope.names []) cells → Top p loose mean mg mb g → AllBare s₁.gens → DN (news ++ rest) → AllLt L' (news ++ rest) →
      dp + d < recursionLimit + 1 → un + u < cLine + 3 →
      wpAny (model prog w) (ktrTop dp un gd qual scope L' f cdv (cellsFrom (L' + 1) scope.names []) outer) (execs body (envOfC qual scope L' f cdv)) (BodyPost g L' s₁.os rest post) (fun _ _ => False) s₁)
    (hco : scope.isCoroutine = false) (hgen : scope.isGenerator = false) (hk : scope.kind = .function) : Does prog w K p (.ref f) d u vs news post := by
  intro loose mean mg mb dp un gd cn cs a ccd cl outer A₀ base h₀ L m s rest Q E B F X N T hkc G D hdp hun hret
  refine wpAny_call ?_
  refine callX_cells B F N T.nolimit rfl rfl hkc ((X.keeps F.keep) _ _ ho) rfl (codeRec_of (X.keeps F.keep) hcd) (show dp < _ by ktr_room) (hbind s (X.keeps F.keep)) (kindsX hkind) hnd (fun g L' h₁ tk cells FG F' N' Y B' st l => ?_) hco hgen hk
  refine wpAny_mono (h loose mean mg mb (dp + 1) (un + 3) gd _ _ base g L' _ cells rest B' F' (X.keeps st) N' Y (T.keeps st) G D (allLt_of l) (by ktr_room) (by ktr_room)) (fun fl s' hb => ?_) (fun _ _ e => e.elim)
  obtain ⟨m', news', F2, N2, G2, ho2, D2, hp⟩ := hb
  exact leaveK_ F2 N2 fun F3 N3 => hret _ s' news' F3 N3 G2 ho2 D2 hp
end
section
variable {prog : Program} {w : World} {K : Frag} {p : Program} {f : Value} {d u : Nat} {vs : List Value} {news led : Led} {post : Value → Led → Prop}
theorem Does.use {loose : List Str} {mean : ExcName → Option Value} {mg mb : Str → Option Value} {dp un : Nat} {gd : Option (List Code)} {cn : Str} {cs : Scope} {a : Addr} {ccd : Value} {cl : List (Str × Addr)} {outer : List Env} {A₀ : Around} {base h₀ : Heap} {L : Addr} {m : Str → Option Value} {s : Shared} {rest : Led} {Q E : Value → Shared → Prop}
    (D : Does prog w K p f d u vs news post) (B : Below A₀ base outer h₀) (F : Fr h₀ L s.heap m) (X : K.In h₀) (N : News h₀ L s.heap (news ++ rest)) (T : Top p loose mean mg mb h₀) (hk : cs.kind = .function) (G : AllBare s.gens) (dn : DN (news ++ rest))
    (hd : dp + d < recursionLimit) (hu : un + u < cLine) (ret : ∀ v (s' : Shared) (news' : Led), Fr h₀ L s'.heap m → News h₀ L s'.heap (news' ++ rest) → AllBare s'.gens → s'.os = s.os → DN (news' ++ rest) → post v news' → Q v s') :
    wpAny (model prog w) (ktrTop dp un gd cn cs L a ccd cl outer) (call f vs) Q E s :=
  D loose mean mg mb dp un gd cn cs a ccd cl outer A₀ base h₀ L m s rest Q E B F X N T hk G dn hd hu ret
end
/-- a gate: the walk stops where a line of mine finds its gate in the context -/
structure Gate (s : String) : Prop where
noncomputable def Stop (P : Prop) : Prop := P
theorem stop_here {P : Prop} (h : Stop P) : P := h
theorem Stop.go {P : Prop} (h : P) : Stop P := h

/-! ## for loops -/
section
variable {prog : Program} {w : World}
/-- an iterator that hands on no tuple of its own -/
noncomputable def PlainIt (o : Obj) : Prop := ∃ n, o.cls = .type n ∧ (["enumerate", "zip", "dict_itemiterator", "dict_reverseitemiterator", "odict_iterator", "itertools.zip_longest", "itertools.pairwise"] : List String).contains n = false
/-- what walking over v yields at s: n items told by P; besides its own iterator it leans on the objects at kp -/
noncomputable def SrcOf (prog : Program) (w : World) (v : Value) (kp : List Addr) (n : Nat) (P : Nat → Value → Prop) (s : Shared) : Prop :=
  ∀ (A : Around) (Q E : Value → Shared → Prop), A.handled = none →
    (∀ (o : Obj) (St : Nat → Heap → Prop), o.isFreed = false → (∀ A' : Around, A'.handled = none → Walks prog w A' s.heap.objs.size (s.heap.objs.size :: kp) [s.heap.objs.size] n P St) → St 0 (s.heap.push o) → (∀ i h, St i h → ∃ o', h.get? s.heap.objs.size = some o' ∧ PlainIt o') →
      Q (.ref s.heap.objs.size) { s with heap := s.heap.push o }) → wpAny (model prog w) A (pyIter v) Q E s
theorem src_list {l : Addr} {items : Array Value} {s : Shared} (hl : s.heap.IsList l items) : SrcOf prog w (.ref l) [l] items.size (fun i v => items[i]? = some v) s := by
  intro A Q E hh hQ
  have hlt : l < s.heap.objs.size := by obtain ⟨o, ho, _⟩ := hl; exact Heap.lt_size ho
  exact wpAny_pyIter_list hl (hQ _ _ rfl (fun A' hA => Walks.list hA _ l (Nat.ne_of_lt hlt) items) ⟨⟨_, Heap.get?_push_size _ rfl, rfl, rfl⟩, hl.at fun o e => Heap.get?_push_of_some _ e⟩
    (fun i h st => by obtain ⟨⟨o, ho, hc, _⟩, _⟩ := st; exact ⟨o, ho, _, hc, by decide⟩))
theorem src_tuple {l : Addr} {items : Array Value} {s : Shared} (hl : s.heap.IsTuple l items) : SrcOf prog w (.ref l) [l] items.size (fun i v => items[i]? = some v) s := by
  intro A Q E hh hQ
  have hlt : l < s.heap.objs.size := by obtain ⟨o, ho, _⟩ := hl; exact Heap.lt_size ho
  exact wpAny_pyIter_tuple hl (hQ _ _ rfl (fun A' hA => Walks.tuple hA _ l (Nat.ne_of_lt hlt) items) ⟨⟨_, Heap.get?_push_size _ rfl, rfl, rfl⟩, hl.at fun o e => Heap.get?_push_of_some _ e⟩
    (fun i h st => by obtain ⟨⟨o, ho, hc, _⟩, _⟩ := st; exact ⟨o, ho, _, hc, by decide⟩))
theorem src_str {x : Str} {t : Tok} {s : Shared} : SrcOf prog w (.str x t) [] x.cps.size (SignAt x) s := by
  intro A Q E hh hQ
  cases ha : x.cps.all (· < 128)
  · exact wpAny_pyIter_wide ha (hQ _ _ rfl (fun A' hA => Walks.strWide hA _ x t) ⟨_, Heap.get?_push_size _ rfl, rfl, rfl⟩ (fun i h st => by obtain ⟨o, ho, hc, _⟩ := st; exact ⟨o, ho, _, hc, by decide⟩))
  · exact wpAny_pyIter_ascii ha (hQ _ _ rfl (fun A' hA => Walks.strAscii hA _ x t) ⟨_, Heap.get?_push_size _ rfl, rfl, rfl⟩ (fun i h st => by obtain ⟨o, ho, hc, _⟩ := st; exact ⟨o, ho, _, hc, by decide⟩))
theorem src_range {r : Addr} {a b c : Int} {t u v : Tok} {s : Shared} (hr : IsRange s.heap r a b c t u v) (hsmall : Builtin.Range.small a b c = true) (n : Nat) (hn : Builtin.Range.rangeSize a b c = n) :
    SrcOf prog w (.ref r) [] n (fun i v => ∃ t, v = .int (a + i * c) t) s := by
  intro A Q E hh hQ
  refine wpAny_pyIter_range hr hsmall (hQ _ _ rfl (fun A' hA => Walks.range hA _ a c n) ?_ (fun i h st => ⟨_, st, _, rfl, by decide⟩))
  show (s.heap.push _).get? _ = _
  rw [Heap.get?_push_size _ rfl, hn]
  simp [rawInt]

variable {A : Around} {E : Value → Shared → Prop} {s : Shared} {env : Env} {h₀ : Heap} {target iter : Expr} {body : List Stmt} {pos : Pos} {Q : Flow → Shared → Prop}
/-- between the turns -/
structure LoopSt (h₀ : Heap) (L : Addr) (os : OsState) (s : Shared) (m : Str → Option Value) (news : Led) : Prop where
  fr : Fr h₀ L s.heap m
  nw : News h₀ L s.heap news
  bare : AllBare s.gens
  os : s.os = os
  dn : DN news
/-- a turn that goes on to the next one -/
inductive TurnNext (h₀ : Heap) (L : Addr) (os : OsState) (own : Led) (J : (Str → Option Value) → Led → Prop) (s₃ : Shared) : Prop
  | mk (m : Str → Option Value) (news : Led) : LoopSt h₀ L os s₃ m (own ++ news) → J m news → TurnNext h₀ L os own J s₃
/-- J with a smaller count -/
inductive Less (J : Nat → (Str → Option Value) → Led → Prop) (k : Nat) (m : Str → Option Value) (news : Led) : Prop
  | mk (k' : Nat) : k' < k → J k' m news → Less J k m news
/-- a turn's end -/
noncomputable def TurnPost (h₀ : Heap) (L : Addr) (os : OsState) (own : Led) (J : (Str → Option Value) → Led → Prop) (Q : Flow → Shared → Prop) (f : Flow) (s₃ : Shared) : Prop :=
  match f with
  | .next => TurnNext h₀ L os own J s₃
  | .cont => TurnNext h₀ L os own J s₃
  | .brk => Q .next s₃
  | .ret r => Q (.ret r) s₃
/-- what a for asks for, v being what it walks over -/
inductive ForObl (prog : Program) (w : World) (A : Around) (h₀ : Heap) (env : Env) (target : Expr) (body : List Stmt) (Q : Flow → Shared → Prop) (v : Value) (s₁ : Shared) : Prop
  | mk (kp : List Addr) (keep : Led) (n : Nat) (P : Nat → Value → Prop) (m : Str → Option Value) (news : Led) (J : Nat → (Str → Option Value) → Led → Prop) (up : Nat → Value → (Str → Option Value) → (Str → Option Value)) : SrcOf prog w v kp n P s₁ →
    (∀ b ∈ kp, b ∈ keep.map (·.1) ∨ h₀.get? b ≠ none) →
    LoopSt h₀ env.locals s₁.os s₁ m (keep ++ news) →
    J 0 m news →
    (∀ (I : Addr) (o : Obj) i u m' news' s₂ (Q' : Unit → Shared → Prop), P i u → i < n → J i m' news' → LoopSt h₀ env.locals s₁.os s₂ m' ((I, o) :: keep ++ news') → PlainIt o →
      (∀ s₃, LoopSt h₀ env.locals s₁.os s₃ (up i u m') ((I, o) :: keep ++ news') → Q' () s₃) → wpAny (model prog w) A (letOwnedTupleGo target (.ref I) u) (fun _ s₂' => wpAny (model prog w) A (assign target env u) Q' (fun _ _ => False) s₂') (fun _ _ => False) s₂) →
    (∀ (I : Addr) (o : Obj) i u m' news' s₂, P i u → i < n → J i m' news' → LoopSt h₀ env.locals s₁.os s₂ (up i u m') ((I, o) :: keep ++ news') →
      wpAny (model prog w) A (execs body env) (TurnPost h₀ env.locals s₁.os ((I, o) :: keep) (J (i + 1)) Q) (fun _ _ => False) s₂) →
    (∀ m' news' s₂, J n m' news' → LoopSt h₀ env.locals s₁.os s₂ m' (keep ++ news') → Q .next s₂) → ForObl prog w A h₀ env target body Q v s₁
theorem DN.cons_of {a : Addr} {o : Obj} {news : Led} (D : DN news) (h : ∀ q ∈ news, q.1 < a) : DN ((a, o) :: news) :=
  List.nodup_cons.mpr ⟨fun hm => by obtain ⟨q, hq, e⟩ := List.mem_map.mp hm; exact absurd (h q hq) (by rw [e]; exact Nat.lt_irrefl _), D⟩
theorem DN.ne {a : Addr} {o : Obj} {news : Led} (D : DN ((a, o) :: news)) : ∀ q ∈ news, q.1 ≠ a := fun q hq e => (List.nodup_cons.mp D).1 (List.mem_map.mpr ⟨q, hq, e⟩)
theorem DN.tail {p : Addr × Obj} {news : Led} (D : DN (p :: news)) : DN news := (List.nodup_cons.mp D).2
theorem DN.set {a : Addr} {o o' : Obj} {news : Led} (D : DN ((a, o) :: news)) : DN ((a, o') :: news) := D
theorem LoopSt.keeps {L : Addr} {os : OsState} {m : Str → Option Value} {news : Led} {h' : Heap} {tk : Nat} {s : Shared} {I : Addr} (S : LoopSt h₀ L os s m news) (hI : I ≠ L) (hI0 : h₀.get? I = none) (hIn : ∀ q ∈ news, q.1 ≠ I)
    (hk : ∀ b o, b ≠ I → s.heap.get? b = some o → h'.get? b = some o) : LoopSt h₀ L os { s with heap := h', toks := tk } m news where
  fr := ⟨S.fr.ns.at' fun o e => hk _ o (Ne.symm hI) e, fun b o e => hk b o (fun q => by rw [q, hI0] at e; cases e) (S.fr.keep b o e), S.fr.above⟩
  nw := fun q hq => ⟨hk _ _ (hIn q hq) (S.nw q hq).1, (S.nw q hq).2⟩
  bare := S.bare
  os := S.os
  dn := S.dn
theorem For_obl (hh : A.handled = none) (h : wpAny (model prog w) A (eval iter env) (fun v s₁ => ForObl prog w A h₀ env target body Q v s₁) E s)
    (hs : ∀ x, foldedSetIterable iter env x = pure x) : wpAny (model prog w) A (exec (.For target iter body [] pos) env) Q E s := by
  refine wpAny_For (wpAny_mono h (fun v s₁ ob => ?_) fun _ _ e => e) hs
  obtain ⟨kp, keep, n, P, m, news, J, up, src, hkp, S, hJ, asg, turn, done⟩ := ob
  refine src A _ _ hh fun o St hof W hst hlive => ?_
  generalize hIe : s₁.heap.objs.size = I at W hst hlive
  have hIL : I ≠ env.locals := by rw [← hIe]; exact Nat.ne_of_gt S.fr.ns.lt
  have hI0 : h₀.get? I = none := Heap.get?_none_of_le (by rw [← hIe]; exact Nat.le_trans S.fr.above (Nat.le_of_lt S.fr.ns.lt))
  have hIn : ∀ q ∈ keep ++ news, q.1 ≠ I := fun q hq => by rw [← hIe]; exact Nat.ne_of_lt (Heap.lt_size (S.nw q hq).1)
  have S0 : LoopSt h₀ env.locals s₁.os { s₁ with heap := s₁.heap.push o } m (keep ++ news) := S.keeps (tk := s₁.toks) hIL hI0 hIn fun b o' _ e => Heap.get?_push_of_some _ e
  have W' := W A hh
  refine codeAny_forLoop_any (fun k s' => ∃ i m' news', i ≤ n ∧ k = n + 1 - i ∧ St i s'.heap ∧ LoopSt h₀ env.locals s₁.os s' m' (keep ++ news') ∧ (∀ q ∈ keep ++ news', q.1 ≠ I) ∧ J i m' news') ?_ (n + 1) ⟨0, m, news, Nat.zero_le _, rfl, hst, S0, hIn, hJ⟩
  rintro k s' ⟨i, m', news', hi, rfl, hst', S', hIn', hJ'⟩
  by_cases hlt : i < n
  · refine W'.item i _ _ _ hlt hst' fun u h₁ tk₁ hP hst₁ hk₁ => ?_
    have S₁ := S'.keeps (tk := tk₁) hIL hI0 hIn' (h' := h₁) fun b o' hb e => hk₁ b o' (by simpa using hb) e
    obtain ⟨oI, hoI, hpl⟩ := hlive _ _ hst₁
    have S₂ : LoopSt h₀ env.locals s₁.os { s' with heap := h₁, toks := tk₁ } m' ((I, oI) :: keep ++ news') := ⟨S₁.fr, fun q hq => by
        rcases List.mem_cons.mp hq with rfl | hq
        · exact ⟨hoI, hIL, hI0⟩
        · exact S₁.nw q hq, S₁.bare, S₁.os, List.nodup_cons.mpr ⟨fun hm => by obtain ⟨q, hq, e⟩ := List.mem_map.mp hm; exact hIn' q hq e, S₁.dn⟩⟩
    have frame : ∀ s₃ m₃ news₃, LoopSt h₀ env.locals s₁.os s₃ m₃ ((I, oI) :: keep ++ news₃) → St (i + 1) s₃.heap := fun s₃ m₃ news₃ S₃ => by
      refine W'.frame _ _ _ hst₁ fun b hb o' e => ?_
      rcases List.mem_cons.mp hb with rfl | hb
      · have e' : h₁.get? b = some o' := e
        rw [hoI] at e'; cases e'
        exact (S₃.nw _ (List.mem_append_left _ (.head _))).1
      · rcases hkp b hb with hm | hm
        · obtain ⟨q, hq, rfl⟩ := List.mem_map.mp hm
          have e1 := (S₂.nw q (List.mem_append_left _ (.tail _ hq))).1
          have e' : h₁.get? q.1 = some o' := e
          have e1' : h₁.get? q.1 = some q.2 := e1
          rw [e1'] at e'; cases e'
          exact (S₃.nw q (List.mem_append_left _ (.tail _ hq))).1
        · cases hq : h₀.get? b with
          | none => exact absurd hq hm
          | some o₀ =>
            have e1 : h₁.get? b = some o₀ := S₂.fr.keep b o₀ hq
            have e' : h₁.get? b = some o' := e
            rw [e1] at e'; cases e'
            exact S₃.fr.keep b _ hq
    have two := asg I oI i u m' news' _ (fun _ s₃ => wpAny (model prog w) A (execs body env) (fun f s₃ => match f with
          | .next | .cont => ∃ m, m < n + 1 - i ∧ ∃ i m' news', i ≤ n ∧ m = n + 1 - i ∧ St i s₃.heap ∧ LoopSt h₀ env.locals s₁.os s₃ m' (keep ++ news') ∧ (∀ q ∈ keep ++ news', q.1 ≠ I) ∧ J i m' news'
          | .brk => Q .next s₃
          | .ret v => Q (.ret v) s₃) (notedBy (model prog w) A env fun e s' => cameBackBy (model prog w) A env E e s') s₃) hP hlt hJ' S₂ hpl fun s₃ S₃ => ?_
    · exact wpAny_mono two (fun _ _ h => wpAny_mono h (fun _ _ h => h) fun _ _ h => h.elim) fun _ _ h => h.elim
    · refine wpAny_mono (turn I oI i u m' news' s₃ hP hlt hJ' S₃) (fun f s₄ hf => ?_) fun _ _ e => e.elim
      cases f with
      | ret r => exact hf
      | brk => exact hf
      | next =>
        obtain ⟨m₄, news₄, S₄, hJ₄⟩ := hf
        refine ⟨n + 1 - (i + 1), by ktr_room, i + 1, m₄, news₄, hlt, rfl, frame _ _ _ S₄, ⟨S₄.fr, fun q hq => S₄.nw q (.tail _ hq), S₄.bare, S₄.os, S₄.dn.tail⟩, S₄.dn.ne, hJ₄⟩
      | cont =>
        obtain ⟨m₄, news₄, S₄, hJ₄⟩ := hf
        refine ⟨n + 1 - (i + 1), by ktr_room, i + 1, m₄, news₄, hlt, rfl, frame _ _ _ S₄, ⟨S₄.fr, fun q hq => S₄.nw q (.tail _ hq), S₄.bare, S₄.os, S₄.dn.tail⟩, S₄.dn.ne, hJ₄⟩
  · have hin : i = n := by ktr_room
    subst hin
    refine W'.done _ _ _ hst' fun h₁ tk₁ hk₁ => wpAny_execs_nil ?_
    exact done m' news' _ hJ' (S'.keeps (tk := tk₁) hIL hI0 hIn' fun b o' hb e => hk₁ b o' (by simpa using hb) e)
end
/-! ## while loops, cuts, lists of the ledger -/
section
variable {prog : Program} {w : World} {A : Around} {E : Value → Shared → Prop} {s : Shared} {env : Env} {h₀ : Heap} {test : Expr} {body : List Stmt} {pos : Pos} {Q : Flow → Shared → Prop}
theorem While_obl {L : Addr} {os : OsState} {m₀ : Str → Option Value} {news₀ : Led} (J : Nat → (Str → Option Value) → Led → Prop) (k₀ : Nat) (S : LoopSt h₀ L os s m₀ news₀) (hJ : J k₀ m₀ news₀)
    (turn : ∀ k m news s₂, J k m news → LoopSt h₀ L os s₂ m news → wpAny (model prog w) A (isTrue test env (eval test env)) (fun b s₃ => if b = true then wpAny (model prog w) A (execs body env) (TurnPost h₀ L os [] (Less J k) Q) (fun _ _ => False) s₃ else Q .next s₃) (fun _ _ => False) s₂) :
    wpAny (model prog w) A (exec (.While test body [] pos) env) Q E s := by
  refine wpAny_While (codeAny_whileLoop (fun k s' => ∃ m news, LoopSt h₀ L os s' m news ∧ J k m news) (fun k s' hk => ?_) k₀ ⟨m₀, news₀, S, hJ⟩)
  obtain ⟨m, news, S', hJ'⟩ := hk
  refine wpAny_mono (turn k m news s' hJ' S') (fun b s₃ hb => ?_) fun _ _ e => e.elim
  cases b with
  | false => exact wpAny_execs_nil hb
  | true =>
    refine wpAny_mono (show wpAny (model prog w) A (execs body env) (TurnPost h₀ L os [] (Less J k) Q) (fun _ _ => False) s₃ from hb) (fun f s₄ hf => ?_) fun _ _ e => e.elim
    cases f with
    | ret r => exact hf
    | brk => exact hf
    | next => obtain ⟨m₄, news₄, S₄, k', hk', hJ₄⟩ := hf; exact ⟨k', hk', m₄, news₄, S₄, hJ₄⟩
    | cont => obtain ⟨m₄, news₄, S₄, k', hk', hJ₄⟩ := hf; exact ⟨k', hk', m₄, news₄, S₄, hJ₄⟩
/-- a cut behind a statement: it falls through with C, or it returns with R -/
noncomputable def Cut (C : Shared → Prop) (R : Flow → Shared → Prop) (f : Flow) (s' : Shared) : Prop := match f with
  | .next => C s'
  | f => R f s'
theorem cut_at {α : Type} {M : Model} {A : Around} {t : Sem Flow} {E : Value → Shared → Prop} {s : Shared} {k : Shared → Prop} {R : Flow → Shared → Prop} (C : Shared → Prop) (h : wpAny M A t (Cut C R) E s) (hc : ∀ s', C s' → k s') (_ : α) :
    wpAny M A t (fun f s' => match f with | .next => k s' | f => R f s') E s :=
  wpAny_mono h (fun f s' hf => by cases f <;> first | exact hc _ hf | exact hf) fun _ _ e => e
theorem Cut.next {C : Shared → Prop} {R : Flow → Shared → Prop} {s' : Shared} (h : C s') : Cut C R .next s' := h
end
section
variable {prog : Program} {w : World} {A : Around} {E : Value → Shared → Prop} {s : Shared} {value slice : PySem.Expr} {l : Addr} {vs : List Value} {k : Int} {u : Tok} {v : Value} {Q : Value → Shared → Prop}
theorem item_at (hl : s.heap.IsList l vs.toArray) (h0 : 0 ≤ k) (hhi : k < 2 ^ 63) (hx : vs[k.toNat]? = some v) (h : Q v s)
    (hs : subscripted slice false (.ref l) (.int k u) = operate [.ref l, .int k u] (getItem (.ref l) (.int k u))) : wpAny (model prog w) A (subscriptTail value slice (.ref l) (.int k u)) Q E s :=
  tail_any hl.typeIs slot_list_getitem.lookup (wpAny_getItem_list hl h0 hhi (by simpa using hx) h) hs
theorem item_last {ini : List Value} (hl : s.heap.IsList l (ini ++ [v]).toArray) (h : Q v s)
    (hs : subscripted slice false (.ref l) (.int (-1) u) = operate [.ref l, .int (-1) u] (getItem (.ref l) (.int (-1) u))) : wpAny (model prog w) A (subscriptTail value slice (.ref l) (.int (-1) u)) Q E s :=
  tail_any hl.typeIs slot_list_getitem.lookup (wpAny_getItem_list_neg hl (by decide) (by simp; ktr_room) (by decide) (by simp; rw [show (-1 + ((ini.length : Int) + 1)).toNat = ini.length by ktr_room]; simp) h) hs
end
/-- like Upd, but for what the ledger's own distinctness tells -/
inductive UpdM (d : Addr) (o o' : Obj) : Led → Led → Prop
  | head {r} : UpdM d o o' ((d, o) :: r) ((d, o') :: r)
  | tail {p r r'} : UpdM d o o' r r' → UpdM d o o' (p :: r) (p :: r')
theorem UpdM.mem {d : Addr} {o o' : Obj} : ∀ {l l' : Led}, UpdM d o o' l l' → d ∈ l.map (·.1)
  | _, _, .head => .head _
  | _, _, .tail h => .tail _ h.mem
theorem upd_dn {d : Addr} {o o' : Obj} : ∀ {l l' : Led}, DN l → UpdM d o o' l l' → Upd d o o' l l'
  | _, _, D, .head => .head D.ne
  | p :: _, _, D, .tail h => .tail (fun e => (List.nodup_cons.mp D).1 (by show p.1 ∈ _; rw [e]; exact h.mem)) (upd_dn D.tail h)
noncomputable def AllNe (d : Addr) : Led → Prop
  | [] => True
  | p :: r => p.1 ≠ d ∧ AllNe d r
theorem allNe_of {d : Addr} {l : Led} (h : AllNe d l) : ∀ p ∈ l, p.1 ≠ d := by
  induction l with
  | nil => intro p hp; cases hp
  | cons q r ih =>
    intro p hp
    cases hp with
    | head => exact h.1
    | tail _ hp => exact ih h.2 p hp
theorem allLt_all {d : Addr} {l : Led} (h : AllLt d l) : ∀ p ∈ l, p.1 < d := by
  induction l with
  | nil => intro p hp; cases hp
  | cons q r ih =>
    intro p hp
    cases hp with
    | head => exact h.1
    | tail _ hp => exact ih h.2 p hp
theorem allNe_mk {d : Addr} : ∀ {l : Led}, (∀ p ∈ l, p.1 ≠ d) → AllNe d l
  | [], _ => trivial
  | _ :: _, h => ⟨h _ (.head _), allNe_mk fun p hp => h p (.tail _ hp)⟩
theorem AllLt.ne {d d' : Addr} {l : Led} (h : AllLt d l) (hd : d ≤ d') : AllNe d' l := allNe_mk fun p hp => Nat.ne_of_lt (Nat.lt_of_lt_of_le (allLt_all h p hp) hd)
theorem AllNe.cons {d : Addr} {p : Addr × Obj} {r : Led} (h1 : p.1 ≠ d) (h2 : AllNe d r) : AllNe d (p :: r) := ⟨h1, h2⟩
theorem dn_cons {p : Addr × Obj} {r : Led} (h : AllNe p.1 r) (D : DN r) : DN (p :: r) := List.nodup_cons.mpr ⟨fun hm => by obtain ⟨q, hq, e⟩ := List.mem_map.mp hm; exact allNe_of h q hq e, D⟩
theorem DN.allNe {p : Addr × Obj} {r : Led} (D : DN (p :: r)) : AllNe p.1 r := allNe_mk D.ne
theorem dn_nil : DN [] := List.nodup_nil
theorem nm_eq {x : Str} {m : Str → Option Value} {v : Value} : (fun z => if z = x then some v else m z) x = some v := by simp
section
variable {prog : Program} {w : World} {A : Around} {E : Value → Shared → Prop} {s : Shared} {h₀ : Heap} {L D : Addr} {m : Str → Option Value} {news news' : Led} {n : Nat} {u : Tok} {v : Value} {Q : Unit → Shared → Prop}
theorem del_first {rest : List Value} (F : Fr h₀ L s.heap m) (N : News h₀ L s.heap news) (U : Upd D (listOf (v :: rest).toArray n) (listOf rest.toArray (n + 1)) news news') (hz : rest.length < sizeLine)
    (h : ∀ h', Fr h₀ L h' m → News h₀ L h' news' → Q () { s with heap := h' }) : wpAny (model prog w) A (delItem (.ref D) (.int 0 u)) Q E s :=
  ki_del (k := 0) F N rfl (PySem.StrLaws.seqIndex_nonneg (by decide) (by simp)) rfl U (by simp; ktr_room) h
theorem ki_delL_last : ∀ (ini : List Value) (v : Value), ki_delL (ini ++ [v]) ini.length = some ini
  | [], _ => rfl
  | x :: r, v => by simp only [List.cons_append, List.length_cons, ki_delL, ki_delL_last r v]
theorem del_last {ini : List Value} (F : Fr h₀ L s.heap m) (N : News h₀ L s.heap news) (U : Upd D (listOf (ini ++ [v]).toArray n) (listOf ini.toArray (n + 1)) news news') (hz : ini.length < sizeLine)
    (h : ∀ h', Fr h₀ L h' m → News h₀ L h' news' → Q () { s with heap := h' }) : wpAny (model prog w) A (delItem (.ref D) (.int (-1) u)) Q E s :=
  ki_del (k := ini.length) F N rfl (by rw [PySem.seqIndex_neg (by decide) (by simp; ktr_room)]; simp; ktr_room) (by simp [ki_delL_last]) U (by simp; ktr_room) h
end
section
variable {prog : Program} {w : World} {A : Around} {E : Value → Shared → Prop} {s : Shared} {l : Addr} {vs : List Value} {Q : Value → Shared → Prop}
theorem len_led {k : Nat} (hl : s.heap.IsList l vs.toArray) (e : vs.length = k) (hk : k < 2 ^ 62) (h : ∀ t u, Q (.int (k : Int) t) { s with toks := u }) : wpAny (model prog w) A (call (.builtin "len") [.ref l]) Q E s := by
  subst e
  refine Calls.call_len_list hl (by simp; ktr_room) ?_
  simpa using h _ _
end
section
open Builtin Builtin.Str
theorem gives_find4 (x y : Str) (lo hi : Nat) (t u v v' : Tok) (hh : hi ≤ x.length) : Gives («str.find» ⟨[.str x t, .str y u, .int (lo : Int) v, .int (hi : Int) v'], []⟩) (.int (match occurrences x y lo hi 1 with | k :: _ => (k : Int) | [] => -1)) := by
  have e1 : fromIndex x.length (lo : Int) = lo := by unfold fromIndex; rw [if_neg (by ktr_room)]; ktr_room
  have e2 : fromIndex x.length (hi : Int) = hi := by unfold fromIndex; rw [if_neg (by ktr_room)]; ktr_room
  show Gives (match occurrences x y (fromIndex x.length (lo : Int)) (min (fromIndex x.length (hi : Int)) x.length) 1 with | k :: _ => retInt k | [] => (do rule "str.find.not-found"; retInt (-1))) _
  rw [e1, e2, Nat.min_eq_left hh]
  cases occurrences x y lo hi 1 with
  | nil => exact .rule (.of_eq rfl)
  | cons k _ => exact .of_eq rfl
theorem args_find4 (a b c d : Value) : argsOk "str.find" ⟨[a, b, c, d], []⟩ := by unfold argsOk; kernel_rfl
variable {prog : Program} {w : World} {A : Around} {E : Value → Shared → Prop} {s : Shared} {x y : Str} {t u v v' : Tok} {lo hi : Nat} {Q : Value → Shared → Prop}
theorem find4 (hh : hi ≤ x.length) (hq : ∀ t' k, Q (.int (match occurrences x y lo hi 1 with | k :: _ => (k : Int) | [] => -1) t') { s with toks := k }) :
    wpAny (model prog w) A (call (.builtin "str.find") [.str x t, .str y u, .int (lo : Int) v, .int (hi : Int) v']) Q E s :=
  call_gives F.slot_str_find (typeIs_str _ _ _) F.entry_str_find (args_find4 _ _ _ _) (gives_find4 x y lo hi t u v v' hh) (hq _ _)
theorem find4_none (hh : hi ≤ x.length) (ho : occurrences x y lo hi 1 = []) (hq : ∀ t' k, Q (.int (-1) t') { s with toks := k }) :
    wpAny (model prog w) A (call (.builtin "str.find") [.str x t, .str y u, .int (lo : Int) v, .int (hi : Int) v']) Q E s := find4 hh (by rw [ho]; exact hq)
theorem find4_some {k : Nat} {r : List Nat} (hh : hi ≤ x.length) (ho : occurrences x y lo hi 1 = k :: r) (hq : ∀ t' u', Q (.int (k : Int) t') { s with toks := u' }) :
    wpAny (model prog w) A (call (.builtin "str.find") [.str x t, .str y u, .int (lo : Int) v, .int (hi : Int) v']) Q E s := find4 hh (by rw [ho]; exact hq)
end
section
variable {prog : Program} {w : World} {A : Around} {env : Env} {h₀ : Heap}
theorem asg_name {x : Str} {px : Pos} {os : OsState} {s₂ : Shared} {m : Str → Option Value} {led : Led} {I : Addr} {u : Value} {Q' : Unit → Shared → Prop} (hx : env.kindOf x = some .local) (hk : env.scope.kind = .function) (S : LoopSt h₀ env.locals os s₂ m led)
    (h : ∀ s₃, LoopSt h₀ env.locals os s₃ (fun y => if y = x then some u else m y) led → Q' () s₃) :
    wpAny (model prog w) A (letOwnedTupleGo (.Name x px) (.ref I) u) (fun _ s₂' => wpAny (model prog w) A (assign (.Name x px) env u) Q' (fun _ _ => False) s₂') (fun _ _ => False) s₂ := by
  refine wpAny_of_eq (show letOwnedTupleGo (.Name x px) (.ref I) u = pure () from rfl) ?_
  refine wpAny_assign_Name (wpAny_storeName_local hx S.fr.ns (fun h' hn hs => ?_) (by rw [hk]; rfl))
  exact h _ ⟨S.fr.set hn hs, S.nw.set hs, S.bare, S.os, S.dn⟩
end
section
variable {prog : Program} {w : World} {A : Around} {env : Env} {h₀ : Heap}
theorem letGo_plain {elts : List Expr} {k : Nat} {pos : Pos} {I T : Addr} {o : Obj} {s : Shared} {Q : Unit → Shared → Prop} {E : Value → Shared → Prop} (hg : s.heap.get? I = some o) (hp : PlainIt o) (h : Q () s) :
    wpAny (model prog w) A (letOwnedTupleGo (.Tuple elts k pos) (.ref I) (.ref T)) Q E s := by
  obtain ⟨n, hc, hn⟩ := hp
  unfold letOwnedTupleGo
  refine wpAny_bind (wpAny_load hg ?_)
  rw [hc]
  cases o.data with
  | fields vs =>
    show wpAny _ A (if ((["enumerate", "zip", "dict_itemiterator", "dict_reverseitemiterator", "odict_iterator", "itertools.zip_longest", "itertools.pairwise"] : List String).contains n && vs[0]? == some (rawInt T)) = true then _ else _) Q E s
    rw [if_neg (by rw [hn, Bool.false_and]; decide)]
    exact wpAny_pure h
  | _ => exact wpAny_pure h
theorem LoopSt.grow {L : Addr} {os : OsState} {s : Shared} {m : Str → Option Value} {led : Led} {h' : Heap} (S : LoopSt h₀ L os s m led) (hk : Heap.ExtBut s.heap.objs.size s.heap h') : LoopSt h₀ L os { s with heap := h' } m led :=
  ⟨S.fr.keeps fun b o e => hk b o (Nat.ne_of_lt (Heap.lt_size e)) e, fun q hq => ⟨hk _ _ (Nat.ne_of_lt (Heap.lt_size (S.nw q hq).1)) (S.nw q hq).1, (S.nw q hq).2⟩, S.bare, S.os, S.dn⟩
theorem asg_pair {x y : Str} {px py pos : Pos} {k : Nat} {os : OsState} {s₂ : Shared} {m : Str → Option Value} {led : Led} {I T : Addr} {o oT : Obj} {a b : Value} {Q' : Unit → Shared → Prop} (hh : A.handled = none) (hx : env.kindOf x = some .local) (hy : env.kindOf y = some .local) (hk : env.scope.kind = .function) (S : LoopSt h₀ env.locals os s₂ m ((I, o) :: led)) (hp : PlainIt o)
    (hT : (T, oT) ∈ led) (hc : oT.cls = .type "tuple") (hd : ∃ n, oT.data = .seq #[a, b] n)
    (h : ∀ s₃, LoopSt h₀ env.locals os s₃ (fun z => if z = y then some b else if z = x then some a else m z) ((I, o) :: led) → Q' () s₃) :
    wpAny (model prog w) A (letOwnedTupleGo (.Tuple [.Name x px, .Name y py] k pos) (.ref I) (.ref T)) (fun _ s₂' => wpAny (model prog w) A (assign (.Tuple [.Name x px, .Name y py] k pos) env (.ref T)) Q' (fun _ _ => False) s₂') (fun _ _ => False) s₂ := by
  refine letGo_plain (S.nw _ (.head _)).1 hp ?_
  refine wpAny_assign_Tuple hh ⟨oT, (S.nw _ (.tail _ hT)).1, hc, hd⟩ rfl rfl fun h' he => ?_
  have S₁ := S.grow he
  show wpAny _ A (assignInOrder [assign (.Name x px) env, assign (.Name y py) env] [a, b]) Q' _ _
  refine wpAny_assignInOrder_more (wpAny_assign_Name (wpAny_storeName_local hx S₁.fr.ns (fun h₂ hn hs => ?_) (by rw [hk]; rfl)))
  have S₂ : LoopSt h₀ env.locals os { s₂ with heap := h₂, toks := s₂.toks } (fun z => if z = x then some a else m z) ((I, o) :: led) := ⟨S₁.fr.set hn hs, S₁.nw.set hs, S₁.bare, S₁.os, S₁.dn⟩
  refine wpAny_assignInOrder_more (wpAny_assign_Name (wpAny_storeName_local hy hn (fun h₃ hn' hs' => wpAny_assignInOrder_none ?_) (by rw [hk]; rfl)))
  exact h _ ⟨S₂.fr.set hn' hs', S₂.nw.set hs', S₂.bare, S₂.os, S₂.dn⟩
end
theorem open_Q {α : Type} {M : Model} {A : Around} {t : Sem α} {Q₀ : α → Shared → Prop} {E : Value → Shared → Prop} {s : Shared} (h : ∀ Q : α → Shared → Prop, Q₀ = Q → wpAny M A t Q E s) : wpAny M A t Q₀ E s := h _ rfl
/-- where the walk stands, as a letter -/
theorem letA {α : Type} {M : Model} {A : Around} {t : Sem α} {Q : α → Shared → Prop} {E : Value → Shared → Prop} {s : Shared} (h : let B := A; wpAny M B t Q E s) : wpAny M A t Q E s := h
theorem room1 {a b c R : Nat} (h : a + b < R) (k : c ≤ b) : a + c < R := by ktr_room
theorem room2 {a b c R : Nat} (h : a + b < R + 1) (k : c + 1 ≤ b) : a + c < R := by ktr_room
theorem room3 {a b c R : Nat} (h : a + b < R + 3) (k : c + 3 ≤ b) : a + c < R := by ktr_room
end Mine
end
section
open PySem PySem.W PyProof.Rows
namespace Mine
/-! ## a rearranged ledger by its blocks' numbers -/
noncomputable def flB : List Led → Led
  | [] => []
  | [b] => b
  | b :: c :: bs => b ++ flB (c :: bs)
noncomputable def pickB (bs : List Led) : List Nat → List Led
  | [] => []
  | i :: is => bs.getD i [] :: pickB bs is
noncomputable def okI (n : Nat) (is : List Nat) : Bool := (List.range n).isPerm is
theorem flB_flat : ∀ bs : List Led, flB bs = bs.flatten
  | [] => rfl
  | [b] => by simp [flB]
  | b :: c :: bs => by show b ++ flB (c :: bs) = _; rw [flB_flat (c :: bs)]; rfl
theorem pickB_map (bs : List Led) : ∀ is : List Nat, pickB bs is = is.map fun i => bs.getD i []
  | [] => rfl
  | i :: is => by rw [List.map_cons, ← pickB_map bs is]; rfl
theorem pm_idx (bs : List Led) (is : List Nat) (h : okI bs.length is = true) : (flB bs).Perm (flB (pickB bs is)) := by
  have hp : (List.range bs.length).Perm is := List.isPerm_iff.mp h
  have hb : (List.range bs.length).map (fun i => bs.getD i []) = bs := by
    apply List.ext_getElem
    · simp
    · intro i h1 h2
      rw [List.getElem_map, List.getElem_range, List.getD_eq_getElem?_getD, List.getElem?_eq_getElem h2]
      rfl
  rw [flB_flat, flB_flat, pickB_map]
  have := (hp.map fun i => bs.getD i []).flatten
  rw [hb] at this
  exact this
end Mine
end
section
open PySem PySem.W PySem.Calls PyProof.Rows
set_option maxRecDepth 100000
set_option maxHeartbeats 8000000
namespace Mine
/-! ## list comprehensions with calls in their tests, one clause or two -/
noncomputable def compTests (ifs : List Expr) (env : Env) : Sem Bool := forIn ifs true fun c r => if r = true then do let ok ← isTrue c env (eval c env); pure (ForInStep.yield ok) else pure (ForInStep.yield r)
/-- what a turn does -/
noncomputable def turnIs (elt : Expr) (gens : List Comprehension) (scope : Scope) (pos p : Pos) (depth : Nat) (it acc : Value) (env : Env) (target : Expr) (ifs : List Expr) (body : Sem Unit) : Prop :=
  compTurn (.ListComp elt gens scope pos) depth it acc env = (do
      standAt p
      match ← pyNext it with
      | none => pure (.done .next)
      | some v =>
        letOwnedTupleGo target it v
        assign target env v
        let ok ← compTests ifs env
        if ok = true then do
          body
          again (.compLoop (.ListComp elt gens scope pos) depth it acc env)
        else again (.compLoop (.ListComp elt gens scope pos) depth it acc env))
noncomputable def emitOf (elt : Expr) (env : Env) (acc : Value) : Sem Unit := do
  let x ← eval elt env
  let _ ← call (.builtin "list.append") [acc, x]
  pure ()
theorem turn_one (elt target iter : Expr) (ifs : List Expr) (scope : Scope) (pos : Pos) (it acc : Value) (env : Env) :
    turnIs elt [⟨target, iter, ifs, 0⟩] scope pos iter.pos 0 it acc env target ifs (emitOf elt env acc) := by
  unfold turnIs compTurn compTests emitOf
  simp
  rfl
theorem turn_last2 (elt t0 i0 target iter : Expr) (ifs0 ifs : List Expr) (scope : Scope) (pos : Pos) (it acc : Value) (env : Env) :
    turnIs elt [⟨t0, i0, ifs0, 0⟩, ⟨target, iter, ifs, 0⟩] scope pos iter.pos 1 it acc env target ifs (emitOf elt env acc) := by
  unfold turnIs compTurn compTests emitOf
  simp
  rfl
noncomputable def innerOf (e : Expr) (iter : Expr) (env : Env) (acc : Value) : Sem Unit := do
  let x ← eval iter env
  standAt iter.pos
  let x ← foldedSetIterable iter env x
  let it ← holding [x] (pyIter x)
  let _ ← runOwn (.compStart e 1 it acc env) env
  pure ()
theorem turn_first2 (elt t0 i0 target iter : Expr) (ifs0 ifs : List Expr) (scope : Scope) (pos : Pos) (it acc : Value) (env : Env) :
    turnIs elt [⟨t0, i0, ifs0, 0⟩, ⟨target, iter, ifs, 0⟩] scope pos i0.pos 0 it acc env t0 ifs0 (innerOf (.ListComp elt [⟨t0, i0, ifs0, 0⟩, ⟨target, iter, ifs, 0⟩] scope pos) iter env acc) := by
  unfold turnIs compTurn compTests innerOf
  simp
  rfl
/-- a turn's end in a block -/
inductive TurnEnd (h₀ : Heap) (L : Addr) (os : OsState) (m : Str → Option Value) (I : Addr) (o : Obj) (keep : Led) (J : Led → Prop) (s : Shared) : Prop
  | mk (news : Led) : LoopSt h₀ L os s m ((I, o) :: keep ++ news) →
    J news → TurnEnd h₀ L os m I o keep J s
section
variable {prog : Program} {w : World} {A : Around} {s : Shared} {h₀ : Heap}
theorem compLoop_obl {elt : Expr} {gens : List Comprehension} {scope : Scope} {pos p : Pos} {depth : Nat} {I : Addr} {acc : Value} {env : Env} {target : Expr} {ifs : List Expr} {body : Sem Unit} {R : Result → Shared → Prop}
    {L : Addr} {os : OsState} {m : Str → Option Value} {kp : List Addr} {keep : Led} {n : Nat} {P : Nat → Value → Prop} {St : Nat → Heap → Prop} {news : Led} (J : Nat → Led → Prop)
    (hturn : turnIs elt gens scope pos p depth (.ref I) acc env target ifs body)
    (W : Walks prog w A I (I :: kp) [I] n P St) (hst : St 0 s.heap) (hlive : ∀ i h, St i h → ∃ o, h.get? I = some o ∧ PlainIt o) (hkp : ∀ b ∈ kp, b ∈ keep.map (·.1) ∨ h₀.get? b ≠ none)
    (hIL : I ≠ L) (hI0 : h₀.get? I = none) (hIn : ∀ q ∈ keep ++ news, q.1 ≠ I)
    (S : LoopSt h₀ L os s m (keep ++ news)) (hJ : J 0 news)
    (turn : ∀ o i u news' s₂, P i u → i < n → J i news' → LoopSt h₀ L os s₂ m ((I, o) :: keep ++ news') → PlainIt o →
      wpAny (model prog w) A (letOwnedTupleGo target (.ref I) u) (fun _ s₂' => wpAny (model prog w) A (assign target env u) (fun _ s₃ => wpAny (model prog w) A (compTests ifs env) (fun ok s₄ =>
        if ok = true then wpAny (model prog w) A body (fun _ s₅ => TurnEnd h₀ L os m I o keep (J (i + 1)) s₅) (fun _ _ => False) s₄
        else TurnEnd h₀ L os m I o keep (J (i + 1)) s₄) (fun _ _ => False) s₃) (fun _ _ => False) s₂') (fun _ _ => False) s₂)
    (done : ∀ news' s₂, J n news' → LoopSt h₀ L os s₂ m (keep ++ news') → R (.ok .next) s₂) :
    codeAny (model prog w) A (.compLoop (.ListComp elt gens scope pos) depth (.ref I) acc env) R s := by
  refine codeAny_loop rfl (fun k s' => ∃ i news', i ≤ n ∧ k = n + 1 - i ∧ St i s'.heap ∧ LoopSt h₀ L os s' m (keep ++ news') ∧ (∀ q ∈ keep ++ news', q.1 ≠ I) ∧ J i news') ?_ (n + 1) ⟨0, news, Nat.zero_le _, rfl, hst, S, hIn, hJ⟩
  rintro k s' ⟨i, news', hi, rfl, hst', S', hIn', hJ'⟩
  show wpAny _ A ((compTurn (.ListComp elt gens scope pos) depth (.ref I) acc env).onRaise (fun x => do noteFrame x env; theTreesLotGoes x)) _ _ s'
  refine wpAny_noted ?_
  rw [hturn]
  refine wpAny_bind (wpAny_standAt (wpAny_bind ?_))
  by_cases hlt : i < n
  · refine W.item i _ _ _ hlt hst' fun u h₁ tk₁ hP hst₁ hk₁ => ?_
    have S₁ := S'.keeps (tk := tk₁) hIL hI0 hIn' (h' := h₁) fun b o' hb e => hk₁ b o' (by simpa using hb) e
    obtain ⟨oI, hoI, hpl⟩ := hlive _ _ hst₁
    have S₂ : LoopSt h₀ L os { s' with heap := h₁, toks := tk₁ } m ((I, oI) :: keep ++ news') := ⟨S₁.fr, fun q hq => by
        rcases List.mem_cons.mp hq with rfl | hq
        · exact ⟨hoI, hIL, hI0⟩
        · exact S₁.nw q hq, S₁.bare, S₁.os, List.nodup_cons.mpr ⟨fun hm => by obtain ⟨q, hq, e⟩ := List.mem_map.mp hm; exact hIn' q hq e, S₁.dn⟩⟩
    have frame : ∀ s₃ news₃, LoopSt h₀ L os s₃ m ((I, oI) :: keep ++ news₃) → St (i + 1) s₃.heap := fun s₃ news₃ S₃ => by
      refine W.frame _ _ _ hst₁ fun b hb o' e => ?_
      rcases List.mem_cons.mp hb with rfl | hb
      · have e' : h₁.get? b = some o' := e
        rw [hoI] at e'; cases e'
        exact (S₃.nw _ (List.mem_append_left _ (.head _))).1
      · rcases hkp b hb with hm | hm
        · obtain ⟨q, hq, rfl⟩ := List.mem_map.mp hm
          have e1 := (S₂.nw q (List.mem_append_left _ (.tail _ hq))).1
          have e' : h₁.get? q.1 = some o' := e
          have e1' : h₁.get? q.1 = some q.2 := e1
          rw [e1'] at e'; cases e'
          exact (S₃.nw q (List.mem_append_left _ (.tail _ hq))).1
        · cases hq : h₀.get? b with
          | none => exact absurd hq hm
          | some o₀ =>
            have e1 : h₁.get? b = some o₀ := S₂.fr.keep b o₀ hq
            have e' : h₁.get? b = some o' := e
            rw [e1] at e'; cases e'
            exact S₃.fr.keep b _ hq
    have fin : ∀ s₅, TurnEnd h₀ L os m I oI keep (J (i + 1)) s₅ → ∃ m', m' < n + 1 - i ∧ ∃ j news', j ≤ n ∧ m' = n + 1 - j ∧ St j s₅.heap ∧ LoopSt h₀ L os s₅ m (keep ++ news') ∧ (∀ q ∈ keep ++ news', q.1 ≠ I) ∧ J j news' := fun s₅ h => by
      obtain ⟨news₄, S₄, hJ₄⟩ := h
      exact ⟨n + 1 - (i + 1), by ktr_room, i + 1, news₄, hlt, rfl, frame _ _ S₄, ⟨S₄.fr, fun q hq => S₄.nw q (.tail _ hq), S₄.bare, S₄.os, S₄.dn.tail⟩, S₄.dn.ne, hJ₄⟩
    refine wpAny_bind (wpAny_mono (turn oI i u news' _ hP hlt hJ' S₂ hpl) (fun _ s₂' h2 => ?_) fun _ _ e => e.elim)
    refine wpAny_bind (wpAny_mono h2 (fun _ s₃ h3 => ?_) fun _ _ e => e.elim)
    refine wpAny_bind (wpAny_mono h3 (fun ok s₄ h4 => ?_) fun _ _ e => e.elim)
    cases ok with
    | false => exact wpAny_pure ⟨rfl, fin _ h4⟩
    | true => exact wpAny_bind (wpAny_mono h4 (fun _ s₅ h5 => wpAny_pure ⟨rfl, fin _ h5⟩) fun _ _ e => e.elim)
  · have hin : i = n := by ktr_room
    subst hin
    refine W.done _ _ _ hst' fun h₁ tk₁ hk₁ => wpAny_pure ?_
    exact done news' _ hJ' (S'.keeps (tk := tk₁) hIL hI0 hIn' fun b o' hb e => hk₁ b o' (by simpa using hb) e)
theorem LoopSt.put {L D : Addr} {os : OsState} {s : Shared} {m : Str → Option Value} {o o' : Obj} {h' : Heap} : ∀ {pre post : Led}, LoopSt h₀ L os s m (pre ++ (D, o) :: post) → Heap.SameBut D s.heap h' → h'.get? D = some o' → ∀ tk, LoopSt h₀ L os { s with heap := h', toks := tk } m (pre ++ (D, o') :: post) := by
  intro pre post S hs hg tk
  have hD := S.nw (D, o) (List.mem_append_right _ (.head _))
  have hn : ∀ q ∈ pre ++ post, q.1 ≠ D := by
    intro q hq e
    have d := S.dn
    unfold DN at d
    rw [List.map_append, List.map_cons, List.nodup_append] at d
    rcases List.mem_append.mp hq with h | h
    · exact d.2.2 q.1 (List.mem_map.mpr ⟨q, h, rfl⟩) D (.head _) e
    · exact (List.nodup_cons.mp d.2.1).1 (List.mem_map.mpr ⟨q, h, e⟩)
  refine ⟨S.fr.change hs hD.2.1 hD.2.2, fun q hq => ?_, S.bare, S.os, ?_⟩
  · rcases List.mem_append.mp hq with h | h
    · have z := S.nw q (List.mem_append_left _ h)
      exact ⟨hs.extBut _ _ (hn q (List.mem_append_left _ h)) z.1, z.2⟩
    · rcases List.mem_cons.mp h with rfl | h
      · exact ⟨hg, hD.2⟩
      · have z := S.nw q (List.mem_append_right _ (.tail _ h))
        exact ⟨hs.extBut _ _ (hn q (List.mem_append_right _ h)) z.1, z.2⟩
  · have d := S.dn
    unfold DN at d ⊢
    simpa using d
/-- the end of an element -/
inductive EltEnd (h₀ : Heap) (L : Addr) (os : OsState) (m : Str → Option Value) (I : Addr) (o : Obj) (keep : Led) (C D : Addr) (ys : List Value) (Z : (Str → Option Value) → Prop) (J : List Value → Led → Prop) (y : Value) (s : Shared) : Prop
  | mk (oC : Obj) (m₃ : Str → Option Value) (news : Led) : LCg.NsObj oC m₃ →
    Z m₃ →
    LoopSt h₀ L os s m ((I, o) :: keep ++ (C, oC) :: (D, LCg.lst ys) :: news) →
    ys.length ≤ sizeLine →
    J (ys ++ [y]) news → EltEnd h₀ L os m I o keep C D ys Z J y s
/-- between the turns of a block: its names' object and its list head the ledger -/
inductive BlockJ (C D : Addr) (Z : (Str → Option Value) → Prop) (J : List Value → Led → Prop) (news : Led) : Prop
  | mk (oC : Obj) (m₃ : Str → Option Value) (ys : List Value) (n' : Led) : news = (C, oC) :: (D, LCg.lst ys) :: n' →
    LCg.NsObj oC m₃ →
    Z m₃ →
    J ys n' → BlockJ C D Z J news
theorem emit_obl {L : Addr} {os : OsState} {m : Str → Option Value} {I C D : Addr} {o : Obj} {keep : Led} {ys : List Value} {Z : (Str → Option Value) → Prop} {J : List Value → Led → Prop} {elt : Expr} {env : Env}
    (h : wpAny (model prog w) A (eval elt env) (EltEnd h₀ L os m I o keep C D ys Z J) (fun _ _ => False) s) :
    wpAny (model prog w) A (emitOf elt env (.ref D)) (fun _ s₅ => TurnEnd h₀ L os m I o keep (BlockJ C D Z J) s₅) (fun _ _ => False) s := by
  unfold emitOf
  refine wpAny_bind (wpAny_mono h (fun y s₁ h₁ => ?_) fun _ _ e => e)
  obtain ⟨oC, m₃, news, hC, hZ, S, hl, hJ⟩ := h₁
  have hD := S.nw (D, LCg.lst ys) (List.mem_append_right _ (.tail _ (.head _)))
  refine wpAny_bind (append_at (hsz := by show ys.toArray.size ≤ sizeLine; rw [List.size_toArray]; exact hl) hD.1 fun h₅ hs₅ hD₅ => wpAny_pure ?_)
  have S' : LoopSt h₀ L os s₁ m (((I, o) :: keep ++ [(C, oC)]) ++ (D, LCg.lst ys) :: news) := by simpa using S
  have S₂ := S'.put hs₅ (hD₅.trans (congrArg some (LCg.lst_snoc ys y))) s₁.toks
  exact ⟨(C, oC) :: (D, LCg.lst (ys ++ [y])) :: news, by simpa using S₂, oC, m₃, _, _, rfl, hC, hZ, hJ⟩
/-- what a block's clause asks for -/
inductive ClauseObl (prog : Program) (w : World) (A : Around) (h₀ : Heap) (L : Addr) (os : OsState) (m : Str → Option Value) (target : Expr) (ifs : List Expr) (body : Sem Unit) (cenv : Env) (Q : Shared → Prop) (v : Value) (s₁ : Shared) : Prop
  | mk (kp : List Addr) (keep : Led) (n : Nat) (P : Nat → Value → Prop) (news : Led) (J : Nat → Led → Prop) : SrcOf prog w v kp n P s₁ →
    (∀ b ∈ kp, b ∈ keep.map (·.1) ∨ h₀.get? b ≠ none) →
    LoopSt h₀ L os s₁ m (keep ++ news) →
    J 0 news →
    (∀ I o i u news' s₂, P i u → i < n → J i news' → LoopSt h₀ L os s₂ m ((I, o) :: keep ++ news') → PlainIt o →
      wpAny (model prog w) A (letOwnedTupleGo target (.ref I) u) (fun _ s₂' => wpAny (model prog w) A (assign target cenv u) (fun _ s₃ => wpAny (model prog w) A (compTests ifs cenv) (fun ok s₄ =>
        if ok = true then wpAny (model prog w) A body (fun _ s₅ => TurnEnd h₀ L os m I o keep (J (i + 1)) s₅) (fun _ _ => False) s₄
        else TurnEnd h₀ L os m I o keep (J (i + 1)) s₄) (fun _ _ => False) s₃) (fun _ _ => False) s₂') (fun _ _ => False) s₂) →
    (∀ news' s₂, J n news' → LoopSt h₀ L os s₂ m (keep ++ news') → Q s₂) → ClauseObl prog w A h₀ L os m target ifs body cenv Q v s₁
theorem codeAny_compStart_list1 {elt t0 i0 target iter ifs0 ifs rest scope pos it acc env} {R : Result → Shared → Prop}
    (h0 : codeAny (model prog w) A (.compLoop (.ListComp elt (⟨t0, i0, ifs0, 0⟩ :: ⟨target, iter, ifs, 0⟩ :: rest) scope pos) 1 it acc env) R s)
    (h : wpAny (model prog w) A (pyIter it) (fun it' s' => codeAny (model prog w) A (.compLoop (.ListComp elt (⟨t0, i0, ifs0, 0⟩ :: ⟨target, iter, ifs, 0⟩ :: rest) scope pos) 1 it' acc env) R s')
      (notedBy (model prog w) A env fun x s' => R (.error x) s') s) :
    codeAny (model prog w) A (.compStart (.ListComp elt (⟨t0, i0, ifs0, 0⟩ :: ⟨target, iter, ifs, 0⟩ :: rest) scope pos) 1 it acc env) R s := by
  refine codeAny_of_tree ?_
  show wpAny _ _ ((compStart (.ListComp elt (⟨t0, i0, ifs0, 0⟩ :: ⟨target, iter, ifs, 0⟩ :: rest) scope pos) 1 it acc env).onRaise (fun x => do noteFrame x env; standAt theWindowsPlace)) _ _ s
  refine wpAny_notedAt ?_
  unfold compStart
  show wpAny _ _ (ask >>= _) _ _ s
  refine wpAny_bind (wpAny_askSetting (wpAny_ite ?_))
  split
  · first
      | exact wpAny_bind (wpAny_pure (wpAny_pure (And.intro rfl h0)))
      | exact wpAny_pure (And.intro rfl h0)
  · first
      | exact wpAny_bind (wpAny_rule (wpAny_bind (wpAny_standAt (wpAny_bind (wpAny_mono h (fun it' s' h' => wpAny_pure (And.intro rfl h')) fun _ _ x => x)))))
      | (refine wpAny_bind (wpAny_rule ?_); show wpAny _ _ (standAt iter.pos >>= _) _ _ s; exact wpAny_bind (wpAny_standAt (wpAny_bind (wpAny_mono h (fun it' s' h' => wpAny_pure (And.intro rfl h')) fun _ _ x => x))))
theorem inner_obl {elt t0 i0 target iter : Expr} {ifs0 ifs : List Expr} {scope : Scope} {pos : Pos} {acc : Value} {cenv : Env} {L : Addr} {os : OsState} {m : Str → Option Value} {Q : Shared → Prop} {led : Led} (_S : LoopSt h₀ L os s m led) (hh : A.handled = none)
    (h : wpAny (model prog w) A (eval iter cenv) (ClauseObl prog w A h₀ L os m target ifs (emitOf elt cenv acc) cenv Q) (fun _ _ => False) s)
    (hs : ∀ x, foldedSetIterable iter cenv x = pure x) :
    wpAny (model prog w) A (innerOf (.ListComp elt [⟨t0, i0, ifs0, 0⟩, ⟨target, iter, ifs, 0⟩] scope pos) iter cenv acc) (fun _ s' => Q s') (fun _ _ => False) s := by
  unfold innerOf
  refine wpAny_bind (wpAny_mono h (fun v s₁ ob => ?_) fun _ _ e => e)
  obtain ⟨kp, keep, n, P, news, J, src, hkp, S, hJ, turn, done⟩ := ob
  refine wpAny_bind (wpAny_standAt (wpAny_bind (wpAny_of_eq (hs v) (wpAny_bind (wpAny_holding (src A _ _ hh fun o St hof W hst hlive => ?_))))))
  generalize hIe : s₁.heap.objs.size = I at W hst hlive
  have hIL : I ≠ L := by rw [← hIe]; exact Nat.ne_of_gt S.fr.ns.lt
  have hI0 : h₀.get? I = none := Heap.get?_none_of_le (by rw [← hIe]; exact Nat.le_trans S.fr.above (Nat.le_of_lt S.fr.ns.lt))
  have hIn : ∀ q ∈ keep ++ news, q.1 ≠ I := fun q hq => by rw [← hIe]; exact Nat.ne_of_lt (Heap.lt_size (S.nw q hq).1)
  have S0 : LoopSt h₀ L os { s₁ with heap := s₁.heap.push o } m (keep ++ news) := S.keeps (tk := s₁.toks) hIL hI0 hIn fun b o' _ e => Heap.get?_push_of_some _ e
  have W' := W A hh
  have loop : codeAny (model prog w) A (.compLoop (.ListComp elt [⟨t0, i0, ifs0, 0⟩, ⟨target, iter, ifs, 0⟩] scope pos) 1 (.ref I) acc cenv) (fun r s' => match r with | .ok f => wpAny (model prog w) A (pure ()) (fun _ s' => Q s') (fun _ _ => False) s' | .error e => cameBackBy (model prog w) A cenv (fun _ _ => False) e s') { s₁ with heap := s₁.heap.push o } :=
    compLoop_obl J (turn_last2 elt t0 i0 target iter ifs0 ifs scope pos (.ref I) acc cenv) W' hst hlive hkp hIL hI0 hIn S0 hJ (turn I) fun news' s₂ hJ' S' => wpAny_pure (done news' s₂ hJ' S')
  refine wpAny_bind (wpAny_runOwn ?_)
  exact codeAny_compStart_list1 loop (W'.self 0 _ _ _ hst loop)
/-- what a block asks for -/
inductive BlockObl (prog : Program) (w : World) (A : Around) (h₀ : Heap) (L : Addr) (m : Str → Option Value) (env : Env) (scope : Scope) (cl : List (Str × Addr)) (target : Expr) (ifs : List Expr) (body : Env → Value → Sem Unit) (Fin : OsState → Addr → List Value → Led → Shared → Prop) (v : Value) (s₁ : Shared) : Prop
  | mk (kp : List Addr) (keep : Led) (n : Nat) (P : Nat → Value → Prop) (news : Led) (J : Nat → List Value → Led → Prop) : SrcOf prog w v kp n P s₁ →
    (∀ b ∈ kp, b ∈ keep.map (·.1) ∨ h₀.get? b ≠ none) →
    LoopSt h₀ L s₁.os s₁ m (keep ++ news) →
    J 0 [] news →
    (∀ I o C D oC m₂ i u ys news' s₂, P i u → i < n → J i ys news' → LCg.NsObj oC m₂ → LoopSt h₀ L s₁.os s₂ m ((I, o) :: keep ++ (C, oC) :: (D, LCg.lst ys) :: news') → PlainIt o →
      wpAny (model prog w) A (letOwnedTupleGo target (.ref I) u) (fun _ s₂' => wpAny (model prog w) A (assign target (compEnvC scope cl C env) u) (fun _ s₃ => wpAny (model prog w) A (compTests ifs (compEnvC scope cl C env)) (fun ok s₄ =>
        if ok = true then wpAny (model prog w) A (body (compEnvC scope cl C env) (.ref D)) (fun _ s₅ => TurnEnd h₀ L s₁.os m I o keep (BlockJ C D (fun _ => True) (J (i + 1))) s₅) (fun _ _ => False) s₄
        else TurnEnd h₀ L s₁.os m I o keep (BlockJ C D (fun _ => True) (J (i + 1))) s₄) (fun _ _ => False) s₃) (fun _ _ => False) s₂') (fun _ _ => False) s₂) →
    (∀ D ys news' s₂, J n ys news' → LoopSt h₀ L s₁.os s₂ m (keep ++ (D, LCg.lst ys) :: news') → Fin s₁.os D ys (keep ++ (D, LCg.lst ys) :: news') s₂) → BlockObl prog w A h₀ L m env scope cl target ifs body Fin v s₁
theorem block_obl {elt : Expr} {gens : List Comprehension} {scope : Scope} {cl : List (Str × Addr)} {pos p : Pos} {env : Env} {target : Expr} {ifs : List Expr} {body : Env → Value → Sem Unit} {L : Addr} {m : Str → Option Value} {Fin : OsState → Addr → List Value → Led → Shared → Prop}
    {v : Value} {E : Value → Shared → Prop} {RR : Value → Addr → Result → Shared → Prop} (hh : A.handled = none)
    (hgens : ∃ target iter ifs rest, gens = ⟨target, iter, ifs, 0⟩ :: rest)
    (hturn : ∀ I C D, turnIs elt gens scope pos p 0 (.ref I) (.ref D) (compEnvC scope cl C env) target ifs (body (compEnvC scope cl C env) (.ref D)))
    (hcell : ∀ y ∈ scope.names, y.2 ≠ .cell) (hkind : scope.kind = .function)
    (ob : BlockObl prog w A h₀ L m env scope cl target ifs body Fin v s)
    (hRR : ∀ D C ys led s' m', Fin s.os D ys led s' → s'.heap.Ns C m' → h₀.get? C = none → C ≠ L → (∀ q ∈ led, q.1 ≠ C) → LoopSt h₀ L s.os s' m led → (∀ s'', LoopSt h₀ L s.os s'' m led → Fin s.os D ys led s'') → RR (.ref D) C (.ok .next) s') :
    wpAny (model prog w) A (pyIter v) (fun it s₂ => wpAny (model prog w) A (newList []) (fun acc s₃ => wpAny (model prog w) A (newFunctionEnv scope env.globals cl [] env.qual none .none (some env)) (fun cenv s₄ =>
      codeAny (model prog w) A (.compStart (.ListComp elt gens scope pos) 0 it acc { cenv with scope := relabel scope env }) (RR acc cenv.locals) s₄) E s₃) E s₂) E s := by
  obtain ⟨kp, keep, n, P, news, J, src, hkp, S, hJ, turn, done⟩ := ob
  refine src A _ _ hh fun o St hof W hst hlive => ?_
  refine wpAny_newObj_type (wpAny_newFunctionEnv hcell (by intro y hy; simp at hy) (fun h₁ hns₁ hsb₁ => ?_) hkind)
  dsimp only at hns₁ hsb₁ ⊢
  have hIL : s.heap.objs.size ≠ L := Nat.ne_of_gt S.fr.ns.lt
  have hI0 : h₀.get? s.heap.objs.size = none := Heap.get?_none_of_le (Nat.le_trans S.fr.above (Nat.le_of_lt S.fr.ns.lt))
  have hIn : ∀ q ∈ keep ++ news, q.1 ≠ s.heap.objs.size := fun q hq => Nat.ne_of_lt (Heap.lt_size (S.nw q hq).1)
  generalize hH1 : s.heap.push o = H1 at hst hns₁ hsb₁ ⊢
  have hD : H1.objs.size = s.heap.objs.size + 1 := by rw [← hH1, Heap.size_push]
  generalize hH2 : H1.push { cls := .type "list", dict := none, data := .seq ([] : List Value).toArray } = H2 at hns₁ hsb₁ ⊢
  have hC : H2.objs.size = s.heap.objs.size + 2 := by rw [← hH2, Heap.size_push, hD]
  have hDC : H1.objs.size ≠ H2.objs.size := by rw [hD, hC]; exact Nat.ne_of_lt (Nat.lt_succ_self _)
  have below1 : ∀ b, b < H1.objs.size → b ≠ H2.objs.size := fun b hb => by rw [hC]; rw [hD] at hb; exact Nat.ne_of_lt (Nat.lt_succ_of_lt hb)
  have old1 : ∀ b o, H1.get? b = some o → h₁.get? b = some o := fun b o e => hsb₁.extBut b o (below1 b (Heap.lt_size e)) (Heap.get?_push_of_some _ (hH2 ▸ Heap.get?_push_of_some _ e))
  have old : ∀ b o, s.heap.get? b = some o → h₁.get? b = some o := fun b o e => old1 b o (hH1 ▸ Heap.get?_push_of_some _ e)
  have hgD : h₁.get? H1.objs.size = some (LCg.lst []) := hsb₁.extBut _ _ hDC (Heap.get?_push_of_some _ (hH2 ▸ Heap.get?_push_size _ rfl))
  have hst₁ : St 0 h₁ := (W A hh).frame _ _ _ hst fun b _ o e => old1 b o e
  have fresh : ∀ a, s.heap.objs.size ≤ a → h₀.get? a = none := fun a ha => Heap.get?_none_of_le (Nat.le_trans S.fr.above (Nat.le_trans (Nat.le_of_lt S.fr.ns.lt) ha))
  have hD0 := fresh H1.objs.size (by rw [hD]; exact Nat.le_succ _)
  have hC0 := fresh H2.objs.size (by rw [hC]; exact Nat.le_add_right _ _)
  have hLlt : L < s.heap.objs.size := S.fr.ns.lt
  have hDL : H1.objs.size ≠ L := by rw [hD]; exact Nat.ne_of_gt (Nat.lt_succ_of_lt hLlt)
  have hCL : H2.objs.size ≠ L := by rw [hC]; exact Nat.ne_of_gt (Nat.lt_succ_of_lt (Nat.lt_succ_of_lt hLlt))
  have hCI : H2.objs.size ≠ s.heap.objs.size := by rw [hC]; exact Nat.ne_of_gt (Nat.lt_succ_of_lt (Nat.lt_succ_self _))
  have hDI : H1.objs.size ≠ s.heap.objs.size := by rw [hD]; exact Nat.ne_of_gt (Nat.lt_succ_self _)
  obtain ⟨oC, hgC, hoC⟩ := LCg.ns_obj hns₁
  have hlt : ∀ q ∈ keep ++ news, q.1 < s.heap.objs.size := fun q hq => Heap.lt_size (S.nw q hq).1
  have led₁ : ∀ q ∈ keep ++ (H2.objs.size, oC) :: (H1.objs.size, LCg.lst []) :: news, q = (H2.objs.size, oC) ∨ q = (H1.objs.size, LCg.lst []) ∨ q ∈ keep ++ news := fun q hq => by
    rcases List.mem_append.mp hq with h | h
    · exact .inr (.inr (List.mem_append_left _ h))
    · rcases List.mem_cons.mp h with rfl | h
      · exact .inl rfl
      · rcases List.mem_cons.mp h with rfl | h
        · exact .inr (.inl rfl)
        · exact .inr (.inr (List.mem_append_right _ h))
  have S₁ : LoopSt h₀ L s.os { s with heap := h₁, toks := s.toks + ([] : List (Str × Value)).length } m (keep ++ (H2.objs.size, oC) :: (H1.objs.size, LCg.lst []) :: news) := by
    refine ⟨S.fr.keeps old, fun q hq => ?_, S.bare, S.os, ?_⟩
    · rcases led₁ q hq with rfl | rfl | h
      · exact ⟨hgC, hCL, hC0⟩
      · exact ⟨hgD, hDL, hD0⟩
      · exact ⟨old _ _ (S.nw q h).1, (S.nw q h).2⟩
    · have d : DN ((H2.objs.size, oC) :: (H1.objs.size, LCg.lst []) :: (keep ++ news)) := DN.cons_of (DN.cons_of S.dn fun q hq => by rw [hD]; exact Nat.lt_succ_of_lt (hlt q hq)) fun q hq => by
        rcases List.mem_cons.mp hq with rfl | hq
        · rw [hC, hD]; exact Nat.lt_succ_self _
        · rw [hC]; exact Nat.lt_succ_of_lt (Nat.lt_succ_of_lt (hlt q hq))
      unfold DN at d ⊢
      have pm : ((H2.objs.size, oC) :: (H1.objs.size, LCg.lst []) :: (keep ++ news)).Perm (keep ++ (H2.objs.size, oC) :: (H1.objs.size, LCg.lst []) :: news) := by simpa using (List.perm_append_comm (l₁ := [(H2.objs.size, oC), (H1.objs.size, LCg.lst [])]) (l₂ := keep)).append_right news
      exact (pm.map (·.1)).nodup_iff.mp d
  have hIn₁ : ∀ q ∈ keep ++ (H2.objs.size, oC) :: (H1.objs.size, LCg.lst []) :: news, q.1 ≠ s.heap.objs.size := fun q hq => by
    rcases led₁ q hq with rfl | rfl | h
    · exact hCI
    · exact hDI
    · exact hIn q h
  obtain ⟨tg, it0, if0, rst, rfl⟩ := hgens
  have loop : ∀ s₂ : Shared, s₂ = { s with heap := h₁, toks := s.toks + ([] : List (Str × Value)).length } →
      codeAny (model prog w) A (.compLoop (.ListComp elt (⟨tg, it0, if0, 0⟩ :: rst) scope pos) 0 (.ref s.heap.objs.size) (.ref H1.objs.size) (compEnvC scope cl H2.objs.size env)) (RR (.ref H1.objs.size) H2.objs.size) s₂ := by
    rintro s₂ rfl
    refine compLoop_obl (fun i led => BlockJ H2.objs.size H1.objs.size (fun _ => True) (J i) led) (hturn _ _ _) (W A hh) hst₁ hlive hkp hIL hI0 hIn₁ S₁ ⟨oC, _, [], news, rfl, hoC, trivial, hJ⟩ ?_ ?_
    · rintro o' i u news' s₂ hP hi ⟨oC', m₃, ys, n', rfl, hC', _, hJ'⟩ S' hpl
      exact turn _ o' _ _ oC' m₃ i u ys n' s₂ hP hi hJ' hC' S' hpl
    · rintro news' s₂ ⟨oC', m₃, ys, n', rfl, hC', _, hJ'⟩ S'
      have hCm := S'.nw (H2.objs.size, oC') (List.mem_append_right _ (.head _))
      have dn' := S'.dn
      have hnC : ∀ q ∈ keep ++ (H1.objs.size, LCg.lst ys) :: n', q.1 ≠ H2.objs.size := fun q hq e => by
        unfold DN at dn'
        rw [List.map_append, List.map_cons, List.nodup_append] at dn'
        rcases List.mem_append.mp hq with h | h
        · exact dn'.2.2 q.1 (List.mem_map.mpr ⟨q, h, rfl⟩) _ (.head _) e
        · exact (List.nodup_cons.mp dn'.2.1).1 (List.mem_map.mpr ⟨q, h, e⟩)
      have S₃ : ∀ s₃, LoopSt h₀ L s.os s₃ m (keep ++ (H2.objs.size, oC') :: (H1.objs.size, LCg.lst ys) :: n') → LoopSt h₀ L s.os s₃ m (keep ++ (H1.objs.size, LCg.lst ys) :: n') := fun s₃ T => ⟨T.fr, fun q hq => T.nw q (by
          rcases List.mem_append.mp hq with h | h
          · exact List.mem_append_left _ h
          · exact List.mem_append_right _ (.tail _ h)), T.bare, T.os, by
          have d := T.dn
          unfold DN at d ⊢
          rw [List.map_append, List.map_cons] at d
          rw [List.map_append]
          exact d.sublist (List.Sublist.append_left (List.sublist_cons_self _ _) _)⟩
      exact hRR _ _ ys _ s₂ _ (done _ ys n' s₂ hJ' (S₃ _ S')) (hC'.ns hCm.1) hCm.2.2 hCm.2.1 hnC (S₃ _ S') fun s'' h'' => done _ ys n' s'' hJ' h''
  exact codeAny_compStart_list (loop _ rfl) ((W A hh).self 0 _ _ _ hst₁ (loop _ rfl))
/-- a block as a value: Q of its list, whatever the heap is that keeps the ledger -/
theorem Comp_obl {elt : Expr} {target iter : Expr} {ifs : List Expr} {rest : List Comprehension} {scope : Scope} {cl : List (Str × Addr)} {pos p : Pos} {env : Env} {body : Env → Value → Sem Unit} {L : Addr} {m : Str → Option Value} {Q : Value → Shared → Prop} (_F : Fr h₀ L s.heap m) (hh : A.handled = none)
    (hclos : closureFor scope env = pure cl)
    (hturn : ∀ I C D, turnIs elt (⟨target, iter, ifs, 0⟩ :: rest) scope pos p 0 (.ref I) (.ref D) (compEnvC scope cl C env) target ifs (body (compEnvC scope cl C env) (.ref D)))
    (h : wpAny (model prog w) A (eval iter env) (fun v s₁ => BlockObl prog w A h₀ L m env scope cl target ifs body (fun os D _ led _ => ∀ s'', LoopSt h₀ L os s'' m led → Q (.ref D) s'') v s₁) E s)
    (hcell : ∀ y ∈ scope.names, y.2 ≠ .cell) (hkind : scope.kind = .function) (hnames : ∀ y ∈ scope.names, y.2 = .local → scope.names.lookup y.1 = some .local)
    (hs : ∀ x, foldedSetIterable iter env x = pure x) :
    wpAny (model prog w) A (eval (.ListComp elt (⟨target, iter, ifs, 0⟩ :: rest) scope pos) env) Q E s := by
  rw [eval_ListComp]
  refine wpAny_comprehension_free (use := none) rfl hs hclos hkind hnames (wpAny_mono h (fun v s₁ ob => ?_) fun _ _ e => e)
  refine block_obl hh ⟨_, _, _, _, rfl⟩ hturn hcell hkind ob fun D C ys led s' m' hf hn hC0 hCL hnC S _ => ?_
  exact ⟨m', hn, fun h' hs' => hf _ ⟨S.fr.change hs' hCL hC0, fun q hq => ⟨hs'.extBut _ _ (hnC q hq) (S.nw q hq).1, (S.nw q hq).2⟩, S.bare, S.os, S.dn⟩⟩
/-- a block that is stored into a name -/
theorem CompAssign_obl {elt : Expr} {target iter : Expr} {ifs : List Expr} {rest : List Comprehension} {scope : Scope} {cl : List (Str × Addr)} {pos p py spos : Pos} {y : Str} {env : Env} {body : Env → Value → Sem Unit} {m : Str → Option Value} {Q : Flow → Shared → Prop} (_F : Fr h₀ env.locals s.heap m) (hh : A.handled = none)
    (hsw : swapsWith (.ListComp elt (⟨target, iter, ifs, 0⟩ :: rest) scope pos) (some (.Name y py)) spos.line env = pure true)
    (hclos : closureFor scope env = pure cl)
    (hturn : ∀ I C D, turnIs elt (⟨target, iter, ifs, 0⟩ :: rest) scope pos p 0 (.ref I) (.ref D) (compEnvC scope cl C env) target ifs (body (compEnvC scope cl C env) (.ref D)))
    (h : wpAny (model prog w) A (eval iter env) (fun v s₁ => BlockObl prog w A h₀ env.locals m env scope cl target ifs body (fun os D _ led _ => ∀ s'', LoopSt h₀ env.locals os s'' (fun z => if z = y then some (.ref D) else m z) led → Q .next s'') v s₁) E s)
    (hy : env.kindOf y = some .local) (hp : (env.scope.kind == .class || (env.scope.kind == .module && env.locals != env.globals)) = false)
    (hcell : ∀ y ∈ scope.names, y.2 ≠ .cell) (hkind : scope.kind = .function) (hnames : ∀ y ∈ scope.names, y.2 = .local → scope.names.lookup y.1 = some .local)
    (hs : ∀ x, foldedSetIterable iter env x = pure x) :
    wpAny (model prog w) A (exec (.Assign [.Name y py] (.ListComp elt (⟨target, iter, ifs, 0⟩ :: rest) scope pos) spos) env) Q E s := by
  rw [exec_Assign_Name_used _ _ _ _ hsw]
  refine wpAny_bind (wpAny_standAt (wpAny_bind ?_))
  show wpAny _ A (do let _ ← comprehension (.ListComp elt (⟨target, iter, ifs, 0⟩ :: rest) scope pos) scope env _ (newList []) false (eval iter env) (some (assign (.Name y py) env))) _ _ s
  refine wpAny_bind (wpAny_mono (wpAny_comprehension_free (use := some (assign (.Name y py) env)) (Q := fun _ s' => Q .next s') rfl hs hclos hkind hnames
    (wpAny_mono h (fun v s₁ ob => ?_) fun _ _ e => e)) (fun _ s' hq => wpAny_pure (wpAny_pure hq)) fun _ _ e => e)
  refine block_obl hh ⟨_, _, _, _, rfl⟩ hturn hcell hkind ob fun D C ys led s' m' hf hn hC0 hCL hnC S _ => ?_
  show wpAny _ A (assign (.Name y py) env (.ref D)) _ _ _
  refine wpAny_assign_Name (wpAny_storeName_local hy S.fr.ns (fun h₂ hn₂ hs₂ => ?_) hp)
  have hL₀ : h₀.get? env.locals = none := Heap.get?_none_of_le S.fr.above
  have F₂ : Fr h₀ env.locals h₂ (fun z => if z = y then some (.ref D) else m z) := ⟨hn₂, fun b o e => hs₂.extBut b o (fun q => by rw [q, hL₀] at e; cases e) (S.fr.keep b o e), S.fr.above⟩
  refine ⟨m', hn.sameBut hs₂ hCL, fun h'' hs'' => hf _ ⟨F₂.change hs'' hCL hC0, fun q hq => ⟨hs''.extBut _ _ (hnC q hq) (hs₂.extBut _ _ (S.nw q hq).2.1 (S.nw q hq).1), (S.nw q hq).2⟩, S.bare, S.os, S.dn⟩⟩
/-- a target that is a name -/
theorem blk_name {x : Str} {px : Pos} {scope : Scope} {cl : List (Str × Addr)} {C I : Addr} {o : Obj} {env : Env} {u it : Value} {L : Addr} {os : OsState} {m m₂ : Str → Option Value} {keep tl : Led} {oC : Obj} {Q' : Unit → Shared → Prop} {E' : Value → Shared → Prop}
    (hx : scope.names.lookup x = some .local) (hk : scope.kind = .function) (hC : LCg.NsObj oC m₂) (S : LoopSt h₀ L os s m ((I, o) :: keep ++ (C, oC) :: tl))
    (h : ∀ oC' s₃, LCg.NsObj oC' (fun y => if y = x then some u else m₂ y) → LoopSt h₀ L os s₃ m ((I, o) :: keep ++ (C, oC') :: tl) → Q' () s₃) :
    wpAny (model prog w) A (letOwnedTupleGo (.Name x px) it u) (fun _ s₂' => wpAny (model prog w) A (assign (.Name x px) (compEnvC scope cl C env) u) Q' (fun _ _ => False) s₂') E' s := by
  refine wpAny_of_eq (show letOwnedTupleGo (.Name x px) it u = pure () from rfl) ?_
  have hCm := S.nw (C, oC) (List.mem_append_right _ (.head _))
  refine wpAny_assign_Name (wpAny_storeName_local (lookup_relabel_local hx) (hC.ns hCm.1) (fun h₃ hn₃ hs₃ => ?_) (by simp [compEnvC, relabel, hk]))
  obtain ⟨oC', hg, hC'⟩ := LCg.ns_obj hn₃
  exact h oC' _ hC' (S.put hs₃ hg _)
/-- a target that is a pair of names -/
theorem blk_pair {x y : Str} {px py pos : Pos} {k : Nat} {scope : Scope} {cl : List (Str × Addr)} {C I T : Addr} {o oT : Obj} {env : Env} {a b : Value} {L : Addr} {os : OsState} {m m₂ : Str → Option Value} {keep tl : Led} {oC : Obj} {Q' : Unit → Shared → Prop} (hh : A.handled = none)
    (hx : scope.names.lookup x = some .local) (hy : scope.names.lookup y = some .local) (hk : scope.kind = .function) (hC : LCg.NsObj oC m₂) (S : LoopSt h₀ L os s m ((I, o) :: keep ++ (C, oC) :: tl)) (hp : PlainIt o)
    (hT : (T, oT) ∈ keep ++ tl) (hc : oT.cls = .type "tuple") (hd : ∃ n, oT.data = .seq #[a, b] n)
    (h : ∀ oC' s₃, LCg.NsObj oC' (fun z => if z = y then some b else if z = x then some a else m₂ z) → LoopSt h₀ L os s₃ m ((I, o) :: keep ++ (C, oC') :: tl) → Q' () s₃) :
    wpAny (model prog w) A (letOwnedTupleGo (.Tuple [.Name x px, .Name y py] k pos) (.ref I) (.ref T)) (fun _ s₂' => wpAny (model prog w) A (assign (.Tuple [.Name x px, .Name y py] k pos) (compEnvC scope cl C env) (.ref T)) Q' (fun _ _ => False) s₂') (fun _ _ => False) s := by
  refine letGo_plain (S.nw _ (.head _)).1 hp ?_
  have hT' : (T, oT) ∈ (I, o) :: keep ++ (C, oC) :: tl := by
    rcases List.mem_append.mp hT with h | h
    · exact List.mem_append_left _ (.tail _ h)
    · exact List.mem_append_right _ (.tail _ h)
  refine wpAny_assign_Tuple hh ⟨oT, (S.nw _ hT').1, hc, hd⟩ rfl rfl fun h' he => ?_
  have S₁ := S.grow he
  have hCm := S₁.nw (C, oC) (List.mem_append_right _ (.head _))
  show wpAny _ A (assignInOrder [assign (.Name x px) (compEnvC scope cl C env), assign (.Name y py) (compEnvC scope cl C env)] [a, b]) Q' _ _
  refine wpAny_assignInOrder_more (wpAny_assign_Name (wpAny_storeName_local (lookup_relabel_local hx) (hC.ns hCm.1) (fun h₃ hn₃ hs₃ => ?_) (by simp [compEnvC, relabel, hk])))
  obtain ⟨oC', hg, hC'⟩ := LCg.ns_obj hn₃
  have S₂ := S₁.put hs₃ hg s.toks
  refine wpAny_assignInOrder_more (wpAny_assign_Name (wpAny_storeName_local (lookup_relabel_local hy) (hC'.ns hg) (fun h₄ hn₄ hs₄ => wpAny_assignInOrder_none ?_) (by simp [compEnvC, relabel, hk])))
  obtain ⟨oC2, hg2, hC2⟩ := LCg.ns_obj hn₄
  exact h oC2 _ hC2 (S₂.put hs₄ hg2 _)
theorem tests_none {env : Env} {Q : Bool → Shared → Prop} {E' : Value → Shared → Prop} (h : Q true s) : wpAny (model prog w) A (compTests [] env) Q E' s := wpAny_pure h
theorem tests_one {c : Expr} {env : Env} {Q : Bool → Shared → Prop} {E' : Value → Shared → Prop} (h : wpAny (model prog w) A (isTrue c env (eval c env)) Q E' s) : wpAny (model prog w) A (compTests [c] env) Q E' s := wpAny_tests_one h
/-- names that a block reads -/
theorem blk_own {x : Str} {pos : Pos} {scope : Scope} {cl : List (Str × Addr)} {C L : Addr} {env : Env} {news : Led} {oC : Obj} {m₂ : Str → Option Value} {v : Value} {Q : Value → Shared → Prop} {E' : Value → Shared → Prop} 
    (hk : (compEnvC scope cl C env).scope.kind = .function) (hl : (compEnvC scope cl C env).kindOf x = some .local) (hd : (x == ("__debug__" : Str)) = false) (N : News h₀ L s.heap news) (hm : (C, oC) ∈ news) (hC : LCg.NsObj oC m₂) (hx : m₂ x = some v) (h : Q v s) :
    wpAny (model prog w) A (eval (.Name x pos) (compEnvC scope cl C env)) Q E' s := ldVarK (hC.ns (N _ hm).1) hx h hk hl hd
end
end Mine
end
section
open PySem PySem.W PySem.Calls PyProof.Rows Builtin Builtin.ObjectAttr
set_option maxRecDepth 100000
set_option maxHeartbeats 8000000
namespace Mine
/-! ## objects of a class under list -/
noncomputable abbrev accO (C dx : Addr) (its : Array Value) (n : Nat) : Obj := { cls := .ref C, dict := some dx, data := .seq its n, slots := #[] }
/-- what a class under list answers -/
structure LCls (K : Frag) (C : Addr) : Prop where
  ga : findIn K (.ref C) "__getattribute__" = some (some (.builtin "list.__getattribute__"))
  hook : findIn K (.ref C) "__getattr__" = some none
  sub : mroIn K C (.type "list") = some true
  dict : hasDictIn K C = true
section
variable {prog : Program} {w : World} {A : Around} {E : Value → Shared → Prop} {s : Shared} {K : Frag} {x C : Addr} {ox : Obj} {od : Option Obj} {name : Str} {h : Heap}
theorem LCls.isList {M : Model} (c : LCls K C) (X : K.In h) (I : InstAt h x ox C od) : Looks M h (isInstance (.ref x) (.type "list")) true := I.type.andThen (looks_mroIn X c.sub)
theorem check_meth {M : Model} {i owner n : String} {self : Value} {rest : List Value} {kw : List (Str × Value)} {Q : Unit → Shared → Prop}
    (hk : builtinKind i = some .method) (hs : splitId i = some (owner, n)) (hi : Looks M s.heap (isInstance self (.type owner)) true) (ha : argsOk i ⟨self :: rest, kw⟩) (q : Q () s) :
    wpAny M A (checkBuiltinCall i ⟨self :: rest, kw⟩) Q E s := by
  simp only [checkBuiltinCall, hk, hs]
  refine wpAny_bind (hi.here ?_)
  simp only [Bool.not_true, Bool.false_eq_true, if_false]
  cases hsig : Manifest.signature? i with
  | none => exact wpAny_pure q
  | some sig =>
    simp only [argsOk, hsig] at ha
    have h2 : Bind.checkArgs i sig ⟨self :: rest, kw⟩ = pure () := ha
    show wpAny M A (Bind.checkArgs i sig ⟨self :: rest, kw⟩) Q E s
    rw [h2]; exact wpAny_pure q
/-- a call of a built-in of list with such an object ahead -/
theorem sub_slot {id n : String} {b : Builtin} {rest : List Value} {Q : Value → Shared → Prop} (c : LCls K C) (X : K.In s.heap) (I : InstAt s.heap x ox C od)
    (kd : builtinKind id = some .slot) (sp : splitId id = some ("list", n)) (hp : plainId id = true) (he : entryFor table id = some b) (ha : argsOk id ⟨.ref x :: rest, []⟩)
    (h : wpAny (model prog w) A.in1 (b ⟨.ref x :: rest, []⟩) (fun fin s' => ∃ v, fin = .done (.ret v) ∧ Q v s') E s) : wpAny (model prog w) A (call (.builtin id) (.ref x :: rest)) Q E s := by
  refine wpAny_call (codeAny_call_builtin hp he (check_slot kd sp (c.isList X I) ha (wpAny_mono h (fun fin s' h' => ?_) fun _ _ h' => h')))
  obtain ⟨v, rfl, hv⟩ := h'; exact hv
theorem sub_meth {id n : String} {b : Builtin} {rest : List Value} {Q : Value → Shared → Prop} (c : LCls K C) (X : K.In s.heap) (I : InstAt s.heap x ox C od)
    (kd : builtinKind id = some .method) (sp : splitId id = some ("list", n)) (hp : plainId id = true) (he : entryFor table id = some b) (ha : argsOk id ⟨.ref x :: rest, []⟩)
    (h : wpAny (model prog w) A.in1 (b ⟨.ref x :: rest, []⟩) (fun fin s' => ∃ v, fin = .done (.ret v) ∧ Q v s') E s) : wpAny (model prog w) A (call (.builtin id) (.ref x :: rest)) Q E s := by
  refine wpAny_call (codeAny_call_builtin hp he (check_meth kd sp (c.isList X I) ha (wpAny_mono h (fun fin s' h' => ?_) fun _ _ h' => h')))
  obtain ⟨v, rfl, hv⟩ := h'; exact hv
/-- x.name, own or of the class, that is bare -/
theorem acc_get {v : Value} {expr : Bool} {Q : Value → Shared → Prop} (c : LCls K C) (X : K.In s.heap) (I : InstAt s.heap x ox C od) (hf : findObj K C od name = some (.value v)) (hh : handedIn v = true)
    (h : Q v { s with toks := s.toks + 1 }) : wpAny (model prog w) A (getAttr (.ref x) name expr) Q E s := by
  obtain ⟨hp, g, d, t, os⟩ := s
  have L0 := I.type (M := model prog w)
  have L1 := looks_findIn (M := model prog w) X c.ga
  have L2 := looks_findIn (M := model prog w) X c.hook
  have L3 := looks_find (M := model prog w) X I hf
  unfold getAttr getAttrBy
  refine wpAny_bind (wpAny_mkText (wpAny_holding (wpAny_bind (L0.at (wpAny_bind (L1.at ?_))))))
  dsimp only
  rw [show (onTheHeap (.ref C) && Value.builtin "list.__getattribute__" == Value.builtin "object.__getattribute__") = false from by rw [show (Value.builtin "list.__getattribute__" == Value.builtin "object.__getattribute__") = false from by decide +kernel, Bool.and_false], if_neg (by decide)]
  unfold getAttrByItsOwn
  refine wpAny_bind (L2.at (wpAny_bind (wpAny_attempt (wpAny_holding ?_))))
  unfold callGetattribute
  rw [show (expr && onTheHeap (Value.builtin "list.__getattribute__")) = false from Bool.and_false _, if_neg (by decide)]
  unfold boundAndCalled
  refine wpAny_bind (wpAny_of_eq (PySem.F.slot_list_getattribute.bind _) ?_)
  refine wpAny_mono (Q := fun u s' => u = v ∧ s' = ⟨hp, g, d, t + 1, os⟩) (E := fun _ _ => False) ?_ (fun u s' hu => ?_) fun _ _ z => z.elim
  · refine sub_slot c X I (by decide +kernel) (n := "__getattribute__") (by decide +kernel) (by decide +kernel) PySem.F.entry_list_ga (PySem.F.args_list_getattribute_2 _ _) ?_
    refine wpAny_bind (wpAny_pure (wpAny_bind (wpAny_pure (wpAny_bind (L0.at (wpAny_bind (L3.at ?_)))))))
    exact wpAny_pure ⟨_, rfl, rfl, rfl⟩
  · obtain ⟨rfl, rfl⟩ := hu
    show wpAny _ _ (handedOut u) _ _ _
    rw [handedOut_of hh]; exact wpAny_pure h
/-- a method of the class, or of list, bound as a pair -/
theorem acc_method {pl : Sem Bool} {f tf : Value} {dx : Addr} {es : List DictEntry} {n : Nat} {Q : Value × List Value → Shared → Prop} (c : LCls K C) (X : K.In s.heap) (I : InstAt s.heap x ox C (some (dictOf es n))) (hd : ox.dict = some dx)
    (hf : findIn K (.ref C) name = some (some f)) (ht : typeIn K f = some tf) (hk : (tf != .type "function" && tf != .type "method_descriptor" && tf != .type "wrapper_descriptor") = false) (hl : getL name es = some none)
    (h : Q (f, [.ref x]) s) : wpAny (model prog w) A (getMethod (.ref x) name pl) Q E s := by
  have hcan := canon_list_getattribute
  unfold getMethod specialOf
  refine wpAny_bind (wpAny_bind (I.type.here ((looks_findIn X c.ga).here ?_)))
  dsimp only
  rw [hcan, if_neg (by decide)]
  refine wpAny_bind (wpAny_bind (I.type.here ((looks_findIn X c.hook).here ?_)))
  refine wpAny_bind (wpAny_bind (I.type.here ((looks_findIn X hf).here (wpAny_bind ((looks_typeIn X ht).here ?_)))))
  rw [if_neg (by rw [hk]; decide)]
  refine wpAny_bind (wpAny_loadPart I.at_ ?_)
  have hd' := I.dict
  rw [hd] at hd' ⊢
  refine wpAny_bind (wpAny_bind (wpAny_loadPart hd' ?_))
  rw [nsLook_of (r := none) (by show lookIn name (dictOf es n) = _; rw [lookIn_dict, hl])]
  exact wpAny_pure (wpAny_bind (wpAny_rule (wpAny_pure h)))
end
section
variable {prog : Program} {w : World} {M : Model} {A : Around} {E : Value → Shared → Prop} {s : Shared} {K : Frag} {h₀ : Heap} {L P C dx : Addr} {m : Str → Option Value} {news news' : Led} {its : List Value} {n n' : Nat} {od : Obj}
theorem acc_upd {f : Array Value → Array Value} {its' : Array Value} {Q : Unit → Shared → Prop} (F : Fr h₀ L s.heap m) (N : News h₀ L s.heap news) (U : Upd P (accO C dx its.toArray n) (accO C dx its' n') news news')
    (e : f its.toArray = its') (en : (if its'.size == its.length then n else n + 1) = n') (hz : its.length ≤ 1000) (hz' : its'.size ≤ 1001)
    (h : ∀ h', Fr h₀ L h' m → News h₀ L h' news' → Q () { s with heap := h' }) : wpAny M A (updateSeq P f) Q E s := by
  obtain ⟨pre, post, rfl, rfl, a, b⟩ := U.split
  have z := N (P, accO C dx its.toArray n) (List.mem_append.mpr (.inr (.head _)))
  subst e
  obtain ⟨F', N'⟩ := news_upd (f := Obj.mapSeq f) (o' := accO C dx (f its.toArray) n') F N a b (by
    show Obj.mk _ _ (Data.seq _ _) _ = _
    rw [← en]; simp) rfl
  refine wpAny_updateSeq z.1 rfl (h _ F' N') (by rw [sizeLine_eq]; simp; ktr_room) (by rw [sizeLine_eq]; ktr_room)
theorem acc_inst (N : News h₀ L s.heap news) (h1 : (P, accO C dx its.toArray n) ∈ news) (h2 : (dx, od) ∈ news) : InstAt s.heap P (accO C dx its.toArray n) C (some od) := ⟨(N _ h1).1, rfl, rfl, (N _ h2).1⟩
theorem acc_append {v : Value} {Q : Value → Shared → Prop} (c : LCls K C) (X₀ : K.In h₀) (F : Fr h₀ L s.heap m) (N : News h₀ L s.heap news) (h2 : (dx, od) ∈ news) (U : Upd P (accO C dx its.toArray n) (accO C dx (its ++ [v]).toArray (n + 1)) news news')
    (hz : its.length ≤ 1000) (h : ∀ h', Fr h₀ L h' m → News h₀ L h' news' → Q .none { s with heap := h' }) : wpAny (model prog w) A (call (.builtin "list.append") [.ref P, v]) Q E s := by
  have hm : (P, accO C dx its.toArray n) ∈ news := by obtain ⟨pre, post, rfl, _⟩ := U.split; simp
  refine sub_meth c (X₀.keeps F.keep) (acc_inst N hm h2) (by decide +kernel) (n := "append") (by decide +kernel) (by decide +kernel) PySem.F.entry_list_append (args_list_append _ _) ?_
  show wpAny _ _ (updateSeq P (·.push v) >>= fun _ => ret .none) _ _ s
  refine wpAny_bind (acc_upd F N U (by simp) (by simp) hz (by simp; ktr_room) fun h' F' N' => wpAny_pure ⟨_, rfl, h h' F' N'⟩)
end
end Mine
end
section
open PySem PySem.W PySem.Calls PyProof.Rows Builtin Builtin.ObjectAttr
set_option maxRecDepth 100000
set_option maxHeartbeats 8000000
namespace Mine
theorem slot_md_get : Slot "method_descriptor" "__get__" "method_descriptor.__get__" := .of (owner := "method_descriptor") (n := "__get__") (by rw [typeLookup_type, builtinLookup_eq_fast]; kernel_rfl) (by decide +kernel) (by decide +kernel) (by decide +kernel)
  (by first | exact .inl (by decide +kernel) | exact .inr (by decide +kernel)) (by rw [isSubtype_type]; kernel_rfl)
theorem entry_md_get : entryFor table "method_descriptor.__get__" = some Builtin.«method_descriptor.__get__» := entryFor_of_tree (by kernel_rfl)
theorem args_md_get (a b c : Value) : argsOk "method_descriptor.__get__" ⟨[a, b, c], []⟩ := by unfold argsOk; kernel_rfl
theorem slot_wd_get : Slot "wrapper_descriptor" "__get__" "wrapper_descriptor.__get__" := .of (owner := "wrapper_descriptor") (n := "__get__") (by rw [typeLookup_type, builtinLookup_eq_fast]; kernel_rfl) (by decide +kernel) (by decide +kernel) (by decide +kernel)
  (by first | exact .inl (by decide +kernel) | exact .inr (by decide +kernel)) (by rw [isSubtype_type]; kernel_rfl)
theorem entry_wd_get : entryFor table "wrapper_descriptor.__get__" = some Builtin.«wrapper_descriptor.__get__» := entryFor_of_tree (by kernel_rfl)
theorem args_wd_get (a b c : Value) : argsOk "wrapper_descriptor.__get__" ⟨[a, b, c], []⟩ := by unfold argsOk; kernel_rfl
theorem type_pop : typeOf (.builtin "list.pop") = pure (.type "method_descriptor") := by show builtinType _ = _; rw [builtinType_eq_fast]; kernel_rfl
theorem type_llen : typeOf (.builtin "list.__len__") = pure (.type "wrapper_descriptor") := by show builtinType _ = _; rw [builtinType_eq_fast]; kernel_rfl
theorem type_linit : typeOf (.builtin "list.__init__") = pure (.type "wrapper_descriptor") := by show builtinType _ = _; rw [builtinType_eq_fast]; kernel_rfl
noncomputable abbrev boundO (T : String) (f x : Value) : Obj := { cls := .type T, data := .fields #[f, x] }
section
variable {prog : Program} {w : World} {A : Around} {E : Value → Shared → Prop} {h : Heap} {g : Array GenState} {d : Drawn} {t : Nat} {os : OsState} {x C : Addr}
theorem run_get_pop {Q : Fin → Shared → Prop} (hT : Looks (model prog w) h (typeOf (.ref x)) (.ref C)) (hS : Looks (model prog w) h (isSubtype (.ref C) (.type "list")) true)
    (hq : Q (.done (.ret (.ref h.objs.size))) ⟨h.push (boundO "builtin_function_or_method" (.builtin "list.pop") (.ref x)), g, d, t, os⟩) :
    wpAny (model prog w) A (Builtin.«method_descriptor.__get__» ⟨[.builtin "list.pop", .ref x, .ref C], []⟩) Q E ⟨h, g, d, t, os⟩ := by
  rw [show "list" = ".".intercalate ("list.pop".cutAt '.').dropLast from by decide +kernel] at hS
  unfold Builtin.«method_descriptor.__get__»
  repeat lk
  exact hq
theorem run_get_len {Q : Fin → Shared → Prop} (hT : Looks (model prog w) h (typeOf (.ref x)) (.ref C)) (hS : Looks (model prog w) h (isSubtype (.ref C) (.type "list")) true)
    (hq : Q (.done (.ret (.ref h.objs.size))) ⟨h.push (boundO "method-wrapper" (.builtin "list.__len__") (.ref x)), g, d, t, os⟩) :
    wpAny (model prog w) A (Builtin.«wrapper_descriptor.__get__» ⟨[.builtin "list.__len__", .ref x, .ref C], []⟩) Q E ⟨h, g, d, t, os⟩ := by
  rw [show "list" = ".".intercalate ("list.__len__".cutAt '.').dropLast from by decide +kernel] at hS
  unfold Builtin.«wrapper_descriptor.__get__»
  repeat lk
  exact hq
theorem run_get_init {Q : Fin → Shared → Prop} (hT : Looks (model prog w) h (typeOf (.ref x)) (.ref C)) (hS : Looks (model prog w) h (isSubtype (.ref C) (.type "list")) true)
    (hq : Q (.done (.ret (.ref h.objs.size))) ⟨h.push (boundO "method-wrapper" (.builtin "list.__init__") (.ref x)), g, d, t, os⟩) :
    wpAny (model prog w) A (Builtin.«wrapper_descriptor.__get__» ⟨[.builtin "list.__init__", .ref x, .ref C], []⟩) Q E ⟨h, g, d, t, os⟩ := by
  rw [show "list" = ".".intercalate ("list.__init__".cutAt '.').dropLast from by decide +kernel] at hS
  unfold Builtin.«wrapper_descriptor.__get__»
  repeat lk
  exact hq
theorem call_get_pop {Q : Value → Shared → Prop} (hT : Looks (model prog w) h (typeOf (.ref x)) (.ref C)) (hS : Looks (model prog w) h (isSubtype (.ref C) (.type "list")) true)
    (hq : Q (.ref h.objs.size) ⟨h.push (boundO "builtin_function_or_method" (.builtin "list.pop") (.ref x)), g, d, t, os⟩) :
    wpAny (model prog w) A (call (.builtin "method_descriptor.__get__") [.builtin "list.pop", .ref x, .ref C]) Q E ⟨h, g, d, t, os⟩ :=
  wpAny_call_entry slot_md_get (by exact type_pop) entry_md_get (run_get_pop hT hS ⟨_, rfl, hq⟩) (args_md_get _ _ _)
theorem call_get_len {Q : Value → Shared → Prop} (hT : Looks (model prog w) h (typeOf (.ref x)) (.ref C)) (hS : Looks (model prog w) h (isSubtype (.ref C) (.type "list")) true)
    (hq : Q (.ref h.objs.size) ⟨h.push (boundO "method-wrapper" (.builtin "list.__len__") (.ref x)), g, d, t, os⟩) :
    wpAny (model prog w) A (call (.builtin "wrapper_descriptor.__get__") [.builtin "list.__len__", .ref x, .ref C]) Q E ⟨h, g, d, t, os⟩ :=
  wpAny_call_entry slot_wd_get (by exact type_llen) entry_wd_get (run_get_len hT hS ⟨_, rfl, hq⟩) (args_wd_get _ _ _)
theorem call_get_init {Q : Value → Shared → Prop} (hT : Looks (model prog w) h (typeOf (.ref x)) (.ref C)) (hS : Looks (model prog w) h (isSubtype (.ref C) (.type "list")) true)
    (hq : Q (.ref h.objs.size) ⟨h.push (boundO "method-wrapper" (.builtin "list.__init__") (.ref x)), g, d, t, os⟩) :
    wpAny (model prog w) A (call (.builtin "wrapper_descriptor.__get__") [.builtin "list.__init__", .ref x, .ref C]) Q E ⟨h, g, d, t, os⟩ :=
  wpAny_call_entry slot_wd_get (by exact type_linit) entry_wd_get (run_get_init hT hS ⟨_, rfl, hq⟩) (args_wd_get _ _ _)
theorem sup_ga {so D : Addr} {l₀ l : List Value} {K : Frag} {name : Str} {tk : Tok} {id gid : String} {T BT : String} {Q : Fin → Shared → Prop}
    (hso : h.get? so = some (ks_superObj D x C)) (hno : Looks (model prog w) h (opaqueClassAbove (.ref C)) none)
    (hC : Looks (model prog w) h (mroOf (.ref C)) l₀) (hl : (l₀.dropWhile (· != .ref D)).drop 1 = l) (X : K.In h)
    (hf : alongIn K name l = some (some (.builtin id))) (hty : typeOf (.builtin id) = pure (.type T)) (hg : typeLookup (.type T) "__get__" = pure (some (.builtin gid))) (hxC : x ≠ C) (hn : (name == ("__class__" : Str)) = false)
    (hcall : ∀ (A' : Around) (Q' E' : Value → Shared → Prop), Q' (.ref h.objs.size) ⟨h.push (boundO BT (.builtin id) (.ref x)), g, d, t, os⟩ → wpAny (model prog w) A' (call (.builtin gid) [.builtin id, .ref x, .ref C]) Q' E' ⟨h, g, d, t, os⟩)
    (hq : Q (.done (.ret (.ref h.objs.size))) ⟨h.push (boundO BT (.builtin id) (.ref x)), g, d, t, os⟩) :
    wpAny (model prog w) A (Builtin.«super.__getattribute__» ⟨[.ref so, .str name tk], []⟩) Q E ⟨h, g, d, t, os⟩ := by
  have hne : (Value.ref x == Value.ref C) = false := by simp [hxC]
  have hdt : (ks_superObj D x C).data = .fields #[.ref D, .ref x, .ref C] := rfl
  have f0 : (#[.ref D, .ref x, .ref C] : Array Value)[0]? = some (.ref D) := rfl
  have f1 : (#[.ref D, .ref x, .ref C] : Array Value)[1]? = some (.ref x) := rfl
  have f2 : (#[.ref D, .ref x, .ref C] : Array Value)[2]? = some (.ref C) := rfl
  unfold Builtin.«super.__getattribute__»
  repeat (first
    | (with_reducible refine wpAny_field hso hdt f0 ?_) | (with_reducible refine wpAny_field hso hdt f1 ?_) | (with_reducible refine wpAny_field hso hdt f2 ?_)
    | (with_reducible refine ks_wpAny_notOpaque hno ?_)
    | (with_reducible refine Looks.at hC ?_; rw [hl])
    | (refine ks_forIn_along X (fun _ _ => rfl) rfl ?_ hf)
    | (with_reducible refine wpAny_of_eq hty ?_)
    | (with_reducible refine wpAny_of_eq hg ?_)
    | (with_reducible refine hcall _ _ _ ?_)
    | (simp only [hn, hne, Bool.or_false, Bool.false_eq_true, if_false])
    | wp_step
    | dsimp only)
  all_goals exact hq
theorem sup_getMethod {so D : Addr} {l₀ l : List Value} {K : Frag} {name : Str} {id gid : String} {T BT : String} {pl : Sem Bool} {Q : Value × List Value → Shared → Prop}
    (hso : h.get? so = some (ks_superObj D x C)) (hno : Looks (model prog w) h (opaqueClassAbove (.ref C)) none)
    (hC : Looks (model prog w) h (mroOf (.ref C)) l₀) (hl : (l₀.dropWhile (· != .ref D)).drop 1 = l) (X : K.In h)
    (hf : alongIn K name l = some (some (.builtin id))) (hty : typeOf (.builtin id) = pure (.type T)) (hg : typeLookup (.type T) "__get__" = pure (some (.builtin gid))) (hxC : x ≠ C) (hn : (name == ("__class__" : Str)) = false)
    (hcall : ∀ (t : Nat) (A' : Around) (Q' E' : Value → Shared → Prop), Q' (.ref h.objs.size) ⟨h.push (boundO BT (.builtin id) (.ref x)), g, d, t, os⟩ → wpAny (model prog w) A' (call (.builtin gid) [.builtin id, .ref x, .ref C]) Q' E' ⟨h, g, d, t, os⟩)
    (hq : Q (.ref h.objs.size, []) ⟨h.push (boundO BT (.builtin id) (.ref x)), g, d, t + 1, os⟩) :
    wpAny (model prog w) A (getMethod (.ref so) name pl) Q E ⟨h, g, d, t, os⟩ := by
  have hlk := PySem.F.ks_slot_super_ga.lookup
  have hcan := PySem.F.ks_canon_super_ga
  have hT : ∀ t', (⟨h, g, d, t', os⟩ : Shared).TypeIs (.ref so) "super" := fun _ => ⟨_, hso, rfl⟩
  unfold getMethod
  refine wpAny_bind (wpAny_specialOf (hT _) hlk ?_)
  show wpAny _ _ (if (Manifest.canonical "super.__getattribute__" != "object.__getattribute__") = true then _ else _) _ _ _
  rw [if_pos hcan]
  unfold getAttr getAttrBy
  refine wpAny_bind (wpAny_bind (wpAny_mkText (wpAny_holding (wpAny_bind (wpAny_typeOf (hT _) (wpAny_bind (wpAny_of_eq hlk ?_)))))))
  show wpAny _ _ (getAttrByItsOwn (.ref so) (.str name t) (.type "super") (.builtin "super.__getattribute__") true false) _ _ _
  unfold getAttrByItsOwn hookBefore callGetattribute boundAndCalled
  refine wpAny_bind (wpAny_of_eq (show (if onTheHeap (.type "super") then typeLookup (.type "super") "__getattr__" else pure none) = pure none from rfl) ?_)
  refine wpAny_bind (wpAny_attempt (wpAny_holding ?_))
  show wpAny _ _ (bindSpecial (.builtin "super.__getattribute__") (.ref so) >>= _) _ _ _
  refine wpAny_bind (wpAny_of_eq (PySem.F.ks_slot_super_ga.bind _) ?_)
  refine wpAny_mono (Q := fun v s' => v = .ref h.objs.size ∧ s' = ⟨h.push (boundO BT (.builtin id) (.ref x)), g, d, t + 1, os⟩) (E := fun _ _ => False)
    (wpAny_call_entry PySem.F.ks_slot_super_ga (hT _) PySem.F.ks_entry_super_ga (sup_ga hso hno hC hl X hf hty hg hxC hn (hcall _) ⟨_, rfl, rfl, rfl⟩) (PySem.F.ks_gaArgs_super _ _)) (fun v s' hv => ?_) fun _ _ z => z.elim
  obtain ⟨rfl, rfl⟩ := hv
  exact wpAny_pure (wpAny_pure hq)
end
end Mine
end
section
open PySem PySem.W PySem.Calls PyProof.Rows Builtin Builtin.ObjectAttr
set_option maxRecDepth 100000
set_option maxHeartbeats 8000000
namespace Mine
section
variable {prog : Program} {w : World} {A : Around} {E : Value → Shared → Prop} {s : Shared} {x C b : Addr}
theorem call_bound {T id : String} {B : Builtin} {rest : List Value} {Q : Value → Shared → Prop} (hT : (Value.type T == .type "method" || Value.type T == .type "builtin_function_or_method" || Value.type T == .type "method-wrapper") = true) (hT' : (Value.type T != .type "method") = true)
    (hb : s.heap.get? b = some (boundO T (.builtin id) (.ref x))) (hp : plainId id = true) (he : entryFor table id = some B)
    (hc : ∀ (A' : Around) (Q' : Unit → Shared → Prop) (E' : Value → Shared → Prop), Q' () s → wpAny (model prog w) A' (checkBoundCall id ⟨.ref x :: rest, []⟩) Q' E' s)
    (h : wpAny (model prog w) A.in1 (B ⟨.ref x :: rest, []⟩) (fun fin s' => ∃ v, fin = .done (.ret v) ∧ Q v s') E s) : wpAny (model prog w) A (call (.ref b) rest) Q E s := by
  refine wpAny_call (codeAny_of_tree ?_)
  show wpAny _ _ (callAny (.ref b) _) _ _ _
  unfold callAny
  refine wpAny_bind (wpAny_load hb ?_)
  dsimp only
  rw [if_pos hT]
  show wpAny _ _ (if (Value.type T != .type "method") = true then _ else _) _ _ _
  rw [if_pos hT']
  refine wpAny_bind (hc _ _ _ (wpAny_pure ⟨plainId_quiet hp _, codeAny_builtin he ?_⟩))
  rw [Around.under_plainId hp _]
  refine wpAny_mono h (fun fin s' h' => ?_) fun _ _ h' => h'
  obtain ⟨v, rfl, hv⟩ := h'; exact hv
theorem keeper_bound {M : Model} {h : Heap} {T : String} {f : Value} (hT : (Value.type T == .type "builtin_function_or_method" || Value.type T == .type "method-wrapper") = true) (hT' : (Value.type T != .type "method") = true) (hb : h.get? b = some (boundO T f (.ref x))) : Looks M h (keeperOf (.ref b)) .machine := by
  refine (Looks.ld (part := none) hb).andThen ?_
  dsimp only
  rw [if_pos hT', if_pos hT]
  exact .now
theorem callWith_bound {T : String} {pos : Pos} {f : Value} {env : Env} {Q : Value → Shared → Prop} (hT : (Value.type T == .type "builtin_function_or_method" || Value.type T == .type "method-wrapper") = true) (hT' : (Value.type T != .type "method") = true)
    (hb : s.heap.get? b = some (boundO T f (.ref x))) (h : wpAny (model prog w) A (call (.ref b) []) Q E s) : wpAny (model prog w) A (callWith pos (.ref b) [] (backTo pos (starEach [] env)) []) Q E s :=
  callWith_of (P := fun h => h.get? b = some (boundO T f (.ref x))) rfl (fun h hp => ⟨.machine, .inr (.inl rfl), keeper_bound hT hT' hp⟩) (PyProof.Rows.evalArgs_none ⟨hb, h⟩)
theorem check_llen (A' : Around) (Q' : Unit → Shared → Prop) (E' : Value → Shared → Prop) (h : Q' () s) : wpAny (model prog w) A' (checkBoundCall "list.__len__" ⟨[.ref x], []⟩) Q' E' s :=
  wpAny_of_eq (show checkBoundCall "list.__len__" ⟨[.ref x], []⟩ = pure () from by kernel_rfl) h
theorem check_linit (A' : Around) (Q' : Unit → Shared → Prop) (E' : Value → Shared → Prop) (h : Q' () s) : wpAny (model prog w) A' (checkBoundCall "list.__init__" ⟨[.ref x], []⟩) Q' E' s :=
  wpAny_of_eq (show checkBoundCall "list.__init__" ⟨[.ref x], []⟩ = pure () from by kernel_rfl) h
theorem pop_args (x : Addr) (sig : Manifest.Signature) (h : Manifest.signature? "list.pop" = some sig) : Bind.checkArgs "list.pop" { sig with full := "_Accumulator" ++ "." ++ Bind.lastOf "list.pop" } ⟨[.ref x], []⟩ = pure () := by
  have k : ((Manifest.signature? "list.pop").map fun sig => Bind.checkArgs "list.pop" { sig with full := "_Accumulator" ++ "." ++ Bind.lastOf "list.pop" } ⟨[.ref x], []⟩) = (Manifest.signature? "list.pop").map fun _ => pure () := by kernel_rfl
  rw [h] at k
  exact Option.some.inj k
theorem check_lpop {K : Frag} {cd : ClassData} {ox : Obj} (X : K.In s.heap) (hx : s.heap.get? x = some ox) (hxc : ox.cls = .ref C) (hno : notCls ox = true) (hc : clsIn K C = some cd) (hm : mroIn K C (.type "module") = some false) (ht : typeIn K (.ref C) = some (.type "type")) (hq : cd.qualname = Str.ofString "_Accumulator")
    (A' : Around) (Q' : Unit → Shared → Prop) (E' : Value → Shared → Prop) (h : Q' () s) : wpAny (model prog w) A' (checkBoundCall "list.pop" ⟨[.ref x], []⟩) Q' E' s := by
  obtain ⟨hp, g, d, t, os⟩ := s
  have L0 : Looks (model prog w) hp (typeOf (.ref x)) (.ref C) := hxc ▸ (Looks.ld (part := some headPart) hx).andThen .now
  have L1 : Looks (model prog w) hp (isInstance (.ref x) (.type "module")) false := L0.andThen (looks_mroIn X hm)
  have L2 := looks_clsIn (M := model prog w) X hc
  have L3 := looks_typeIn (M := model prog w) X ht
  have L4 : Looks (model prog w) hp (isType (.ref x)) false := fun A Q E s k q => by
    obtain ⟨h', g', d', t', os'⟩ := s
    exact ks_wpAny_isType_inst (k _ _ hx) (fun c e => by unfold notCls at hno; rw [e] at hno; cases hno) q
  have S : Manifest.signature? "list.pop" = Manifest.signature? "list.pop" := rfl
  unfold checkBoundCall
  generalize hsig : Manifest.signature? "list.pop" = sig at S ⊢
  cases sig with
  | none => exact wpAny_pure h
  | some sig =>
    have P := pop_args x sig hsig
    have hv : (Manifest.varargsMethods.contains "list.pop") = false := by decide +kernel
    dsimp only
    refine wpAny_bind (L1.at ?_)
    rw [hv, Bool.false_or, if_neg (by decide)]
    refine wpAny_bind (L4.at ?_)
    rw [if_neg (by decide)]
    refine wpAny_bind (L0.at ?_)
    refine wpAny_bind (L2.at (wpAny_bind (L3.at ?_)))
    rw [if_pos (by decide +kernel), hq]
    exact wpAny_of_eq P h
end
end Mine
end
section
open PySem PySem.W PySem.Calls PyProof.Rows Builtin Builtin.ObjectAttr
set_option maxRecDepth 100000
set_option maxHeartbeats 8000000
namespace Mine
theorem refuse_list (self : Value) : refuseLoop self "__setattr__" [.type "list", .type "object"] = pure () := by kernel_rfl
section
variable {prog : Program} {w : World} {A : Around} {E : Value → Shared → Prop} {s : Shared} {K : Frag} {x C : Addr} {ox : Obj} {od : Option Obj} {name : Str}
theorem acc_special {M : Model} {id : String} {args : List Value} {Q : Option Value → Shared → Prop} (X : K.In s.heap) (I : InstAt s.heap x ox C od)
    (hs : findIn K (.ref C) name = some (some (.builtin id))) (hb : bindSpecial (.builtin id) (.ref x) = pure (.builtin id, [.ref x])) (h : wpAny M A (call (.builtin id) (.ref x :: args)) (fun v => Q (some v)) E s) :
    wpAny M A (callSpecial? (.ref x) name args) Q E s :=
  wpAny_bind (wpAny_bind (I.type.here ((looks_findIn X hs).here (wpAny_holding (wpAny_bind (wpAny_of_eq hb (wpAny_bind (wpAny_mono h (fun _ _ z => wpAny_pure z) fun _ _ z => z))))))))
theorem acc_key {M : Model} {k : Value} {Q : Value → Shared → Prop} (X : K.In s.heap) (I : InstAt s.heap x ox C od) (hq : noSeq K C = true) (h : Q k s) : wpAny M A (sequenceKey (.ref x) k name) Q E s := by
  unfold sequenceKey
  refine wpAny_bind (I.type.here ?_)
  refine wpAny_bind ((anyM_none X hq).here ?_)
  rw [if_pos (show (!false) = true from rfl)]
  exact wpAny_pure h
end
section
variable {prog : Program} {w : World} {A : Around} {E : Value → Shared → Prop} {s : Shared} {K : Frag} {h₀ : Heap} {L P C dx : Addr} {m : Str → Option Value} {news news' : Led} {its : List Value} {n n' : Nat} {od : Obj} {es es' : List DictEntry} {name : Str} {v : Value} {cd : ClassData}
theorem acc_osa {R : Result → Shared → Prop} {ox : Obj} {tk : Tok} (F : Fr h₀ L s.heap m) (X : K.In s.heap) (N : News h₀ L s.heap news) (I : InstAt s.heap P ox C (some (dictOf es n))) (hd : ox.dict = some dx)
    (hc : clsIn K C = some cd) (hm : cd.mro = [.ref C, .type "list", .type "object"]) (ht : findIn K (.ref C) name = some none) (hh : cd.hasDict = true) (hl : (getL name es).isSome = true)
    (e : (putL name (PyData.keyHash w.params name) (.str name s.toks) v es, putN name es n) = (es', n')) (U : Upd dx (dictOf es n) (dictOf es' n') news news') (hz : es'.length ≤ 1000)
    (h : ∀ h', Fr h₀ L h' m → News h₀ L h' news' → R (.ok (.ret .none)) { s with heap := h', toks := s.toks + 1 }) :
    codeAny (model prog w) A (.call (.builtin "object.__setattr__") ⟨[.ref P, .str name tk, v], []⟩) R s := by
  have SF := PySem.F.store_object
  obtain ⟨pre, post, rfl, rfl, h1, h2⟩ := U.split
  obtain ⟨e1, e2⟩ := Prod.mk.inj e
  have sub : Looks (model prog w) s.heap (isInstance (.ref P) (.type "object")) true := I.type.andThen (looks_mroIn X (by unfold mroIn; rw [hc, Option.bind_some, hm]; rfl))
  refine codeAny_call_builtin SF.slot.plain SF.entry (@check_slot (model prog w) _ _ s "object.__setattr__" "object" "__setattr__" (.ref P) [.str name tk, v] [] _ SF.kind SF.split sub (SF.args (.ref P) (.str name tk) v) ?_)
  have hmro : Looks (model prog w) s.heap (mroOf (.ref C)) cd.mro := (looks_clsIn X hc).andThen .now
  rw [osa_eq, refuse_eq]
  refine wpAny_bind (wpAny_bind (I.type.here (wpAny_bind (hmro.here ?_))))
  rw [hm, refuseLoop_ref, refuse_list]
  refine wpAny_pure (wpAny_bind (I.type.here (wpAny_bind ((looks_findIn X ht).here (wpAny_bind (wpAny_of_eq (a := none) rfl ?_))))))
  obtain ⟨U1, U2⟩ := news_upd F N h1 h2 (f := Obj.putName name (PyData.keyHash w.params name) (.str name s.toks) v) (o' := dictOf es' n') (by rw [putName_dict, e1, e2]) rfl
  have D := (N (dx, dictOf es n) (by simp)).1
  have D' := (U2 (dx, dictOf es' n') (by simp)).1
  obtain ⟨hx, hcl, hn, -⟩ := I
  obtain ⟨oc, odi, oda, osl⟩ := ox
  dsimp only at hcl hd
  subst hcl hd
  refine wpAny_bind (wpAny_pure (wpAny_bind (wpAny_bind (wpAny_loadPart hx (wpAny_bind ((looks_clsIn X hc).here ?_))))))
  rw [hh]
  refine wpAny_pure (a := some dx) (wpAny_bind (wpAny_pure (wpAny_bind ?_)))
  unfold nsSet
  refine wpAny_bind (wpAny_bind (wpAny_askSetting (wpAny_pure (wpAny_bind (wpAny_mkText (wpAny_bind (wpAny_loadPart D ?_)))))))
  dsimp only
  have c : (!es.toArray.any (·.key.isStr name) && es.toArray.any (·.refKey)) = false := by
    rw [← Array.any_toList, ← Array.any_toList]
    unfold getL at hl
    split at hl
    · rename_i en he
      rw [List.any_eq_true.mpr ⟨en, List.mem_of_find?_eq_some he, List.find?_some he⟩]; rfl
    · split at hl
      · cases hl
      · rename_i z; rw [Bool.not_eq_true] at z; rw [z, Bool.and_false]
  rw [aRefKeyMayBeTheName_at, c]
  refine wpAny_updatePart D ?_
  refine wpAny_bind (wpAny_lookBehind D' (pastItsLine_dict (by rw [List.size_toArray, sizeLine_eq]; ktr_room)) ?_)
  exact wpAny_pure (h _ U1 U2)
/-- self.name = v, the dict being written -/
theorem acc_set {Q : Unit → Shared → Prop} {ox : Obj} (F : Fr h₀ L s.heap m) (X₀ : K.In h₀) (N : News h₀ L s.heap news) (I : InstAt s.heap P ox C (some (dictOf es n))) (hd : ox.dict = some dx)
    (hs : findIn K (.ref C) "__setattr__" = some (some (.builtin "object.__setattr__"))) (hc : clsIn K C = some cd) (hm : cd.mro = [.ref C, .type "list", .type "object"]) (ht : findIn K (.ref C) name = some none) (hh : cd.hasDict = true) (hl : (getL name es).isSome = true)
    (e : (putL name (PyData.keyHash w.params name) (.str name (s.toks + 1)) v es, putN name es n) = (es', n')) (U : Upd dx (dictOf es n) (dictOf es' n') news news') (hz : es'.length ≤ 1000)
    (h : ∀ h', Fr h₀ L h' m → News h₀ L h' news' → Q () { s with heap := h', toks := s.toks + 2 }) :
    wpAny (model prog w) A (setAttr (.ref P) name v) Q E s :=
  set_plain (X₀.keeps F.keep) I hs (acc_osa (s := { s with toks := s.toks + 1 }) F (X₀.keeps F.keep) N I hd hc hm ht hh hl e U hz fun h' F' N' => h h' F' N')
/-- list.__len__(self), by its wrapper -/
theorem acc_len_run {Q : Fin → Shared → Prop} (ho : s.heap.get? P = some (accO C dx its.toArray n)) (h : Q (.done (.ret (.int its.length s.toks))) { s with toks := s.toks + 1 }) :
    wpAny (model prog w) A (Builtin.«list.__len__» ⟨[.ref P], []⟩) Q E s := by
  show wpAny _ _ (do retInt (← seqSize P)) _ _ s
  unfold seqSize
  refine wpAny_bind (wpAny_bind (wpAny_loadPart ho ?_))
  refine wpAny_pure (wpAny_bind (wpAny_mkInt (wpAny_pure ?_)))
  simpa using h
/-- list.pop(self) -/
theorem acc_pop_run {ini : List Value} {Q : Fin → Shared → Prop} (F : Fr h₀ L s.heap m) (N : News h₀ L s.heap news) (U : Upd P (accO C dx (ini ++ [v]).toArray n) (accO C dx ini.toArray (n + 1)) news news') (hz : ini.length ≤ 900)
    (h : ∀ h', Fr h₀ L h' m → News h₀ L h' news' → Q (.done (.ret v)) { s with heap := h' }) : wpAny (model prog w) A (Builtin.«list.pop» ⟨[.ref P], []⟩) Q E s := by
  have hm : (P, accO C dx (ini ++ [v]).toArray n) ∈ news := by obtain ⟨pre, post, rfl, _⟩ := U.split; simp
  have ho := (N _ hm).1
  unfold Builtin.«list.pop»
  refine wpAny_bind (wpAny_pure (wpAny_bind (wpAny_pure ?_)))
  refine wpAny_ite ?_
  rw [if_neg (by decide +kernel)]
  refine wpAny_bind (m := Builtin.List.listItems (.ref P)) ?_
  unfold Builtin.List.listItems
  refine wpAny_bind (wpAny_seqItems ho rfl (wpAny_pure ?_))
  have hne : ¬ ((ini ++ [v]).toArray.isEmpty = true) := by simp
  have hk : seqIndex? (-1) (ini ++ [v]).toArray.size = some ini.length := by rw [PySem.seqIndex_neg (by decide) (by simp; ktr_room)]; simp; ktr_room
  have hg : (ini ++ [v]).toArray[ini.length]? = some v := by simp
  rw [hk]
  dsimp only [Option.bind_some]
  rw [hg]
  dsimp only [Option.map_some]
  rw [if_neg hne]
  refine wpAny_bind (m := updateSeq P _) (acc_upd F N U ?_ ?_ (by simp; ktr_room) (by simp; ktr_room) fun h' F' N' => wpAny_pure (h h' F' N'))
  · apply Array.toList_inj.mp
    simp
    rw [List.eraseIdx_append_of_length_le (Nat.le_refl _)]; simp
  · rw [if_neg (by simp)]
end
end Mine
end
section
open PySem PySem.W PySem.Calls PyProof.Rows Builtin Builtin.ObjectAttr
set_option maxRecDepth 100000
set_option maxHeartbeats 8000000
namespace Mine
/-! ## sum(generator, start) of small numbers -/
theorem args_sum2 (a b : Value) : argsOk "sum" ⟨[a, b], []⟩ := by unfold argsOk; kernel_rfl
noncomputable def fl (i : Int) : Bool := decide (-(2 ^ 63) ≤ i) && decide (i < 2 ^ 63)
theorem fits_small {i : Int} (h0 : 0 ≤ i) (h1 : i < 2 ^ 62) : fl i = true := by
  simp only [fl, Bool.and_eq_true, decide_eq_true_eq]
  ktr_room
section
variable {prog : Program} {w : World} {A : Around} {I : Addr} {fp wr : List Addr} {G : Array GenState → Array GenState → Prop} {n : Nat} {P : Nat → Value → Prop} {St : Nat → Shared → Prop}
theorem sum_turns {R : Result → Shared → Prop} (W : WalksS prog w A.in1 I fp wr G n P St) (tot : Nat → Int) (val : Nat → Int) (hstep : ∀ i, i < n → tot (i + 1) = tot i + val i) (hsmall : ∀ i, i ≤ n → 0 ≤ tot i ∧ tot i < 2 ^ 62) (hv0 : ∀ i, 0 ≤ val i ∧ val i < 2 ^ 62)
    (hval : ∀ i v, P i v → ∃ t, v = .int (val i) t) (S : Addr) (hSf : S ∉ fp) (k : Nat) :
    ∀ (i : Nat) (s : Shared) (tA : Tok) (c : Nat), i + k = n → St i s → s.heap.get? S = some (listOf #[.int (tot i) tA] c) →
    (∀ s' t', Moved (S :: wr) G s s' → R (.ok (.ret (.int (tot n) t'))) s') → codeAny (model prog w) A (.builtin "sum.loop" ⟨[.ref I, .ref S, rawInt 0, rawInt 0], []⟩) R s := by
  have hSw : S ∉ wr := fun h => hSf (W.sub _ h)
  have up : ∀ b ∈ wr, b ∈ S :: wr := fun b hb => .tail _ hb
  induction k with
  | zero =>
    intro i s tA c hi hst hS hR
    obtain rfl : i = n := by ktr_room
    refine codeAny_builtin PySem.F.entry_sum_loop ?_
    rw [Around.under_plainId PySem.F.plain_sum_loop _]
    show wpAny _ A.in1 (seqItems? (.ref S) >>= _) _ _ s
    refine wpAny_bind (wpAny_seqItems hS rfl ?_)
    show wpAny _ A.in1 (tryCatch (pyNext (.ref I)) _ >>= _) _ _ s
    exact wpAny_bind (wpAny_tryCatch (W.done s _ _ hst fun s' hm => wpAny_pure (hR s' tA (hm.mono up))))
  | succ k ih =>
    intro i s tA c hi hst hS hR
    have hlt : i < n := by ktr_room
    refine codeAny_builtin PySem.F.entry_sum_loop ?_
    rw [Around.under_plainId PySem.F.plain_sum_loop _]
    show wpAny _ A.in1 (seqItems? (.ref S) >>= _) _ _ s
    refine wpAny_bind (wpAny_seqItems hS rfl ?_)
    show wpAny _ A.in1 (tryCatch (pyNext (.ref I)) _ >>= _) _ _ s
    refine wpAny_bind (wpAny_tryCatch (W.item i s _ _ hlt hst fun v s' hP hst' hm => ?_))
    obtain ⟨t, rfl⟩ := hval i v hP
    have hS' := hm.heap S _ hSw hS
    have hs := hstep i hlt
    have hb := hsmall (i + 1) hlt
    have hf : (fl (val i) && fl (tot i + val i)) = true := by rw [fits_small (hv0 i).1 (hv0 i).2, fits_small (by ktr_room) (by ktr_room)]; rfl
    show wpAny _ A.in1 (if (fl (val i) && fl (tot i + val i)) = true then (mkInt (tot i + val i) >>= _) else _) _ _ _
    rw [if_pos hf]
    refine wpAny_bind (wpAny_mkInt ?_)
    show wpAny _ A.in1 (updateSeq S (fun _ => #[.int (tot i + val i) s'.toks]) >>= _) _ _ _
    refine wpAny_bind (wpAny_updateSeq hS' rfl (wpAny_pure ⟨plainId_quiet PySem.F.plain_sum_loop _, ih (i + 1) _ s'.toks _ (by ktr_room) (W.frame _ s' _ _ hst' (Nat.le_succ _) fun b hb' o e => ?_) (by rw [hs]; exact Heap.get?_update_self _ hS' rfl) fun s'' t'' hm'' => ?_⟩))
    · exact (Heap.get?_update_other _ _ (fun h : S = b => hSf (by rw [h]; exact hb'))).trans e
    · refine hR s'' t'' (Moved.trans W.gtrans ((hm.mono up).then_heap (Nat.le_succ _) fun b o hb' e => ?_) hm'')
      exact (Heap.get?_update_other _ _ (fun h : S = b => hb' (by rw [h]; exact .head _))).trans e
end
section
variable {prog : Program} {w : World} {A : Around} {E : Value → Shared → Prop} {s : Shared}
theorem call_sum2 {x : Value} {c₀ : Int} {t₀ : Tok} {Q : Value → Shared → Prop} (h0 : 0 ≤ c₀ ∧ c₀ < 2 ^ 62)
    (h : wpAny (model prog w) A.in1 (pyIter x) (fun it s₂ => ∃ I fp wr G n P St, ∃ tot val : Nat → Int, it = .ref I ∧ WalksS prog w A.in1 I fp wr G n P St ∧ St 0 s₂ ∧ (∀ b ∈ fp, b < s₂.heap.objs.size) ∧
      tot 0 = c₀ ∧ (∀ i, i < n → tot (i + 1) = tot i + val i) ∧ (∀ i, i ≤ n → 0 ≤ tot i ∧ tot i < 2 ^ 62) ∧ (∀ i, 0 ≤ val i ∧ val i < 2 ^ 62) ∧
      (∀ i v, P i v → ∃ t, v = .int (val i) t) ∧ ∀ s' t', Moved wr G s₂ s' → Q (.int (tot n) t') s') E s) :
    wpAny (model prog w) A (call (.builtin "sum") [x, .int c₀ t₀]) Q E s := by
  refine call_function_tree PySem.F.kind_sum PySem.F.plain_sum PySem.F.entry_sum (args_sum2 _ _) ?_
  unfold Builtin.«sum»
  simp only [List.length_cons, List.length_nil]
  rw [if_neg (by decide)]
  refine wpAny_bind (wpAny_of_eq (show Builtin.Builtins.bindParams "sum" ["start"] 0 ⟨[.int c₀ t₀], []⟩ = pure [some (.int c₀ t₀)] from rfl) ?_)
  refine wpAny_bind (wpAny_mono h (fun it s₂ h₂ => ?_) fun _ _ e => e)
  obtain ⟨I, fp, wr, G, n, P, St, tot, val, rfl, W, hst, hfp, ht0, hstep, hsmall, hv0, hval, hQ⟩ := h₂
  show wpAny _ _ (if fl c₀ = true then _ else _) _ _ _
  rw [if_pos (fits_small h0.1 h0.2)]
  refine wpAny_bind (wpAny_rule (wpAny_bind (wpAny_mkInt (wpAny_bind (wpAny_pure ?_)))))
  simp only [List.forIn_cons, List.forIn_nil]
  refine wpAny_bind (wpAny_bind (wpAny_bind (wpAny_isInstance (T := "int") (b := false) (typeIs_int _ _ _) PySem.sub_int_str ?_)))
  simp only [Bool.false_eq_true, if_false]
  refine wpAny_pure (wpAny_bind (wpAny_bind (wpAny_isInstance (T := "int") (b := false) (typeIs_int _ _ _) PySem.sub_int_bytes ?_)))
  simp only [Bool.false_eq_true, if_false]
  refine wpAny_pure (wpAny_bind (wpAny_bind (wpAny_isInstance (T := "int") (b := false) (typeIs_int _ _ _) PySem.sub_int_bytearray ?_)))
  simp only [Bool.false_eq_true, if_false]
  refine wpAny_pure (wpAny_pure ?_)
  refine wpAny_bind (wpAny_newObj_type ?_)
  have hSf : s₂.heap.objs.size ∉ fp := fun hm => Nat.lt_irrefl _ (hfp _ hm)
  refine wpAny_pure ⟨plainId_quiet PySem.F.plain_sum_loop _, sum_turns W tot val hstep hsmall hv0 hval s₂.heap.objs.size hSf n 0 _ s₂.toks 0 (by ktr_room)
    (W.frame 0 s₂ _ _ hst (Nat.le_succ _) fun b _ o e => Heap.get?_push_of_some _ e) (by rw [ht0]; exact Heap.get?_push_size _ rfl) fun s' t' hm => ?_⟩
  exact hQ s' t' (hm.drop_new (Nat.le_succ _))
end
/-! ## walking over the pile -/
noncomputable abbrev tupO (a b : Value) : Obj := { cls := .type "tuple", data := .seq #[a, b] }
section
variable {prog : Program} {w : World} {A : Around} {E : Value → Shared → Prop} {s : Shared}
theorem iter_pile {K : Frag} {P C dx : Addr} {its : Array Value} {n : Nat} {od : Option Obj} {Q : Value → Shared → Prop} (c : LCls K C) (X : K.In s.heap) (I : InstAt s.heap P (accO C dx its n) C od)
    (hi : findIn K (.ref C) "__iter__" = some (some (.builtin "list.__iter__")))
    (hQ : Q (.ref s.heap.objs.size) { s with heap := s.heap.push { cls := .type "list_iterator", data := .fields #[.ref P, .int 0 0] } }) : wpAny (model prog w) A (pyIter (.ref P)) Q E s := by
  unfold pyIter
  refine wpAny_bind (wpAny_bind (I.type.here ((looks_findIn X hi).here ?_)))
  show wpAny _ A (callSpecialIfBoundUnlessNone? (.ref P) "__iter__" _ >>= _) Q E s
  simp only [callSpecialIfBoundUnlessNone?, bindSpecialIfBound?]
  refine wpAny_bind (wpAny_holding (wpAny_bind (wpAny_bind (wpAny_bind (I.type.here ((looks_findIn X hi).here ?_))))))
  simp only [slot_list_iter.bind]
  have fin : wpAny (model prog w) A (call (.builtin "list.__iter__") [.ref P]) (fun v s' => ∃ x, v = .ref x ∧ s'.TypeIs (.ref x) "list_iterator" ∧ Q (.ref x) s') E s := by
    refine sub_slot c X I (by decide +kernel) (n := "__iter__") (by decide +kernel) (by decide +kernel) entry_list_iter (args_list_iter _) ?_
    show wpAny _ _ (do ret (← newFields "list_iterator" [.ref P, rawInt 0])) _ _ s
    exact wpAny_bind (wpAny_newObj_type (wpAny_pure ⟨_, rfl, _, rfl, ⟨_, Heap.get?_push_size _ rfl, rfl⟩, hQ⟩))
  refine wpAny_bind (wpAny_askSetting (wpAny_ite ?_))
  split
  · refine wpAny_bind (wpAny_pure (wpAny_pure ?_))
    show wpAny _ _ (if (Value.builtin "list.__iter__" == Value.none) = true then _ else (call _ _ >>= _)) _ _ _
    rw [builtin_beq_none, if_neg Bool.false_ne_true]
    refine wpAny_bind (wpAny_mono fin (fun v s' hv => ?_) fun _ _ e => e)
    obtain ⟨x, rfl, hT, h⟩ := hv
    exact wpAny_pure (wpAny_bind (wpAny_specialOf hT slot_listiter_next.lookup (wpAny_pure h)))
  · refine wpAny_tryCatch (wpAny_bind (wpAny_pure (wpAny_pure ?_)))
    show wpAny _ _ (if (Value.builtin "list.__iter__" == Value.none) = true then _ else (call _ _ >>= _)) _ _ _
    rw [builtin_beq_none, if_neg Bool.false_ne_true]
    refine wpAny_bind (wpAny_mono fin (fun v s' hv => ?_) fun _ _ e => e)
    obtain ⟨x, rfl, hT, h⟩ := hv
    exact wpAny_pure (wpAny_bind (wpAny_specialOf hT slot_listiter_next.lookup (wpAny_pure h)))
/-- an object whose data is a row of values -/
noncomputable def SeqAt (h : Heap) (P : Addr) (its : Array Value) : Prop := ∃ o n, h.get? P = some o ∧ o.data = .seq its n
theorem SeqAt.at {h h' : Heap} {P : Addr} {its : Array Value} (x : SeqAt h P its) (hk : ∀ o, h.get? P = some o → h'.get? P = some o) : SeqAt h' P its := let ⟨o, n, a, b⟩ := x; ⟨o, n, hk _ a, b⟩
theorem next_item {it P : Addr} {i : Nat} {its : Array Value} {x : Value} {Q : Option Value → Shared → Prop} (hit : s.heap.IsListIter it P i) (hs : SeqAt s.heap P its) (hx : its[i]? = some x)
    (hQ : ∀ h', h'.IsListIter it P (i + 1) → Heap.SameBut it s.heap h' → Q (some x) { s with heap := h' }) : wpAny (model prog w) A (pyNext (.ref it)) Q E s := by
  have hit0 := hit
  obtain ⟨o, ho, hc, hd⟩ := hit
  obtain ⟨oP, nP, hP, hdP⟩ := hs
  unfold pyNext
  refine wpAny_bind (wpAny_attempt (wpAny_callSpecial?_slot (name := Str.ofString "__next__") hit0.typeIs slot_listiter_next (wpAny_call_entry slot_listiter_next hit0.typeIs entry_listiter_next ?_ (args_listiter_next _))))
  show wpAny _ _ (field (.ref it) 0 >>= _) _ _ s
  refine wpAny_bind (wpAny_field ho hd (x := .ref P) rfl ?_)
  show wpAny _ _ (field (.ref it) 1 >>= _) _ _ s
  refine wpAny_bind (wpAny_field ho hd (x := .int i 0) rfl ?_)
  show wpAny _ _ (seqItems? (.ref P) >>= _) _ _ s
  refine wpAny_bind (wpAny_seqItems hP hdP ?_)
  simp only [Int.toNat_natCast, hx]
  refine wpAny_bind (wpAny_setField ho hd (by simp) (wpAny_pure ⟨x, rfl, wpAny_pure (hQ _ ⟨_, Heap.get?_update_self _ ho (Obj.isFreed_of_fields (Obj.data_mapFields hd _)), (Obj.cls_mapFields ..).trans hc, ?_⟩ (Heap.SameBut.update ..))⟩))
  rw [Obj.data_mapFields hd]; simp [rawInt]
theorem next_end {it P : Addr} {i : Nat} {its : Array Value} {Q : Option Value → Shared → Prop} (hh : A.handled = none) (hit : s.heap.IsListIter it P i) (hs : SeqAt s.heap P its) (hx : its[i]? = none)
    (hQ : ∀ h', Heap.ExtBut it s.heap h' → Q none { s with heap := h' }) : wpAny (model prog w) A (pyNext (.ref it)) Q E s := by
  have hit0 := hit
  obtain ⟨o, ho, hc, hd⟩ := hit
  obtain ⟨oP, nP, hP, hdP⟩ := hs
  unfold pyNext
  refine wpAny_bind (wpAny_attempt (wpAny_callSpecial?_slot (name := Str.ofString "__next__") hit0.typeIs slot_listiter_next (wpAny_call_entry slot_listiter_next hit0.typeIs entry_listiter_next ?_ (args_listiter_next _))))
  show wpAny _ _ (field (.ref it) 0 >>= _) _ _ s
  refine wpAny_bind (wpAny_field ho hd (x := .ref P) rfl ?_)
  show wpAny _ _ (field (.ref it) 1 >>= _) _ _ s
  refine wpAny_bind (wpAny_field ho hd (x := .int i 0) rfl ?_)
  show wpAny _ _ (seqItems? (.ref P) >>= _) _ _ s
  refine wpAny_bind (wpAny_seqItems hP hdP ?_)
  simp only [Int.toNat_natCast, hx]
  refine wpAny_bind (wpAny_rule (wpAny_bind (wpAny_setField ho hd (by simp) ?_)))
  show wpAny _ _ (newExc (.type "StopIteration") [] >>= _) _ _ _
  refine wpAny_bind ?_
  simp only [newExc, newTuple]
  refine wpAny_bind (wpAny_newObj_type ?_ (by size_fits))
  refine wpAny_bind (m := firstArgMember _ _) (wpAny_of_eq (a := Value.none) (by first | rfl | (simp only [firstArgMember]; rfl)) ?_)
  refine wpAny_newObj_type ?_ (by size_fits)
  simp only [raiseNew]
  refine wpAny_bind (wpAny_handled ?_)
  rw [show A.in1.handled = none from hh]
  refine wpAny_bind (wpAny_pure (wpAny_throw ?_))
  refine wpAny_bind (wpAny_isInstance (T := "StopIteration") (b := true) ⟨_, Heap.get?_push_size _ rfl, rfl⟩ isSubtype_stop ?_)
  refine wpAny_pure ?_
  exact hQ _ (((Heap.SameBut.update ..).extBut.push _).push _)
/-- the turns over a row of tuples -/
theorem walk_rows (hh : A.handled = none) (I P : Addr) (hne : P ≠ I) (its : Array Value) (Ts : Nat → Addr) (vals : Nat → Array Value) (hit : ∀ j, j < its.size → its[j]? = some (.ref (Ts j))) (hTI : ∀ j, j < its.size → Ts j ≠ I) :
    WalksU prog w A I (I :: P :: (List.range its.size).map Ts) [I] its.size (fun j v => j < its.size ∧ v = vals j)
      (fun j h => h.IsListIter I P j ∧ SeqAt h P its ∧ ∀ k, k < its.size → h.IsTuple (Ts k) (vals k))
      (fun j T h => (j < its.size ∧ T = Ts j) ∧ h.IsListIter I P (j + 1) ∧ SeqAt h P its ∧ ∀ k, k < its.size → h.IsTuple (Ts k) (vals k)) where
  sub := fun b hb => by simp at hb; simp [hb]
  frame := fun _ _ _ st hk => ⟨st.1.at fun o e => hk I (by simp) o e, st.2.1.at fun o e => hk P (by simp) o e, fun k hk' => (st.2.2 k hk').at fun o e => hk (Ts k) (.tail _ (.tail _ (List.mem_map.mpr ⟨k, List.mem_range.mpr hk', rfl⟩))) o e⟩
  item := fun i s Q E hi st hQ => by
    refine next_item st.1 st.2.1 (x := .ref (Ts i)) (hit i hi) fun h' hit' hs' => ?_
    have tup : ∀ k, k < its.size → h'.IsTuple (Ts k) (vals k) := fun k hk' => (st.2.2 k hk').extBut hs'.extBut (hTI k hk')
    exact hQ (Ts i) (vals i) h' s.toks ⟨hi, rfl⟩ (tup i hi) ⟨⟨hi, rfl⟩, hit', st.2.1.at fun o e => hs'.extBut _ o hne e, tup⟩ fun b o hb e => hs'.extBut b o (fun h => hb (by simp [h])) e
  go := fun _ _ _ _ _ s Q _ hm hQ => wpAny_letOwnedTupleGo_listiter hm.2.1 (hQ s.heap hm.2 fun _ _ _ e => e)
  apart := fun j T _ hm hmem => by
    rcases List.mem_cons.mp hmem with e | e
    · exact hTI j hm.1.1 (hm.1.2 ▸ e)
    · cases e
  done := fun s Q E st hQ => next_end hh st.1 st.2.1 (by simp) fun h' he' => hQ h' s.toks fun b o hb e => he' b o (fun h => hb (by simp [h])) e
  self := fun _ _ _ _ st hQ => wpAny_pyIter_listiter st.1 hQ
end
end Mine
end
section
open PySem PySem.W PySem.Calls PyProof.Rows Builtin Builtin.ObjectAttr
set_option maxRecDepth 100000
set_option maxHeartbeats 8000000
namespace Mine
/-! ## a generator over the pile; its code is noted in the table of the code around, an object of the ledger -/
noncomputable abbrev tabO (ps : Array Value) : Obj := { cls := .none, data := .fields ps }
/-- c is a code object of K with its table at T -/
structure CodeK (K : Frag) (c T : Addr) : Prop where
  at_ : ∃ o vs file tf flags tg inF text tt, K.lookup c = some o ∧ o.cls = .type "code" ∧ o.data = .fields vs ∧ vs[11]? = some (.ref T) ∧ vs.getD 18 .none = .str file tf ∧ vs.getD 7 .none = .int flags tg ∧ vs.getD 9 .none = .bool inF ∧ vs.getD 10 .none = .int text tt
  ne : c ≠ T
theorem CodeK.code {K : Frag} {c T : Addr} {h : Heap} {ps : Array Value} (x : CodeK K c T) (X : K.In h) (ht : h.get? T = some (tabO ps)) (hr : TriplesOk ps.toList) : h.IsCode c T ps ∧ h.TableAt c T ps := by
  obtain ⟨⟨o, vs, file, tf, flags, tg, inF, text, tt, h1, h2, h3, h4, h5, h6, h7, h8⟩, hne⟩ := x
  refine ⟨⟨o, vs, file, tf, flags, tg, inF, text, tt, _, X _ _ h1, h3, ?_, h5, h6, h7, h8, ht, rfl, hr, hne⟩, ⟨o, vs, X _ _ h1, h2, h3, h4⟩, ht⟩
  rw [← Array.getElem?_toList] at h4
  simp [Array.getD_eq_getD_getElem?, ← Array.getElem?_toList, h4]
theorem passing_all (n : Nat) : passing (fun _ => true) n 0 = List.range n := by unfold passing; simp
section
variable {prog : Program} {w : World} {A : Around} {E : Value → Shared → Prop} {s : Shared} {K : Frag} {h₀ : Heap} {L P C dx c T : Addr} {m mg mb : Str → Option Value} {p : Program} {loose : List Str} {mean : ExcName → Option Value} {rest : Led} {its : Array Value} {n : Nat} {od : Obj} {ps : Array Value}
theorem gen_led {env : Env} {elt iter : Expr} {xa xb : Str} {pa pb pt : Pos} {kt : Nat} {scope : Scope} {pos : Pos} {Q : Value → Shared → Prop} {Ts : Nat → Addr} {va vb : Nat → Value} {F' : Nat → Value → Prop}
    (hh : A.handled = none) (hroom : A.depth < recursionLimit)
    (F : Fr h₀ L s.heap m) (X₀ : K.In h₀) (N : News h₀ L s.heap ((T, tabO ps) :: rest)) (To : Top p loose mean mg mb h₀) (G : AllBare s.gens)
    (hcK : CodeK K c T) (htr : TriplesOk ps.toList) (hrest : ∀ q ∈ rest, q.1 ≠ T) (hglob : env.globals = mainGlobals) (hcode : env.code = .ref c)
    (hco : scope.isCoroutine = false) (hclos : closureFor scope env = pure []) (hcell : ∀ y ∈ scope.names, y.2 ≠ .cell) (h0 : scope.names.lookup (".0" : Str) = some NameKind.local)
    (hxa : scope.names.lookup xa = some .local) (hxb : scope.names.lookup xb = some .local) (hab : xa ≠ xb) (hkind : scope.kind = .function)
    (hev : ∀ (Q' E' : Value → Shared → Prop), Q' (.ref P) s → wpAny (model prog w) A (eval iter env) Q' E' s)
    (c0 : LCls K C) (hi : findIn K (.ref C) "__iter__" = some (some (.builtin "list.__iter__"))) (hP : (P, accO C dx its n) ∈ rest) (hd : (dx, od) ∈ rest)
    (hts : ∀ j, j < its.size → its[j]? = some (.ref (Ts j)) ∧ (Ts j, tupO (va j) (vb j)) ∈ rest)
    (helt : ∀ (C' : Addr) (cv : Value) (A' : Around) (E' : Value → Shared → Prop) (i : Nat) (t : Shared) (m₂ : Str → Option Value), A'.handled = none → A'.depth ≤ A.depth + 1 → A'.units ≤ A.units + 8 → i < its.size → Fr h₀ C' t.heap m₂ → m₂ xa = some (va i) → m₂ xb = some (vb i) →
      wpAny (model prog w) A' (eval elt (genEnv scope [] C' cv builtinsNs env)) (fun y s₃ => F' i y ∧ Keeps t s₃) E' t)
    (hQ : ∀ ps' a Kb s₅, TriplesOk ps'.toList → Fr h₀ L s₅.heap m → News h₀ L s₅.heap ((T, tabO ps') :: rest) → AllBare s₅.gens → s₅.os = s.os → L ≤ Kb → (∀ q ∈ (T, tabO ps') :: rest, q.1 ≤ Kb) → Gen prog w A Kb a its.size F' s₅ → Q (.ref a) s₅)
    (hs : ∀ x, genFold iter env x = pure x) :
    wpAny (model prog w) A (eval (.GeneratorExp elt [⟨.Tuple [.Name xa pa, .Name xb pb] kt pt, iter, [], 0⟩] scope pos) env) Q E s := by
  have X := X₀.keeps F.keep
  have I : InstAt s.heap P (accO C dx its n) C (some od) := ⟨(N _ (.tail _ hP)).1, rfl, rfl, (N _ (.tail _ hd)).1⟩
  have hPlt : P < s.heap.objs.size := Heap.lt_size (N _ (.tail _ hP)).1
  have hTlt : T < s.heap.objs.size := Heap.lt_size (N _ (.head _)).1
  have hTs : ∀ j, j < its.size → Ts j < s.heap.objs.size := fun j hj => Heap.lt_size (N _ (.tail _ (hts j hj).2)).1
  have hLlt := F.ns.lt
  obtain ⟨bm, ob, M⟩ := bmod_of_top To
  refine wpAny_GeneratorExp_walksQTD hh hco hclos hcell h0 hxa hxb hab hkind hroom (hev _ _ ?_) hs
  refine iter_pile c0 X I hi ?_
  have up1 : ∀ b o, s.heap.get? b = some o → (s.heap.push { cls := .type "list_iterator", data := .fields #[.ref P, .int 0 0] }).get? b = some o := fun b o e => Heap.get?_push_of_some _ e
  refine ⟨(To.nolimit.keeps F.keep).push _, ?_⟩
  -- whatever the table says, a code comes back and nothing else is written
  have cont : ∀ (ps' : Array Value) (code : Value) (h₃ : Heap) (tk : Nat), TriplesOk ps'.toList → h₃.get? T = some (tabO ps') → (∀ b o, b ≠ T → (s.heap.push { cls := .type "list_iterator", data := .fields #[.ref P, .int 0 0] }).get? b = some o → h₃.get? b = some o) → s.heap.objs.size + 1 ≤ h₃.objs.size →
      wpAny (model prog w) A (builtinsFor env.globals env.builtins) (fun bi s₄ =>
        ∃ I fp wr n₀ Pt St₀ Mid pz F, (Value.ref s.heap.objs.size) = .ref I ∧ (∀ A' : Around, A'.handled = none → WalksU prog w A' I fp wr n₀ Pt St₀ Mid) ∧ (∀ i vals, Pt i vals → ∃ va vb, vals = #[va, vb]) ∧ St₀ 0 s₄.heap ∧ (∀ b ∈ fp, b < s₄.heap.objs.size) ∧ s₄.heap.NoLimit ∧ cStatics ∉ wr ∧
          (∀ href : Heap, (∀ b o, s₄.heap.get? b = some o → href.get? b = some o) →
            QuietGenTD prog w (genEnv scope [] s₄.heap.objs.size code bi env) xa xb [] elt (List.range s₄.heap.objs.size) wr Pt pz F href (A.depth + 1) (A.units + 8)) ∧
          (∀ a h₅ tk gs, gs.bare = true → s₄.heap.objs.size < a → h₅.objs.size = a + 1 → (∀ b o, s₄.heap.get? b = some o → h₅.get? b = some o) →
            WalksS prog w A.in4 a (a :: s₄.heap.objs.size :: List.range s₄.heap.objs.size) (s₄.heap.objs.size :: wr) (GenOnlyQ s₄.gens.size) (passing pz n₀ 0).length
              (fun j y => ∃ i, (passing pz n₀ 0)[j]? = some i ∧ F i y) (GenAt prog w A.in4 a s₄.gens.size s₄.heap.objs.size (List.range s₄.heap.objs.size) wr pz n₀ F) →
            GenAt prog w A.in4 a s₄.gens.size s₄.heap.objs.size (List.range s₄.heap.objs.size) wr pz n₀ F 0 { s₄ with gens := s₄.gens.push gs, toks := tk, heap := h₅ } →
            Q (.ref a) { s₄ with gens := s₄.gens.push gs, toks := tk, heap := h₅ })) E { s with heap := h₃, toks := tk } := by
    intro ps' code h₃ tk htr' hT' hk₃ hsz₃
    have hlt₃ : s.heap.objs.size < h₃.objs.size := Nat.lt_of_succ_le hsz₃
    have kk : ∀ b o, b ≠ T → s.heap.get? b = some o → h₃.get? b = some o := fun b o hb e => hk₃ b o hb (up1 b o e)
    have hT0 : h₀.get? T = none := (N _ (.head _)).2.2
    have k₀ : ∀ b o, h₀.get? b = some o → h₃.get? b = some o := fun b o e => kk b o (fun q => by rw [q, hT0] at e; cases e) (F.keep b o e)
    have F₃ : Fr h₀ L h₃ m := ⟨F.ns.at' fun o e => kk _ o (Ne.symm (N _ (.head _)).2.1) e, k₀, F.above⟩
    have N₃ : News h₀ L h₃ ((T, tabO ps') :: rest) := fun q hq => by
      rcases List.mem_cons.mp hq with rfl | hq
      · exact ⟨hT', (N _ (.head _)).2⟩
      · exact ⟨kk _ _ (hrest q hq) (N _ (.tail _ hq)).1, (N _ (.tail _ hq)).2⟩
    have M₃ : BMod h₃ mainGlobals mg bm ob := M.keeps k₀
    have hl₃ : h₃.NoLimit := To.nolimit.keeps k₀
    rw [hglob]
    refine wpAny_builtinsFor M₃.ns M₃.name M₃.ne M₃.obj M₃.cls M₃.dict M₃.data ?_
    have W : ∀ A' : Around, A'.handled = none → WalksU prog w A' s.heap.objs.size (s.heap.objs.size :: P :: (List.range its.size).map Ts) [s.heap.objs.size] its.size _ _ _ := fun A' hA =>
      walk_rows hA s.heap.objs.size P (Nat.ne_of_lt hPlt) its Ts (fun j => #[va j, vb j]) (fun j hj => (hts j hj).1) fun j hj => Nat.ne_of_lt (hTs j hj)
    have hclt : cStatics < s.heap.objs.size := let ⟨_, hn, _⟩ := (To.nolimit.keeps F.keep); hn.lt
    refine ⟨s.heap.objs.size, _, [s.heap.objs.size], its.size, _, _, _, fun _ => true, F', rfl, W, fun i vals hv => ⟨_, _, hv.2⟩, ?_, ?_, hl₃, ?_, ?_, ?_⟩
    · refine ⟨⟨_, hk₃ _ _ (Nat.ne_of_gt hTlt) (Heap.get?_push_size _ rfl), rfl, rfl⟩, ⟨_, _, (N₃ _ (.tail _ hP)).1, rfl⟩, fun k hk => ⟨_, (N₃ _ (.tail _ (hts k hk).2)).1, rfl, 0, rfl⟩⟩
    · intro b hb
      show b < h₃.objs.size
      rcases List.mem_cons.mp hb with rfl | hb
      · exact hlt₃
      · rcases List.mem_cons.mp hb with rfl | hb
        · exact Nat.lt_trans hPlt hlt₃
        · obtain ⟨k, hk, rfl⟩ := List.mem_map.mp hb
          exact Nat.lt_trans (hTs k (List.mem_range.mp hk)) hlt₃
    · intro hb
      rcases List.mem_cons.mp hb with e | hb
      · exact Nat.ne_of_lt hclt e
      · cases hb
    · intro href hhref
      have inB : ∀ (t : Shared) m₂, t.heap.Ns h₃.objs.size m₂ → (∀ b ∈ List.range h₃.objs.size, b ∉ [s.heap.objs.size] → ∀ o, href.get? b = some o → t.heap.get? b = some o) → Fr h₀ h₃.objs.size t.heap m₂ := fun t m₂ hn hkp =>
        ⟨hn, fun b o e => hkp b (List.mem_range.mpr (Heap.lt_size (k₀ b o e))) (fun hm => by
            have h1 : b = s.heap.objs.size := by simpa using hm
            exact Nat.ne_of_lt (Heap.lt_size (F.keep b o e)) h1) o (hhref b o (k₀ b o e)), Nat.le_trans F.above (Nat.le_of_lt (Nat.lt_trans hLlt hlt₃))⟩
      refine ⟨fun A' E' i va' vb' t m₂ hA hD hU hPt hn hma hmb hkp => ?_, fun A' E' i va' vb' t m₂ hA hD hU hPt _ hn hma hmb hkp => ?_⟩
      · simp only [List.forIn_nil]
        exact wpAny_pure ⟨rfl, _, _, rfl, fun _ _ e => e⟩
      · obtain ⟨hlt, hv⟩ := hPt
        have e1 : va' = va i ∧ vb' = vb i := by simpa using hv
        exact helt _ code A' E' i t m₂ hA hD hU hlt (inB t m₂ hn hkp) (by rw [hma, e1.1]) (by rw [hmb, e1.2])
    · intro a h₅ tk₅ gs hgb hag hsz₅ hk₅ WS hat
      rw [passing_all, List.length_range] at WS
      have conv : ∀ i v, i < its.size → (∃ j, (List.range its.size)[i]? = some j ∧ F' j v) → F' i v := fun i v hi' hP' => by
        obtain ⟨j, hj, hF⟩ := hP'
        rw [List.getElem?_range hi'] at hj
        cases hj; exact hF
      have WS' : WalksS prog w A.in4 a (a :: h₃.objs.size :: List.range h₃.objs.size) (h₃.objs.size :: [s.heap.objs.size]) (GenOnlyQ s.gens.size) its.size F' _ :=
        { WS with item := fun i s' Q' E' hi' st hQ' => WS.item i s' Q' E' hi' st fun v s'' hP' st' hm => hQ' v s'' (conv i v hi' hP') st' hm }
      refine hQ ps' a (s.heap.objs.size - 1) _ htr' (F₃.keeps hk₅) (fun q hq => ⟨hk₅ _ _ (N₃ q hq).1, (N₃ q hq).2⟩) (G.push hgb) rfl (Nat.le_sub_one_of_lt hLlt) (fun q hq => ?_) ⟨_, _, _, _, WS', hat, (fun i s' st => st.1.typeIs), List.mem_cons_self, ?_, ?_⟩
      · have : q.1 < s.heap.objs.size := by
          rcases List.mem_cons.mp hq with rfl | hq
          · exact hTlt
          · exact Heap.lt_size (N _ (.tail _ hq)).1
        exact Nat.le_sub_one_of_lt this
      · intro b hb
        show b < h₅.objs.size
        rw [hsz₅]
        rcases List.mem_cons.mp hb with rfl | hb
        · exact Nat.lt_succ_self _
        · rcases List.mem_cons.mp hb with rfl | hb
          · exact Nat.lt_succ_of_lt hag
          · exact Nat.lt_succ_of_lt (Nat.lt_trans (List.mem_range.mp hb) hag)
      · intro b hb
        rcases List.mem_cons.mp hb with rfl | hb
        · show s.heap.objs.size - 1 < h₃.objs.size
          exact Nat.lt_of_le_of_lt (Nat.sub_le _ _) hlt₃
        · have : b = s.heap.objs.size := by simpa using hb
          rw [this]
          exact Nat.sub_lt (Nat.lt_of_le_of_lt (Nat.zero_le _) hLlt) Nat.one_pos
  obtain ⟨hIC, hTA⟩ := hcK.code (X.keeps up1) (up1 _ _ (N _ (.head _)).1) htr
  cases hf : codeAmong pos ps.toList with
  | some c' => exact wpAny_genexprCode_hit hcode hIC hf (cont ps c' _ _ htr (up1 _ _ (N _ (.head _)).1) (fun _ _ _ e => e) (by rw [Heap.size_push]; exact Nat.le_refl _))
  | none =>
    refine wpAny_genexprCodeX hcode hIC hTA hf fun c' h₃ tk₃ hx₃ hge hlt hcode₃ _ htab₃ _ => ?_
    have hge' : s.heap.objs.size + 1 ≤ c' := by have := hge; rwa [Heap.size_push] at this
    refine cont _ _ h₃ tk₃ ?_ htab₃.2 (fun b o hb e => hx₃ b o hb e) (Nat.le_of_lt (Nat.lt_of_le_of_lt hge' hlt))
    rw [Array.toList_append]
    exact TriplesOk_snoc _ _ _ _ htr
end
end Mine
end
section
open PySem PySem.W PySem.Calls PyProof.Rows Builtin Builtin.ObjectAttr
set_option maxRecDepth 100000
set_option maxHeartbeats 8000000
namespace Mine
/-! ## the pile in the ledger -/
structure Pc where
  T : Addr
  f : Str
  tf : Tok
  g : Str
  tg : Tok
noncomputable def Pc.ent (p : Pc) : Addr × Obj := (p.T, tupO (.str p.f p.tf) (.str p.g p.tg))
noncomputable def refs (ts : List Pc) : List Value := ts.map fun p => .ref p.T
noncomputable abbrev sizeD (w : World) (sz : Int) (tk tz : Tok) : Obj := dictOf [⟨PyData.keyHash w.params "_initial_size", .str "_initial_size" tk, .int sz tz⟩] 1
/-- where the pile lies -/
structure At where
  P : Addr
  dx : Addr
  sz : Int
  tk : Tok
  tz : Tok
noncomputable def pile (w : World) (C : Addr) (a : At) (ts : List Pc) (n : Nat) : Led := (a.P, accO C a.dx (refs ts).toArray n) :: (a.dx, sizeD w a.sz a.tk a.tz) :: ts.map Pc.ent
theorem refs_app (ts us : List Pc) : refs (ts ++ us) = refs ts ++ refs us := by simp [refs]
theorem refs_len (ts : List Pc) : (refs ts).length = ts.length := by simp [refs]
theorem DN.perm {l l' : Led} (D : DN l) (h : l.Perm l') : DN l' := (List.Perm.map Prod.fst h).nodup_iff.mp D
theorem News.perm {h₀ h : Heap} {L : Addr} {l l' : Led} (N : News h₀ L h l) (p : l.Perm l') : News h₀ L h l' := fun q hq => N q (p.mem_iff.mpr hq)
theorem pile_push {w : World} {C : Addr} {a : At} {ts : List Pc} {n : Nat} {p : Pc} :
    (p.ent :: (a.P, accO C a.dx (refs ts ++ [Value.ref p.T]).toArray n) :: (a.dx, sizeD w a.sz a.tk a.tz) :: ts.map Pc.ent).Perm (pile w C a (ts ++ [p]) n) := by
  unfold pile
  rw [refs_app, List.map_append]
  show (p.ent :: ((a.P, accO C a.dx (refs ts ++ [Value.ref p.T]).toArray n) :: (a.dx, sizeD w a.sz a.tk a.tz) :: ts.map Pc.ent)).Perm ((a.P, accO C a.dx (refs ts ++ [Value.ref p.T]).toArray n) :: (a.dx, sizeD w a.sz a.tk a.tz) :: (ts.map Pc.ent ++ [p.ent]))
  exact (List.perm_append_singleton p.ent ((a.P, accO C a.dx (refs ts ++ [Value.ref p.T]).toArray n) :: (a.dx, sizeD w a.sz a.tk a.tz) :: ts.map Pc.ent)).symm
theorem pile_pop {w : World} {C : Addr} {a : At} {ini : List Pc} {n : Nat} {p : Pc} : ((a.P, accO C a.dx (refs ini).toArray n) :: (a.dx, sizeD w a.sz a.tk a.tz) :: (ini ++ [p]).map Pc.ent).Perm (p.ent :: pile w C a ini n) := by
  unfold pile
  rw [List.map_append]
  exact List.perm_append_singleton p.ent ((a.P, accO C a.dx (refs ini).toArray n) :: (a.dx, sizeD w a.sz a.tk a.tz) :: ini.map Pc.ent)
section
variable {prog : Program} {w : World} {K : Frag} {p : Program} {f cc cda : Addr} {d u : Nat} {vs : List Value} {news : Led} {post : Value → Led → Prop}
  {name qual : Str} {params : Arguments} {body : List Stmt} {scope : Scope} {dV kV doc pm ct oc : Value} {an od : Option Addr} {osl : Array (Option Value)} {binds : List (Str × Value)}
/-- a def that closes over __class__ -/
theorem does_ofS (ho : K.lookup f = some ⟨oc, od, .func (ksFn name qual params body scope dV kV doc pm an (.ref cda) ct cc), osl⟩) (hcd : codeIn K (.ref cda) qual = true)
    (hbind : ∀ (s : Shared), K.In s.heap → BindsTo s (ksFn name qual params body scope dV kV doc pm an (.ref cda) ct cc) ⟨vs, []⟩ binds) (hloc : ∀ y ∈ binds, scope.names.lookup y.1 = some .local)
    (hd : 1 ≤ d) (_hu : 3 ≤ u)
    (h : ∀ (loose : List Str) (mean : ExcName → Option Value) (mg mb : Str → Option Value) (dp un : Nat) (gd : Option (List Code)) (outer : List Env) (A₀ : Around) (base g : Heap) (L' : Addr) (s₁ : Shared) (rest : Led),
      Below A₀ base outer g → Fr g L' s₁.heap (fun y => binds.reverse.lookup y) → K.In g → News g L' s₁.heap (news ++ rest) → Top p loose mean mg mb g → AllBare s₁.gens → DN (news ++ rest) → AllLt L' (news ++ rest) →
      dp + d < recursionLimit + 1 → un + u < cLine + 3 →
      PySem.wpAt (model prog w) (ktrTop dp un gd qual scope L' f (.ref cda) [("__class__", cc)] outer) (.func body (ksEnv qual scope L' f (.ref cda) cc)) (execs body (ksEnv qual scope L' f (.ref cda) cc)) (BodyPost g L' s₁.os rest post) (fun _ _ => False) s₁)
    (hcell : ∀ x ∈ scope.names, x.2 ≠ .cell) (hco : scope.isCoroutine = false) (hgen : scope.isGenerator = false) (hk : scope.kind = .function) : Does prog w K p (.ref f) d u vs news post := by
  intro loose mean mg mb dp un gd cn cs a ccd cl outer A₀ base h₀ L m s rest Q E B F X N T hkc G D hdp hun hret
  refine wpAny_call ?_
  refine ks_code_super B F X N T rfl rfl hkc ho hcd (show dp < _ by ktr_room) (hbind s (X.keeps F.keep)) hloc (fun g L' h₁ FG F' N' B' X' T' l => ?_) hcell hco hgen hk
  refine ks_wpAt_mono (h loose mean mg mb (dp + 1) (un + 3) gd _ _ base g L' _ rest B' F' X' N' T' G D (allLt_of l) (by ktr_room) (by ktr_room)) (fun fl s' hb => ?_) (fun _ _ e => e.elim)
  obtain ⟨m', news', F2, N2, G2, ho2, D2, hp⟩ := hb
  exact leaveK_ F2 N2 fun F3 N3 => hret _ s' news' F3 N3 G2 ho2 D2 hp
end
end Mine
end
section
open PySem PySem.W PySem.Calls PyProof.Rows
namespace Mine
/-! ## rearranged ledgers -/
open Classical in
noncomputable def one (q p : Addr × Obj) : Nat := if p = q then 1 else 0
noncomputable def cnt (q : Addr × Obj) : Led → Nat
  | [] => 0
  | p :: l => one q p + cnt q l
theorem cnt_nil (q : Addr × Obj) : cnt q [] = 0 := rfl
theorem cnt_cons (q p : Addr × Obj) (l : Led) : cnt q (p :: l) = one q p + cnt q l := rfl
theorem cnt_app (q : Addr × Obj) : ∀ (l l' : Led), cnt q (l ++ l') = cnt q l + cnt q l'
  | [], l' => by simp [cnt]
  | p :: l, l' => by simp only [List.cons_append, cnt, cnt_app q l l']; ktr_room
theorem cnt_pos {q : Addr × Obj} : ∀ {l : Led}, 0 < cnt q l → ∃ a b, l = a ++ q :: b
  | [], h => by simp [cnt] at h
  | p :: l, h => by
    by_cases e : p = q
    · subst e; exact ⟨[], l, rfl⟩
    · have : 0 < cnt q l := by simp only [cnt, one, if_neg e] at h; ktr_room
      obtain ⟨a, b, rfl⟩ := cnt_pos this
      exact ⟨p :: a, b, rfl⟩
theorem perm_of_cnt : ∀ {l l' : Led}, (∀ q, cnt q l = cnt q l') → l.Perm l'
  | [], l', h => by
    cases l' with
    | nil => exact .nil
    | cons p r => have := h p; simp [cnt, one] at this; ktr_room
  | p :: l, l', h => by
    have hp : 0 < cnt p l' := by rw [← h p]; simp [cnt, one]; ktr_room
    obtain ⟨a, b, rfl⟩ := cnt_pos hp
    refine ((perm_of_cnt (l := l) (l' := a ++ b) fun q => ?_).cons p).trans List.perm_middle.symm
    have := h q
    simp only [cnt_cons, cnt_app] at this ⊢
    ktr_room
theorem LoopSt.perm {h₀ : Heap} {L : Addr} {os : OsState} {s : Shared} {m : Str → Option Value} {l l' : Led} (S : LoopSt h₀ L os s m l) (h : l.Perm l') : LoopSt h₀ L os s m l' := ⟨S.fr, Mine.News.perm S.nw h, S.bare, S.os, S.dn.perm h⟩
theorem DN.more {T : Addr} {o : Obj} {l : Led} (D : DN l) (h : AllLt T l) : DN ((T, o) :: l) := dn_cons (AllLt.ne h (Nat.le_refl _)) D
/-- the entries that a turn lays down are kept behind the others -/
theorem sub_dn {l l' : Led} (D : DN l) (h : ∃ r, l.Perm (r ++ l')) : DN l' := by
  obtain ⟨r, h⟩ := h
  have := D.perm h
  unfold DN at this ⊢
  rw [List.map_append, List.nodup_append] at this
  exact this.2.1
theorem sub_nw {h₀ h : Heap} {L : Addr} {l l' : Led} (N : News h₀ L h l) (hr : ∃ r, l.Perm (r ++ l')) : News h₀ L h l' := by
  obtain ⟨r, hr⟩ := hr
  exact fun q hq => N q (hr.mem_iff.mpr (List.mem_append_right _ hq))
theorem tup_pair {prog : Program} {w : World} {A : Around} {E : Value → Shared → Prop} {s : Shared} {h₀ : Heap} {env : Env} {x y : Str} {px py pos : Pos} {k : Nat} {m : Str → Option Value} {led : Led} {T : Addr} {oT : Obj} {a b : Value} {Q : Unit → Shared → Prop} (hh : A.handled = none) (hx : env.kindOf x = some .local) (hy : env.kindOf y = some .local) (hk : env.scope.kind = .function)
    (F : Fr h₀ env.locals s.heap m) (N : News h₀ env.locals s.heap led) (hT : (T, oT) ∈ led) (hc : oT.cls = .type "tuple") (hd : ∃ n, oT.data = .seq #[a, b] n)
    (h : ∀ h' tk, Fr h₀ env.locals h' (fun z => if z = y then some b else if z = x then some a else m z) → News h₀ env.locals h' led → Q () { s with heap := h', toks := tk }) :
    wpAny (model prog w) A (assign (.Tuple [.Name x px, .Name y py] k pos) env (.ref T)) Q E s := by
  refine wpAny_assign_Tuple hh ⟨oT, (N _ hT).1, hc, hd⟩ rfl rfl fun h' he => ?_
  have up : ∀ b o, s.heap.get? b = some o → h'.get? b = some o := fun b o e => he b o (Nat.ne_of_lt (Heap.lt_size e)) e
  have F₁ := F.keeps up
  have N₁ := N.grown up
  show wpAny _ A (assignInOrder [assign (.Name x px) env, assign (.Name y py) env] [a, b]) Q _ _
  refine wpAny_assignInOrder_more (wpAny_assign_Name (wpAny_storeName_local hx F₁.ns (fun h₂ hn hs => ?_) (by rw [hk]; rfl)))
  refine wpAny_assignInOrder_more (wpAny_assign_Name (wpAny_storeName_local hy hn (fun h₃ hn' hs' => wpAny_assignInOrder_none ?_) (by rw [hk]; rfl)))
  exact h _ _ ((F₁.set hn hs).set hn' hs') ((N₁.set hs).set hs')
theorem st_cell {M : Model} {A : Around} {E : Value → Shared → Prop} {s : Shared} {h₀ : Heap} {L a c : Addr} {m : Str → Option Value} {name : Str} {scope : Scope} {cd v : Value} {v₀ : Option Value} {x : Str} {Q : Unit → Shared → Prop} {pre post : Led} {o : Obj} {os : OsState} (S : LoopSt h₀ L os s m (pre ++ (c, o) :: post)) (hx : (envOfC name scope L a cd).kindOf x = some .cell) (hc : (cellsFrom (L + 1) scope.names []).lookup x = some c) (hd : o.data = .cell v₀) (hk : scope.kind = .function)
    (h : ∀ h' o', o'.data = .cell (some v) → LoopSt h₀ L os { s with heap := h' } m (pre ++ (c, o') :: post) → Q () { s with heap := h' }) : wpAny M A (storeName (envOfC name scope L a cd) x v) Q E s := by
  have hmem := S.nw (c, o) (List.mem_append_right _ (.head _))
  refine wpAny_storeName_cell hk hx hc ⟨o, hmem.1, hd⟩ fun h' hv hs => ?_
  obtain ⟨o', ho', hd'⟩ := hv
  exact h h' o' hd' (S.put hs ho' s.toks)
theorem nm_cell {M : Model} {A : Around} {E : Value → Shared → Prop} {s : Shared} {h₀ : Heap} {L a c : Addr} {name : Str} {scope : Scope} {cd v : Value} {x : Str} {pos : Pos} {Q : Value → Shared → Prop} {news : Led} {o : Obj} (hx : (envOfC name scope L a cd).kindOf x = some .cell) (hc : (cellsFrom (L + 1) scope.names []).lookup x = some c) (hk : scope.kind = .function) (hb : (x == ("__debug__" : Str)) = false) (N : News h₀ L s.heap news) (hm : (c, o) ∈ news) (hd : o.data = .cell (some v)) (h : Q v s) : wpAny M A (eval (.Name x pos) (envOfC name scope L a cd)) Q E s :=
  nameX_C (cn := name) (cs := scope) (L := L) (a := a) (ccd := cd) N hc hm hd h hk hx hb
theorem nm_C {M : Model} {A : Around} {E : Value → Shared → Prop} {s : Shared} {h₀ : Heap} {L a : Addr} {m : Str → Option Value} {name : Str} {scope : Scope} {cd v : Value} {x : Str} {pos : Pos} {Q : Value → Shared → Prop} (hk : scope.kind = .function) (hx : (envOfC name scope L a cd).kindOf x = some .local) (hd : (x == ("__debug__" : Str)) = false) (F : Fr h₀ L s.heap m) (hv : m x = some v) (h : Q v s) : wpAny M A (eval (.Name x pos) (envOfC name scope L a cd)) Q E s :=
  wpAny_Name (wpAny_loadName_local hk hx F.ns hv h) hd
/-! ## contracts of what reads old objects -/
noncomputable def DoesO (prog : Program) (w : World) (K : Frag) (p : Program) (f : Value) (d u : Nat) (vs : List Value) (old news : Led) (post : Value → Led → Prop) : Prop :=
  ∀ (loose : List Str) (mean : ExcName → Option Value) (mg mb : Str → Option Value) (dp un : Nat) (gd : Option (List Code)) (cn : Str) (cs : Scope) (a : Addr) (ccd : Value) (cl : List (Str × Addr)) (outer : List Env) (A₀ : Around) (base h₀ : Heap) (L : Addr) (m : Str → Option Value) (s : Shared) (rest : Led) (Q E : Value → Shared → Prop),
    Below A₀ base outer h₀ → Fr h₀ L s.heap m → K.In h₀ → (∀ q ∈ old, h₀.get? q.1 = some q.2) → News h₀ L s.heap (news ++ rest) → Top p loose mean mg mb h₀ → cs.kind = .function → AllBare s.gens → DN (news ++ rest) →
      dp + d < recursionLimit → un + u < cLine → (∀ v (s' : Shared) (news' : Led), Fr h₀ L s'.heap m → News h₀ L s'.heap (news' ++ rest) → AllBare s'.gens → s'.os = s.os → DN (news' ++ rest) → post v news' → Q v s') →
      wpAny (model prog w) (ktrTop dp un gd cn cs L a ccd cl outer) (call f vs) Q E s
theorem does_ofO {prog : Program} {w : World} {K : Frag} {p : Program} {f : Addr} {d u : Nat} {vs : List Value} {old news : Led} {post : Value → Led → Prop}
    {name qual : Str} {params : Arguments} {body : List Stmt} {scope : Scope} {dV kV doc pm cdv ct oc : Value} {an od : Option Addr} {osl : Array (Option Value)} {binds : List (Str × Value)}
    (ho : K.lookup f = some ⟨oc, od, .func (fnOf name qual params body scope dV kV doc pm an cdv ct), osl⟩) (hcd : codeIn K cdv qual = true)
    (hbind : ∀ (s : Shared), K.In s.heap → BindsTo s (fnOf name qual params body scope dV kV doc pm an cdv ct) ⟨vs, []⟩ binds) (hloc : ∀ y ∈ binds, scope.names.lookup y.1 = some .local)
    (hd : 1 ≤ d) (_hu : 3 ≤ u)
    (h : ∀ (loose : List Str) (mean : ExcName → Option Value) (mg mb : Str → Option Value) (dp un : Nat) (gd : Option (List Code)) (outer : List Env) (A₀ : Around) (base g : Heap) (L' : Addr) (s₁ : Shared) (rest : Led),
      Below A₀ base outer g → Fr g L' s₁.heap (fun y => binds.reverse.lookup y) → K.In g → (∀ q ∈ old, g.get? q.1 = some q.2) → News g L' s₁.heap (news ++ rest) → Top p loose mean mg mb g → AllBare s₁.gens → DN (news ++ rest) → AllLt L' (news ++ rest) →
      dp + d < recursionLimit + 1 → un + u < cLine + 3 →
      wpAny (model prog w) (ktrTop dp un gd qual scope L' f cdv [] outer) (execs body (envX qual scope L' f cdv [])) (BodyPost g L' s₁.os rest post) (fun _ _ => False) s₁)
    (hcell : ∀ x ∈ scope.names, x.2 ≠ .cell) (hco : scope.isCoroutine = false) (hgen : scope.isGenerator = false) (hk : scope.kind = .function) : DoesO prog w K p (.ref f) d u vs old news post := by
  intro loose mean mg mb dp un gd cn cs a ccd cl outer A₀ base h₀ L m s rest Q E B F X O N T hkc G D hdp hun hret
  refine wpAny_call ?_
  refine callX_plain (cl := []) B F N T.nolimit rfl rfl hkc ((X.keeps F.keep) _ _ ho) rfl (codeRec_of (X.keeps F.keep) hcd) (show dp < _ by ktr_room) (hbind s (X.keeps F.keep)) hloc (fun g L' h₁ FG F' N' B' st l => ?_) hcell hco hgen hk
  refine wpAny_mono (h loose mean mg mb (dp + 1) (un + 3) gd _ _ base g L' _ rest B' F' (X.keeps st) (fun q hq => st _ _ (O q hq)) N' (T.keeps st) G D (allLt_of l) (by ktr_room) (by ktr_room)) (fun fl s' hb => ?_) (fun _ _ e => e.elim)
  obtain ⟨m', news', F2, N2, G2, ho2, D2, hp⟩ := hb
  exact leaveK_ F2 N2 fun F3 N3 => hret _ s' news' F3 N3 G2 ho2 D2 hp
end Mine
end
section
open PySem PySem.W PySem.Calls PyProof.Rows Builtin Builtin.ObjectAttr
set_option maxRecDepth 100000
set_option maxHeartbeats 8000000
namespace Mine
theorem get_md : typeLookup (.type "method_descriptor") "__get__" = pure (some (.builtin "method_descriptor.__get__")) := slot_md_get.lookup
theorem get_wd : typeLookup (.type "wrapper_descriptor") "__get__" = pure (some (.builtin "wrapper_descriptor.__get__")) := slot_wd_get.lookup
section
variable {prog : Program} {w : World} {A : Around} {E : Value → Shared → Prop} {s : Shared} {h₀ : Heap} {L : Addr} {m : Str → Option Value} {news news' : Led} {K : Frag} {x C D so q dx : Addr} {ox : Obj} {odx : Option Obj} {name : Str} {pl : Sem Bool} {Q : Value × List Value → Shared → Prop}
theorem sup_led {id gid T BT : String} (F : Fr h₀ L s.heap m) (X₀ : K.In h₀) (N : News h₀ L s.heap news) (hso : (so, ks_superObj D x C) ∈ news) (I : InstAt s.heap x ox C odx) (c : LCls K C) (ho : nsIn K cStatics "thirdparty.any" = some none)
    (hm : ks_superIn K C D name = some (some (.builtin id))) (hn : (name == ("__class__" : Str)) = false) (hty : typeOf (.builtin id) = pure (.type T)) (hg : typeLookup (.type T) "__get__" = pure (some (.builtin gid)))
    (hcall : ∀ (h : Heap) (g : Array GenState) (d : Drawn) (os : OsState) (t : Nat) (A' : Around) (Q' E' : Value → Shared → Prop), Looks (model prog w) h (typeOf (.ref x)) (.ref C) → Looks (model prog w) h (isSubtype (.ref C) (.type "list")) true →
      Q' (.ref h.objs.size) ⟨h.push (boundO BT (.builtin id) (.ref x)), g, d, t, os⟩ → wpAny (model prog w) A' (call (.builtin gid) [.builtin id, .ref x, .ref C]) Q' E' ⟨h, g, d, t, os⟩)
    (h : ∀ q h', Fr h₀ L h' m → News h₀ L h' ((q, boundO BT (.builtin id) (.ref x)) :: news) → AllLt q news → Q (.ref q, []) { s with heap := h', toks := s.toks + 1 }) : wpAny (model prog w) A (getMethod (.ref so) name pl) Q E s := by
  have X : K.In s.heap := X₀.keeps F.keep
  obtain ⟨hh, g, d, t, os⟩ := s
  cases hc : clsIn K C with
  | none => unfold ks_superIn at hm; rw [hc] at hm; cases hm
  | some cd =>
    unfold ks_superIn at hm
    rw [hc] at hm
    refine sup_getMethod (N _ hso).1 (looks_opaque X ho) (l₀ := cd.mro) (fun A Q E s k q => wpAny_bind ((looks_clsIn X hc) A _ E s k (wpAny_pure q))) rfl X hm hty hg (ks_ne X I hc) hn (fun t' A' Q' E' hq => hcall hh g d os t' A' Q' E' I.type (looks_mroIn X c.sub) hq) ?_
    obtain ⟨F', N', l'⟩ := ks_newsPush (s := ⟨hh, g, d, t, os⟩) (o := boundO BT (.builtin id) (.ref x)) F N rfl (Heap.get?_push_at rfl rfl) (fun b o e => Heap.get?_push_of_some _ e)
    exact h _ _ F' N' (allLt_of l')
theorem sup_len (F : Fr h₀ L s.heap m) (X₀ : K.In h₀) (N : News h₀ L s.heap news) (hso : (so, ks_superObj D x C) ∈ news) (I : InstAt s.heap x ox C odx) (c : LCls K C) (ho : nsIn K cStatics "thirdparty.any" = some none)
    (hm : ks_superIn K C D "__len__" = some (some (.builtin "list.__len__")))
    (h : ∀ q h', Fr h₀ L h' m → News h₀ L h' ((q, boundO "method-wrapper" (.builtin "list.__len__") (.ref x)) :: news) → AllLt q news → Q (.ref q, []) { s with heap := h', toks := s.toks + 1 }) : wpAny (model prog w) A (getMethod (.ref so) "__len__" pl) Q E s :=
  sup_led F X₀ N hso I c ho hm (by decide) type_llen get_wd (fun _ _ _ _ _ _ _ _ a b e => call_get_len a b e) h
theorem sup_init (F : Fr h₀ L s.heap m) (X₀ : K.In h₀) (N : News h₀ L s.heap news) (hso : (so, ks_superObj D x C) ∈ news) (I : InstAt s.heap x ox C odx) (c : LCls K C) (ho : nsIn K cStatics "thirdparty.any" = some none)
    (hm : ks_superIn K C D "__init__" = some (some (.builtin "list.__init__")))
    (h : ∀ q h', Fr h₀ L h' m → News h₀ L h' ((q, boundO "method-wrapper" (.builtin "list.__init__") (.ref x)) :: news) → AllLt q news → Q (.ref q, []) { s with heap := h', toks := s.toks + 1 }) : wpAny (model prog w) A (getMethod (.ref so) "__init__" pl) Q E s :=
  sup_led F X₀ N hso I c ho hm (by decide) type_linit get_wd (fun _ _ _ _ _ _ _ _ a b e => call_get_init a b e) h
theorem sup_pop (F : Fr h₀ L s.heap m) (X₀ : K.In h₀) (N : News h₀ L s.heap news) (hso : (so, ks_superObj D x C) ∈ news) (I : InstAt s.heap x ox C odx) (c : LCls K C) (ho : nsIn K cStatics "thirdparty.any" = some none)
    (hm : ks_superIn K C D "pop" = some (some (.builtin "list.pop")))
    (h : ∀ q h', Fr h₀ L h' m → News h₀ L h' ((q, boundO "builtin_function_or_method" (.builtin "list.pop") (.ref x)) :: news) → AllLt q news → Q (.ref q, []) { s with heap := h', toks := s.toks + 1 }) : wpAny (model prog w) A (getMethod (.ref so) "pop" pl) Q E s :=
  sup_led F X₀ N hso I c ho hm (by decide) type_pop get_md (fun _ _ _ _ _ _ _ _ a b e => call_get_pop a b e) h
end
section
variable {prog : Program} {w : World} {A : Around} {E : Value → Shared → Prop} {s : Shared} {h₀ : Heap} {L : Addr} {m : Str → Option Value} {news news' : Led} {K : Frag} {P C q dx : Addr} {n : Nat} {its : List Value} {env : Env} {pos : Pos} {Q : Value → Shared → Prop} {od : Obj} {cd : ClassData}
theorem cw_wrap {f : Value} {b : Addr} (N : News h₀ L s.heap news) (hb : (b, boundO "method-wrapper" f (.ref P)) ∈ news) (h : wpAny (model prog w) A (call (.ref b) []) Q E s) : wpAny (model prog w) A (callWith pos (.ref b) [] (backTo pos (starEach [] env)) []) Q E s :=
  callWith_bound (by decide) (by decide) (N _ hb).1 h
theorem cw_func {f : Value} {b : Addr} (N : News h₀ L s.heap news) (hb : (b, boundO "builtin_function_or_method" f (.ref P)) ∈ news) (h : wpAny (model prog w) A (call (.ref b) []) Q E s) : wpAny (model prog w) A (callWith pos (.ref b) [] (backTo pos (starEach [] env)) []) Q E s :=
  callWith_bound (by decide) (by decide) (N _ hb).1 h
theorem bound_len (N : News h₀ L s.heap news) (hb : (q, boundO "method-wrapper" (.builtin "list.__len__") (.ref P)) ∈ news) (hP : (P, accO C dx its.toArray n) ∈ news)
    (h : Q (.int its.length s.toks) { s with toks := s.toks + 1 }) : wpAny (model prog w) A (call (.ref q) []) Q E s :=
  call_bound (by decide) (by decide) (N _ hb).1 (by decide +kernel) entry_list_len check_llen (acc_len_run (N _ hP).1 ⟨_, rfl, h⟩)
theorem bound_init (F : Fr h₀ L s.heap m) (N : News h₀ L s.heap news) (hb : (q, boundO "method-wrapper" (.builtin "list.__init__") (.ref P)) ∈ news) (U : Upd P (accO C dx #[] n) (accO C dx #[] n) news news)
    (h : ∀ h', Fr h₀ L h' m → News h₀ L h' news → Q .none { s with heap := h' }) : wpAny (model prog w) A (call (.ref q) []) Q E s := by
  have ho : s.heap.get? P = some (accO C dx #[] n) := by obtain ⟨pre, post, e, _⟩ := U.split; exact (N (P, accO C dx #[] n) (by rw [e]; simp)).1
  refine call_bound (by decide) (by decide) (N _ hb).1 (by decide +kernel) PySem.F.entry_list_init check_linit ?_
  show wpAny _ _ (Builtin.List.listItems (.ref P) >>= _) _ _ _
  refine wpAny_bind (m := Builtin.List.listItems (.ref P)) ?_
  unfold Builtin.List.listItems
  refine wpAny_bind (wpAny_seqItems ho rfl (wpAny_pure ?_))
  refine wpAny_bind (m := updateSeq P _) (acc_upd (its := []) F N U rfl rfl (by simp) (by simp) fun h' F' N' => ?_)
  exact wpAny_bind (wpAny_letGo (wpAny_pure ⟨_, rfl, h h' F' N'⟩))
theorem bound_pop {ini : List Value} {v : Value} (F : Fr h₀ L s.heap m) (X₀ : K.In h₀) (N : News h₀ L s.heap news) (hb : (q, boundO "builtin_function_or_method" (.builtin "list.pop") (.ref P)) ∈ news) (U : Upd P (accO C dx (ini ++ [v]).toArray n) (accO C dx ini.toArray (n + 1)) news news')
    (hc : clsIn K C = some cd) (hm : mroIn K C (.type "module") = some false) (ht : typeIn K (.ref C) = some (.type "type")) (hq : cd.qualname = Str.ofString "_Accumulator") (hz : ini.length ≤ 900)
    (h : ∀ h', Fr h₀ L h' m → News h₀ L h' news' → Q v { s with heap := h' }) : wpAny (model prog w) A (call (.ref q) []) Q E s := by
  have ho : s.heap.get? P = some (accO C dx (ini ++ [v]).toArray n) := by obtain ⟨pre, post, e, _⟩ := U.split; exact (N (P, accO C dx (ini ++ [v]).toArray n) (by rw [e]; simp)).1
  exact call_bound (by decide) (by decide) (N _ hb).1 (by decide +kernel) PySem.F.entry_list_pop (check_lpop (X₀.keeps F.keep) ho rfl rfl hc hm ht hq) (acc_pop_run F N U hz fun h' F' N' => ⟨_, rfl, h h' F' N'⟩)
end
/-! ## slices of the pile -/
section
variable {prog : Program} {w : World} {A : Around} {E : Value → Shared → Prop} {s : Shared} {h₀ : Heap} {L : Addr} {m : Str → Option Value} {news news' : Led} {K : Frag} {P C dx : Addr} {n : Nat} {its : List Value} {od : Option Obj}
theorem acc_getslice {sl : Addr} {vl vu : Value} {lo hi : Option Int} {Q : Value → Shared → Prop} (c : LCls K C) (X : K.In s.heap) (I : InstAt s.heap P (accO C dx its.toArray n) C od) (hq : noSeq K C = true) (hg : findIn K (.ref C) "__getitem__" = some (some (.builtin "list.__getitem__")))
    (hs : s.heap.IsSliceOf sl vl vu .none) (pl : IsPart vl lo) (pu : IsPart vu hi) (hsz : its.length ≤ 1000)
    (h : Q (.ref s.heap.objs.size) { s with heap := s.heap.push (listOf (slicePick its.toArray lo hi none) 0) }) : wpAny (model prog w) A (getItem (.ref P) (.ref sl)) Q E s := by
  obtain ⟨os, hos, hcs, hds⟩ := id hs
  have hTs : s.TypeIs (.ref sl) "slice" := ⟨os, hos, hcs⟩
  have hsz' : its.toArray.size ≤ sizeLine := by rw [sizeLine_eq]; simp; ktr_room
  unfold getItem
  refine wpAny_holding ?_
  refine wpAny_bind (acc_key X I hq ?_)
  refine wpAny_bind (acc_special X I hg (slot_list_getitem.bind _) (sub_meth c X I (by decide +kernel) (n := "__getitem__") (by decide +kernel) (by decide +kernel) entry_list_getitem (args_list_getitem _ _) ?_))
  show wpAny _ _ (Builtin.List.listSubscript? (.ref sl) >>= _) _ _ s
  refine wpAny_bind ?_
  unfold Builtin.List.listSubscript?
  refine wpAny_bind (wpAny_specialOf hTs slice_no_index ?_)
  simp only [Option.isNone_none, if_true]
  refine wpAny_pure ?_
  show wpAny _ _ (typeOf (.ref sl) >>= _) _ _ s
  refine wpAny_bind (wpAny_typeOf hTs ?_)
  rw [if_neg (by decide), listSliceParts_eq]
  refine wpAny_bind (wpAny_bind (wpAny_field hos hds (x := .none) rfl (wpAny_bind (wpAny_listPart .none ?_))))
  rw [if_neg (by exact Bool.false_ne_true)]
  refine wpAny_bind (wpAny_field hos hds (x := vl) rfl (wpAny_bind (wpAny_listPart pl ?_)))
  refine wpAny_bind (wpAny_field hos hds (x := vu) rfl (wpAny_bind (wpAny_listPart pu (wpAny_pure ?_))))
  refine wpAny_bind (m := Builtin.List.listItems (.ref P)) ?_
  unfold Builtin.List.listItems
  refine wpAny_bind (wpAny_seqItems I.at_ rfl (wpAny_pure ?_))
  refine wpAny_bind (wpAny_of_eq (sliceIndices_raw lo hi none its.toArray.size (by simp)) ?_)
  exact wpAny_bind (wpAny_newObj_type (wpAny_pure ⟨_, rfl, wpAny_pure h⟩) (Nat.le_trans (slicePick_size_le its.toArray lo hi none) hsz'))
theorem acc_tail {value slice : PySem.Expr} {vl vu : Value} {lo hi : Option Int} {Q : Value → Shared → Prop} {dd : Obj} (c : LCls K C) (X₀ : K.In h₀) (F : Fr h₀ L s.heap m) (N : News h₀ L s.heap news) (hP : (P, accO C dx its.toArray n) ∈ news) (hd : (dx, dd) ∈ news)
    (hq : noSeq K C = true) (hg : findIn K (.ref C) "__getitem__" = some (some (.builtin "list.__getitem__"))) (pl : IsPart vl lo) (pu : IsPart vu hi) (hsz : its.length ≤ 1000)
    (h : ∀ D h', Fr h₀ L h' m → News h₀ L h' ((D, listOf (slicePick its.toArray lo hi none) 0) :: news) → AllLt D news → Q (.ref D) { s with heap := h' })
    (hs : subscripted slice false (.ref P) (.ref s.heap.objs.size) = operate [.ref s.heap.objs.size, .ref P] (getItem (.ref P) (.ref s.heap.objs.size))) (ht : ∀ r, letTemporaryGo value (.ref P) r = pure ()) :
    wpAny (model prog w) A (subscriptTail value slice (.ref P) (.ref s.heap.objs.size)) Q E { s with heap := s.heap.push { cls := .type "slice", data := .fields #[vl, vu, .none] } } := by
  obtain ⟨hh, g, d, t, os⟩ := s
  have up : ∀ b o, hh.get? b = some o → (hh.push { cls := .type "slice", data := .fields #[vl, vu, .none] }).get? b = some o := fun b o e => Heap.get?_push_of_some _ e
  have X : K.In (hh.push { cls := .type "slice", data := .fields #[vl, vu, .none] }) := (X₀.keeps F.keep).keeps up
  have I : InstAt (hh.push { cls := .type "slice", data := .fields #[vl, vu, .none] }) P (accO C dx its.toArray n) C (some dd) := ⟨up _ _ (N _ hP).1, rfl, rfl, up _ _ (N _ hd).1⟩
  have fin : wpAny (model prog w) A (subscripted slice false (.ref P) (.ref hh.objs.size)) (fun r s₃ => wpAny (model prog w) A (letTemporaryGo value (.ref P) r >>= fun _ => pure r) Q E s₃) E ⟨hh.push { cls := .type "slice", data := .fields #[vl, vu, .none] }, g, d, t, os⟩ := by
    rw [hs]
    refine wpAny_operating (acc_getslice c X I hq hg (Heap.IsSliceOf.new ..) pl pu hsz (wpAny_bind (wpAny_of_eq (ht _) (wpAny_pure ?_))))
    have N1 := News.push (F.push { cls := .type "slice", data := .fields #[vl, vu, .none] }) (N.grown fun _ _ e => Heap.get?_push_of_some _ e) (listOf (slicePick its.toArray lo hi none) 0)
    refine h _ _ ((F.push _).push _) N1 (allLt_of fun q hq => ?_)
    show q.1 < (hh.push _).objs.size
    rw [Heap.size_push]
    exact Nat.lt_succ_of_lt (Heap.lt_size (N q hq).1)
  unfold subscriptTail getitemInPython
  refine wpAny_bind (wpAny_bind (wpAny_bind (I.type.at ((looks_findIn X hg).at ?_))))
  exact wpAny_pure (wpAny_bind fin)
/-- self[i:] = [] -/
theorem acc_cut {sl l : Addr} {lo : Int} {tl : Tok} {Q : Unit → Shared → Prop} {dd : Obj} (c : LCls K C) (X₀ : K.In h₀) (F : Fr h₀ L s.heap m) (N : News h₀ L s.heap news) (hd : (dx, dd) ∈ news) (hsl : s.heap.IsSliceOf sl (.int lo tl) .none .none) (hl : s.heap.IsList l #[])
    (hq : noSeq K C = true) (hg : findIn K (.ref C) "__setitem__" = some (some (.builtin "list.__setitem__"))) (hlo : 0 ≤ lo) (hlo2 : lo.toNat ≤ its.length) (hsz : its.length ≤ 900) (hPl : l ≠ P)
    (U : Upd P (accO C dx its.toArray n) (accO C dx (its.take lo.toNat).toArray n') news news') (hn : (if (its.take lo.toNat).toArray.size == its.length then n else n + 1) = n')
    (h : ∀ h', Fr h₀ L h' m → News h₀ L h' news' → Q () { s with heap := h' }) : wpAny (model prog w) A (setItem (.ref P) (.ref sl) (.ref l)) Q E s := by
  have hP : (P, accO C dx its.toArray n) ∈ news := by obtain ⟨pre, post, e, _⟩ := U.split; rw [e]; simp
  have X := X₀.keeps F.keep
  have I : InstAt s.heap P (accO C dx its.toArray n) C (some dd) := acc_inst N hP hd
  obtain ⟨os, hos, hcs, hds⟩ := id hsl
  have hTs : s.TypeIs (.ref sl) "slice" := ⟨os, hos, hcs⟩
  obtain ⟨ol, hol, hcl, nl, hdl⟩ := id hl
  have hTl : s.TypeIs (.ref l) "list" := ⟨ol, hol, hcl⟩
  have hst : findIn K (.ref C) "__setitem__" = some (some (.builtin "list.__setitem__")) := hg
  unfold setItem
  refine wpAny_holding ?_
  refine wpAny_bind (acc_key X I hq ?_)
  refine wpAny_bind (acc_special X I hg (PySem.F.slot_list_setitem.bind _) (sub_slot c X I (by decide +kernel) (n := "__setitem__") (by decide +kernel) (by decide +kernel) PySem.F.entry_list_setitem (PySem.F.args_list_setitem_3 _ _ _) ?_))
  show wpAny _ _ (Builtin.List.listSubscript? (.ref sl) >>= _) _ _ s
  refine wpAny_bind ?_
  unfold Builtin.List.listSubscript?
  refine wpAny_bind (wpAny_specialOf hTs slice_no_index ?_)
  simp only [Option.isNone_none, if_true]
  refine wpAny_pure ?_
  show wpAny _ _ (typeOf (.ref sl) >>= _) _ _ s
  refine wpAny_bind (wpAny_typeOf hTs ?_)
  rw [if_neg (by decide), listSliceParts_eq]
  refine wpAny_bind (wpAny_bind (wpAny_field hos hds (x := .none) rfl (wpAny_bind (wpAny_listPart .none ?_))))
  rw [if_neg (by exact Bool.false_ne_true)]
  refine wpAny_bind (wpAny_field hos hds (x := .int lo tl) rfl (wpAny_bind (wpAny_listPart (.int _ _) ?_)))
  refine wpAny_bind (wpAny_field hos hds (x := .none) rfl (wpAny_bind (wpAny_listPart .none (wpAny_pure ?_))))
  have hb : sliceBounds (some lo) none none its.toArray.size = (lo, (its.toArray.size : Int), 1) := by
    have h1 : ((its.toArray.size : Nat) : Int) = its.length := by simp
    simp only [sliceBounds, Option.getD_none, show (1 : Int) > 0 by decide, if_true, if_neg (show ¬ (lo < 0) by ktr_room), h1]
    congr 1
    ktr_room
  rw [if_neg (by show ¬ ((P == l) = true); simpa using fun e => hPl e.symm)]
  refine wpAny_bind (m := Builtin.List.listAllItems (.ref l) _) ?_
  unfold Builtin.List.listAllItems
  refine wpAny_bind (wpAny_typeOf hTl ?_)
  rw [if_pos (by decide)]
  unfold Builtin.List.listItems
  refine wpAny_bind (wpAny_seqItems hol hdl (wpAny_pure ?_))
  refine wpAny_bind (wpAny_bind (wpAny_seqItems I.at_ rfl (wpAny_pure ?_)))
  refine wpAny_bind (wpAny_of_eq (sliceIndices_raw (some lo) none none its.toArray.size (by simp)) ?_)
  rw [hb]
  dsimp only
  rw [if_pos (by decide)]
  refine wpAny_bind (wpAny_rule ?_)
  rw [if_neg (by simp only [Builtin.List.listTooLong, sizeLine_eq]; simp; ktr_room)]
  refine wpAny_bind (m := updateSeq P _) (acc_upd F N U ?_ hn (by ktr_room) (by simp; ktr_room) fun h' F' N' => ?_)
  · apply Array.toList_inj.mp
    have h1 : (max lo ((its.length : Nat) : Int)).toNat = its.length := by ktr_room
    simp [h1]
  · exact wpAny_bind (wpAny_letGo (wpAny_pure ⟨_, rfl, wpAny_pure (h h' F' N')⟩))
end
end Mine
end
section
open PySem PySem.W PySem.Calls PyProof.Rows Builtin Builtin.ObjectAttr
set_option maxRecDepth 100000
set_option maxHeartbeats 8000000
namespace Mine
/-! ## making one -/
structure MakesL (M : Model) (h : Heap) (C : Addr) : Prop where
  obj : ∃ oc od cd sl, h.get? C = some ⟨oc, od, .cls cd, sl⟩ ∧ cd.abstract = false ∧ cd.hasDel = false ∧ cd.mro.isEmpty = false
  made : Looks M h (Bind.madeBy (.ref C)) (some "list.__new__")
  base : Looks M h (Bind.staticBase (.ref C)) (.ref C)
  self : Looks M h (isSubtype (.ref C) (.ref C)) true
  sub : Looks M h (isSubtype (.ref C) (.type "list")) true
  call : Looks M h (specialOf (.ref C) "__call__") (some (.builtin "type.__call__"))
  typ : Looks M h (isInstance (.ref C) (.type "type")) true
theorem makesL_of {K : Frag} {M : Model} {h : Heap} (X : K.In h) {C : Addr} {oc : Value} {od : Option Addr} {cd : ClassData} {sl : Array (Option Value)} {l : List Value} (ho : K.lookup C = some ⟨oc, od, .cls cd, sl⟩) (e1 : cd.abstract = false) (e2 : cd.hasDel = false)
    (e3 : (sl.toList[4]?).join = some (.builtin "list.__new__")) (hl : cd.mro = .ref C :: l) (e5 : cd.mro.contains (.ref C) = true) (e6 : cd.mro.contains (.type "list") = true) (e7 : specialIn K (.ref C) "__call__" = some (some (.builtin "type.__call__"))) (e8 : instIn K (.ref C) (.type "type") = some true) : MakesL M h C := by
  have hc : clsIn K C = some cd := by unfold clsIn; rw [ho]
  have e4 : cd.mro.isEmpty = false := by rw [hl]; rfl
  have hm : Looks M h (mroOf (.ref C)) cd.mro := (looks_clsIn X hc).andThen .now
  have made : Looks M h (Bind.madeBy (.ref C)) (some "list.__new__") := by
    intro A Q E s k q
    unfold Bind.madeBy
    refine wpAny_bind (hm A _ E s k ?_)
    rw [hl, List.forIn_cons]
    refine wpAny_bind (wpAny_bind (wpAny_bind (wpAny_bind (wpAny_loadPart (k _ _ (X _ _ ho)) (wpAny_pure ?_)))))
    dsimp only
    rw [← Array.getElem?_toList, e3]
    exact wpAny_pure (wpAny_pure (wpAny_pure q))
  refine ⟨⟨oc, od, cd, sl, X _ _ ho, e1, e2, e4⟩, made, ?_, looks_mroIn X ?_, looks_mroIn X ?_, looks_specialIn X e7, looks_instIn X e8⟩
  · intro A Q E s k q
    unfold Bind.staticBase
    refine wpAny_bind (hm A _ E s k ?_)
    rw [hl, List.forIn_cons]
    exact wpAny_bind (wpAny_bind (wpAny_bind (made A _ E s k (wpAny_pure (wpAny_pure (wpAny_pure q))))))
  · unfold mroIn; rw [hc, Option.bind_some, if_neg (by rw [e4]; decide), e5]
  · unfold mroIn; rw [hc, Option.bind_some, if_neg (by rw [e4]; decide), e6]
theorem ln_kind : builtinKind "list.__new__" = some .builtinFn := by decide +kernel
theorem ln_split : splitId "list.__new__" = some ("list", "__new__") := by decide +kernel
theorem ln_args (a b : Value) (sig : Manifest.Signature) (h : Manifest.signature? "list.__new__" = some sig) : Bind.checkArgs "list.__new__" sig ⟨[a, b], []⟩ = pure () := by
  have k : ((Manifest.signature? "list.__new__").map fun sig => Bind.checkArgs "list.__new__" sig ⟨[a, b], []⟩) = (Manifest.signature? "list.__new__").map fun _ => pure () := by kernel_rfl
  rw [h] at k
  exact Option.some.inj k
theorem ln_args0 (a : Value) (sig : Manifest.Signature) (h : Manifest.signature? "list.__new__" = some sig) : Bind.checkArgs "list.__new__" sig ⟨[a], []⟩ = pure () := by
  have k : ((Manifest.signature? "list.__new__").map fun sig => Bind.checkArgs "list.__new__" sig ⟨[a], []⟩) = (Manifest.signature? "list.__new__").map fun _ => pure () := by kernel_rfl
  rw [h] at k
  exact Option.some.inj k
section
variable {prog : Program} {w : World} {A : Around} {K : Frag} {C : Addr} {R : Result → Shared → Prop} {h : Heap} {g : Array GenState} {d : Drawn} {t : Nat} {os : OsState}
theorem new_list {rest : List Value} (Y : MakesL (model prog w) h C) (hargs : ∀ sig, Manifest.signature? "list.__new__" = some sig → Bind.checkArgs "list.__new__" sig ⟨.ref C :: rest, []⟩ = pure ())
    (hq : R (.ok (.ret (.ref (h.objs.size + 1)))) ⟨(h.push emptyDict).push (accO C h.objs.size #[] 0), g, d, t, os⟩) :
    codeAny (model prog w) A (.call (.builtin "list.__new__") ⟨.ref C :: rest, []⟩) R ⟨h, g, d, t, os⟩ := by
  obtain ⟨⟨oc, od, cd, sl, hC, e1, e2, e4⟩, made, base, self, sub, call, typ⟩ := Y
  have isT : Looks (model prog w) h (isType (.ref C)) true := fun A Q E s k q => by
    obtain ⟨h', g', d', t', os'⟩ := s
    exact ks_wpAny_isType_cls (k _ _ hC) rfl q
  refine codeAny_of_tree ?_
  show wpAny _ A.in1 (do checkBuiltinCall "list.__new__" ⟨.ref C :: rest, []⟩; again (.builtin "list.__new__" ⟨.ref C :: rest, []⟩)) _ _ _
  refine wpAny_bind ?_
  simp only [checkBuiltinCall, ln_kind, ln_split]
  rw [if_pos (by decide)]
  have after : ∀ {Q' : Unit → Shared → Prop} {E' : Value → Shared → Prop}, Q' () ⟨h, g, d, t, os⟩ → wpAny (model prog w) A.in1 (match Manifest.signature? "list.__new__" with | some sig => Bind.checkArgs "list.__new__" sig ⟨.ref C :: rest, []⟩ | none => pure ()) Q' E' ⟨h, g, d, t, os⟩ := by
    intro Q' E' q
    cases hs : Manifest.signature? "list.__new__" with
    | none => exact wpAny_pure q
    | some sig => exact wpAny_of_eq (hargs sig hs) q
  refine wpAny_bind (isT.at ?_)
  simp only [Bool.not_true, Bool.false_eq_true, if_false]
  refine wpAny_bind (sub.at ?_)
  simp only [Bool.not_true, Bool.false_eq_true, if_false]
  refine wpAny_bind (base.at (wpAny_bind (made.at ?_)))
  simp only [bne_self_eq_false, Bool.false_eq_true, if_false]
  refine after ?_
  refine wpAny_pure ⟨plainId_quiet PySem.F.plain_list_new _, codeAny_builtin_stack PySem.F.entry_list_new rfl fun p st => ?_⟩
  rw [Around.under_plainId PySem.F.plain_list_new _]
  have hown := owner_list_new
  simp only [hown]
  refine wpAny_bind (isT.at ?_)
  simp only [Bool.not_true, Bool.false_eq_true, if_false]
  refine wpAny_bind (sub.at ?_)
  simp only [Bool.not_true, Bool.false_eq_true, if_false]
  refine wpAny_bind (wpAny_pure ?_)
  rw [if_neg (show ¬ (!typeHasDict (.ref C)) = true from Bool.false_ne_true)]
  refine wpAny_bind (m := newDict) (wpAny_newObj_type ?_)
  dsimp only
  have fin : ∀ (Q : Value → Shared → Prop) (E' : Value → Shared → Prop), Q (.ref (h.objs.size + 1)) ⟨(h.push emptyDict).push (accO C h.objs.size #[] 0), g, d, t, os⟩ → wpAny (model prog w) A.in1 (newObjAsIs (.ref C) (.seq #[]) (some h.objs.size)) Q E' ⟨h.push emptyDict, g, d, t, os⟩ := by
    intro Q E' q
    unfold newObjAsIs classHasDel
    refine wpAny_bind (wpAny_alloc (wpAny_bind (wpAny_bind (wpAny_load (Heap.get?_push_of_some _ (Heap.get?_push_of_some _ hC)) (wpAny_pure ?_)))))
    rw [e2]
    refine wpAny_pure ?_
    show Q (.ref (h.push emptyDict).objs.size) _
    rw [Heap.size_push]
    exact q
  refine wpAny_bind (m := newObj (.ref C) (.seq #[]) (some h.objs.size)) ?_
  unfold newObj
  dsimp only
  rw [if_neg (by decide +kernel)]
  exact fin _ _ (wpAny_pure hq)
theorem make_list {rest : List Value} {init : Value} (Y : MakesL (model prog w) h C) (hi : Looks (model prog w) h (typeLookup (.ref C) "__init__") (some init)) (hb : ∀ self, Looks (model prog w) h (bindSpecial init self) (init, [self]))
    (hargs : ∀ sig, Manifest.signature? "list.__new__" = some sig → Bind.checkArgs "list.__new__" sig ⟨.ref C :: rest, []⟩ = pure ())
    (hq : codeAny (model prog w) (A.under (.builtin "type.__call__" ⟨.ref C :: rest, []⟩)) (.call init ⟨.ref (h.objs.size + 1) :: rest, []⟩) (InitBack (h.objs.size + 1) R) ⟨(h.push emptyDict).push (accO C h.objs.size #[] 0), g, d, t, os⟩) :
    codeAny (model prog w) A (.call (.ref C) ⟨rest, []⟩) R ⟨h, g, d, t, os⟩ := by
  have Y' := Y
  obtain ⟨⟨oc, od, cd, sl, hC, e1, e2, e4⟩, made, base, self, sub, call, typ⟩ := Y
  refine codeAny_of_tree ?_
  show wpAny _ _ (callAny (.ref C) _) _ _ _
  refine nd_load hC ?_
  show wpAny _ _ (callAny.viaDunder (.ref C) _) _ _ _
  unfold callAny.viaDunder
  refine wpAny_bind (call.at ?_)
  dsimp only
  rw [tc_bind]
  refine wpAny_bind (wpAny_pure (wpAny_bind (wpAny_pure ?_)))
  refine wpAny_pure (a := Fin.again (.call (.builtin "type.__call__") ⟨.ref C :: rest, []⟩)) (And.intro rfl ?_)
  refine codeAny_call_builtin_at (Code.quiet_builtin _ (by decide +kernel)) entry_typeCall (check_slot tc_kind tc_split typ (tc_args _ _ _) ?_)
  unfold Builtin.«type.__call__»
  have hm : Looks (model prog w) h (mroOf (.ref C)) cd.mro := ((Looks.ld (part := none) hC).andThen .now).andThen .now
  repeat (first | simp only [e4, Bool.false_eq_true, if_false] | with_reducible refine wpAny_call ?_ | lk)
  refine new_list Y' hargs ?_
  have k : ∀ b o, h.get? b = some o → ((h.push emptyDict).push (accO C h.objs.size #[] 0)).get? b = some o := fun b o e => Heap.get?_push_of_some _ (Heap.get?_push_of_some _ e)
  have hx : ((h.push emptyDict).push (accO C h.objs.size #[] 0)).get? (h.objs.size + 1) = some (accO C h.objs.size #[] 0) := by heap_get
  have t1 : Looks (model prog w) ((h.push emptyDict).push (accO C h.objs.size #[] 0)) (typeOf (.ref (h.objs.size + 1))) (.ref C) := (Looks.ld hx).andThen .now
  have s1 := self.keeps k
  have i1 := hi.keeps k
  have b1 := (hb (.ref (h.objs.size + 1))).keeps k
  unfold isInstance callSpecial? specialOf
  repeat (first | with_reducible refine wpAny_call ?_ | lk)
  refine codeAny_mono hq fun r s' z => ?_
  rcases r with e | (v | _ | _ | _) <;> first | exact z | exact z.elim | skip
  obtain ⟨rfl, z⟩ := z
  exact wpAny_pure (wpAny_pure z)
end
section
variable {prog : Program} {w : World} {K : Frag} {p : Program} {f cc cda C : Addr} {d u : Nat} {vs : List Value} {news : Led} {post : Value → Led → Prop}
  {name qual : Str} {params : Arguments} {body : List Stmt} {scope : Scope} {dV kV doc pm ct oc : Value} {an od : Option Addr} {osl : Array (Option Value)} {binds : Addr → List (Str × Value)}
/-- the class called: one is made and its __init__ runs -/
theorem does_cls (hM : ∀ (M : Model) (h : Heap), K.In h → MakesL M h C) (hi : findIn K (.ref C) "__init__" = some (some (.ref f))) (hfn : typeIn K (.ref f) = some (.type "function"))
    (hargs : ∀ sig, Manifest.signature? "list.__new__" = some sig → Bind.checkArgs "list.__new__" sig ⟨.ref C :: vs, []⟩ = pure ())
    (ho : K.lookup f = some ⟨oc, od, .func (ksFn name qual params body scope dV kV doc pm an (.ref cda) ct cc), osl⟩) (hcd : codeIn K (.ref cda) qual = true)
    (hbind : ∀ (x : Addr) (s : Shared), K.In s.heap → BindsTo s (ksFn name qual params body scope dV kV doc pm an (.ref cda) ct cc) ⟨.ref x :: vs, []⟩ (binds x)) (hloc : ∀ x, ∀ y ∈ binds x, scope.names.lookup y.1 = some .local)
    (hd : 2 ≤ d) (hu : 12 ≤ u)
    (h : ∀ (x dx : Addr) (loose : List Str) (mean : ExcName → Option Value) (mg mb : Str → Option Value) (dp un : Nat) (gd : Option (List Code)) (outer : List Env) (A₀ : Around) (base g : Heap) (L' : Addr) (s₁ : Shared) (rest : Led),
      Below A₀ base outer g → Fr g L' s₁.heap (fun y => (binds x).reverse.lookup y) → K.In g → News g L' s₁.heap ((x, accO C dx #[] 0) :: (dx, emptyDict) :: (news ++ rest)) → Top p loose mean mg mb g → AllBare s₁.gens → DN ((x, accO C dx #[] 0) :: (dx, emptyDict) :: (news ++ rest)) →
      AllLt L' ((x, accO C dx #[] 0) :: (dx, emptyDict) :: (news ++ rest)) → dp + d < recursionLimit + 2 → un + u < cLine + 12 →
      PySem.wpAt (model prog w) (ktrTop dp un gd qual scope L' f (.ref cda) [("__class__", cc)] outer) (.func body (ksEnv qual scope L' f (.ref cda) cc)) (execs body (ksEnv qual scope L' f (.ref cda) cc)) (BodyPost g L' s₁.os rest (fun v nw => v = .none ∧ post (.ref x) nw)) (fun _ _ => False) s₁)
    (hcell : ∀ x ∈ scope.names, x.2 ≠ .cell) (hco : scope.isCoroutine = false) (hgen : scope.isGenerator = false) (hk : scope.kind = .function) : Does prog w K p (.ref C) d u vs news post := by
  intro loose mean mg mb dp un gd cn cs a ccd cl outer A₀ base h₀ L m s rest Q E B F X N T hkc G D hdp hun hret
  have hX := X.keeps F.keep
  obtain ⟨hh, gg, dd, tt, oss⟩ := s
  refine wpAny_call (make_list (hM _ _ hX) (looks_findIn hX hi) (fun self => bind_fn hX self hfn) hargs ?_)
  have F1 : Fr h₀ L ((hh.push emptyDict).push (accO C hh.objs.size #[] 0)) m := (F.push _).push _
  have N1 : News h₀ L ((hh.push emptyDict).push (accO C hh.objs.size #[] 0)) ((hh.objs.size + 1, accO C hh.objs.size #[] 0) :: (hh.objs.size, emptyDict) :: (news ++ rest)) := by
    have := (N.push F emptyDict).push (F.push _) (accO C hh.objs.size #[] 0)
    rwa [Heap.size_push] at this
  have hlt : ∀ q ∈ news ++ rest, q.1 < hh.objs.size := fun q hq => Heap.lt_size (N q hq).1
  have D1 : DN ((hh.objs.size + 1, accO C hh.objs.size #[] 0) :: (hh.objs.size, emptyDict) :: (news ++ rest)) :=
    dn_cons ⟨Nat.ne_of_lt (Nat.lt_succ_self _), allNe_mk fun q hq => Nat.ne_of_lt (Nat.lt_succ_of_lt (hlt q hq))⟩ (dn_cons (allNe_mk fun q hq => Nat.ne_of_lt (hlt q hq)) D)
  have hw : (Code.builtin "type.__call__" ⟨.ref C :: vs, []⟩).weight = 1 := by with_unfolding_all rfl
  have hu' : (Code.builtin "type.__call__" ⟨.ref C :: vs, []⟩).cUnits ≤ 6 := by
    have : (Code.builtin "type.__call__" ⟨.ref C :: vs, []⟩).cUnits = 1 := by with_unfolding_all rfl
    ktr_room
  have he : (Code.builtin "type.__call__" ⟨.ref C :: vs, []⟩).envs = [] := by with_unfolding_all rfl
  have hg : (Code.builtin "type.__call__" ⟨.ref C :: vs, []⟩).guards = [] := by with_unfolding_all rfl
  have eU : (ktrTop dp un gd cn cs L a ccd cl outer).under (.builtin "type.__call__" ⟨.ref C :: vs, []⟩) = ktrTop (dp + 1) (un + (Code.builtin "type.__call__" ⟨.ref C :: vs, []⟩).cUnits) gd cn cs L a ccd cl outer := by
    simp only [Around.under, hw, he, hg, pushEnvs, pushGuards]
  generalize (Code.builtin "type.__call__" ⟨.ref C :: vs, []⟩).cUnits = k at hu' eU
  rw [eU]
  refine ks_code_super (env := envX cn cs L a ccd cl) (outer := outer) (s := ⟨(hh.push emptyDict).push (accO C hh.objs.size #[] 0), gg, dd, tt, oss⟩) B F1 X N1 T rfl rfl hkc ho hcd (show dp + 1 < recursionLimit by ktr_room) (hbind _ _ (X.keeps F1.keep)) (hloc _) (fun g L' h₁ FG F' N' B' X' T' l => ?_) hcell hco hgen hk
  refine ks_wpAt_mono (h (hh.objs.size + 1) hh.objs.size loose mean mg mb (dp + 1 + 1) (un + k + 3) gd _ _ base g L' ⟨h₁, gg, dd, tt + (binds (hh.objs.size + 1)).length, oss⟩ rest B' F' X' N' T' G D1 (allLt_of l) (by ktr_room) (by ktr_room)) (fun fl s' hb => ?_) (fun _ _ e => False.elim e)
  obtain ⟨m', news', F2, N2, G2, ho2, D2, hp, hp2⟩ := hb
  refine leaveK_ F2 N2 fun F3 N3 => ?_
  exact ⟨hp, hret _ s' news' F3 N3 G2 ho2 D2 hp2⟩
end
end Mine
end
section
open PySem PySem.W PySem.Calls PyProof.Rows Builtin Builtin.ObjectAttr
set_option maxRecDepth 100000
set_option maxHeartbeats 8000000
namespace Mine
theorem Gen.toks {prog : Program} {w : World} {A : Around} {Kb a : Addr} {n : Nat} {F : Nat → Value → Prop} {s : Shared} {k : Nat} (X : Gen prog w A Kb a n F s) (h : s.toks ≤ k) : Gen prog w A Kb a n F { s with toks := k } := by
  obtain ⟨fp, wr, g, St, W, h1, h2, h3, h4, h5⟩ := X
  exact ⟨fp, wr, g, St, W, W.frame 0 s s.heap k h1 h fun _ _ _ e => e, h2, h3, h4, h5⟩
noncomputable def sumTo (val : Nat → Nat) (n : Nat) : Nat := ((List.range n).map val).sum
theorem sumTo_succ (val : Nat → Nat) (n : Nat) : sumTo val (n + 1) = sumTo val n + val n := by simp [sumTo, List.range_succ]
theorem sumTo_le (val : Nat → Nat) (hv : ∀ j, val j ≤ 2 ^ 20) : ∀ n, sumTo val n ≤ n * 2 ^ 20
  | 0 => by simp [sumTo]
  | n + 1 => by rw [sumTo_succ]; have := sumTo_le val hv n; have := hv n; ktr_room
section
variable {prog : Program} {w : World} {A : Around} {E : Value → Shared → Prop} {s : Shared} {h₀ : Heap} {L Kb a : Addr} {m : Str → Option Value} {news : Led} {n : Nat} {F : Nat → Value → Prop} {Q : Value → Shared → Prop}
theorem sum_pile {c₀ : Int} {t₀ : Tok} (Fh : Fr h₀ L s.heap m) (N : News h₀ L s.heap news) (G : AllBare s.gens) (X : Gen prog w A Kb a n F s) (hLK : L ≤ Kb) (hnews : ∀ q ∈ news, q.1 ≤ Kb) (val : Nat → Nat) (hval : ∀ j v, F j v → ∃ t, v = .int (val j : Int) t)
    (h0 : 0 ≤ c₀ ∧ c₀ ≤ 2 ^ 40) (hv : ∀ j, val j ≤ 2 ^ 20) (hn : n ≤ 1000)
    (hQ : ∀ s' t', Fr h₀ L s'.heap m → News h₀ L s'.heap news → AllBare s'.gens → s'.os = s.os → Q (.int (c₀ + (sumTo val n : Nat)) t') s') : wpAny (model prog w) A (call (.builtin "sum") [.ref a, .int c₀ t₀]) Q E s := by
  obtain ⟨fp, wr, g, St, W, hst, _, _, hfp, hwr⟩ := X
  have W := W.in4_1
  refine call_sum2 ⟨h0.1, by ktr_room⟩ (W.self 0 _ _ _ hst ⟨a, _, _, _, _, _, _, fun i => c₀ + (sumTo val i : Nat), fun i => (val i : Int), rfl, W, hst, hfp, by simp [sumTo], fun i _ => by show c₀ + ((sumTo val (i + 1) : Nat) : Int) = c₀ + ((sumTo val i : Nat) : Int) + ((val i : Nat) : Int); rw [sumTo_succ]; ktr_room, fun i hi => ?_, fun i => ⟨Int.natCast_nonneg _, by have := hv i; show ((val i : Nat) : Int) < 2 ^ 62; ktr_room⟩, hval, fun s' t' hm => ?_⟩)
  · have h1 := sumTo_le val hv i
    have h2 : i * 2 ^ 20 ≤ 1000 * 2 ^ 20 := Nat.mul_le_mul_right _ (by ktr_room)
    constructor
    · show 0 ≤ c₀ + ((sumTo val i : Nat) : Int)
      ktr_room
    · show c₀ + ((sumTo val i : Nat) : Int) < 2 ^ 62
      ktr_room
  · have keep : ∀ b o, b ≤ Kb → s.heap.get? b = some o → s'.heap.get? b = some o := fun b o hb e => hm.heap b o (fun hmem => Nat.lt_irrefl _ (Nat.lt_of_lt_of_le (hwr b hmem) hb)) e
    exact hQ s' t' (Fh.moved hm fun b hb => Nat.lt_of_le_of_lt hLK (hwr b hb)) (fun q hq => ⟨keep _ _ (hnews q hq) (N q hq).1, (N q hq).2⟩) (G.movedS hm) hm.os
theorem join_pile {sep : Str} {t : Tok} (Fh : Fr h₀ L s.heap m) (N : News h₀ L s.heap news) (G : AllBare s.gens) (X : Gen prog w A Kb a n F s) (hLK : L ≤ Kb) (hnews : ∀ q ∈ news, q.1 ≤ Kb) (tx : Nat → Str) (htx : ∀ j v, F j v → ∃ u, v = .str (tx j) u)
    (hok : JoinOk sep ((List.range n).map tx) = true) (hn : n ≤ 1000)
    (hQ : ∀ s' t', Fr h₀ L s'.heap m → News h₀ L s'.heap news → AllBare s'.gens → s'.os = s.os → Q (.str (Txt.join sep ((List.range n).map tx)) t') s') : wpAny (model prog w) A (call (.builtin "str.join") [.str sep t, .ref a]) Q E s :=
  join_rowsK Fh G X hLK tx htx hok (fun s' t' F' G' ho keep => hQ s' t' F' (fun q hq => ⟨keep _ _ (hnews q hq) (N q hq).1, (N q hq).2⟩) G' ho) (by rw [sizeLine_eq]; ktr_room)
end
noncomputable def pc0 : Pc := ⟨0, Str.empty, 0, Str.empty, 0⟩
theorem getD_mem {ts : List Pc} {i : Nat} (h : i < ts.length) : ts.getD i pc0 ∈ ts := by
  rw [List.getD_eq_getElem?_getD, List.getElem?_eq_getElem h]; exact List.getElem_mem h
theorem getD_len {ts : List Pc} (h : ∀ p ∈ ts, p.f.length ≤ 1000 ∧ p.g.length ≤ 1000) (i : Nat) : (ts.getD i pc0).f.length + (ts.getD i pc0).g.length ≤ 2 ^ 20 := by
  by_cases hi : i < ts.length
  · have := h _ (getD_mem hi); ktr_room
  · rw [List.getD_eq_getElem?_getD, List.getElem?_eq_none (by ktr_room)]; decide
theorem rows_at {ts : List Pc} {rest : Led} {x y : Addr × Obj} (j : Nat) (hj : j < ts.length) : (refs ts).toArray[j]? = some (.ref (ts.getD j pc0).T) ∧ ((ts.getD j pc0).T, tupO (.str (ts.getD j pc0).f (ts.getD j pc0).tf) (.str (ts.getD j pc0).g (ts.getD j pc0).tg)) ∈ x :: y :: (ts.map Pc.ent ++ rest) := by
  refine ⟨?_, .tail _ (.tail _ (List.mem_append_left _ (List.mem_map.mpr ⟨ts.getD j pc0, getD_mem hj, rfl⟩)))⟩
  simp [refs, List.getD_eq_getElem?_getD, List.getElem?_eq_getElem hj]
/-- the letters that lie on a pile -/
noncomputable def total (ts : List Pc) : Nat := (ts.map fun p => p.f.length + p.g.length).sum
noncomputable def shown (ts : List Pc) : Str := ⟨((ts.map fun p => p.f.cps.toList ++ p.g.cps.toList).flatten).toArray⟩
theorem sumTo_list (ts : List Pc) (f : Pc → Nat) (d : Pc) : sumTo (fun i => f (ts.getD i d)) ts.length = (ts.map f).sum := by
  induction ts with
  | nil => rfl
  | cons p r ih =>
    have : sumTo (fun i => f ((p :: r).getD i d)) (r.length + 1) = f p + sumTo (fun i => f (r.getD i d)) r.length := by
      simp only [sumTo, List.range_succ_eq_map, List.map_cons, List.map_map, List.sum_cons]
      rfl
    rw [List.length_cons, this, ih, List.map_cons, List.sum_cons]
end Mine
end
section
open PySem PySem.W PySem.Calls PyProof.Rows Builtin Builtin.ObjectAttr
set_option maxRecDepth 100000
set_option maxHeartbeats 8000000
namespace Mine
/-! ## the elements of the two generators -/
section
variable {prog : Program} {w : World} {A : Around} {E : Value → Shared → Prop} {t : Shared} {h₀ : Heap} {C' : Addr} {m₂ mg mb : Str → Option Value} {env : Env} {scope : Scope} {cv v : Value} {x : Str} {pos : Pos} {Q : Value → Shared → Prop} {p : Program} {loose : List Str} {mean : ExcName → Option Value}
noncomputable abbrev gE (scope : Scope) (C' : Addr) (cv : Value) (env : Env) : Env := genEnv scope [] C' cv builtinsNs env
theorem gn_local (hk : scope.kind = .function) (hx : (gE scope C' cv env).kindOf x = some .local) (hd : (x == ("__debug__" : Str)) = false) (F : Fr h₀ C' t.heap m₂) (hv : m₂ x = some v) (h : Q v t) : wpAny (model prog w) A (eval (.Name x pos) (gE scope C' cv env)) Q E t :=
  wpAny_Name (wpAny_loadName_local (env := gE scope C' cv env) hk hx F.ns hv h) hd
theorem gn_builtin (hk : scope.kind = .function) (hg : env.globals = mainGlobals) (hx : (gE scope C' cv env).kindOf x = some .globalImplicit) (hd : (x == ("__debug__" : Str)) = false) (F : Fr h₀ C' t.heap m₂) (T : Top p loose mean mg mb h₀) (hm : mg x = none) (hb : mb x = some v) (h : Q v t) :
    wpAny (model prog w) A (eval (.Name x pos) (gE scope C' cv env)) Q E t := by
  refine wpAny_Name (ks_loadName_global (env := gE scope C' cv env) hk hx ?_) hd
  exact loadGlobal_builtin (env := gE scope C' cv env) (show t.heap.Ns env.globals mg by rw [hg]; exact T.g.keeps F.keep) hm (T.b.keeps F.keep) hb h
theorem gn_global (hk : scope.kind = .function) (hg : env.globals = mainGlobals) (hx : (gE scope C' cv env).kindOf x = some .globalImplicit) (hd : (x == ("__debug__" : Str)) = false) (F : Fr h₀ C' t.heap m₂) (T : Top p loose mean mg mb h₀) (hm : mg x = some v) (h : Q v t) :
    wpAny (model prog w) A (eval (.Name x pos) (gE scope C' cv env)) Q E t := by
  refine wpAny_Name (ks_loadName_global (env := gE scope C' cv env) hk hx ?_) hd
  unfold loadGlobal
  refine wpAny_bind (wpAny_nsGet (show t.heap.Ns env.globals mg by rw [hg]; exact T.g.keeps F.keep) ?_)
  rw [hm]
  exact wpAny_pure h
theorem cw_builtin {id : String} {e : Expr} {rest : List Expr} {en : Env} {first : List Value} (h : wpAny (model prog w) A (spliced (backTo pos (starEach (e :: rest) en))) (fun vs s₁ => wpAny (model prog w) A (call (.builtin id) (first ++ vs)) Q E s₁) E t)
    (he : starEach (e :: rest) en = (false, eval e en) :: starEach rest en) (hp : (backTo pos (starEach rest en)).any (·.1) = false) : wpAny (model prog w) A (callWith pos (.builtin id) first (backTo pos (starEach (e :: rest) en)) []) Q E t := by
  rw [he] at h ⊢
  exact callWith_of (P := fun _ => True) (by show ((false || (backTo pos (starEach rest en)).any (·.1)) || false) = false; rw [hp]; rfl) (fun _ _ => ⟨.machine, .inr (.inl rfl), Looks.of_pure rfl⟩) (evalArgs_plain (wpAny_mono h (fun _ _ z => ⟨trivial, z⟩) fun _ _ z => z))
theorem gn_len {x : Str} {f : Str} {tf : Tok} {p1 p2 p3 : Pos} (hk : scope.kind = .function) (hg : env.globals = mainGlobals) (hl : (gE scope C' cv env).kindOf "len" = some .globalImplicit) (hx : (gE scope C' cv env).kindOf x = some .local) (hd : (x == ("__debug__" : Str)) = false) (F : Fr h₀ C' t.heap m₂) (T : Top p loose mean mg mb h₀) (hm : mg "len" = none)
    (hb : bootBuiltins "len" = some (.builtin "len")) (hv : m₂ x = some (.str f tf)) (hf : f.length ≤ 100000) (h : Q (.int f.length (t.toks + 1)) { t with toks := t.toks + 2 }) : wpAny (model prog w) A (eval (.Call (.Name "len" p1) [.Name x p2] [] p3) (gE scope C' cv env)) Q E t := by
  refine wpAny_Call_NameR (gn_builtin hk hg hl (by decide) F T hm ((T.builtins _ (by decide)).trans hb) ?_)
  refine cw_builtin (rest := []) ?_ rfl rfl
  refine Calls.spliced_cons (x := eval (.Name x p2) (gE scope C' cv env)) (gn_local hk hx hd F hv ?_)
  exact Calls.spliced_nil (len_str (by ktr_room) h)
theorem gn_lens {xa xb : Str} {f g : Str} {tf tg : Tok} {p1 p2 p3 p4 p5 p6 p7 : Pos} (hk : scope.kind = .function) (hg : env.globals = mainGlobals) (hl : (gE scope C' cv env).kindOf "len" = some .globalImplicit) (hxa : (gE scope C' cv env).kindOf xa = some .local) (hxb : (gE scope C' cv env).kindOf xb = some .local)
    (hda : (xa == ("__debug__" : Str)) = false) (hdb : (xb == ("__debug__" : Str)) = false) (F : Fr h₀ C' t.heap m₂) (T : Top p loose mean mg mb h₀) (hm : mg "len" = none) (hb : bootBuiltins "len" = some (.builtin "len"))
    (hva : m₂ xa = some (.str f tf)) (hvb : m₂ xb = some (.str g tg)) (hf : f.length ≤ 100000) (hgl : g.length ≤ 100000) :
    wpAny (model prog w) A (eval (.BinOp (.Call (.Name "len" p1) [.Name xa p2] [] p3) .Add (.Call (.Name "len" p4) [.Name xb p5] [] p6) p7) (gE scope C' cv env)) (fun y s₃ => (∃ u, y = .int ((f.length + g.length : Nat) : Int) u) ∧ Keeps t s₃) E t := by
  refine wpAny_BinOp (gn_len hk hg hl hxa hda F T hm hb hva hf ?_)
  refine gn_len (t := { t with toks := t.toks + 2 }) hk hg hl hxb hdb F T hm hb hvb hgl ?_
  refine wpAny_add_int ⟨⟨_, by rw [Int.natCast_add]⟩, _, _, rfl, fun _ _ e => e⟩
/-- sep.join((a, b)) in the generator -/
theorem gn_join {f g : Str} {tf tg ts : Tok} {p1 p2 p3 p4 p5 p6 : Pos} (hk : scope.kind = .function) (hg : env.globals = mainGlobals) (hl : (gE scope C' cv env).kindOf (Str.ofString "EMPTYSTRING") = some .globalImplicit) (hxa : (gE scope C' cv env).kindOf (Str.ofString "fws") = some .local) (hxb : (gE scope C' cv env).kindOf (Str.ofString "part") = some .local)
    (hds : (Str.ofString "EMPTYSTRING" == ("__debug__" : Str)) = false) (hda : (Str.ofString "fws" == ("__debug__" : Str)) = false) (hdb : (Str.ofString "part" == ("__debug__" : Str)) = false) (F : Fr h₀ C' t.heap m₂) (T : Top p loose mean mg mb h₀) (hm : mg (Str.ofString "EMPTYSTRING") = some (.str Str.empty ts))
    (hva : m₂ (Str.ofString "fws") = some (.str f tf)) (hvb : m₂ (Str.ofString "part") = some (.str g tg)) (hf : f.length ≤ 100000) (hgl : g.length ≤ 100000) {pl : Sem Bool}
    (he : eval (.Call (.Attribute (.Name (Str.ofString "EMPTYSTRING") p1) "join" p2) [.Tuple [.Name (Str.ofString "fws") p3, .Name (Str.ofString "part") p4] 0 p5] [] p6) (gE scope C' cv env) = (do
      let ov ← eval (.Name (Str.ofString "EMPTYSTRING") p1) (gE scope C' cv env)
      standAt p2.atName
      let (f, first) ← holding [ov] (getMethod ov "join" pl)
      callWith p6 f first (backTo p6 (starEach [.Tuple [.Name (Str.ofString "fws") p3, .Name (Str.ofString "part") p4] 0 p5] (gE scope C' cv env))) [])) :
    wpAny (model prog w) A (eval (.Call (.Attribute (.Name (Str.ofString "EMPTYSTRING") p1) "join" p2) [.Tuple [.Name (Str.ofString "fws") p3, .Name (Str.ofString "part") p4] 0 p5] [] p6) (gE scope C' cv env)) (fun y s₃ => (∃ u, y = .str (Txt.join Str.empty [f, g]) u) ∧ Keeps t s₃) E t := by
  refine MethodCall_ (pl := pl) (gn_global hk hg hl hds F T hm (GM.join ?_)) he
  refine cw_builtin (rest := []) ?_ rfl rfl
  refine Calls.spliced_cons (x := eval (.Tuple [.Name (Str.ofString "fws") p3, .Name (Str.ofString "part") p4] 0 p5) (gE scope C' cv env)) (wpAny_Tuple ?_)
  refine Calls.spliced_cons (x := eval (.Name (Str.ofString "fws") p3) (gE scope C' cv env)) (gn_local hk hxa hda F hva ?_)
  refine Calls.spliced_cons (x := eval (.Name (Str.ofString "part") p4) (gE scope C' cv env)) (gn_local hk hxb hdb F hvb ?_)
  refine Calls.spliced_nil ⟨by rw [sizeLine_eq]; simp, Calls.spliced_nil ?_⟩
  refine join_tuple (ys := [f, g]) (items := #[.str f tf, .str g tg]) ⟨_, Heap.get?_push_size _ rfl, rfl, 0, rfl⟩ (.cons _ _ (.cons _ _ .nil)) (by simp [Str.length, Str.empty]; simp [Str.length] at hf hgl; ktr_room) fun t' k => ?_
  exact ⟨⟨_, rfl⟩, _, _, rfl, fun _ _ e => Heap.get?_push_of_some _ e⟩
end
theorem acc_size {prog : Program} {w : World} {A : Around} {E : Value → Shared → Prop} {s : Shared} {K : Frag} {P C : Addr} {ox : Obj} {sz : Int} {tk tz : Tok} {expr : Bool} {Q : Value → Shared → Prop} (c : LCls K C) (X : K.In s.heap) (I : InstAt s.heap P ox C (some (sizeD w sz tk tz)))
    (hn : findIn K (.ref C) "_initial_size" = some none) (h : Q (.int sz tz) { s with toks := s.toks + 1 }) : wpAny (model prog w) A (getAttr (.ref P) "_initial_size" expr) Q E s :=
  acc_get c X I (findObj_own (attr := none) c.dict hn rfl (by rw [lookIn_dict]; rfl)) rfl h
theorem join_flat : ∀ l : List Str, (Txt.join Str.empty l).cps.toList = (l.map fun x => x.cps.toList).flatten := by
  intro l
  show (Builtin.Str.glued Str.empty l).cps.toList = _
  rw [StrLaws.glued_eq_join]
  induction l with
  | nil => rfl
  | cons x r ih =>
    cases r with
    | nil => simp [Str.join]
    | cons y r =>
      show (x ++ Str.empty ++ Str.join Str.empty (y :: r)).cps.toList = _
      rw [Str.cps_append, Str.cps_append, Array.toList_append, Array.toList_append, ih]
      simp [Str.empty]
theorem map_range_getD (ts : List Pc) (f : Pc → Str) : (List.range ts.length).map (fun i => f (ts.getD i pc0)) = ts.map f := by
  apply List.ext_getElem?
  intro i
  by_cases h : i < ts.length
  · simp [h, List.getD_eq_getElem?_getD]
  · simp [h]
noncomputable def pcS (p : Pc) : Str := Txt.join Str.empty [p.f, p.g]
theorem pcS_list (p : Pc) : (pcS p).cps.toList = p.f.cps.toList ++ p.g.cps.toList := by unfold pcS; rw [join_flat]; simp
theorem pcS_len (p : Pc) : (pcS p).length = p.f.length + p.g.length := by
  have h := congrArg List.length (pcS_list p)
  simpa [Str.length] using h
theorem shown_join (ts : List Pc) : Txt.join Str.empty (ts.map pcS) = shown ts := by
  unfold shown
  apply Str.ext'
  apply Array.toList_inj.mp
  rw [join_flat]
  simp [List.map_map, Function.comp_def, pcS_list]
theorem weigh : ∀ ts : List Pc, (∀ p ∈ ts, p.f.length ≤ 500 ∧ p.g.length ≤ 500) → ((ts.map pcS).map (·.length)).sum ≤ ts.length * 1000
  | [], _ => by simp
  | p :: r, h => by
    have h1 := h p (.head _)
    have h2 := weigh r fun q hq => h q (.tail _ hq)
    simp only [List.map_cons, List.sum_cons, List.length_cons, pcS_len]
    ktr_room
theorem pile_split {w : World} {C : Addr} {a : At} {ini lst : List Pc} {n : Nat} {x : Addr × Obj} : (x :: (a.P, accO C a.dx (refs ini).toArray n) :: (a.dx, sizeD w a.sz a.tk a.tz) :: (ini ++ lst).map Pc.ent).Perm (x :: (lst.map Pc.ent ++ pile w C a ini n)) := by
  unfold pile
  rw [List.map_append]
  exact List.Perm.cons x (List.perm_append_comm (l₁ := (a.P, accO C a.dx (refs ini).toArray n) :: (a.dx, sizeD w a.sz a.tk a.tz) :: ini.map Pc.ent) (l₂ := lst.map Pc.ent))
theorem pick_from (us vs : List Value) (i : Int) (hi : i = us.length) : slicePick (us ++ vs).toArray (some i) none none = vs.toArray := by
  subst hi
  have e : sliceBounds (some (us.length : Int)) none none (us ++ vs).toArray.size = (((us.length : Nat) : Int), (((us ++ vs).toArray.size : Nat) : Int), 1) := by
    simp only [sliceBounds, Option.getD_none, show (1 : Int) > 0 by decide, if_true, if_neg (show ¬ (((us.length : Nat) : Int) < 0) by ktr_room)]
    congr 1
    simp
    ktr_room
  rw [kmk_pick_nat _ e]
  simp
theorem acc_cut_new {prog : Program} {w : World} {A : Around} {E : Value → Shared → Prop} {s : Shared} {h₀ : Heap} {L : Addr} {m : Str → Option Value} {news news' : Led} {K : Frag} {P C dx : Addr} {n n' : Nat} {us vs : List Value} {l : Addr} {lo : Int} {tl : Tok} {Q : Unit → Shared → Prop} {dd : Obj}
    (c : LCls K C) (X₀ : K.In h₀) (F : Fr h₀ L s.heap m) (N : News h₀ L s.heap news) (hlm : (l, listOf #[] 0) ∈ news) (hPl : l ≠ P)
    (hq : noSeq K C = true) (hg : findIn K (.ref C) "__setitem__" = some (some (.builtin "list.__setitem__"))) (hlo : lo = us.length) (hsz : (us ++ vs).length ≤ 900)
    (U : Upd P (accO C dx (us ++ vs).toArray n) (accO C dx us.toArray n') news news') (hd : (dx, dd) ∈ news) (hn : (if us.length = (us ++ vs).length then n else n + 1) = n')
    (h : ∀ h', Fr h₀ L h' m → News h₀ L h' news' → Q () { s with heap := h' }) : wpAny (model prog w) A (setItem (.ref P) (.ref s.heap.objs.size) (.ref l)) Q E { s with heap := s.heap.push { cls := .type "slice", data := .fields #[.int lo tl, .none, .none] } } := by
  have e : (us ++ vs).take lo.toNat = us := by rw [hlo]; simp
  refine acc_cut (s := { s with heap := s.heap.push { cls := .type "slice", data := .fields #[.int lo tl, .none, .none] } }) (its := us ++ vs) (n' := n') c X₀ (F.push _) (N.grown fun _ _ e => Heap.get?_push_of_some _ e) hd (Heap.IsSliceOf.new ..) ⟨_, Heap.get?_push_of_some _ (N _ hlm).1, rfl, 0, rfl⟩ hq hg (by ktr_room) (by rw [hlo]; simp) hsz hPl (by rw [e]; exact U) ?_ h
  rw [e, ← hn]
  simp
end Mine
end
section
open PySem PySem.W PySem.Calls PyProof.Rows
set_option maxRecDepth 100000
namespace Mine
/-- ints of a list -/
noncomputable def ivals (xs : List (Nat × Tok)) : List Value := xs.map fun p => .int (p.1 : Int) p.2
theorem ivals_len (xs : List (Nat × Tok)) : (ivals xs).length = xs.length := by simp [ivals]
section
variable {prog : Program} {w : World} {K : Frag} {p : Program} {f : Value} {d u : Nat} {vs : List Value} {news : Led} {post : Value → Led → Prop}
  {loose : List Str} {mean : ExcName → Option Value} {mg mb : Str → Option Value} {dp un : Nat} {gd : Option (List Code)} {cn : Str} {cs : Scope} {a : Addr} {ccd : Value} {cl : List (Str × Addr)} {outer : List Env} {A₀ : Around} {base h₀ : Heap} {L : Addr} {m : Str → Option Value} {s : Shared} {led rest : Led} {Q E : Value → Shared → Prop}
/-- a call by a contract, the ledger rearranged -/
theorem Does.at (D : Does prog w K p f d u vs news post) (B : Below A₀ base outer h₀) (F : Fr h₀ L s.heap m) (X : K.In h₀) (N : News h₀ L s.heap led) (T : Top p loose mean mg mb h₀) (G : AllBare s.gens) (dn : DN led) (hk : cs.kind = .function) (rest : Led) (hp : led.Perm (news ++ rest))
    (hd : dp + d < recursionLimit) (hu : un + u < cLine) (ret : ∀ v (s' : Shared) (news' : Led), Fr h₀ L s'.heap m → News h₀ L s'.heap (news' ++ rest) → AllBare s'.gens → s'.os = s.os → DN (news' ++ rest) → post v news' → Q v s') :
    wpAny (model prog w) (ktrTop dp un gd cn cs L a ccd cl outer) (call f vs) Q E s :=
  D.use B F X (News.perm N hp) T hk G (dn.perm hp) hd hu ret
/-- str(x) by the contract of __str__ -/
theorem Does.str {x C f' : Addr} {ox : Obj} {od : Option Obj} (D : Does prog w K p (.ref f') d u [.ref x] news post) (hpost : ∀ v nw, post v nw → ∃ y t, v = .str y t) (I : InstAt s.heap x ox C od) (hs : findIn K (.ref C) "__str__" = some (some (.ref f'))) (hf : isFn K (.ref f') = true)
    (B : Below A₀ base outer h₀) (F : Fr h₀ L s.heap m) (X : K.In h₀) (N : News h₀ L s.heap led) (T : Top p loose mean mg mb h₀) (G : AllBare s.gens) (dn : DN led) (hk : cs.kind = .function) (rest : Led) (hp : led.Perm (news ++ rest))
    (hd : dp + d < recursionLimit) (hu : un + 2 + u < cLine) (ret : ∀ y t (s' : Shared) (news' : Led), Fr h₀ L s'.heap m → News h₀ L s'.heap (news' ++ rest) → AllBare s'.gens → s'.os = s.os → DN (news' ++ rest) → post (.str y t) news' → Q (.str y t) s') :
    wpAny (model prog w) (ktrTop dp un gd cn cs L a ccd cl outer) (call (.type "str") [.ref x]) Q E s := by
  refine kso_call (show un + 1 + 1 < cLine by ktr_room) (X.keeps F.keep) I hs hf ?_
  show wpAny (model prog w) (ktrTop dp (un + 2) gd cn cs L a ccd cl outer) (call (.ref f') [.ref x]) (StrBack Q) E s
  refine D.use B F X (News.perm N hp) T hk G (dn.perm hp) hd hu fun v s' nw' F' N' G' ho D' hq => ?_
  obtain ⟨y, t, rfl⟩ := hpost _ _ hq
  exact ret y t s' nw' F' N' G' ho D' hq
/-- len(x) by the contract of __len__ -/
theorem Does.len {x C f' : Addr} {ox : Obj} {od : Option Obj} (D : Does prog w K p (.ref f') d u [.ref x] news post) (hpost : ∀ v nw, post v nw → ∃ n t, v = .int n t ∧ 0 ≤ n ∧ n < 2 ^ 63) (I : InstAt s.heap x ox C od) (hs : findIn K (.ref C) "__len__" = some (some (.ref f'))) (hf : isFn K (.ref f') = true)
    (B : Below A₀ base outer h₀) (F : Fr h₀ L s.heap m) (X : K.In h₀) (N : News h₀ L s.heap led) (T : Top p loose mean mg mb h₀) (G : AllBare s.gens) (dn : DN led) (hk : cs.kind = .function) (rest : Led) (hp : led.Perm (news ++ rest))
    (hd : dp + d < recursionLimit) (hu : un + 1 + u < cLine) (ret : ∀ n t t' (s' : Shared) (news' : Led), Fr h₀ L s'.heap m → News h₀ L s'.heap (news' ++ rest) → AllBare s'.gens → s'.os = s.os → DN (news' ++ rest) → post (.int n t') news' → Q (.int n t) s') :
    wpAny (model prog w) (ktrTop dp un gd cn cs L a ccd cl outer) (call (.builtin "len") [.ref x]) Q E s := by
  refine len_K F X I hs hf ?_
  show wpAny (model prog w) (ktrTop dp (un + 1) gd cn cs L a ccd cl outer) (call (.ref f') [.ref x]) (PySem.W.LenBack Q) E s
  refine D.use B F X (News.perm N hp) T hk G (dn.perm hp) hd hu fun v s' nw' F' N' G' ho D' hq => ?_
  obtain ⟨n, t, rfl, h0, h1⟩ := hpost _ _ hq
  exact ⟨⟨h0, h1⟩, ret n _ t { s' with toks := s'.toks + 1 } nw' F' N' G' ho D' hq⟩
end
theorem add_led {prog : Program} {w : World} {A : Around} {s : Shared} {E : Value → Shared → Prop} {Q : Value → Shared → Prop} {x y : Str} {a b : Nat} {t u : Tok} (hx : x.length ≤ a) (hy : y.length ≤ b) (hab : a + b ≤ 5000) (h : ∀ t' k, (x ++ y).length ≤ a + b → Q (.str (x ++ y) t') { s with toks := k }) :
    wpAny (model prog w) A (binaryOp .Add (.str x t) (.str y u)) Q E s := by
  exact SBL.add (hsz := by rw [sizeLine_eq]; ktr_room) fun t' k hb => h t' k (by ktr_room)
end Mine
end
section
open PySem PySem.W PyProof.Rows
namespace Mine
end Mine
end
section
namespace Mine
/-! ## law 1, plain: the root of a text (stutters of one to three signs mended) by a pile; lists have their top first -/
noncomputable def push (c : Nat) (s : List Nat) : List Nat := match s with
  | [] => [c]
  | a :: r => if a = c then s else match r with
    | b :: d :: r' => if b = c ∧ d = a then b :: d :: r' else (match r' with
      | e :: f :: _ => if d = c ∧ e = a ∧ f = b then d :: e :: f :: r'.drop 2 else c :: s
      | _ => c :: s)
    | _ => c :: s
/-- no stutter at the top -/
noncomputable def TopOk : List Nat → Prop
  | a :: b :: r => a ≠ b ∧ (match r with
    | c :: d :: r' => ¬ (a = c ∧ b = d) ∧ (match r' with
      | e :: f :: _ => ¬ (a = d ∧ b = e ∧ c = f)
      | _ => True)
    | _ => True)
  | _ => True
/-- no stutter anywhere -/
noncomputable def Ok : List Nat → Prop
  | [] => True
  | a :: r => TopOk (a :: r) ∧ Ok r
noncomputable def pushes (s l : List Nat) : List Nat := l.foldl (fun s c => push c s) s
/-- what the pile makes of a text, its top first -/
noncomputable def root (l : List Nat) : List Nat := pushes [] l
end Mine
end
section
namespace Mine
end Mine
end
section
namespace Mine
end Mine
end
section
set_option maxRecDepth 100000
namespace Mine
end Mine
end
section
namespace Mine
/-- a sign pushed, stutters of up to k signs tried at the top -/
noncomputable def ps (cs : List Nat) : Nat → List Nat
  | 0 => cs
  | k + 1 => if (cs.take (k + 1)).isPrefixOf (cs.drop (k + 1)) = true then (ps cs k).drop (k + 1) else ps cs k
end Mine
end
section
namespace Mine
/-! ## law 1, plain: the text as it is typed -/
end Mine
end
section
open PySem PySem.W PyProof.Rows
namespace Mine
/-! what _ellipsis_match answers -/
noncomputable def dots : Str := Str.ofString "..."
noncomputable def ellLoop (got : Str) (hi : Nat) : List Str → Nat → Bool
  | [], _ => true
  | w :: r, lo => match Builtin.Str.occurrences got w lo hi 1 with
    | [] => false
    | i :: _ => ellLoop got hi r (i + w.length)
noncomputable def ellGo (got : Str) (ws : List Str) (lo hi : Nat) : Bool := if lo > hi then false else ellLoop got hi ws lo
noncomputable def ellEnd (got : Str) (ini : List Str) (b : Str) (lo : Nat) : Bool :=
  if b.length ≠ 0 then (if Txt.endswith got b then ellGo got ini lo (got.length - b.length) else false) else ellGo got (ini ++ [b]) lo got.length
noncomputable def ellM (want got : Str) : Bool :=
  if Txt.contains want dots = false then want == got
  else match Txt.split want dots with
    | [] => false
    | a :: r => match r.getLast? with
      | none => false
      | some b => if a.length ≠ 0 then (if Txt.startswith got a then ellEnd got r.dropLast b a.length else false) else ellEnd got (a :: r.dropLast) b 0
theorem kind_dots (x : Str) : decide (Builtin.Str.strKind x < Builtin.Str.strKind dots) = false := by
  have h : Builtin.Str.strKind dots = 1 := by decide +kernel
  rw [h]
  unfold Builtin.Str.strKind
  split
  · simp
  · split <;> simp
theorem split_two {x : Str} (h : Txt.contains x dots = true) : 2 ≤ (Txt.split x dots).length := by
  obtain ⟨i, h1, h2⟩ := (StrLaws.found_iff x dots).mp h
  have hd : dots.length = 3 := by decide +kernel
  unfold Txt.split
  rw [kind_dots, Bool.or_false, if_neg (by simp; ktr_room)]
  rcases StrLaws.occ_first x dots x.length (x.length + 1) (by ktr_room) (List.range' 0 (x.length + 1 - 0)) 0 (fun _ _ => Nat.zero_le _) with ⟨_, hn⟩ | ⟨pre, a, post, _, h0, _, _⟩
  · exact absurd ⟨h1, h2⟩ (hn i (by simp [List.mem_range']; ktr_room))
  · have hne : ∃ c r, Builtin.Str.occurrences x dots 0 x.length (x.length + 1) = c :: r := by
      rw [StrLaws.occ_eq]
      generalize (forIn (List.range' 0 (x.length + 1 - 0)) ((#[] : Array Nat), 0) (StrLaws.occBody x dots x.length (x.length + 1))).run.fst = q at h0
      cases hq : q.toList with
      | nil => rw [← Array.getElem?_toList, hq] at h0; cases h0
      | cons c r => exact ⟨c, r, rfl⟩
    obtain ⟨c, r, hc⟩ := hne
    rw [hc, if_neg (by simp), StrLaws.partsBetween_eq]
    show 2 ≤ (StrLaws.partsFrom x dots.length 0 (c :: r)).length
    obtain ⟨p, q, hpq⟩ := StrLaws.partsFrom_ne x dots.length (c + dots.length) r
    show 2 ≤ (Builtin.Str.strSub x 0 c :: StrLaws.partsFrom x dots.length (c + dots.length) r).length
    rw [hpq]; simp
theorem parts_len (x : Str) (w : Nat) : ∀ (a : Nat) (cuts : List Nat), (StrLaws.partsFrom x w a cuts).length = cuts.length + 1
  | _, [] => rfl
  | a, c :: r => by
    show (Builtin.Str.strSub x a c :: StrLaws.partsFrom x w (c + w) r).length = _
    rw [List.length_cons, parts_len x w (c + w) r, List.length_cons]
theorem split_len (x y : Str) : (Txt.split x y).length ≤ x.length + 2 := by
  unfold Txt.split
  split
  · simp
  · split
    · simp
    · rw [StrLaws.partsBetween_eq, parts_len]
      have := StrLaws.occ_length_le x y 0 x.length (x.length + 1)
      ktr_room
theorem l_shape {x : Str} {l : List (Str × Tok)} (h : Txt.contains x dots = true) (e : l.map (·.1) = Txt.split x dots) : ∃ a ta mid b tb, l = (a, ta) :: (mid ++ [(b, tb)]) := by
  have h2 := split_two h
  rw [← e, List.length_map] at h2
  match l, h2 with
  | (a, ta) :: r, h2 =>
    have hr : r ≠ [] := by intro z; subst z; simp at h2
    exact ⟨a, ta, r.dropLast, (r.getLast hr).1, (r.getLast hr).2, by rw [show ((r.getLast hr).1, (r.getLast hr).2) = r.getLast hr from rfl, List.dropLast_concat_getLast hr]⟩
theorem occ_len {x y : Str} {lo hi lim i : Nat} {r : List Nat} (h : Builtin.Str.occurrences x y lo hi lim = i :: r) : lo ≤ i ∧ i + y.length ≤ hi := by
  rw [StrLaws.occ_eq] at h
  have c := StrLaws.occ_chainTo x y hi lim lo (List.range' lo (hi + 1 - lo)) (#[], lo) rfl
  rw [h] at c
  exact ⟨c.1, c.2.1.1⟩
theorem strVals_cons (p : Str × Tok) (l : List (Str × Tok)) : strValues (p :: l) = .str p.1 p.2 :: strValues l := rfl
theorem strVals_nil : strValues [] = [] := rfl
theorem strVals_app (l r : List (Str × Tok)) : strValues (l ++ r) = strValues l ++ strValues r := by simp [strValues]
theorem turn_at {rest : List (Str × Tok)} {i : Nat} {u : Value} (h : (strValues rest).toArray[i]? = some u) : ∃ (tw : Tok) (y : Str) (r' : List Str), u = .str y tw ∧ (rest.map (·.1)).drop i = y :: r' ∧ (rest.map (·.1)).drop (i + 1) = r' := by
  have h1 : (strValues rest)[i]? = some u := by simpa using h
  unfold strValues at h1
  rw [List.getElem?_map] at h1
  cases hq : rest[i]? with
  | none => rw [hq] at h1; cases h1
  | some p =>
    rw [hq] at h1
    have h2 : Value.str p.1 p.2 = u := by simpa using h1
    obtain ⟨hlt, hpe⟩ := List.getElem?_eq_some_iff.mp hq
    refine ⟨p.2, p.1, ((rest.map (·.1)).drop (i + 1)), h2.symm, ?_, rfl⟩
    rw [List.drop_eq_getElem_cons (by simpa using hlt)]
    simp [hpe]
/-! lists of signs -/
theorem str_ext {a b : Str} (h : a.cps.toList = b.cps.toList) : a = b := by
  cases a; cases b; simp at h; subst h; rfl
theorem len_list (x : Str) : x.cps.toList.length = x.length := by simp [Str.length]
/-- a slice's end, brought into the text -/
noncomputable def clip (n : Nat) (i : Option Int) (d : Nat) : Nat := match i with
  | none => d
  | some i => (max 0 (min (if i < 0 then i + n else i) n)).toNat
open Builtin Builtin.Str in
theorem slice_idx (l u : Option Int) (n : Nat) : strSliceIndices l u 1 n = (List.range (clip n u n - clip n l 0)).map (fun k => clip n l 0 + k) := by
  have key : ∀ a b : Int, 0 ≤ a → 0 ≤ b → sliceRange a b 1 = (List.range (b.toNat - a.toNat)).map (fun k => a.toNat + k) := by
    intro a b ha hb
    unfold sliceRange
    simp only [show ((1 : Int) > 0) = True from by simp, if_true]
    by_cases h : a < b
    · have e : ((b - a + 1 - 1) / 1).toNat = b.toNat - a.toNat := by ktr_room
      simp only [h, if_true, e]
      refine List.map_congr_left fun k _ => ?_
      ktr_room
    · have e : b.toNat - a.toNat = 0 := by ktr_room
      simp [h, e]
  unfold strSliceIndices
  simp only [show ((1 : Int) > 0) = True from by simp, if_true]
  cases l with
  | none =>
    cases u with
    | none => rw [key _ _ (by dsimp only; ktr_room) (by dsimp only; ktr_room)]; simp [clip]
    | some j => rw [key _ _ (by dsimp only; ktr_room) (by dsimp only; ktr_room)]; simp [clip]
  | some i =>
    cases u with
    | none => rw [key _ _ (by dsimp only; ktr_room) (by dsimp only; ktr_room)]; simp [clip]
    | some j => rw [key _ _ (by dsimp only; ktr_room) (by dsimp only; ktr_room)]; simp [clip]
theorem clip_le (n : Nat) (i : Option Int) (d : Nat) (h : d ≤ n) : clip n i d ≤ n := by
  unfold clip; cases i <;> simp <;> ktr_room
open Builtin Builtin.Str in
theorem slice_list (x : Str) (l u : Option Int) : (Txt.slice x l u).cps.toList = (x.cps.toList.take (clip x.length u x.length)).drop (clip x.length l 0) := by
  have hu := clip_le x.length u x.length (Nat.le_refl _)
  have hl := clip_le x.length l 0 (Nat.zero_le _)
  unfold Txt.slice
  rw [slice_idx]
  have hp : ((List.range (clip x.length u x.length - clip x.length l 0)).map (fun k => clip x.length l 0 + k)).filterMap (x.cps[·]?) = (x.cps.toList.drop (clip x.length l 0)).take (clip x.length u x.length - clip x.length l 0) := by
    by_cases h : clip x.length l 0 ≤ clip x.length u x.length
    · have := StrLaws.picks x.cps.toList (clip x.length u x.length - clip x.length l 0) (clip x.length l 0) (by rw [len_list]; ktr_room)
      simpa using this
    · rw [show clip x.length u x.length - clip x.length l 0 = 0 by ktr_room]; simp
  have ht : (x.cps.toList.drop (clip x.length l 0)).take (clip x.length u x.length - clip x.length l 0) = (x.cps.toList.take (clip x.length u x.length)).drop (clip x.length l 0) := by rw [List.drop_take]
  split
  · rename_i h
    have h' : clip x.length u x.length - clip x.length l 0 = x.length := by simpa using h
    have e1 : clip x.length l 0 = 0 := by ktr_room
    have e2 : clip x.length u x.length = x.cps.toList.length := by rw [len_list]; ktr_room
    rw [e1, e2, List.take_length, List.drop_zero]
  · show List.filterMap _ _ = _
    rw [← ht]; exact hp
/-- the reply's text, from behind the opening mark on -/
noncomputable def p257 : List Nat → List Nat
  | [] => []
  | c :: r => if c = 34 then (match r with
      | 34 :: r' => 34 :: p257 r'
      | _ => []) else c :: p257 r
noncomputable def parseM (resp : Str) : Str := if (resp.cps.toList.drop 3).take 2 = [32, 34] then ⟨(p257 (resp.cps.toList.drop 5)).toArray⟩ else Str.empty
theorem p257_mark_end {r : List Nat} (h : r.head? ≠ some 34) : p257 (34 :: r) = [] := by
  unfold p257
  rw [if_pos rfl]
  split
  · simp at h
  · rfl
theorem p257_mark {r : List Nat} : p257 (34 :: 34 :: r) = 34 :: p257 r := by
  conv => lhs; unfold p257
  rw [if_pos rfl]
  rfl
theorem p257_sign {c : Nat} {r : List Nat} (h : c ≠ 34) : p257 (c :: r) = c :: p257 r := by
  conv => lhs; unfold p257
  rw [if_neg h]
theorem at_sign {x : Str} {i : Nat} (h : i < x.length) : ∃ c, x.cps.toList.drop i = c :: x.cps.toList.drop (i + 1) ∧ Txt.item x (i : Int) = ⟨#[c]⟩ := by
  have hl : i < x.cps.toList.length := by rw [len_list]; exact h
  refine ⟨x.cps.toList[i], List.drop_eq_getElem_cons hl, ?_⟩
  rw [item_meets ⟨by ktr_room, by ktr_room⟩]
  have hs : i < x.cps.size := by simpa using hl
  simp [Array.getD, hs]
theorem mark_str : (Str.ofString "\"") = ⟨#[34]⟩ := by decide +kernel
theorem sign_eq {c d : Nat} : ((⟨#[c]⟩ : Str) == ⟨#[d]⟩) = decide (c = d) := by
  by_cases h : c = d
  · subst h; simp
  · rw [decide_eq_false h]; apply beq_eq_false_iff_ne.mpr; intro z; injection z with z; simp at z; exact h z
end Mine
end
section
open PySem PySem.W PyProof.Rows
namespace Mine
open Builtin.Str
/-! ## where "..." lies in a text -/
/-- the places taken, one after the other, none over another -/
noncomputable def scan (p : Nat → Bool) (w : Nat) : List Nat → Nat → Nat → List Nat
  | [], _, _ => []
  | a :: l, lim, free => if 0 < lim ∧ free ≤ a ∧ p a = true then a :: scan p w l (lim - 1) (a + w) else scan p w l lim free
noncomputable def atB (x y : Str) (hi i : Nat) : Bool := decide (i + y.length ≤ hi) && subAt x y i
theorem occ_scan (x y : Str) (hi limit : Nat) : ∀ (l : List Nat) (st : Array Nat × Nat), st.1.size ≤ limit →
    (forIn l st (StrLaws.occBody x y hi limit)).run.fst.toList = st.1.toList ++ scan (atB x y hi) y.length l (limit - st.1.size) st.2
  | [], st, _ => by simp [scan]
  | a :: l, st, hs => by
    rw [List.forIn_cons]
    unfold StrLaws.occBody
    by_cases hc : ((st.fst.size < limit ∧ st.snd ≤ a) ∧ a + y.length ≤ hi) ∧ subAt x y a = true
    · rw [if_pos hc]
      have ih := occ_scan x y hi limit l (st.fst.push a, a + y.length) (by simp; ktr_room)
      show (forIn l (st.fst.push a, a + y.length) (StrLaws.occBody x y hi limit)).run.fst.toList = _
      rw [ih]
      have h2 : atB x y hi a = true := by simp [atB, hc.1.2, hc.2]
      conv => rhs; unfold scan
      rw [if_pos ⟨by ktr_room, hc.1.1.2, h2⟩]
      simp [Nat.sub_add_eq]
    · rw [if_neg hc]
      have ih := occ_scan x y hi limit l st hs
      show (forIn l st (StrLaws.occBody x y hi limit)).run.fst.toList = _
      rw [ih]
      conv => rhs; unfold scan
      rw [if_neg]
      intro h
      refine hc ⟨⟨⟨by ktr_room, h.2.1⟩, ?_⟩, ?_⟩
      · have := h.2.2; simp [atB] at this; exact this.1
      · have := h.2.2; simp [atB] at this; exact this.2
theorem occ_eq_scan (x y : Str) (lo hi limit : Nat) : occurrences x y lo hi limit = scan (atB x y hi) y.length (List.range' lo (hi + 1 - lo)) limit lo := by
  rw [StrLaws.occ_eq, occ_scan x y hi limit _ _ (by simp)]
  simp
theorem scan_none {p : Nat → Bool} {w : Nat} : ∀ {l : List Nat} {lim free : Nat}, (∀ a ∈ l, free ≤ a → p a = false) → scan p w l lim free = []
  | [], _, _, _ => rfl
  | a :: l, lim, free, h => by
    unfold scan
    rw [if_neg (fun hc => by have := h a (.head _) hc.2.1; rw [hc.2.2] at this; cases this)]
    exact scan_none fun b hb => h b (.tail _ hb)
theorem scan_skip {p : Nat → Bool} {w : Nat} {r : List Nat} : ∀ {l : List Nat} {lim free : Nat}, (∀ a ∈ l, free ≤ a → p a = false) → scan p w (l ++ r) lim free = scan p w r lim free
  | [], _, _, _ => rfl
  | a :: l, lim, free, h => by
    show scan p w (a :: (l ++ r)) lim free = _
    conv => lhs; unfold scan
    rw [if_neg (fun hc => by have := h a (.head _) hc.2.1; rw [hc.2.2] at this; cases this)]
    exact scan_skip fun b hb => h b (.tail _ hb)
theorem scan_shift {p q : Nat → Bool} {w k : Nat} (h : ∀ a, p (a + k) = q a) : ∀ (l : List Nat) (lim free : Nat), scan p w (l.map (· + k)) lim (free + k) = (scan q w l lim free).map (· + k)
  | [], _, _ => rfl
  | a :: l, lim, free => by
    show scan p w ((a + k) :: l.map (· + k)) lim (free + k) = _
    unfold scan
    rw [h a]
    by_cases hc : 0 < lim ∧ free ≤ a ∧ q a = true
    · rw [if_pos hc, if_pos ⟨hc.1, by ktr_room, hc.2.2⟩, show a + k + w = (a + w) + k by ktr_room, scan_shift h l]
      rfl
    · rw [if_neg hc, if_neg (fun z => hc ⟨z.1, by ktr_room, z.2.2⟩), scan_shift h l]
/-- a limit that is large enough does not matter -/
theorem scan_lim {p : Nat → Bool} {w : Nat} : ∀ (l : List Nat) (lim lim' free : Nat), l.length ≤ lim → l.length ≤ lim' → scan p w l lim free = scan p w l lim' free
  | [], _, _, _, _, _ => rfl
  | a :: l, lim, lim', free, h1, h2 => by
    simp only [List.length_cons] at h1 h2
    unfold scan
    by_cases hc : free ≤ a ∧ p a = true
    · rw [if_pos ⟨by ktr_room, hc⟩, if_pos ⟨by ktr_room, hc⟩, scan_lim l (lim - 1) (lim' - 1) (a + w) (by ktr_room) (by ktr_room)]
    · rw [if_neg (fun z => hc z.2), if_neg (fun z => hc z.2), scan_lim l lim lim' free (by ktr_room) (by ktr_room)]
noncomputable abbrev L (x : Str) : List Nat := x.cps.toList
noncomputable def nodot (x : Str) : Prop := 46 ∉ L x
theorem dots_list : L dots = [46, 46, 46] := by decide +kernel
theorem dots_len : dots.length = 3 := by decide +kernel
theorem atB_iff {x : Str} {i : Nat} : atB x dots x.length i = true ↔ i + 3 ≤ x.length ∧ ((L x).drop i).take 3 = [46, 46, 46] := by
  unfold atB
  rw [StrLaws.subAt_eq, dots_len]
  show (_ && (((L x).drop i).take 3 == L dots)) = true ↔ _
  rw [dots_list]
  simp
noncomputable def places (x : Str) : List Nat := scan (atB x dots x.length) 3 (List.range' 0 (x.length + 1)) (x.length + 1) 0
theorem split_places (x : Str) : Txt.split x dots = StrLaws.partsFrom x 3 0 (places x) := by
  have ho : occurrences x dots 0 x.length (x.length + 1) = places x := by rw [occ_eq_scan, dots_len]; rfl
  have h1 : StrLaws.partsFrom x 3 0 [] = [x] := by
    show [strSub x 0 x.length] = [x]
    rw [StrLaws.sub_whole]
  unfold Txt.split
  rw [kind_dots, Bool.or_false, ho, dots_len]
  split
  · rename_i hlt
    have : places x = [] := scan_none fun a _ _ => by
      cases hq : atB x dots x.length a with
      | false => rfl
      | true => have := (atB_iff.mp hq).1; simp at hlt; ktr_room
    rw [this, h1]
  · split
    · rename_i he
      rw [List.isEmpty_iff.mp he, h1]
    · rw [StrLaws.partsBetween_eq]
theorem L_app (x y : Str) : L (x ++ y) = L x ++ L y := by simp [L, Str.cps_append]
theorem L_len (x : Str) : (L x).length = x.length := len_list x
theorem udv_len (u v : Str) : (u ++ dots ++ v).length = u.length + 3 + v.length := by
  rw [← L_len (u ++ dots ++ v), L_app, L_app, List.length_append, List.length_append, L_len, L_len, L_len, dots_len]
theorem at_head {u v : Str} (hu : nodot u) {i : Nat} (hi : i < u.length) : atB (u ++ dots ++ v) dots (u ++ dots ++ v).length i = false := by
  cases hq : atB (u ++ dots ++ v) dots (u ++ dots ++ v).length i with
  | false => rfl
  | true =>
    exfalso
    have h := (atB_iff.mp hq).2
    rw [L_app, L_app, List.append_assoc] at h
    have h0 := congrArg (fun l => l[0]?) h
    have hl : i < (L u).length := by rw [L_len]; exact hi
    simp [List.getElem?_append_left hl] at h0
    exact hu (List.mem_of_getElem? (show (L u)[i]? = some 46 by simpa [L] using h0))
theorem at_mid {u v : Str} : atB (u ++ dots ++ v) dots (u ++ dots ++ v).length u.length = true := by
  refine atB_iff.mpr ⟨?_, ?_⟩
  · rw [← L_len (u ++ dots ++ v), L_app, L_app, List.length_append, List.length_append, L_len, dots_list]
    simp
  · rw [L_app, L_app, List.append_assoc, ← L_len u, List.drop_left, dots_list]
    rfl
theorem at_tail {u v : Str} (i : Nat) : atB (u ++ dots ++ v) dots (u ++ dots ++ v).length (i + (u.length + 3)) = atB v dots v.length i := by
  have hn := udv_len u v
  have hd : (L (u ++ dots ++ v)).drop (i + (u.length + 3)) = (L v).drop i := by
    rw [L_app, List.drop_append, List.drop_of_length_le (by rw [L_app, List.length_append, L_len, dots_list]; simp), List.nil_append]
    congr 1
    rw [L_app, List.length_append, L_len, dots_list]
    simp
  rw [Bool.eq_iff_iff, atB_iff, atB_iff, hd, hn]
  constructor <;> rintro ⟨a, b⟩ <;> exact ⟨by ktr_room, b⟩
theorem places_cons {u v : Str} (hu : nodot u) : places (u ++ dots ++ v) = u.length :: (places v).map (· + (u.length + 3)) := by
  have hn := udv_len u v
  unfold places
  have hr : List.range' 0 ((u ++ dots ++ v).length + 1) = List.range' 0 u.length ++ (u.length :: ([u.length + 1, u.length + 2] ++ (List.range' 0 (v.length + 1)).map (· + (u.length + 3)))) := by
    rw [hn, show u.length + 3 + v.length + 1 = u.length + (3 + (v.length + 1)) by ktr_room, ← List.range'_append, ← List.range'_append (s := 0 + 1 * u.length) (m := 3)]
    congr 1
    have e : List.range' (0 + 1 * u.length + 1 * 3) (v.length + 1) = (List.range' 0 (v.length + 1)).map (· + (u.length + 3)) := by
      rw [show (fun x => x + (u.length + 3)) = ((u.length + 3) + ·) from funext fun x => Nat.add_comm _ _, List.map_add_range']
      congr 1
      ktr_room
    rw [e]
    simp [List.range']
  rw [hr, scan_skip (fun a ha _ => at_head hu (by simpa [List.mem_range'] using ha))]
  conv => lhs; unfold scan
  rw [if_pos ⟨by ktr_room, Nat.zero_le _, at_mid⟩]
  congr 1
  rw [scan_skip (fun a ha hf => by simp at ha; ktr_room)]
  have hsh := scan_shift (p := atB (u ++ dots ++ v) dots (u ++ dots ++ v).length) (q := atB v dots v.length) (w := 3) (k := u.length + 3) (fun a => at_tail a) (List.range' 0 (v.length + 1)) ((u ++ dots ++ v).length + 1 - 1) 0
  rw [Nat.zero_add] at hsh
  rw [hsh]
  congr 1
  refine scan_lim _ _ _ _ ?_ ?_
  · rw [List.length_range', hn]; ktr_room
  · rw [List.length_range']; ktr_room
theorem parts_shift {x v : Str} {k : Nat} (hk : (L x).drop k = L v) (hn : x.length = k + v.length) : ∀ (cs : List Nat) (a : Nat), StrLaws.partsFrom x 3 (a + k) (cs.map (· + k)) = StrLaws.partsFrom v 3 a cs
  | [], a => by
    show [strSub x (a + k) x.length] = [strSub v a v.length]
    congr 1
    refine str_ext ?_
    rw [StrLaws.strSub_toList, StrLaws.strSub_toList, hn]
    show ((L x).drop (a + k)).take _ = ((L v).drop a).take _
    rw [← hk, List.drop_drop, show k + a = a + k by ktr_room, show k + v.length - (a + k) = v.length - a by ktr_room]
  | c :: cs, a => by
    show strSub x (a + k) (c + k) :: StrLaws.partsFrom x 3 (c + k + 3) (cs.map (· + k)) = strSub v a c :: StrLaws.partsFrom v 3 (c + 3) cs
    rw [show c + k + 3 = (c + 3) + k by ktr_room, parts_shift hk hn cs (c + 3)]
    congr 1
    refine str_ext ?_
    rw [StrLaws.strSub_toList, StrLaws.strSub_toList]
    show ((L x).drop (a + k)).take _ = ((L v).drop a).take _
    rw [← hk, List.drop_drop, show k + a = a + k by ktr_room, show c + k - (a + k) = c - a by ktr_room]
theorem split_cons {u v : Str} (hu : nodot u) : Txt.split (u ++ dots ++ v) dots = u :: Txt.split v dots := by
  have hn := udv_len u v
  have hd : (L (u ++ dots ++ v)).drop (u.length + 3) = L v := by
    rw [L_app, List.drop_append, List.drop_of_length_le (by rw [L_app, List.length_append, L_len, dots_list]; simp), List.nil_append, L_app, List.length_append, L_len, dots_list]
    simp
  rw [split_places, split_places, places_cons hu]
  show strSub (u ++ dots ++ v) 0 u.length :: StrLaws.partsFrom (u ++ dots ++ v) 3 (u.length + 3) ((places v).map (· + (u.length + 3))) = _
  rw [show StrLaws.partsFrom (u ++ dots ++ v) 3 (u.length + 3) ((places v).map (· + (u.length + 3))) = StrLaws.partsFrom (u ++ dots ++ v) 3 (0 + (u.length + 3)) ((places v).map (· + (u.length + 3))) by rw [Nat.zero_add], parts_shift hd (by ktr_room)]
  congr 1
  refine str_ext ?_
  rw [StrLaws.strSub_toList, List.drop_zero, Nat.sub_zero]
  show (L (u ++ dots ++ v)).take u.length = L u
  rw [L_app, L_app, List.append_assoc, ← L_len u, List.take_left]
theorem split_one {u : Str} (hu : nodot u) : Txt.split u dots = [u] := by
  rw [split_places]
  have : places u = [] := scan_none fun a ha _ => by
    cases hq : atB u dots u.length a with
    | false => rfl
    | true =>
      exfalso
      have h0 := congrArg (fun l => l[0]?) (atB_iff.mp hq).2
      simp at h0
      exact hu (List.mem_of_getElem? (show (L u)[a]? = some 46 by simpa [L] using h0))
  rw [this]
  show [strSub u 0 u.length] = [u]
  rw [StrLaws.sub_whole]
theorem nodot_contains {u : Str} (hu : nodot u) : Txt.contains u dots = false := by
  cases h : Txt.contains u dots with
  | false => rfl
  | true => have := split_two h; rw [split_one hu] at this; simp at this
theorem dots_contains (u v : Str) : Txt.contains (u ++ dots ++ v) dots = true := by
  refine (StrLaws.found_iff _ _).mpr ⟨u.length, ?_⟩
  have h := at_mid (u := u) (v := v)
  simp only [atB, Bool.and_eq_true, decide_eq_true_eq] at h
  exact h
theorem nodot_nil : nodot Str.empty := by simp [nodot, L, Str.empty]
/-- one find: the first place -/
theorem scan_one {p : Nat → Bool} {w : Nat} : ∀ (l : List Nat) (free : Nat), (∀ a ∈ l, free ≤ a) → scan p w l 1 free = (l.find? p).toList
  | [], _, _ => rfl
  | a :: l, free, h => by
    unfold scan
    cases hp : p a with
    | true =>
      rw [if_pos ⟨by ktr_room, h a (.head _), rfl⟩, List.find?_cons, hp]
      have : ∀ (l : List Nat) (f : Nat), scan p w l 0 f = [] := fun l => by
        induction l with
        | nil => intro f; rfl
        | cons b l ih => intro f; unfold scan; rw [if_neg (by ktr_room)]; exact ih f
      rw [this]; rfl
    | false =>
      rw [if_neg (by simp), List.find?_cons, hp]
      exact scan_one l free fun b hb => h b (.tail _ hb)
theorem occ_one (x y : Str) (lo hi : Nat) : occurrences x y lo hi 1 = ((List.range' lo (hi + 1 - lo)).find? (atB x y hi)).toList := by
  rw [occ_eq_scan]
  exact scan_one _ _ fun a ha => by simp [List.mem_range'] at ha; ktr_room
theorem occ_nil {x : Str} {lo hi : Nat} (h : lo ≤ hi) : occurrences x Str.empty lo hi 1 = [lo] := by
  rw [occ_one, show hi + 1 - lo = (hi - lo) + 1 by ktr_room, List.range'_succ, List.find?_cons]
  have : atB x Str.empty hi lo = true := by
    unfold atB
    rw [StrLaws.subAt_eq]
    simp [Str.empty, Str.length, h]
  rw [this]; rfl
theorem ellM_plain {want : Str} (hw : nodot want) (got : Str) : ellM want got = (want == got) := by
  unfold ellM; rw [if_pos (nodot_contains hw)]
theorem str_nil_app (x : Str) : Str.empty ++ x = x := str_ext (by show L (Str.empty ++ x) = L x; rw [L_app]; rfl)
theorem str_app_nil (x : Str) : x ++ Str.empty = x := str_ext (by show L (x ++ Str.empty) = L x; rw [L_app]; simp [L, Str.empty])
theorem str_app_assoc (x y z : Str) : x ++ y ++ z = x ++ (y ++ z) := str_ext (by show L _ = L _; rw [L_app, L_app, L_app, L_app, List.append_assoc])
theorem starts_len {x y : Str} (h : Txt.startswith x y = true) : y.length ≤ x.length := by unfold Txt.startswith at h; simp at h; ktr_room
theorem starts_iff {x y : Str} : Txt.startswith x y = true ↔ L y <+: L x := by
  unfold Txt.startswith
  rw [StrLaws.subAt_eq, Bool.and_eq_true, decide_eq_true_eq, beq_iff_eq, List.drop_zero, ← L_len x, ← L_len y]
  show 0 + (L y).length ≤ (L x).length ∧ (L x).take (L y).length = L y ↔ _
  generalize L x = a
  generalize L y = b
  constructor
  · rintro ⟨_, e⟩; have h2 := List.take_append_drop b.length a; rw [e] at h2; exact ⟨_, h2⟩
  · rintro ⟨r, hr⟩; rw [← hr]; simp
theorem ends_iff {x y : Str} : Txt.endswith x y = true ↔ L y <:+ L x := by
  unfold Txt.endswith
  rw [StrLaws.subAt_eq, Bool.and_eq_true, decide_eq_true_eq, beq_iff_eq, ← L_len x, ← L_len y]
  show 0 + (L y).length ≤ (L x).length ∧ ((L x).drop ((L x).length - (L y).length)).take (L y).length = L y ↔ _
  generalize L x = a
  generalize L y = b
  constructor
  · rintro ⟨h, e⟩
    rw [List.take_of_length_le (by rw [List.length_drop]; ktr_room)] at e
    refine ⟨a.take (a.length - b.length), ?_⟩
    have h2 := List.take_append_drop (a.length - b.length) a
    rw [e] at h2
    exact h2
  · rintro ⟨r, hr⟩; rw [← hr]; simp
theorem ellM_ahead {u : Str} (hu : nodot u) (got : Str) : ellM (u ++ dots) got = Txt.startswith got u := by
  have hc : Txt.contains (u ++ dots) dots = true := by have := dots_contains u Str.empty; rwa [str_app_nil] at this
  have hs : Txt.split (u ++ dots) dots = [u, Str.empty] := by have := split_cons (v := Str.empty) hu; rw [str_app_nil, split_one nodot_nil] at this; exact this
  unfold ellM
  rw [hc, if_neg (by decide), hs]
  have he : Str.empty.length = 0 := rfl
  show (if u.length ≠ 0 then (if Txt.startswith got u then ellEnd got [] Str.empty u.length else false) else ellEnd got [u] Str.empty 0) = _
  by_cases hz : u.length = 0
  · have hu0 : u = Str.empty := str_ext (by have : (L u).length = 0 := by rw [L_len]; exact hz
                                            show L u = L Str.empty; rw [List.length_eq_zero_iff.mp this]; rfl)
    rw [if_neg (by ktr_room), hu0]
    have h1 : Txt.startswith got Str.empty = true := starts_iff.mpr ⟨L got, rfl⟩
    rw [h1]
    unfold ellEnd
    rw [he, if_neg (by ktr_room)]
    unfold ellGo
    rw [if_neg (by ktr_room)]
    show ellLoop got got.length [Str.empty, Str.empty] 0 = true
    unfold ellLoop
    rw [occ_nil (by ktr_room)]
    show ellLoop got got.length [Str.empty] (0 + 0) = true
    unfold ellLoop
    rw [occ_nil (by ktr_room)]
    rfl
  · rw [if_pos hz]
    cases hq : Txt.startswith got u with
    | false => simp
    | true =>
      have := starts_len hq
      rw [if_pos rfl]
      unfold ellEnd
      rw [he, if_neg (by ktr_room)]
      unfold ellGo
      rw [if_neg (by ktr_room)]
      show ellLoop got got.length [Str.empty] u.length = true
      unfold ellLoop
      rw [occ_nil (by ktr_room)]
      rfl
/-! ## whole texts with dots between their pieces -/
noncomputable def joinD : List Str → Str
  | [] => Str.empty
  | [p] => p
  | p :: q :: r => p ++ dots ++ joinD (q :: r)
noncomputable def catS : List Str → List Nat
  | [] => []
  | p :: r => L p ++ catS r
theorem split_join : ∀ ps : List Str, ps ≠ [] → (∀ p ∈ ps, nodot p) → Txt.split (joinD ps) dots = ps
  | [p], _, h => split_one (h p (.head _))
  | p :: q :: r, _, h => by
    show Txt.split (p ++ dots ++ joinD (q :: r)) dots = _
    rw [split_cons (h p (.head _)), split_join (q :: r) (by simp) fun x hx => h x (.tail _ hx)]
noncomputable def Fit (got : Str) (hi : Nat) : List Str → Nat → Prop
  | [], _ => True
  | w :: r, lo => ∃ i, lo ≤ i ∧ atB got w hi i = true ∧ Fit got hi r (i + w.length)
theorem Fit.mono {got : Str} {hi : Nat} : ∀ {ws : List Str} {lo lo' : Nat}, Fit got hi ws lo → lo' ≤ lo → Fit got hi ws lo'
  | [], _, _, _, _ => trivial
  | _ :: _, _, _, ⟨i, a, b, c⟩, h => ⟨i, Nat.le_trans h a, b, c⟩
theorem atB_le {got w : Str} {hi i : Nat} (h : atB got w hi i = true) : i + w.length ≤ hi := by simp [atB] at h; exact h.1
theorem ellLoop_iff {got : Str} {hi : Nat} : ∀ (ws : List Str) (lo : Nat), ellLoop got hi ws lo = true ↔ Fit got hi ws lo
  | [], _ => by simp [ellLoop, Fit]
  | w :: r, lo => by
    unfold ellLoop
    rw [occ_one]
    cases hq : (List.range' lo (hi + 1 - lo)).find? (atB got w hi) with
    | none =>
      simp only [Option.toList_none]
      refine ⟨fun h => (by cases h), fun ⟨i, a, b, _⟩ => ?_⟩
      have := List.find?_eq_none.mp hq i (by have := atB_le b; rw [List.mem_range'_1]; ktr_room)
      exact absurd b this
    | some i =>
      simp only [Option.toList_some]
      have h1 := List.find?_some hq
      have h2 := List.mem_of_find?_eq_some hq
      have h3 : lo ≤ i := (List.mem_range'_1.mp h2).1
      rw [ellLoop_iff r (i + w.length)]
      refine ⟨fun h => ⟨i, h3, h1, h⟩, fun ⟨j, a, b, c⟩ => c.mono ?_⟩
      have hj : i ≤ j := by
        refine Nat.le_of_not_lt fun hlt => ?_
        obtain ⟨_, as, bs, e, hall⟩ := List.find?_eq_some_iff_append.mp hq
        have hm : j ∈ as := by
          have hmem : j ∈ List.range' lo (hi + 1 - lo) := by have := atB_le b; rw [List.mem_range'_1]; ktr_room
          rw [e] at hmem
          rcases List.mem_append.mp hmem with h | h
          · exact h
          · exfalso
            have hs : (as ++ i :: bs).Pairwise (· < ·) := by rw [← e]; exact List.pairwise_lt_range'
            rcases List.mem_cons.mp h with rfl | h
            · ktr_room
            · have := (List.pairwise_append.mp hs).2.1
              have := (List.pairwise_cons.mp this).1 j h
              ktr_room
        have := hall j hm
        simp [b] at this
      ktr_room
theorem fit_len {got : Str} {hi : Nat} : ∀ {ws : List Str} {lo : Nat}, lo ≤ hi → Fit got hi ws lo → lo + (catS ws).length ≤ hi
  | [], _, h, _ => h
  | w :: r, lo, _, ⟨i, a, b, c⟩ => by
    have h1 := atB_le b
    have h2 := fit_len h1 c
    simp only [catS, List.length_append, L_len]
    ktr_room
theorem fit_cat {got : Str} {hi : Nat} (hh : hi ≤ got.length) : ∀ {ws : List Str} {lo : Nat} {rest : List Nat}, (L got).drop lo = catS ws ++ rest → lo + (catS ws).length ≤ hi → Fit got hi ws lo
  | [], _, _, _, _ => trivial
  | w :: r, lo, rest, h, hl => by
    simp only [catS, List.length_append, L_len] at hl
    refine ⟨lo, Nat.le_refl _, ?_, fit_cat hh (rest := rest) ?_ (by ktr_room)⟩
    · unfold atB
      rw [StrLaws.subAt_eq, Bool.and_eq_true, decide_eq_true_eq, beq_iff_eq]
      refine ⟨by ktr_room, ?_⟩
      show ((L got).drop lo).take w.length = L w
      rw [h]; simp [catS, ← L_len]
    · rw [← List.drop_drop, h]; simp [catS, ← L_len]
theorem joinD_contains (p q : Str) (r : List Str) : Txt.contains (joinD (p :: q :: r)) dots = true := dots_contains p (joinD (q :: r))
theorem catS_app : ∀ a b : List Str, catS (a ++ b) = catS a ++ catS b
  | [], _ => rfl
  | x :: a, b => by show L x ++ catS (a ++ b) = L x ++ catS a ++ catS b; rw [catS_app a b, List.append_assoc]
/-- what two pieces or more ask -/
theorem ellM_pieces {a b : Str} {mid : List Str} (h : ∀ p ∈ a :: (mid ++ [b]), nodot p) (got : Str) :
    ellM (joinD (a :: (mid ++ [b]))) got = (if a.length ≠ 0 then (if Txt.startswith got a then ellEnd got mid b a.length else false) else ellEnd got (a :: mid) b 0) := by
  have hs := split_join (a :: (mid ++ [b])) (by simp) h
  have hc : Txt.contains (joinD (a :: (mid ++ [b]))) dots = true := by
    cases mid with
    | nil => exact joinD_contains a b []
    | cons m r => exact joinD_contains a m (r ++ [b])
  unfold ellM
  rw [hc, if_neg (by decide), hs]
  simp [List.dropLast_concat]
theorem ellEnd_len {got b : Str} {ini : List Str} {lo : Nat} (hlo : lo ≤ got.length) (h : ellEnd got ini b lo = true) : lo + (catS ini).length + b.length ≤ got.length := by
  unfold ellEnd at h
  by_cases hb : b.length ≠ 0
  · rw [if_pos hb] at h
    cases hq : Txt.endswith got b with
    | false => rw [hq] at h; cases h
    | true =>
      rw [hq, if_pos rfl] at h
      unfold ellGo at h
      by_cases hl : lo > got.length - b.length
      · rw [if_pos hl] at h; cases h
      · rw [if_neg hl] at h
        have := fit_len (by ktr_room) ((ellLoop_iff _ _).mp h)
        have hbl : b.length ≤ got.length := by
          have := (ends_iff.mp hq).length_le
          rw [L_len, L_len] at this; exact this
        ktr_room
  · rw [if_neg hb] at h
    unfold ellGo at h
    rw [if_neg (by ktr_room)] at h
    have := fit_len hlo ((ellLoop_iff _ _).mp h)
    rw [catS_app, List.length_append] at this
    simp only [catS, List.append_nil, L_len] at this
    ktr_room
theorem ellEnd_cat {got b : Str} {ini : List Str} {lo : Nat} (hlo : lo ≤ got.length) (h : (L got).drop lo = catS ini ++ L b) : ellEnd got ini b lo = true := by
  have hl : got.length = lo + (catS ini).length + b.length := by
    have := congrArg List.length h
    rw [List.length_drop, L_len, List.length_append, L_len] at this
    ktr_room
  unfold ellEnd
  by_cases hb : b.length ≠ 0
  · rw [if_pos hb]
    have hq : Txt.endswith got b = true := ends_iff.mpr ⟨(L got).take lo ++ catS ini, by rw [List.append_assoc, ← h]; exact List.take_append_drop _ _⟩
    rw [hq, if_pos rfl]
    unfold ellGo
    rw [if_neg (by ktr_room)]
    exact (ellLoop_iff _ _).mpr (fit_cat (by ktr_room) (rest := L b) h (by ktr_room))
  · rw [if_neg hb]
    unfold ellGo
    rw [if_neg (by ktr_room)]
    refine (ellLoop_iff _ _).mpr (fit_cat (Nat.le_refl _) (rest := []) ?_ ?_)
    · rw [h, catS_app]; simp [catS]
    · rw [catS_app, List.length_append]; simp only [catS, List.append_nil, L_len]; ktr_room
/-- the text itself is taken -/
theorem ellM_whole {ps : List Str} (hne : ps ≠ []) (h : ∀ p ∈ ps, nodot p) {x : Str} (hx : L x = catS ps) : ellM (joinD ps) x = true := by
  match ps, hne with
  | [p], _ =>
    rw [show joinD [p] = p from rfl, ellM_plain (h p (.head _))]
    have : p = x := str_ext (by show L p = L x; rw [hx]; simp [catS])
    rw [this]; simp
  | a :: q :: r, _ =>
    obtain ⟨mid, b, e⟩ : ∃ mid b, q :: r = mid ++ [b] := ⟨(q :: r).dropLast, (q :: r).getLast (by simp), (List.dropLast_concat_getLast (by simp)).symm⟩
    rw [e] at h hx ⊢
    rw [ellM_pieces h]
    have hx' : L x = L a ++ (catS mid ++ L b) := by rw [hx]; show L a ++ catS (mid ++ [b]) = _; rw [catS_app]; simp [catS]
    by_cases ha : a.length ≠ 0
    · rw [if_pos ha]
      have hq : Txt.startswith x a = true := starts_iff.mpr ⟨_, hx'.symm⟩
      rw [hq, if_pos rfl]
      exact ellEnd_cat (starts_len hq) (by rw [hx', ← L_len a, List.drop_left])
    · rw [if_neg ha]
      exact ellEnd_cat (Nat.zero_le _) (by rw [List.drop_zero, hx']; simp [catS, List.append_assoc])
/-- no shorter text is -/
theorem ellM_short {ps : List Str} (hne : ps ≠ []) (h : ∀ p ∈ ps, nodot p) {y : Str} (hy : y.length < (catS ps).length) : ellM (joinD ps) y = false := by
  cases hm : ellM (joinD ps) y with
  | false => rfl
  | true =>
    exfalso
    match ps, hne with
    | [p], _ =>
      rw [show joinD [p] = p from rfl, ellM_plain (h p (.head _))] at hm
      have : p = y := by simpa using hm
      have h2 : (catS [p]).length = p.length := by show (L p ++ []).length = _; rw [List.append_nil, L_len]
      rw [h2, this] at hy
      exact Nat.lt_irrefl _ hy
    | a :: q :: r, _ =>
      obtain ⟨mid, b, e⟩ : ∃ mid b, q :: r = mid ++ [b] := ⟨(q :: r).dropLast, (q :: r).getLast (by simp), (List.dropLast_concat_getLast (by simp)).symm⟩
      rw [e] at h hy hm
      rw [ellM_pieces h] at hm
      have hl : (catS (a :: (mid ++ [b]))).length = a.length + (catS mid).length + b.length := by
        show (L a ++ catS (mid ++ [b])).length = _
        rw [catS_app]; simp only [catS, List.append_nil, List.length_append, L_len]; ktr_room
      by_cases ha : a.length ≠ 0
      · rw [if_pos ha] at hm
        cases hq : Txt.startswith y a with
        | false => rw [hq] at hm; cases hm
        | true =>
          rw [hq, if_pos rfl] at hm
          have := ellEnd_len (starts_len hq) hm
          ktr_room
      · rw [if_neg ha] at hm
        have := ellEnd_len (Nat.zero_le _) hm
        simp only [catS, List.length_append, L_len] at this
        ktr_room
end Mine
end
section
open PySem PySem.W PyProof.Rows
namespace Mine
/-! ## marks, doubled and told as one -/
noncomputable def dblL : List Nat → List Nat
  | [] => []
  | c :: r => if c = 34 then 34 :: 34 :: dblL r else c :: dblL r
theorem p257_dbl {tail : List Nat} (h : tail.head? ≠ some 34) : ∀ x : List Nat, p257 (dblL x ++ 34 :: tail) = x
  | [] => p257_mark_end h
  | c :: r => by
    by_cases hc : c = 34
    · subst hc
      show p257 (34 :: 34 :: (dblL r ++ 34 :: tail)) = _
      rw [p257_mark, p257_dbl h r]
    · have e : dblL (c :: r) = c :: dblL r := by show (if c = 34 then 34 :: 34 :: dblL r else c :: dblL r) = _; rw [if_neg hc]
      rw [e]
      show p257 (c :: (dblL r ++ 34 :: tail)) = _
      rw [p257_sign hc, p257_dbl h r]
/-- a reply whose text is doubled, one mark behind it -/
theorem parseM_dbl {resp x : Str} {tail : List Nat} (h : L resp = [50, 53, 55, 32, 34] ++ (dblL (L x) ++ 34 :: tail)) (ht : tail.head? ≠ some 34) : parseM resp = x := by
  unfold parseM
  rw [show resp.cps.toList = L resp from rfl, h]
  rw [if_pos (by rfl)]
  refine str_ext ?_
  show p257 (dblL (L x) ++ 34 :: tail) = L x
  exact p257_dbl ht _
theorem parseM_other {resp : Str} (h : ((L resp).drop 3).take 2 ≠ [32, 34]) : parseM resp = Str.empty := by
  unfold parseM; rw [if_neg h]
theorem dbl_eq : ∀ l : List Nat, StrLaws.dbl 34 l = dblL l
  | [] => rfl
  | c :: r => by
    show StrLaws.dbl 34 ([c] ++ r) = _
    rw [StrLaws.dbl_append, dbl_eq r]
    by_cases hc : c = 34
    · subst hc; rfl
    · have e : dblL (c :: r) = c :: dblL r := by show (if c = 34 then 34 :: 34 :: dblL r else c :: dblL r) = _; rw [if_neg hc]
      rw [e, StrLaws.dbl_free 34 [c] (by simpa using fun h => hc h.symm)]
      rfl
theorem replace_marks (x : Str) : L (Txt.replace x (Str.ofString "\"") (Str.ofString "\"\"")) = dblL (L x) := by
  have h := StrLaws.replace_double x 34
  rw [dbl_eq] at h
  exact h
end Mine
end
section
open PySem PySem.W PyProof.Rows
set_option maxRecDepth 100000
namespace Mine
/-! ## slices -/
theorem L_take (x : Str) (k : Nat) : L (Txt.slice x none (some (k : Int))) = (L x).take k := by
  show (Txt.slice x none (some (k : Int))).cps.toList = _
  rw [slice_list]
  have e : clip x.length (some (k : Int)) x.length = min k x.length := by simp only [clip]; ktr_room
  rw [e, show clip x.length none 0 = 0 from rfl, List.drop_zero]
  by_cases h : k ≤ x.length
  · rw [Nat.min_eq_left h]
  · rw [Nat.min_eq_right (by ktr_room), List.take_of_length_le (by rw [len_list]; exact Nat.le_refl _), List.take_of_length_le (by rw [L_len]; ktr_room)]
theorem L_drop (x : Str) (k : Nat) : L (Txt.slice x (some (k : Int)) none) = (L x).drop k := by
  show (Txt.slice x (some (k : Int)) none).cps.toList = _
  rw [slice_list]
  have e : clip x.length (some (k : Int)) 0 = min k x.length := by simp only [clip]; ktr_room
  rw [e, show clip x.length none x.length = x.length from rfl, List.take_of_length_le (by rw [len_list]; exact Nat.le_refl _)]
  by_cases h : k ≤ x.length
  · rw [Nat.min_eq_left h]
  · rw [Nat.min_eq_right (by ktr_room), List.drop_of_length_le (by rw [len_list]; exact Nat.le_refl _), List.drop_of_length_le (by rw [L_len]; ktr_room)]
theorem L_rev (x : Str) (u : Tok) : L (Txt.sliceBy x none none (-1, u)) = (L x).reverse := by
  show (Txt.sliceBy x none none (-1, u)).cps.toList = _
  rw [step_rev_list]
  apply List.ext_getElem
  · simp [L, Str.length]
  · intro i h1 h2
    simp at h1
    rw [List.getElem_map, List.getElem_range, List.getElem_reverse]
    simp only [L_len]
    have hx : x.length - 1 - i < x.cps.size := by unfold Str.length at *; ktr_room
    rw [Array.getD_eq_getD_getElem?, Array.getElem?_eq_getElem hx]
    simp [L]
theorem len_slice (x : Str) (a b : Option Int) : (Txt.slice x a b).length ≤ x.length := by
  rw [← L_len, ← L_len]
  show (Txt.slice x a b).cps.toList.length ≤ _
  rw [slice_list, List.length_drop, List.length_take]
  show _ ≤ x.cps.toList.length
  ktr_room
theorem le_slice {x : Str} {a b : Option Int} {n : Nat} (h : x.length ≤ n) : (Txt.slice x a b).length ≤ n := Nat.le_trans (len_slice x a b) h
theorem le_app {x y : Str} {a b n : Nat} (hx : x.length ≤ a) (hy : y.length ≤ b) (h : a + b ≤ n) : (x ++ y).length ≤ n := by rw [← L_len, L_app, List.length_append, L_len, L_len]; ktr_room
theorem len_dots : (Str.ofString "...").length ≤ 3 := by decide +kernel
theorem dots_eq : Str.ofString "..." = dots := rfl
end Mine
end
section
open PySem PySem.W PySem.Calls PyProof.Rows
set_option maxRecDepth 100000
namespace Mine
/-! ## lists of pieces compared -/
noncomputable def datP (l : List (Str × Str)) : PyData := .list (l.map fun p => .tuple [.str p.1, .str p.2])
noncomputable def fg (ts : List Pc) : List (Str × Str) := ts.map fun p => (p.f, p.g)
theorem readsAll_pcs {h : Heap} : ∀ ts : List Pc, (∀ p ∈ ts, h.get? p.T = some p.ent.2) → ∃ as, ReadsAll h (refs ts) ((fg ts).map fun p => .tuple [.str p.1, .str p.2]) as
  | [], _ => ⟨_, .nil⟩
  | p :: r, hp => by
    obtain ⟨as, ih⟩ := readsAll_pcs r fun q hq => hp q (.tail _ hq)
    exact ⟨_, .cons (reads_tuple_at (hp p (.head _)) rfl rfl (.cons (.str _ _) (.cons (.str _ _) .nil))) ih⟩
theorem reads_pcs {h : Heap} {D : Addr} {o : Obj} {n : Nat} {ts : List Pc} (hD : h.get? D = some o) (hc : o.cls = .type "list") (hd : o.data = .seq (refs ts).toArray n) (hp : ∀ p ∈ ts, h.get? p.T = some p.ent.2) : ∃ as, Reads h (.ref D) (datP (fg ts)) as := by
  obtain ⟨as, ha⟩ := readsAll_pcs ts hp
  exact ⟨_, reads_list_at hD hc hd (by simpa using ha)⟩
theorem eqvAll_pcs : ∀ a b : List (Str × Str), PyData.eqvAll (a.map fun p => .tuple [.str p.1, .str p.2]) (b.map fun p => .tuple [.str p.1, .str p.2]) = decide (a = b)
  | [], [] => by simp [PyData.eqvAll]
  | [], _ :: _ => by simp [PyData.eqvAll]
  | _ :: _, [] => by simp [PyData.eqvAll]
  | a :: r, b :: t => by
    simp only [List.map_cons, PyData.eqvAll, PyData.eqv, eqvAll_pcs r t, Bool.and_true]
    obtain ⟨a1, a2⟩ := a
    obtain ⟨b1, b2⟩ := b
    by_cases h1 : a1 = b1 <;> by_cases h2 : a2 = b2 <;> by_cases h3 : r = t <;> simp [h1, h2, h3]
theorem eqv_pcs (a b : List (Str × Str)) : PyData.eqv (datP a) (datP b) = decide (a = b) := by
  unfold datP
  rw [show PyData.eqv (.list (a.map fun p => .tuple [.str p.1, .str p.2])) (.list (b.map fun p => .tuple [.str p.1, .str p.2])) = PyData.eqvAll (a.map fun p => .tuple [.str p.1, .str p.2]) (b.map fun p => .tuple [.str p.1, .str p.2]) from by simp only [PyData.eqv]]
  exact eqvAll_pcs a b
theorem lay_pcs : ∀ a : List (Str × Str), (∀ p ∈ a, PySem.PyData.strOk p.1 = true ∧ PySem.PyData.strOk p.2 = true) → PyData.canLayAll0 (a.map fun p => .tuple [.str p.1, .str p.2]) = true ∧ PyData.depthAll (a.map fun p => .tuple [.str p.1, .str p.2]) ≤ 1
  | [], _ => by simp [PyData.canLayAll0, PyData.depthAll]
  | p :: r, h => by
    have ih := lay_pcs r fun q hq => h q (.tail _ hq)
    have hp := h p (.head _)
    refine ⟨?_, ?_⟩
    · simp only [List.map_cons, PyData.canLayAll0, PyData.canLay0, hp.1, hp.2, ih.1, Bool.and_true]
    · simp only [List.map_cons, PyData.depthAll, PyData.depth]
      ktr_room
theorem shaped_pcs (a : List (Str × Str)) (h : ∀ p ∈ a, PySem.PyData.strOk p.1 = true ∧ PySem.PyData.strOk p.2 = true) : PySem.SeqAt.shaped (datP a) = true := by
  have := lay_pcs a h
  unfold PySem.SeqAt.shaped datP
  simp only [PyData.canLay0, PyData.depth, this.1, Bool.true_and]
  exact decide_eq_true (by ktr_room)
section
variable {prog : Program} {w : World} {A : Around} {s : Shared} {E : Value → Shared → Prop} {Q : Value → Shared → Prop} {D1 D2 : Addr} {o1 o2 : Obj} {n1 n2 : Nat} {t1 t2 : List Pc}
theorem ne_pcs (h1 : s.heap.get? D1 = some o1) (c1 : o1.cls = .type "list") (d1 : o1.data = .seq (refs t1).toArray n1) (p1 : ∀ p ∈ t1, s.heap.get? p.T = some p.ent.2)
    (h2 : s.heap.get? D2 = some o2) (c2 : o2.cls = .type "list") (d2 : o2.data = .seq (refs t2).toArray n2) (p2 : ∀ p ∈ t2, s.heap.get? p.T = some p.ent.2)
    (s1 : ∀ p ∈ t1, PySem.PyData.strOk p.f = true ∧ PySem.PyData.strOk p.g = true) (s2 : ∀ p ∈ t2, PySem.PyData.strOk p.f = true ∧ PySem.PyData.strOk p.g = true) (hu : A.units + 64 < cLine) (h : Q (.bool (!decide (fg t1 = fg t2))) s) :
    wpAny (model prog w) A (compareOp .NotEq (.ref D1) (.ref D2)) Q E s := by
  obtain ⟨as, ra⟩ := reads_pcs h1 c1 d1 p1
  obtain ⟨bs, rb⟩ := reads_pcs h2 c2 d2 p2
  have sh : ∀ t : List Pc, (∀ p ∈ t, PySem.PyData.strOk p.f = true ∧ PySem.PyData.strOk p.g = true) → PySem.SeqAt.shaped (datP (fg t)) = true := fun t ht => shaped_pcs _ fun p hp => by
    obtain ⟨q, hq, rfl⟩ := List.mem_map.mp hp
    exact ht q hq
  exact ne_dataH ra rb (sh _ s1) (sh _ s2) hu (by rw [eqv_pcs]; exact h)
end
end Mine
end
section
open PySem PySem.W PyProof.Rows
set_option maxRecDepth 100000
namespace Mine
/-- signs that the law's texts are made of -/
noncomputable def Fine (x : Str) : Prop := ∀ c ∈ L x, c ≠ 46 ∧ c < 60000
theorem Fine.nodot {x : Str} (h : Fine x) : nodot x := fun hm => (h _ hm).1 rfl
theorem Fine.of {x y : Str} (hy : Fine y) (h : ∀ c ∈ L x, c ∈ L y) : Fine x := fun c hc => hy c (h c hc)
theorem Fine.ok {x : Str} (h : Fine x) : PySem.PyData.strOk x = true := by
  unfold PySem.PyData.strOk
  rw [Array.all_eq_true']
  intro c hc
  have := (h c (by simpa [L] using hc)).2
  exact decide_eq_true (by ktr_room)
end Mine
end
section
open PySem PySem.W PySem.Calls PyProof.Rows
namespace Mine
theorem len_flat : ∀ zs : List (Str × Tok), ((zs.map (·.1)).map (·.length)).sum = (zs.flatMap (fun z => L z.1)).length
  | [] => rfl
  | z :: r => by
    rw [List.map_cons, List.map_cons, List.sum_cons, List.flatMap_cons, List.length_append, len_flat r, L_len]
theorem joinOk_led {x : Str} {zs : List (Str × Tok)} (hx : x.length ≤ 16) (hw : (zs.flatMap (fun z => L z.1)).length + zs.length ≤ 1048576) : JoinOk x (zs.map (·.1)) = true :=
  joinOk_of_weight (by rw [len_flat, List.length_map]; exact hw) hx
section
variable {prog : Program} {w : World} {A : Around} {E : Value → Shared → Prop} {s : Shared} {x : Str} {t : Tok} {Q : Value → Shared → Prop} {D : Addr} {zs : List (Str × Tok)}
theorem join_led (hl : s.heap.IsList D (strValues zs).toArray) (hx : x.length ≤ 16) (hw : (zs.flatMap (fun z => L z.1)).length + zs.length ≤ 1048576)
    (h : ∀ t' k, Q (.str (Txt.join x (zs.map (·.1))) t') { s with toks := k }) : wpAny (model prog w) A (call (.builtin "str.join") [.str x t, .ref D]) Q E s :=
  SC.join hl rfl (joinOk_led hx hw) h
theorem L_join_empty : ∀ ys : List Str, L (Txt.join Str.empty ys) = ys.flatMap L := by
  intro l
  show L (Builtin.Str.glued Str.empty l) = _
  rw [StrLaws.glued_eq_join]
  induction l with
  | nil => rfl
  | cons x r ih =>
    cases r with
    | nil => simp [Str.join]
    | cons y r =>
      show L (x ++ Str.empty ++ Str.join Str.empty (y :: r)) = _
      rw [L_app, L_app, ih]
      show L x ++ [] ++ _ = _
      simp only [List.append_nil, List.flatMap_cons]
theorem join_led0 (hl : s.heap.IsList D (strValues zs).toArray) (hw : (zs.flatMap (fun z => L z.1)).length + zs.length ≤ 1048576)
    (h : ∀ y t' k, L y = zs.flatMap (fun z => L z.1) → Q (.str y t') { s with toks := k }) : wpAny (model prog w) A (call (.builtin "str.join") [.str (Str.ofString "") t, .ref D]) Q E s :=
  join_led hl (by decide +kernel) hw fun t' k => h _ _ _ (by
    rw [show Str.ofString "" = Str.empty by decide +kernel, L_join_empty, List.flatMap_map])
end
section
variable {prog : Program} {w : World} {K : Frag} {p : Program} {f : Value} {d u : Nat} {vs : List Value}
  {loose : List Str} {mean : ExcName → Option Value} {mg mb : Str → Option Value} {dp un : Nat} {gd : Option (List Code)} {cn : Str} {cs : Scope} {a : Addr} {ccd : Value} {cl : List (Str × Addr)} {outer : List Env} {A₀ : Around} {base h₀ : Heap} {L : Addr} {m : Str → Option Value} {s : Shared} {led : Led} {Q E : Value → Shared → Prop}
/-- a call that gives a value and leaves nothing behind -/
theorem Does.at2 {v0 : Value} (D : Does prog w K p f d u vs [] (fun v nw => v = v0 ∧ nw = [])) (B : Below A₀ base outer h₀) (F : Fr h₀ L s.heap m) (X : K.In h₀) (N : News h₀ L s.heap led) (T : Top p loose mean mg mb h₀) (G : AllBare s.gens) (dn : DN led) (hk : cs.kind = .function)
    (hd : dp + d < recursionLimit) (hu : un + u < cLine) (ret : ∀ (s' : Shared), Fr h₀ L s'.heap m → News h₀ L s'.heap led → AllBare s'.gens → s'.os = s.os → DN led → Q v0 s') :
    wpAny (model prog w) (ktrTop dp un gd cn cs L a ccd cl outer) (call f vs) Q E s :=
  D.at B F X N T G dn hk led (.refl _) hd hu fun v s' nw F' N' G' ho' D' h => by obtain ⟨rfl, rfl⟩ := h; exact ret s' F' N' G' ho' D'
end
end Mine
end
section
open PySem PySem.W PySem.Calls PyProof.Rows
set_option maxRecDepth 100000
namespace Mine
/-! ## lists of texts compared -/
noncomputable def datT (l : List Str) : PyData := .list (l.map fun x => .str x)
theorem readsAll_txts {h : Heap} : ∀ zs : List (Str × Tok), ∃ as, ReadsAll h (strValues zs) ((zs.map (·.1)).map fun x => .str x) as
  | [] => ⟨_, .nil⟩
  | p :: r => by
    obtain ⟨as, ih⟩ := readsAll_txts (h := h) r
    exact ⟨_, .cons (.str _ _) ih⟩
theorem reads_txts {h : Heap} {D : Addr} {o : Obj} {n : Nat} {zs : List (Str × Tok)} (hD : h.get? D = some o) (hc : o.cls = .type "list") (hd : o.data = .seq (strValues zs).toArray n) : ∃ as, Reads h (.ref D) (datT (zs.map (·.1))) as := by
  obtain ⟨as, ha⟩ := readsAll_txts (h := h) zs
  exact ⟨_, reads_list_at hD hc hd (by simpa using ha)⟩
theorem eqvAll_txts : ∀ a b : List Str, PyData.eqvAll (a.map fun x => .str x) (b.map fun x => .str x) = decide (a = b)
  | [], [] => by simp [PyData.eqvAll]
  | [], _ :: _ => by simp [PyData.eqvAll]
  | _ :: _, [] => by simp [PyData.eqvAll]
  | a :: r, b :: t => by
    simp only [List.map_cons, PyData.eqvAll, PyData.eqv, eqvAll_txts r t]
    by_cases h1 : a = b <;> by_cases h3 : r = t <;> simp [h1, h3]
theorem eqv_txts (a b : List Str) : PyData.eqv (datT a) (datT b) = decide (a = b) := by
  unfold datT
  rw [show PyData.eqv (.list (a.map fun x => .str x)) (.list (b.map fun x => .str x)) = PyData.eqvAll (a.map fun x => .str x) (b.map fun x => .str x) from by simp only [PyData.eqv]]
  exact eqvAll_txts a b
theorem lay_txts : ∀ a : List Str, (∀ x ∈ a, PySem.PyData.strOk x = true) → PyData.canLayAll0 (a.map fun x => .str x) = true ∧ PyData.depthAll (a.map fun x => .str x) ≤ 0
  | [], _ => by simp [PyData.canLayAll0, PyData.depthAll]
  | p :: r, h => by
    have ih := lay_txts r fun q hq => h q (.tail _ hq)
    have hp := h p (.head _)
    refine ⟨?_, ?_⟩
    · simp only [List.map_cons, PyData.canLayAll0, PyData.canLay0, hp, ih.1, Bool.and_true]
    · simp only [List.map_cons, PyData.depthAll, PyData.depth]
      ktr_room
theorem shaped_txts (a : List Str) (h : ∀ x ∈ a, PySem.PyData.strOk x = true) : PySem.SeqAt.shaped (datT a) = true := by
  have := lay_txts a h
  unfold PySem.SeqAt.shaped datT
  simp only [PyData.canLay0, PyData.depth, this.1, Bool.true_and]
  exact decide_eq_true (by ktr_room)
section
variable {prog : Program} {w : World} {A : Around} {s : Shared} {E : Value → Shared → Prop} {Q : Value → Shared → Prop} {D1 D2 : Addr} {o1 o2 : Obj} {n1 n2 : Nat} {a b : List (Str × Tok)}
theorem ne_txts (h1 : s.heap.get? D1 = some o1) (c1 : o1.cls = .type "list") (d1 : o1.data = .seq (strValues a).toArray n1)
    (h2 : s.heap.get? D2 = some o2) (c2 : o2.cls = .type "list") (d2 : o2.data = .seq (strValues b).toArray n2)
    (s1 : ∀ x ∈ a.map (·.1), PySem.PyData.strOk x = true) (s2 : ∀ x ∈ b.map (·.1), PySem.PyData.strOk x = true) (hu : A.units + 64 < cLine) (h : Q (.bool (!decide (a.map (·.1) = b.map (·.1)))) s) :
    wpAny (model prog w) A (compareOp .NotEq (.ref D1) (.ref D2)) Q E s := by
  obtain ⟨as, ra⟩ := reads_txts h1 c1 d1
  obtain ⟨bs, rb⟩ := reads_txts h2 c2 d2
  exact ne_dataH ra rb (shaped_txts _ s1) (shaped_txts _ s2) hu (by rw [eqv_txts]; exact h)
end
end Mine
end
section
open PySem PySem.W PySem.Calls PyProof.Rows
set_option maxRecDepth 100000
namespace Mine
mutual
noncomputable def plainD : PyData → Bool
  | .dict _ => false
  | .list xs => plainAll xs
  | .tuple xs => plainAll xs
  | _ => true
noncomputable def plainAll : List PyData → Bool
  | [] => true
  | x :: xs => plainD x && plainAll xs
end
mutual
theorem eqv_self : ∀ d : PyData, plainD d = true → PyData.eqv d d = true
  | .none, _ => by simp [PyData.eqv]
  | .bool b, _ => by simp [PyData.eqv]
  | .int b, _ => by simp [PyData.eqv]
  | .str b, _ => by simp [PyData.eqv]
  | .list xs, h => by
    rw [plainD] at h
    rw [PyData.eqv]
    exact eqvAll_self xs h
  | .tuple xs, h => by
    rw [plainD] at h
    rw [PyData.eqv]
    exact eqvAll_self xs h
  | .dict _, h => by rw [plainD] at h; cases h
theorem eqvAll_self : ∀ xs : List PyData, plainAll xs = true → PyData.eqvAll xs xs = true
  | [], _ => by simp [PyData.eqvAll]
  | x :: xs, h => by
    rw [plainAll, Bool.and_eq_true] at h
    rw [PyData.eqvAll, eqv_self x h.1, eqvAll_self xs h.2]
    rfl
end
section
variable {prog : Program} {w : World} {A : Around} {s : Shared} {E : Value → Shared → Prop} {Q : Value → Shared → Prop} {a b : Value} {d : PyData} {as bs : List Addr}
theorem ne_same (ra : Reads s.heap a d as) (rb : Reads s.heap b d bs) (hs : PySem.SeqAt.shaped d = true) (hd : plainD d = true) (hu : A.units + 64 < cLine) (h : Q (.bool false) s) : wpAny (model prog w) A (compareOp .NotEq a b) Q E s :=
  ne_dataH ra rb hs hs hu (by rw [eqv_self d hd]; exact h)
end
end Mine
end
section
open PySem PySem.W PySem.Calls PyProof.Rows
set_option maxRecDepth 100000
namespace Mine
/-- the law's own body from its statement k on: the script's list an old object, the ledger and the frame told by st -/
noncomputable def LawFrom (prog : Program) (w : World) (K : Frag) (f : Addr) (k : Nat) (Sl : Addr) (so : Obj) (tl ts : Addr) (d u : Nat) (st : Addr → (Str → Option Value) → Led → Prop) : Prop :=
  ∀ (oc : Value) (od : Option Addr) (osl : Array (Option Value)) (name qual : Str) (params : Arguments) (body : List Stmt) (scope : Scope) (dV kV doc pm : Value) (an : Option Addr) (cdv ct : Value),
    K.lookup f = some ⟨oc, od, .func (fnOf name qual params body scope dV kV doc pm an cdv ct), osl⟩ →
  ∀ (loose : List Str) (mean : ExcName → Option Value) (mg mb : Str → Option Value) (dp un : Nat) (gd : Option (List Code)) (A₀ : Around) (g : Heap) (L' fa : Addr) (ccd : Value) (m : Str → Option Value) (led : Led) (os : OsState) (s₁ : Shared) (Q : Flow → Shared → Prop) (E : Value → Shared → Prop),
    Below A₀ g [] g → K.In g → g.get? Sl = some so → Top topProg loose mean mg mb g → LoopSt g L' os s₁ m led → st L' m led → dp + d < recursionLimit → un + u < cLine →
    (∀ (s' : Shared) m' news' pl pl', Fr g L' s'.heap m' → News g L' s'.heap news' → (tl, tabO pl) ∈ news' → (ts, tabO pl') ∈ news' → AllBare s'.gens → s'.os = os → Q (.ret (.bool true)) s') →
    wpAny (model prog w) (ktrTop dp un gd qual scope L' fa ccd (cellsFrom (L' + 1) scope.names []) []) (execs (body.drop k) (envOfC qual scope L' fa ccd)) Q E s₁
theorem law_from {prog : Program} {w : World} {K : Frag} {f : Addr} {k : Nat} {Sl : Addr} {so : Obj} {tl ts : Addr} {d u : Nat} {st : Addr → (Str → Option Value) → Led → Prop} {oc : Value} {od : Option Addr} {osl : Array (Option Value)} {name qual : Str} {params : Arguments} {body : List Stmt} {scope : Scope} {dV kV doc pm : Value} {an : Option Addr} {cdv ct : Value}
    (ho : K.lookup f = some ⟨oc, od, .func (fnOf name qual params body scope dV kV doc pm an cdv ct), osl⟩)
    (h : ∀ (loose : List Str) (mean : ExcName → Option Value) (mg mb : Str → Option Value) (dp un : Nat) (gd : Option (List Code)) (A₀ : Around) (g : Heap) (L' fa : Addr) (ccd : Value) (m : Str → Option Value) (led : Led) (os : OsState) (s₁ : Shared) (Q : Flow → Shared → Prop) (E : Value → Shared → Prop),
    Below A₀ g [] g → K.In g → g.get? Sl = some so → Top topProg loose mean mg mb g → LoopSt g L' os s₁ m led → st L' m led → dp + d < recursionLimit → un + u < cLine →
    (∀ (s' : Shared) m' news' pl pl', Fr g L' s'.heap m' → News g L' s'.heap news' → (tl, tabO pl) ∈ news' → (ts, tabO pl') ∈ news' → AllBare s'.gens → s'.os = os → Q (.ret (.bool true)) s') →
    wpAny (model prog w) (ktrTop dp un gd qual scope L' fa ccd (cellsFrom (L' + 1) scope.names []) []) (execs (body.drop k) (envOfC qual scope L' fa ccd)) Q E s₁) : LawFrom prog w K f k Sl so tl ts d u st := by
  intro oc' od' osl' name' qual' params' body' scope' dV' kV' doc' pm' an' cdv' ct' ho'
  rw [ho] at ho'
  injection ho' with e
  injection e with e1 e2 e3 e4
  injection e3 with e5
  unfold fnOf at e5
  injection e5
  (rename FuncBody.stmts _ = FuncBody.stmts _ => eb2)
  injection eb2 with eb2
  subst_vars
  exact h
theorem LawFrom.go {prog : Program} {w : World} {K : Frag} {f : Addr} {k : Nat} {Sl : Addr} {so : Obj} {tl ts : Addr} {d u : Nat} {st : Addr → (Str → Option Value) → Led → Prop} {oc : Value} {od : Option Addr} {osl : Array (Option Value)} {name qual : Str} {params : Arguments} {body : List Stmt} {scope : Scope} {dV kV doc pm : Value} {an : Option Addr} {cdv ct : Value}
    {rest : List Stmt} {loose : List Str} {mean : ExcName → Option Value} {mg mb : Str → Option Value} {dp un : Nat} {gd : Option (List Code)} {A₀ : Around} {g : Heap} {L' fa : Addr} {ccd : Value} {m : Str → Option Value} {led : Led} {os : OsState} {s₁ : Shared} {Q : Flow → Shared → Prop} {E : Value → Shared → Prop}
    (H : LawFrom prog w K f k Sl so tl ts d u st) (ho : K.lookup f = some ⟨oc, od, .func (fnOf name qual params body scope dV kV doc pm an cdv ct), osl⟩) (hb : body.drop k = rest)
    (B : Below A₀ g [] g) (X : K.In g) (O : g.get? Sl = some so) (T : Top topProg loose mean mg mb g) (S : LoopSt g L' os s₁ m led) (hs : st L' m led) (hd : dp + d < recursionLimit) (hu : un + u < cLine)
    (hret : ∀ (s' : Shared) m' news' pl pl', Fr g L' s'.heap m' → News g L' s'.heap news' → (tl, tabO pl) ∈ news' → (ts, tabO pl') ∈ news' → AllBare s'.gens → s'.os = os → Q (.ret (.bool true)) s') :
    wpAny (model prog w) (ktrTop dp un gd qual scope L' fa ccd (cellsFrom (L' + 1) scope.names []) []) (execs rest (envOfC qual scope L' fa ccd)) Q E s₁ :=
  hb ▸ H oc od osl name qual params body scope dV kV doc pm an cdv ct ho loose mean mg mb dp un gd A₀ g L' fa ccd m led os s₁ Q E B X O T S hs hd hu hret
theorem law_post {M : Model} {A : Around} {cd : Code} {s s₁ : Shared} {cw : ClaimW} {cl : Str → Option Addr} {mean : ExcName → Option Value} {args : List WData} {tabs : List (Addr × Addr)} (hT : TabsAt tabs s₁.heap) (hr : ∀ x, cw.raises args x = false) (hp : cw.post args (.bool true) args = true)
    (h : codeAny M A cd (fun r s' => r = .ok (.ret (.bool true)) ∧ (∀ b o, (ghostOf s₁.heap tabs).get? b = some o → s'.heap.get? b = some o) ∧ s'.os = s₁.os ∧ AllBare s'.gens ∧ GrownAll tabs s'.heap) s) : codeAny M A cd (GoodWG cw cl mean args s₁) s :=
  codeAny_mono h fun r s' ⟨hc, hk, hos, hg, hgr⟩ => by
    have keep : ∀ b o, b ∉ tabs.map (·.2) → s₁.heap.get? b = some o → s'.heap.get? b = some o := fun b o hb e => hk b o (ghost_ne e hb)
    have grown : ∀ b o, b ∈ tabs.map (·.2) → s₁.heap.get? b = some o → isCodeTable s₁.heap b ∧ o = tabObj #[] ∧ ∃ ps, s'.heap.get? b = some (tabObj ps) := fun b o hb e => by
      obtain ⟨q, hq, rfl⟩ := List.mem_map.mp hb
      have e2 := (hT q hq).2
      rw [e] at e2
      exact ⟨((hT q hq).1.tab (hT q hq).2).isCodeTable, Option.some.inj e2, hgr.get q hq⟩
    refine ⟨.inl ⟨_, _, [], hc, hr, .bool true, hp, fun _ => ⟨.nil, fun a ha => nomatch ha⟩⟩, ⟨fun b o e => ?_, fun b o e => ?_⟩, hos, hg⟩
    · by_cases hb : b ∈ tabs.map (·.2)
      · obtain ⟨ht, rfl, ps, hP⟩ := grown b o hb e
        exact .inr (.inl ⟨ht, rfl, #[], ps, rfl, by rw [Array.empty_append]; exact hP⟩)
      · exact .inl (keep b o hb e)
    · by_cases hb : b ∈ tabs.map (·.2)
      · obtain ⟨_, _, ps, hP⟩ := grown b o hb e
        exact ⟨_, hP⟩
      · exact ⟨o, keep b o hb e⟩
theorem ints_of {vs : List Value} {ns : List Int} (h : IntsAre vs ns) : ∀ v ∈ vs, ∃ (k : Int) (t : Tok), v = .int k t := by
  induction h with
  | nil => intro v hv; cases hv
  | cons n t _ ih =>
    intro v hv
    rcases List.mem_cons.mp hv with h | h
    · exact ⟨n, t, h⟩
    · exact ih v h
theorem bool_post (r : RowW) (h1 : r.returns = .bool) (h2 : r.post = .eq .res (.lit (.bool true))) (args : List WData) : r.claim.post args (.bool true) args = true := by
  show (WShape.has r.records (.bool true) r.returns && r.post.holds r.records { args := args, res := some (.bool true), after := args }) = true
  rw [h1, h2]
  simp [WShape.has, WShape.arms, WTm.holds, WTm.value, PySem.W.same]
theorem sum_nat : ∀ l : List (Nat × Tok), (l.map (fun p : Nat × Tok => (p.1 : Int))).sum = (((l.map (·.1)).sum : Nat) : Int)
  | [] => rfl
  | k :: l => by rw [List.map_cons, List.map_cons, List.sum_cons, List.sum_cons, sum_nat l]; ktr_room
theorem sum_ivals {prog : Program} {w : World} {A : Around} {E : Value → Shared → Prop} {s : Shared} {h₀ : Heap} {L l : Addr} {m : Str → Option Value} {led : Led} {xs : List (Nat × Tok)} {n : Nat} {Q : Value → Shared → Prop} (hh : A.handled = none)
    (F : Fr h₀ L s.heap m) (N : News h₀ L s.heap led) (hm : (l, listOf (ivals xs).toArray n) ∈ led) (h : ∀ h' tk t', Fr h₀ L h' m → News h₀ L h' led → Q (.int (((xs.map (·.1)).sum : Nat) : Int) t') { s with heap := h', toks := tk }) :
    wpAny (model prog w) A (call (.builtin "sum") [.ref l]) Q E s := by
  have e : (ivals xs).toArray = intItems (xs.map fun p => ((p.1 : Int), p.2)).toArray := by simp [ivals, intItems]
  refine sum_intListG (xs := (xs.map fun p => ((p.1 : Int), p.2)).toArray) hh (e ▸ News.isList N hm) fun h' tk t' hk => ?_
  have e2 : preSum (numAt (xs.map fun p => ((p.1 : Int), p.2)).toArray) (xs.map fun p => ((p.1 : Int), p.2)).toArray.size = (((xs.map (·.1)).sum : Nat) : Int) := by
    rw [preSum_eq, List.take_of_length_le (by simp), ← sum_nat]
    simp only [List.map_map]
    rfl
  rw [e2]
  exact h h' tk t' (F.keeps hk) (N.grown hk)
end Mine
end
section
open PySem PySem.W PySem.Calls PyProof.Rows
set_option maxRecDepth 100000
set_option maxHeartbeats 8000000
namespace Mine
/-! ## a list comprehension whose name is a cell of its own block (an inner block reads it) -/
theorem newFE_cell {M : Model} {A : Around} {E : Value → Shared → Prop} {s : Shared} {scope : Scope} {globals : Addr} {cl : List (Str × Addr)} {qual : Str} {func : Option Addr} {code : Value} {outer : Env} {builtins : Addr} {Q : Env → Shared → Prop} {x : Str}
    (hc : ∀ n, cellsFrom n scope.names cl = (x, n) :: cl) (hp : ∀ h, pushCells h scope.names = h.push { cls := .type "cell", data := .cell none })
    (hQ : Q (newEnv scope s.heap.objs.size globals ((x, s.heap.objs.size + 1) :: cl) qual func code (some outer) builtins) { s with heap := (s.heap.push { cls := .type "dict", data := .dict #[] }).push { cls := .type "cell", data := .cell none } }) :
    wpAny M A (newFunctionEnv scope globals cl [] qual func code (some outer) builtins) Q E s := by
  simp only [newFunctionEnv, Option.isSome_some, if_true]
  refine wpAny_bind (wpAny_alloc ?_)
  refine wpAny_bind (wpAny_layCells _ (fun name kind cells => by cases kind == NameKind.cell <;> simp) _ _ _ _ ?_)
  rw [hc, hp, show ({ s with heap := s.heap.push { cls := .type "dict", data := .dict #[] } } : Shared).heap.objs.size = s.heap.objs.size + 1 from Heap.size_push ..]
  exact wpAny_bind (by rw [List.forIn_nil]; exact wpAny_pure (wpAny_pure hQ))
section
variable {prog : Program} {w : World} {A : Around} {s : Shared} {h₀ : Heap}
theorem up_ne {a b : Nat} (k : Nat) (h : a < b) : b + k ≠ a := by ktr_room
theorem up_ne0 (b k : Nat) : b + (k + 1) ≠ b := by ktr_room
/-- the own cell heads the ledger -/
inductive CellJ (X : Addr) (J : List Value → Led → Prop) (ys : List Value) (led : Led) : Prop
  | mk (oX : Obj) (n' : Led) : led = (X, oX) :: n' →
    (∃ v, oX.data = .cell v) →
    J ys n' → CellJ X J ys led
inductive BlockOblX (prog : Program) (w : World) (A : Around) (h₀ : Heap) (L : Addr) (m : Str → Option Value) (env : Env) (scope : Scope) (cl : List (Str × Addr)) (x : Str) (target : Expr) (ifs : List Expr) (body : Env → Value → Sem Unit) (Fin : OsState → Addr → List Value → Led → Shared → Prop) (v : Value) (s₁ : Shared) : Prop
  | mk (kp : List Addr) (keep : Led) (n : Nat) (P : Nat → Value → Prop) (news : Led) (J : Nat → List Value → Led → Prop) : SrcOf prog w v kp n P s₁ →
    (∀ b ∈ kp, b ∈ keep.map (·.1) ∨ h₀.get? b ≠ none) →
    LoopSt h₀ L s₁.os s₁ m (keep ++ news) →
    J 0 [] news →
    (∀ I o C X D oC oX m₂ i u ys news' s₂, P i u → i < n → J i ys news' → LCg.NsObj oC m₂ → (∃ v, oX.data = .cell v) → LoopSt h₀ L s₁.os s₂ m ((I, o) :: keep ++ (C, oC) :: (D, LCg.lst ys) :: (X, oX) :: news') → PlainIt o →
      wpAny (model prog w) A (letOwnedTupleGo target (.ref I) u) (fun _ s₂' => wpAny (model prog w) A (assign target (compEnvC scope ((x, X) :: cl) C env) u) (fun _ s₃ => wpAny (model prog w) A (compTests ifs (compEnvC scope ((x, X) :: cl) C env)) (fun ok s₄ =>
        if ok = true then wpAny (model prog w) A (body (compEnvC scope ((x, X) :: cl) C env) (.ref D)) (fun _ s₅ => TurnEnd h₀ L s₁.os m I o keep (BlockJ C D (fun _ => True) (CellJ X (J (i + 1)))) s₅) (fun _ _ => False) s₄
        else TurnEnd h₀ L s₁.os m I o keep (BlockJ C D (fun _ => True) (CellJ X (J (i + 1)))) s₄) (fun _ _ => False) s₃) (fun _ _ => False) s₂') (fun _ _ => False) s₂) →
    (∀ D ys news' s₂, J n ys news' → LoopSt h₀ L s₁.os s₂ m (keep ++ (D, LCg.lst ys) :: news') → Fin s₁.os D ys (keep ++ (D, LCg.lst ys) :: news') s₂) → BlockOblX prog w A h₀ L m env scope cl x target ifs body Fin v s₁
theorem block_oblX {elt : Expr} {gens : List Comprehension} {scope : Scope} {cl : List (Str × Addr)} {pos p : Pos} {env : Env} {x : Str} {target : Expr} {ifs : List Expr} {body : Env → Value → Sem Unit} {L : Addr} {m : Str → Option Value} {Fin : OsState → Addr → List Value → Led → Shared → Prop}
    {v : Value} {E : Value → Shared → Prop} {RR : Value → Addr → Result → Shared → Prop} (hh : A.handled = none)
    (hgens : ∃ target iter ifs rest, gens = ⟨target, iter, ifs, 0⟩ :: rest)
    (hturn : ∀ I C X D, turnIs elt gens scope pos p 0 (.ref I) (.ref D) (compEnvC scope ((x, X) :: cl) C env) target ifs (body (compEnvC scope ((x, X) :: cl) C env) (.ref D)))
    (hc : ∀ n, cellsFrom n scope.names cl = (x, n) :: cl) (hp : ∀ h, pushCells h scope.names = h.push { cls := .type "cell", data := .cell none })
    (ob : BlockOblX prog w A h₀ L m env scope cl x target ifs body Fin v s)
    (hRR : ∀ D C ys led s' m', Fin s.os D ys led s' → s'.heap.Ns C m' → h₀.get? C = none → C ≠ L → (∀ q ∈ led, q.1 ≠ C) → LoopSt h₀ L s.os s' m led → (∀ s'', LoopSt h₀ L s.os s'' m led → Fin s.os D ys led s'') → RR (.ref D) C (.ok .next) s') :
    wpAny (model prog w) A (pyIter v) (fun it s₂ => wpAny (model prog w) A (newList []) (fun acc s₃ => wpAny (model prog w) A (newFunctionEnv scope env.globals cl [] env.qual none .none (some env)) (fun cenv s₄ =>
      codeAny (model prog w) A (.compStart (.ListComp elt gens scope pos) 0 it acc { cenv with scope := relabel scope env }) (RR acc cenv.locals) s₄) E s₃) E s₂) E s := by
  obtain ⟨kp, keep, n, P, news, J, src, hkp, S, hJ, turn, done⟩ := ob
  refine src A _ _ hh fun o St hof W hst hlive => ?_
  refine wpAny_newObj_type (newFE_cell (x := x) hc hp ?_)
  dsimp only
  have hI0 : h₀.get? s.heap.objs.size = none := Heap.get?_none_of_le (Nat.le_trans S.fr.above (Nat.le_of_lt S.fr.ns.lt))
  generalize hH1 : s.heap.push o = H1 at hst ⊢
  have hD : H1.objs.size = s.heap.objs.size + 1 := by rw [← hH1, Heap.size_push]
  generalize hH2 : H1.push { cls := .type "list", dict := none, data := .seq ([] : List Value).toArray } = H2 at ⊢
  have hC : H2.objs.size = s.heap.objs.size + 2 := by rw [← hH2, Heap.size_push, hD]
  generalize hH3 : H2.push { cls := .type "dict", data := .dict #[] } = H3 at ⊢
  have hX : H3.objs.size = s.heap.objs.size + 3 := by rw [← hH3, Heap.size_push, hC]
  generalize hH4 : H3.push { cls := .type "cell", data := .cell none } = H4 at ⊢
  have k1 : ∀ b o, s.heap.get? b = some o → H1.get? b = some o := fun b o e => hH1 ▸ Heap.get?_push_of_some _ e
  have k2 : ∀ b o, H1.get? b = some o → H2.get? b = some o := fun b o e => hH2 ▸ Heap.get?_push_of_some _ e
  have k3 : ∀ b o, H2.get? b = some o → H3.get? b = some o := fun b o e => hH3 ▸ Heap.get?_push_of_some _ e
  have k4 : ∀ b o, H3.get? b = some o → H4.get? b = some o := fun b o e => hH4 ▸ Heap.get?_push_of_some _ e
  have old : ∀ b o, s.heap.get? b = some o → H4.get? b = some o := fun b o e => k4 b o (k3 b o (k2 b o (k1 b o e)))
  have hgD : H4.get? H1.objs.size = some (LCg.lst []) := k4 _ _ (k3 _ _ (hH2 ▸ Heap.get?_push_size _ rfl))
  have hns : H4.Ns H2.objs.size (fun _ => none) := (hH3 ▸ Heap.Ns.new H2 (.type "dict")).keeps fun b o e => k4 b o e
  have hgX : H4.get? (H2.objs.size + 1) = some { cls := .type "cell", data := .cell none } := by
    rw [show H2.objs.size + 1 = H3.objs.size by rw [hC, hX]]; exact hH4 ▸ Heap.get?_push_size _ rfl
  have hst₁ : St 0 H4 := (W A hh).frame _ _ _ hst fun b _ o e => k4 b o (k3 b o (k2 b o e))
  have fresh : ∀ a, s.heap.objs.size ≤ a → h₀.get? a = none := fun a ha => Heap.get?_none_of_le (Nat.le_trans S.fr.above (Nat.le_trans (Nat.le_of_lt S.fr.ns.lt) ha))
  have hLlt : L < s.heap.objs.size := S.fr.ns.lt
  obtain ⟨oC, hgC, hoC⟩ := LCg.ns_obj hns
  have hlt : ∀ q ∈ keep ++ news, q.1 < s.heap.objs.size := fun q hq => Heap.lt_size (S.nw q hq).1
  rw [hC] at hns hgC hgX ⊢
  rw [hD] at hgD ⊢
  have W' := W A hh
  generalize s.heap.objs.size = z at W' hst hlive hI0 hst₁ hgD hgC hgX hns fresh hLlt hlt ⊢
  have S₁ : LoopSt h₀ L s.os { s with heap := H4 } m (keep ++ (z + 2, oC) :: (z + 1, LCg.lst []) :: (z + 2 + 1, { cls := .type "cell", data := .cell none }) :: news) := by
    have led₁ : ∀ q ∈ keep ++ (z + 2, oC) :: (z + 1, LCg.lst []) :: (z + 2 + 1, ({ cls := .type "cell", data := .cell none } : Obj)) :: news, q = (z + 2, oC) ∨ q = (z + 1, LCg.lst []) ∨ q = (z + 2 + 1, { cls := .type "cell", data := .cell none }) ∨ q ∈ keep ++ news := fun q hq => by
      simp only [List.mem_append, List.mem_cons] at hq ⊢
      rcases hq with h | h | h | h | h
      · exact .inr (.inr (.inr (.inl h)))
      · exact .inl h
      · exact .inr (.inl h)
      · exact .inr (.inr (.inl h))
      · exact .inr (.inr (.inr (.inr h)))
    refine ⟨S.fr.keeps old, fun q hq => ?_, S.bare, rfl, ?_⟩
    · rcases led₁ q hq with rfl | rfl | rfl | h
      · exact ⟨hgC, up_ne 2 hLlt, fresh _ (Nat.le_add_right _ _)⟩
      · exact ⟨hgD, up_ne 1 hLlt, fresh _ (Nat.le_add_right _ _)⟩
      · exact ⟨hgX, up_ne 3 hLlt, fresh _ (show z ≤ z + 3 from Nat.le_add_right _ _)⟩
      · exact ⟨old _ _ (S.nw q h).1, (S.nw q h).2⟩
    · have d : DN ((z + 2 + 1, ({ cls := .type "cell", data := .cell none } : Obj)) :: (z + 2, oC) :: (z + 1, LCg.lst []) :: (keep ++ news)) := DN.cons_of (DN.cons_of (DN.cons_of S.dn fun q hq => Nat.lt_succ_of_lt (hlt q hq)) fun q hq => by
        rcases List.mem_cons.mp hq with rfl | hq
        · exact Nat.lt_succ_self _
        · exact Nat.lt_succ_of_lt (Nat.lt_succ_of_lt (hlt q hq))) fun q hq => by
        rcases List.mem_cons.mp hq with rfl | hq
        · exact Nat.lt_succ_self _
        · rcases List.mem_cons.mp hq with rfl | hq
          · exact Nat.lt_succ_of_lt (Nat.lt_succ_self _)
          · exact Nat.lt_succ_of_lt (Nat.lt_succ_of_lt (Nat.lt_succ_of_lt (hlt q hq)))
      refine DN.perm d (perm_of_cnt fun q => ?_)
      simp only [cnt_cons, cnt_app]
      ktr_room
  have hIn₁ : ∀ q ∈ keep ++ (z + 2, oC) :: (z + 1, LCg.lst []) :: (z + 2 + 1, ({ cls := .type "cell", data := .cell none } : Obj)) :: news, q.1 ≠ z := fun q hq => by
    simp only [List.mem_append, List.mem_cons] at hq
    rcases hq with h | rfl | rfl | rfl | h
    · exact Nat.ne_of_lt (hlt q (List.mem_append_left _ h))
    · exact up_ne0 z 1
    · exact up_ne0 z 0
    · exact up_ne0 z 2
    · exact Nat.ne_of_lt (hlt q (List.mem_append_right _ h))
  obtain ⟨tg, it0, if0, rst, rfl⟩ := hgens
  have loop : codeAny (model prog w) A (.compLoop (.ListComp elt (⟨tg, it0, if0, 0⟩ :: rst) scope pos) 0 (.ref z) (.ref (z + 1)) (compEnvC scope ((x, z + 2 + 1) :: cl) (z + 2) env)) (RR (.ref (z + 1)) (z + 2)) { s with heap := H4 } := by
    refine compLoop_obl (fun i led => BlockJ (z + 2) (z + 1) (fun _ => True) (CellJ (z + 2 + 1) (J i)) led) (hturn _ _ _ _) W' hst₁ hlive hkp (Nat.ne_of_gt hLlt) hI0 hIn₁ S₁ ⟨oC, _, [], _, rfl, hoC, trivial, _, news, rfl, ⟨_, rfl⟩, hJ⟩ ?_ ?_
    · rintro o' i u news' s₂ hP hi ⟨oC', m₃, ys, n', rfl, hC', _, oX, n2, rfl, hoX, hJ'⟩ S' hpl
      exact turn _ o' _ _ _ oC' oX m₃ i u ys n2 s₂ hP hi hJ' hC' hoX S' hpl
    · rintro news' s₂ ⟨oC', m₃, ys, n', rfl, hC', _, oX, n2, rfl, hoX, hJ'⟩ S'
      have hCm := S'.nw (z + 2, oC') (List.mem_append_right _ (.head _))
      have dn' := S'.dn
      have hnC : ∀ q ∈ keep ++ (z + 1, LCg.lst ys) :: n2, q.1 ≠ z + 2 := fun q hq e => by
        unfold DN at dn'
        rw [List.map_append, List.map_cons, List.nodup_append] at dn'
        rcases List.mem_append.mp hq with h | h
        · exact dn'.2.2 q.1 (List.mem_map.mpr ⟨q, h, rfl⟩) _ (.head _) e
        · refine (List.nodup_cons.mp dn'.2.1).1 ?_
          rcases List.mem_cons.mp h with rfl | h
          · exact absurd e (Nat.ne_of_lt (Nat.lt_succ_self _))
          · exact List.mem_map.mpr ⟨q, .tail _ (.tail _ h), e⟩
      have S₃ : ∀ s₃, LoopSt h₀ L s.os s₃ m (keep ++ (z + 2, oC') :: (z + 1, LCg.lst ys) :: (z + 2 + 1, oX) :: n2) → LoopSt h₀ L s.os s₃ m (keep ++ (z + 1, LCg.lst ys) :: n2) := fun s₃ T => by
        have pm : (keep ++ (z + 2, oC') :: (z + 1, LCg.lst ys) :: (z + 2 + 1, oX) :: n2).Perm ([(z + 2, oC'), (z + 2 + 1, oX)] ++ (keep ++ (z + 1, LCg.lst ys) :: n2)) := perm_of_cnt fun q => by simp only [cnt_cons, cnt_app, cnt_nil]; ktr_room
        exact ⟨T.fr, sub_nw T.nw ⟨_, pm⟩, T.bare, T.os, sub_dn T.dn ⟨_, pm⟩⟩
      exact hRR _ _ ys _ s₂ _ (done _ ys n2 s₂ hJ' (S₃ _ S')) (hC'.ns hCm.1) hCm.2.2 hCm.2.1 hnC (S₃ _ S') fun s'' h'' => done _ ys n2 s'' hJ' h''
  exact codeAny_compStart_list loop (W'.self 0 _ _ _ hst₁ loop)
theorem CompX_obl {elt : Expr} {target iter : Expr} {ifs : List Expr} {rest : List Comprehension} {scope : Scope} {cl : List (Str × Addr)} {pos p : Pos} {env : Env} {x : Str} {body : Env → Value → Sem Unit} {L : Addr} {m : Str → Option Value} {E : Value → Shared → Prop} {Q : Value → Shared → Prop} (_F : Fr h₀ L s.heap m) (hh : A.handled = none)
    (hclos : closureFor scope env = pure cl)
    (hturn : ∀ I C X D, turnIs elt (⟨target, iter, ifs, 0⟩ :: rest) scope pos p 0 (.ref I) (.ref D) (compEnvC scope ((x, X) :: cl) C env) target ifs (body (compEnvC scope ((x, X) :: cl) C env) (.ref D)))
    (h : wpAny (model prog w) A (eval iter env) (fun v s₁ => BlockOblX prog w A h₀ L m env scope cl x target ifs body (fun os D _ led _ => ∀ s'', LoopSt h₀ L os s'' m led → Q (.ref D) s'') v s₁) E s)
    (hc : ∀ n, cellsFrom n scope.names cl = (x, n) :: cl) (hp : ∀ h, pushCells h scope.names = h.push { cls := .type "cell", data := .cell none }) (hkind : scope.kind = .function) (hnames : ∀ y ∈ scope.names, y.2 = .local → scope.names.lookup y.1 = some .local)
    (hs : ∀ x, foldedSetIterable iter env x = pure x) :
    wpAny (model prog w) A (eval (.ListComp elt (⟨target, iter, ifs, 0⟩ :: rest) scope pos) env) Q E s := by
  rw [eval_ListComp]
  refine wpAny_comprehension_free (use := none) rfl hs hclos hkind hnames (wpAny_mono h (fun v s₁ ob => ?_) fun _ _ e => e)
  refine block_oblX hh ⟨_, _, _, _, rfl⟩ hturn hc hp ob fun D C ys led s' m' hf hn hC0 hCL hnC S _ => ?_
  exact ⟨m', hn, fun h' hs' => hf _ ⟨S.fr.change hs' hCL hC0, fun q hq => ⟨hs'.extBut _ _ (hnC q hq) (S.nw q hq).1, (S.nw q hq).2⟩, S.bare, S.os, S.dn⟩⟩
/-- the target is the block's own cell -/
theorem blk_cell {x : Str} {px : Pos} {scope : Scope} {cl : List (Str × Addr)} {C X : Addr} {env : Env} {u it : Value} {L : Addr} {os : OsState} {m : Str → Option Value} {pre tl : Led} {oX : Obj} {v₀ : Option Value} {Q' : Unit → Shared → Prop} {E' : Value → Shared → Prop}
    (hx : (compEnvC scope ((x, X) :: cl) C env).kindOf x = some .cell) (hk : scope.kind = .function) (hd : oX.data = .cell v₀) (S : LoopSt h₀ L os s m (pre ++ (X, oX) :: tl))
    (h : ∀ oX' s₃, oX'.data = .cell (some u) → LoopSt h₀ L os s₃ m (pre ++ (X, oX') :: tl) → Q' () s₃) :
    wpAny (model prog w) A (letOwnedTupleGo (.Name x px) it u) (fun _ s₂' => wpAny (model prog w) A (assign (.Name x px) (compEnvC scope ((x, X) :: cl) C env) u) Q' (fun _ _ => False) s₂') E' s := by
  refine wpAny_of_eq (show letOwnedTupleGo (.Name x px) it u = pure () from rfl) ?_
  have hm := S.nw (X, oX) (List.mem_append_right _ (.head _))
  refine wpAny_assign_Name (wpAny_storeName_cell (c := X) (by simp [compEnvC, relabel, hk]) hx (by simp [compEnvC]) ⟨oX, hm.1, hd⟩ fun h' hv hs' => ?_)
  obtain ⟨oX', hg, hd'⟩ := hv
  exact h oX' _ hd' (S.put hs' hg _)
end
end Mine
end
section
open PySem PySem.W PySem.Calls PyProof.Rows
set_option maxRecDepth 100000
namespace Mine
section
variable {prog : Program} {w : World} {A : Around} {E : Value → Shared → Prop} {s : Shared} {env : Env} {h₀ : Heap} {target iter : Expr} {body : List Stmt} {pos : Pos} {Q : Flow → Shared → Prop}
/-- what a for asks for whose target may be a cell: Md tells the ledger behind the store -/
inductive ForOblC (prog : Program) (w : World) (A : Around) (h₀ : Heap) (env : Env) (target : Expr) (body : List Stmt) (Q : Flow → Shared → Prop) (v : Value) (s₁ : Shared) : Prop
  | mk (kp : List Addr) (keep : Led) (n : Nat) (P : Nat → Value → Prop) (m : Str → Option Value) (news : Led) (J : Nat → (Str → Option Value) → Led → Prop) (Md : Nat → Value → (Str → Option Value) → Led → Prop) : SrcOf prog w v kp n P s₁ →
    (∀ b ∈ kp, b ∈ keep.map (·.1) ∨ h₀.get? b ≠ none) →
    LoopSt h₀ env.locals s₁.os s₁ m (keep ++ news) →
    J 0 m news →
    (∀ (I : Addr) (o : Obj) i u m' news' s₂ (Q' : Unit → Shared → Prop), P i u → i < n → J i m' news' → LoopSt h₀ env.locals s₁.os s₂ m' ((I, o) :: keep ++ news') → PlainIt o →
      (∀ s₃ m₃ news₃, LoopSt h₀ env.locals s₁.os s₃ m₃ ((I, o) :: keep ++ news₃) → Md i u m₃ news₃ → Q' () s₃) → wpAny (model prog w) A (letOwnedTupleGo target (.ref I) u) (fun _ s₂' => wpAny (model prog w) A (assign target env u) Q' (fun _ _ => False) s₂') (fun _ _ => False) s₂) →
    (∀ (I : Addr) (o : Obj) i u m' news' s₂, P i u → i < n → Md i u m' news' → LoopSt h₀ env.locals s₁.os s₂ m' ((I, o) :: keep ++ news') →
      wpAny (model prog w) A (execs body env) (TurnPost h₀ env.locals s₁.os ((I, o) :: keep) (J (i + 1)) Q) (fun _ _ => False) s₂) →
    (∀ m' news' s₂, J n m' news' → LoopSt h₀ env.locals s₁.os s₂ m' (keep ++ news') → Q .next s₂) → ForOblC prog w A h₀ env target body Q v s₁
theorem For_oblC (hh : A.handled = none) (h : wpAny (model prog w) A (eval iter env) (fun v s₁ => ForOblC prog w A h₀ env target body Q v s₁) E s)
    (hs : ∀ x, foldedSetIterable iter env x = pure x) : wpAny (model prog w) A (exec (.For target iter body [] pos) env) Q E s := by
  refine wpAny_For (wpAny_mono h (fun v s₁ ob => ?_) fun _ _ e => e) hs
  obtain ⟨kp, keep, n, P, m, news, J, Md, src, hkp, S, hJ, asg, turn, done⟩ := ob
  refine src A _ _ hh fun o St hof W hst hlive => ?_
  generalize hIe : s₁.heap.objs.size = I at W hst hlive
  have hIL : I ≠ env.locals := by rw [← hIe]; exact Nat.ne_of_gt S.fr.ns.lt
  have hI0 : h₀.get? I = none := Heap.get?_none_of_le (by rw [← hIe]; exact Nat.le_trans S.fr.above (Nat.le_of_lt S.fr.ns.lt))
  have hIn : ∀ q ∈ keep ++ news, q.1 ≠ I := fun q hq => by rw [← hIe]; exact Nat.ne_of_lt (Heap.lt_size (S.nw q hq).1)
  have S0 : LoopSt h₀ env.locals s₁.os { s₁ with heap := s₁.heap.push o } m (keep ++ news) := S.keeps (tk := s₁.toks) hIL hI0 hIn fun b o' _ e => Heap.get?_push_of_some _ e
  have W' := W A hh
  refine codeAny_forLoop_any (fun k s' => ∃ i m' news', i ≤ n ∧ k = n + 1 - i ∧ St i s'.heap ∧ LoopSt h₀ env.locals s₁.os s' m' (keep ++ news') ∧ (∀ q ∈ keep ++ news', q.1 ≠ I) ∧ J i m' news') ?_ (n + 1) ⟨0, m, news, Nat.zero_le _, rfl, hst, S0, hIn, hJ⟩
  rintro k s' ⟨i, m', news', hi, rfl, hst', S', hIn', hJ'⟩
  by_cases hlt : i < n
  · refine W'.item i _ _ _ hlt hst' fun u h₁ tk₁ hP hst₁ hk₁ => ?_
    have S₁ := S'.keeps (tk := tk₁) hIL hI0 hIn' (h' := h₁) fun b o' hb e => hk₁ b o' (by simpa using hb) e
    obtain ⟨oI, hoI, hpl⟩ := hlive _ _ hst₁
    have S₂ : LoopSt h₀ env.locals s₁.os { s' with heap := h₁, toks := tk₁ } m' ((I, oI) :: keep ++ news') := ⟨S₁.fr, fun q hq => by
        rcases List.mem_cons.mp hq with rfl | hq
        · exact ⟨hoI, hIL, hI0⟩
        · exact S₁.nw q hq, S₁.bare, S₁.os, List.nodup_cons.mpr ⟨fun hm => by obtain ⟨q, hq, e⟩ := List.mem_map.mp hm; exact hIn' q hq e, S₁.dn⟩⟩
    have frame : ∀ s₃ m₃ news₃, LoopSt h₀ env.locals s₁.os s₃ m₃ ((I, oI) :: keep ++ news₃) → St (i + 1) s₃.heap := fun s₃ m₃ news₃ S₃ => by
      refine W'.frame _ _ _ hst₁ fun b hb o' e => ?_
      rcases List.mem_cons.mp hb with rfl | hb
      · have e' : h₁.get? b = some o' := e
        rw [hoI] at e'; cases e'
        exact (S₃.nw _ (List.mem_append_left _ (.head _))).1
      · rcases hkp b hb with hm | hm
        · obtain ⟨q, hq, rfl⟩ := List.mem_map.mp hm
          have e1 := (S₂.nw q (List.mem_append_left _ (.tail _ hq))).1
          have e' : h₁.get? q.1 = some o' := e
          have e1' : h₁.get? q.1 = some q.2 := e1
          rw [e1'] at e'; cases e'
          exact (S₃.nw q (List.mem_append_left _ (.tail _ hq))).1
        · cases hq : h₀.get? b with
          | none => exact absurd hq hm
          | some o₀ =>
            have e1 : h₁.get? b = some o₀ := S₂.fr.keep b o₀ hq
            have e' : h₁.get? b = some o' := e
            rw [e1] at e'; cases e'
            exact S₃.fr.keep b _ hq
    have two := asg I oI i u m' news' _ (fun _ s₃ => wpAny (model prog w) A (execs body env) (fun f s₃ => match f with
          | .next | .cont => ∃ m, m < n + 1 - i ∧ ∃ i m' news', i ≤ n ∧ m = n + 1 - i ∧ St i s₃.heap ∧ LoopSt h₀ env.locals s₁.os s₃ m' (keep ++ news') ∧ (∀ q ∈ keep ++ news', q.1 ≠ I) ∧ J i m' news'
          | .brk => Q .next s₃
          | .ret v => Q (.ret v) s₃) (notedBy (model prog w) A env fun e s' => cameBackBy (model prog w) A env E e s') s₃) hP hlt hJ' S₂ hpl fun s₃ m₃ news₃ S₃ hM => ?_
    · exact wpAny_mono two (fun _ _ h => wpAny_mono h (fun _ _ h => h) fun _ _ h => h.elim) fun _ _ h => h.elim
    · refine wpAny_mono (turn I oI i u m₃ news₃ s₃ hP hlt hM S₃) (fun f s₄ hf => ?_) fun _ _ e => e.elim
      cases f with
      | ret r => exact hf
      | brk => exact hf
      | next =>
        obtain ⟨m₄, news₄, S₄, hJ₄⟩ := hf
        refine ⟨n + 1 - (i + 1), by ktr_room, i + 1, m₄, news₄, hlt, rfl, frame _ _ _ S₄, ⟨S₄.fr, fun q hq => S₄.nw q (.tail _ hq), S₄.bare, S₄.os, S₄.dn.tail⟩, S₄.dn.ne, hJ₄⟩
      | cont =>
        obtain ⟨m₄, news₄, S₄, hJ₄⟩ := hf
        refine ⟨n + 1 - (i + 1), by ktr_room, i + 1, m₄, news₄, hlt, rfl, frame _ _ _ S₄, ⟨S₄.fr, fun q hq => S₄.nw q (.tail _ hq), S₄.bare, S₄.os, S₄.dn.tail⟩, S₄.dn.ne, hJ₄⟩
  · have hin : i = n := by ktr_room
    subst hin
    refine W'.done _ _ _ hst' fun h₁ tk₁ hk₁ => wpAny_execs_nil ?_
    exact done m' news' _ hJ' (S'.keeps (tk := tk₁) hIL hI0 hIn' fun b o' hb e => hk₁ b o' (by simpa using hb) e)
end
end Mine
end
section
set_option maxRecDepth 100000
namespace Mine
/-! ## rows over words (law 2): Sardinas and Patterson, McMillan for three words, the defect theorem, the readings -/
noncomputable def wd (W : List (List Nat)) (k : Nat) : List Nat := W.getD k []
noncomputable def spell (W : List (List Nat)) : List Nat → List Nat
  | [] => []
  | k :: r => wd W k ++ spell W r
noncomputable def Row (W : List (List Nat)) (p : List Nat) : Prop := ∀ k ∈ p, k < W.length
noncomputable def UD (W : List (List Nat)) : Prop := ∀ p q, Row W p → Row W q → spell W p = spell W q → p = q
theorem spell_app (W : List (List Nat)) : ∀ p q, spell W (p ++ q) = spell W p ++ spell W q
  | [], q => rfl
  | k :: p, q => by simp [spell, spell_app W p q]
theorem spell_one (W : List (List Nat)) (k : Nat) : spell W [k] = wd W k := by simp [spell]
theorem Row.cons {W : List (List Nat)} {k : Nat} {p : List Nat} (h : Row W (k :: p)) : k < W.length ∧ Row W p := ⟨h k (.head _), fun x hx => h x (.tail _ hx)⟩
theorem Row.app {W : List (List Nat)} {p q : List Nat} (h : Row W p) (h' : Row W q) : Row W (p ++ q) := fun x hx => (List.mem_append.mp hx).elim (h x) (h' x)
theorem Row.one {W : List (List Nat)} {k : Nat} (h : k < W.length) : Row W [k] := fun x hx => by rw [List.mem_singleton.mp hx]; exact h
/-- rests that are closed: each rest of a word by a rest, or of a rest by a word, is a rest -/
structure Closed (W S : List (List Nat)) : Prop where
  ne : [] ∉ S
  st : ∀ i j, i < W.length → j < W.length → i ≠ j → (i < j ∨ wd W i ≠ wd W j) → wd W i <+: wd W j → (wd W j).drop (wd W i).length ∈ S
  up : ∀ r ∈ S, ∀ k < W.length, r <+: wd W k → (wd W k).drop r.length ∈ S
  dn : ∀ r ∈ S, ∀ k < W.length, ¬ r <+: wd W k → wd W k <+: r → r.drop (wd W k).length ∈ S
theorem Closed.core {W S : List (List Nat)} (C : Closed W S) : ∀ (n : Nat) (r p q : List Nat), r ∈ S → Row W p → Row W q → p.length + q.length ≤ n → spell W p = r ++ spell W q → False
  | n, r, [], q, hr, _, _, _, e => by
    have : r = [] := (List.append_eq_nil_iff.mp e.symm).1
    exact C.ne (this ▸ hr)
  | 0, r, k :: p, q, _, _, _, hn, _ => by simp at hn
  | n + 1, r, k :: p, q, hr, hp, hq, hn, e => by
    obtain ⟨hk, hp⟩ := hp.cons
    have hn : p.length + q.length ≤ n := by simp at hn; ktr_room
    rcases List.append_eq_append_iff.mp (show wd W k ++ spell W p = r ++ spell W q from e) with ⟨a, ha, hb⟩ | ⟨c, ha, hb⟩
    · by_cases h : r <+: wd W k
      · have hm := C.up r hr k hk h
        have e1 := h.length_le
        have : a = [] := by rw [ha, List.length_append] at e1; exact List.eq_nil_of_length_eq_zero (by ktr_room)
        rw [this, List.append_nil] at ha
        rw [ha, List.drop_length] at hm
        exact C.ne hm
      · have hm := C.dn r hr k hk h ⟨a, ha.symm⟩
        rw [ha, List.drop_left] at hm
        exact C.core n a p q hm hp hq hn hb
    · have hm := C.up r hr k hk ⟨c, ha.symm⟩
      rw [ha, List.drop_left] at hm
      exact C.core n c q p hm hq hp (by ktr_room) hb
theorem Closed.start {W S : List (List Nat)} (C : Closed W S) {i j : Nat} {a : List Nat} (hi : i < W.length) (hj : j < W.length) (hne : i ≠ j) (ha : wd W j = wd W i ++ a) : a ∈ S := by
  by_cases h : i < j ∨ wd W i ≠ wd W j
  · have := C.st i j hi hj hne h ⟨a, ha.symm⟩
    rwa [ha, List.drop_left] at this
  · have h2 : wd W i = wd W j := Decidable.byContradiction fun h2 => h (.inr h2)
    have h3 : ¬ i < j := fun h3 => h (.inl h3)
    have := C.st j i hj hi (Ne.symm hne) (.inl (by ktr_room)) (h2 ▸ List.prefix_rfl)
    rw [h2, List.drop_length] at this
    exact absurd this C.ne
theorem Closed.ud {W S : List (List Nat)} (C : Closed W S) (hW : ∀ k < W.length, wd W k ≠ []) : UD W
  | [], [], _, _, _ => rfl
  | [], k :: q, _, hq, e => absurd (List.append_eq_nil_iff.mp e.symm).1 (hW k hq.cons.1)
  | k :: p, [], hp, _, e => absurd (List.append_eq_nil_iff.mp e).1 (hW k hp.cons.1)
  | i :: p, j :: q, hp, hq, e => by
    obtain ⟨hi, hp⟩ := hp.cons
    obtain ⟨hj, hq⟩ := hq.cons
    by_cases hij : i = j
    · rw [← hij] at e
      rw [C.ud hW p q hp hq (List.append_cancel_left e), hij]
    · exfalso
      rcases List.append_eq_append_iff.mp (show wd W i ++ spell W p = wd W j ++ spell W q from e) with ⟨a, ha, hb⟩ | ⟨c, ha, hb⟩
      · exact C.core _ a p q (C.start hi hj hij ha) hp hq (Nat.le_refl _) hb
      · exact C.core _ c q p (C.start hj hi (Ne.symm hij) ha) hq hp (Nat.le_refl _) hb
/-! ## McMillan -/
theorem two_ones {W : List (List Nat)} (hu : UD W) {a b i j k : Nat} (hi : i < W.length) (hj : j < W.length) (hk : k < W.length) (hij : i ≠ j) (hik : k ≠ i) (hjk : k ≠ j) (hab : ∀ x < W.length, ∀ c ∈ wd W x, c = a ∨ c = b) (h1 : (wd W i).length = 1) (h2 : (wd W j).length = 1) : False := by
  obtain ⟨x, hx⟩ := List.length_eq_one_iff.mp h1
  obtain ⟨y, hy⟩ := List.length_eq_one_iff.mp h2
  by_cases hxy : x = y
  · have := hu [i] [j] (.one hi) (.one hj) (by rw [spell_one, spell_one, hx, hy, hxy])
    exact hij (by simpa using this)
  · have hxa := hab i hi x (by rw [hx]; exact .head _)
    have hya := hab j hj y (by rw [hy]; exact .head _)
    have hall : ∀ l : List Nat, (∀ c ∈ l, c = x ∨ c = y) → spell W (l.map fun c => if c = x then i else j) = l := by
      intro l
      induction l with
      | nil => intro _; rfl
      | cons c l ih =>
        intro h
        show wd W (if c = x then i else j) ++ spell W (l.map _) = _
        rw [ih fun c hc => h c (.tail _ hc)]
        rcases h c (.head _) with rfl | rfl
        · rw [if_pos rfl, hx]; rfl
        · rw [if_neg (Ne.symm hxy), hy]; rfl
    have hc : ∀ c ∈ wd W k, c = x ∨ c = y := fun c hc => by
      have := hab k hk c hc
      ktr_room
    have e := hu ((wd W k).map fun c => if c = x then i else j) [k] (fun z hz => by
      obtain ⟨c, _, rfl⟩ := List.mem_map.mp hz
      split
      · exact hi
      · exact hj) (.one hk) (by rw [hall _ hc, spell_one])
    have : k ∈ (wd W k).map fun c => if c = x then i else j := by rw [e]; exact .head _
    obtain ⟨c, _, hc2⟩ := List.mem_map.mp this
    split at hc2
    · exact hik hc2.symm
    · exact hjk hc2.symm
theorem pow_le {n : Nat} (h1 : 1 ≤ n) (h4 : n ≤ 4) : 2 ^ (4 - n) ≤ 8 ∧ (n ≠ 1 → 2 ^ (4 - n) ≤ 4) := by
  rcases (by ktr_room : n = 1 ∨ n = 2 ∨ n = 3 ∨ n = 4) with rfl | rfl | rfl | rfl <;> decide
theorem kraft {W : List (List Nat)} (h3 : W.length = 3) (hu : UD W) {a b : Nat} (hab : ∀ x < W.length, ∀ c ∈ wd W x, c = a ∨ c = b) (hl : ∀ x < W.length, 1 ≤ (wd W x).length ∧ (wd W x).length ≤ 4) :
    2 ^ (4 - (wd W 0).length) + 2 ^ (4 - (wd W 1).length) + 2 ^ (4 - (wd W 2).length) ≤ 16 := by
  have p0 := pow_le (hl 0 (by ktr_room)).1 (hl 0 (by ktr_room)).2
  have p1 := pow_le (hl 1 (by ktr_room)).1 (hl 1 (by ktr_room)).2
  have p2 := pow_le (hl 2 (by ktr_room)).1 (hl 2 (by ktr_room)).2
  have n01 : ¬ ((wd W 0).length = 1 ∧ (wd W 1).length = 1) := fun h => two_ones (k := 2) hu (by ktr_room) (by ktr_room) (by ktr_room) (by decide) (by decide) (by decide) hab h.1 h.2
  have n02 : ¬ ((wd W 0).length = 1 ∧ (wd W 2).length = 1) := fun h => two_ones (k := 1) hu (by ktr_room) (by ktr_room) (by ktr_room) (by decide) (by decide) (by decide) hab h.1 h.2
  have n12 : ¬ ((wd W 1).length = 1 ∧ (wd W 2).length = 1) := fun h => two_ones (k := 0) hu (by ktr_room) (by ktr_room) (by ktr_room) (by decide) (by decide) (by decide) hab h.1 h.2
  ktr_room
/-! ## the readings -/
/-- whether the row has been met, where the pile (top first) stands and word k is tried -/
noncomputable def found (row : List Nat) : List Nat → Nat → Bool
  | [], k => decide (row.getD 0 0 < k)
  | j :: rp, k => if (j :: rp).reverse = row then true else if (j :: rp).reverse.isPrefixOf row then decide (row.getD (rp.length + 1) 0 < k) else found row rp (j + 1)
theorem found_at {row rp r : List Nat} {c k : Nat} (h : row = rp.reverse ++ c :: r) : found row rp k = decide (c < k) := by
  cases rp with
  | nil => subst h; rfl
  | cons j rp =>
    unfold found
    rw [if_neg (fun e => by have := congrArg List.length (e.trans h); simp at this), if_pos (List.isPrefixOf_iff_prefix.mpr ⟨_, h.symm⟩)]
    have : row.getD (rp.length + 1) 0 = c := by rw [h]; simp
    rw [this]
theorem found_row {row rp : List Nat} {k : Nat} (h : rp.reverse = row) (hr : row ≠ []) : found row rp k = true := by
  cases rp with
  | nil => exact absurd h.symm hr
  | cons j rp => unfold found; rw [if_pos h]
theorem found_off {row rp : List Nat} {j k : Nat} (h : ¬ (j :: rp).reverse <+: row) : found row (j :: rp) k = found row rp (j + 1) := by
  show (if _ then _ else if _ then _ else _) = _
  rw [if_neg (fun e : (j :: rp).reverse = row => h (by rw [e]; exact List.prefix_rfl)), if_neg (fun e => h (List.isPrefixOf_iff_prefix.mp e))]
theorem pre_cases {row p : List Nat} (h : p <+: row) : p = row ∨ ∃ c r, row = p ++ c :: r := by
  obtain ⟨t, ht⟩ := h
  cases t with
  | nil => exact .inl (by rw [← ht, List.append_nil])
  | cons c r => exact .inr ⟨c, r, ht.symm⟩
theorem found_skip {row : List Nat} (hr : row ≠ []) : ∀ {rp : List Nat} {k : Nat}, ¬ (rp.reverse ++ [k]) <+: row → found row rp (k + 1) = found row rp k := by
  intro rp k h
  by_cases hp : rp.reverse <+: row
  · rcases pre_cases hp with e | ⟨c, r, e⟩
    · rw [found_row e hr, found_row e hr]
    · rw [found_at e, found_at e]
      have : c ≠ k := fun e2 => h ⟨r, by rw [e, e2]; simp⟩
      by_cases h2 : c < k
      · rw [decide_eq_true h2, decide_eq_true (by ktr_room)]
      · rw [decide_eq_false h2, decide_eq_false (by ktr_room)]
  · cases rp with
    | nil => exact absurd (List.nil_prefix) hp
    | cons j rp => rw [found_off hp, found_off hp]
theorem found_push {row : List Nat} (hr : row ≠ []) {rp : List Nat} {k : Nat} (hn : (k :: rp).reverse ≠ row) : found row (k :: rp) 0 = found row rp k := by
  by_cases h : (k :: rp).reverse <+: row
  · rcases pre_cases h with e | ⟨c, r, e⟩
    · exact absurd e hn
    · rw [found_at e, found_at (rp := rp) (c := k) (r := c :: r) (by rw [e]; simp)]
      simp
  · rw [found_off h, found_skip hr (by simpa using h)]
theorem found_new {row rp : List Nat} {k : Nat} (h : (k :: rp).reverse = row) : found row rp k = false := by
  rw [found_at (rp := rp) (c := k) (r := []) (by rw [← h]; simp)]
  simp
theorem found_pop {row : List Nat} (hr : row ≠ []) {n : Nat} (hn : ∀ x ∈ row, x < n) {rp : List Nat} {j : Nat} : found row (j :: rp) n = found row rp (j + 1) := by
  by_cases h : (j :: rp).reverse <+: row
  · rcases pre_cases h with e | ⟨c, r, e⟩
    · rw [found_row e hr, found_at (rp := rp) (c := j) (r := []) (by rw [← e]; simp)]
      simp
    · rw [found_at e, found_at (rp := rp) (c := j) (r := c :: r) (by rw [e]; simp)]
      have : c < n := hn c (by rw [e]; simp)
      simp [this]
  · exact found_off h
theorem found_end {row : List Nat} (hr : row ≠ []) {n : Nat} (hn : ∀ x ∈ row, x < n) : found row [] n = true := by
  cases row with
  | nil => exact absurd rfl hr
  | cons c r => exact decide_eq_true (hn c (.head _))
/-- how many turns are left at most -/
noncomputable def stepsA (n : Nat) : Nat → Nat
  | 0 => 1
  | f + 1 => 1 + n * (1 + stepsA n f)
noncomputable def remR (n F : Nat) : List Nat → Nat → Nat
  | [], k => 1 + (n - k) * (1 + stepsA n F)
  | j :: rp, k => 1 + (n - k) * (1 + stepsA n (F - (rp.length + 1))) + remR n F rp (j + 1)
noncomputable def upR (n F : Nat) : List Nat → Nat
  | [] => 0
  | j :: rp => remR n F rp (j + 1)
theorem rem_eq (n F : Nat) (rp : List Nat) (k : Nat) : remR n F rp k = 1 + (n - k) * (1 + stepsA n (F - rp.length)) + upR n F rp := by cases rp <;> rfl
theorem rem_skip {n F k : Nat} {rp : List Nat} (h : k < n) : remR n F rp (k + 1) < remR n F rp k := by
  rw [rem_eq, rem_eq, show n - k = (n - (k + 1)) + 1 by ktr_room, Nat.succ_mul]
  ktr_room
theorem rem_push {n F k : Nat} {rp : List Nat} (h : k < n) (hF : rp.length < F) : remR n F (k :: rp) 0 < remR n F rp k := by
  show 1 + (n - 0) * (1 + stepsA n (F - (rp.length + 1))) + remR n F rp (k + 1) < _
  rw [rem_eq n F rp (k + 1), rem_eq n F rp k, show n - k = (n - (k + 1)) + 1 by ktr_room, Nat.succ_mul, show F - rp.length = (F - (rp.length + 1)) + 1 by ktr_room]
  simp only [stepsA, Nat.sub_zero]
  ktr_room
theorem rem_pop {n F j : Nat} {rp : List Nat} : remR n F rp (j + 1) < remR n F (j :: rp) n := by
  show _ < 1 + _ + remR n F rp (j + 1)
  ktr_room
end Mine
end
section
set_option maxRecDepth 100000
namespace Mine
/-! ## the makers: while a word begins another, the rest takes that one's place -/
noncomputable def UDs (L : List (List Nat)) : Prop := ∀ p q : List (List Nat), (∀ x ∈ p, x ∈ L) → (∀ x ∈ q, x ∈ L) → p.flatten = q.flatten → p = q
noncomputable def Star (L : List (List Nat)) (w : List Nat) : Prop := ∃ ps : List (List Nat), (∀ x ∈ ps, x ∈ L) ∧ ps.flatten = w
/-- a word cut into the one that begins it and the rest -/
noncomputable def cutW (one other rest : List Nat) (p : List (List Nat)) : List (List Nat) := p.flatMap fun x => if x = other then [one, rest] else [x]
theorem cutW_cons (one other rest x : List Nat) (p : List (List Nat)) : cutW one other rest (x :: p) = (if x = other then [one, rest] else [x]) ++ cutW one other rest p := by simp [cutW]
theorem cutW_flat {one other rest : List Nat} (he : other = one ++ rest) : ∀ p, (cutW one other rest p).flatten = p.flatten
  | [] => rfl
  | x :: p => by
    rw [cutW_cons, List.flatten_append, cutW_flat he p, List.flatten_cons]
    congr 1
    split
    · rename_i h; rw [h, he]; simp
    · simp
theorem cutW_mem {one other rest : List Nat} {L L' : List (List Nat)} (ho : one ∈ L') (hr : rest ∈ L') (hL : ∀ x ∈ L, x ≠ other → x ∈ L') {p : List (List Nat)} (hp : ∀ x ∈ p, x ∈ L) : ∀ x ∈ cutW one other rest p, x ∈ L' := by
  intro x hx
  obtain ⟨y, hy, hxy⟩ := List.mem_flatMap.mp hx
  split at hxy
  · rcases List.mem_cons.mp hxy with rfl | h
    · exact ho
    · rw [List.mem_singleton.mp h]; exact hr
  · rename_i h
    rw [List.mem_singleton.mp hxy]
    exact hL y (hp y hy) h
theorem star_cut {one other rest w : List Nat} {L L' : List (List Nat)} (he : other = one ++ rest) (ho : one ∈ L') (hr : rest ∈ L') (hL : ∀ x ∈ L, x ≠ other → x ∈ L') (h : Star L w) : Star L' w := by
  obtain ⟨ps, hp, hf⟩ := h
  exact ⟨cutW one other rest ps, cutW_mem ho hr hL hp, (cutW_flat he ps).trans hf⟩
theorem cutW_inj {one other rest : List Nat} {L : List (List Nat)} (hn : ∀ x ∈ L, x ≠ other → x ≠ rest) (ho : one ∈ L) (hne : one ≠ other) : ∀ p q : List (List Nat), (∀ x ∈ p, x ∈ L) → (∀ x ∈ q, x ∈ L) → cutW one other rest p = cutW one other rest q → p = q
  | [], [], _, _, _ => rfl
  | [], y :: q, _, _, e => by rw [cutW_cons] at e; split at e <;> simp [cutW] at e
  | x :: p, [], _, _, e => by rw [cutW_cons] at e; split at e <;> simp [cutW] at e
  | x :: p, y :: q, hp, hq, e => by
    have hp' := fun z hz => hp z (.tail _ hz)
    have hq' := fun z hz => hq z (.tail _ hz)
    -- a word that is not cut is never followed by the rest
    have key : ∀ z : List Nat, ∀ a b : List (List Nat), z ≠ other → (∀ u ∈ b, u ∈ L) → [one, rest] ++ a = [z] ++ cutW one other rest b → False := by
      intro z a b hz hb e
      simp only [List.cons_append, List.nil_append, List.cons.injEq] at e
      obtain ⟨_, e⟩ := e
      cases b with
      | nil => simp [cutW] at e
      | cons u b =>
        rw [cutW_cons] at e
        split at e
        · simp only [List.cons_append, List.nil_append, List.cons.injEq] at e
          exact hn one ho hne e.1.symm
        · rename_i hu
          simp only [List.cons_append, List.nil_append, List.cons.injEq] at e
          exact hn u (hb u (.head _)) hu e.1.symm
    rw [cutW_cons, cutW_cons] at e
    by_cases hx : x = other
    · by_cases hy : y = other
      · rw [if_pos hx, if_pos hy] at e
        rw [cutW_inj hn ho hne p q hp' hq' (List.append_cancel_left e), hx, hy]
      · rw [if_pos hx, if_neg hy] at e
        exact (key y _ q hy hq' e).elim
    · by_cases hy : y = other
      · rw [if_neg hx, if_pos hy] at e
        exact (key x _ p hx hp' e.symm).elim
      · rw [if_neg hx, if_neg hy] at e
        simp only [List.cons_append, List.nil_append, List.cons.injEq] at e
        rw [cutW_inj hn ho hne p q hp' hq' e.2, e.1]
theorem ud_cut {one other rest : List Nat} {L L' : List (List Nat)} (he : other = one ++ rest) (h1 : one ∈ L) (ho : one ∈ L') (hr : rest ∈ L') (hL : ∀ x ∈ L, x ≠ other → x ∈ L') (hne : one ≠ other) (hn : ∀ x ∈ L, x ≠ other → x ≠ rest) (hu : UDs L') : UDs L := fun p q hp hq e =>
  cutW_inj hn h1 hne p q hp hq (hu _ _ (cutW_mem ho hr hL hp) (cutW_mem ho hr hL hq) ((cutW_flat he p).trans (e.trans (cutW_flat he q).symm)))
/-- where no word begins another one, each text is made in one way at most -/
theorem ud_prefix {L : List (List Nat)} (hne : ∀ x ∈ L, x ≠ []) (h : ∀ x ∈ L, ∀ y ∈ L, x ≠ y → ¬ x <+: y) : UDs L
  | [], [], _, _, _ => rfl
  | [], y :: q, _, hq, e => absurd (List.append_eq_nil_iff.mp (show y ++ q.flatten = [] from e.symm)).1 (hne y (hq y (.head _)))
  | x :: p, [], hp, _, e => absurd (List.append_eq_nil_iff.mp (show x ++ p.flatten = [] from e)).1 (hne x (hp x (.head _)))
  | x :: p, y :: q, hp, hq, e => by
    have e : x ++ p.flatten = y ++ q.flatten := e
    have hxy : x = y := Decidable.byContradiction fun hn => by
      rcases List.append_eq_append_iff.mp e with ⟨a, ha, _⟩ | ⟨c, hc, _⟩
      · exact h x (hp x (.head _)) y (hq y (.head _)) hn ⟨a, ha.symm⟩
      · exact h y (hq y (.head _)) x (hp x (.head _)) (Ne.symm hn) ⟨c, hc.symm⟩
    rw [← hxy] at e
    rw [ud_prefix hne h p q (fun z hz => hp z (.tail _ hz)) (fun z hz => hq z (.tail _ hz)) (List.append_cancel_left e), hxy]
/-- rows and the words they name -/
theorem spell_map (W : List (List Nat)) : ∀ p, spell W p = (p.map (wd W)).flatten
  | [] => rfl
  | k :: p => by simp [spell, spell_map W p]
theorem wd_mem {W : List (List Nat)} {k : Nat} (h : k < W.length) : wd W k ∈ W := by unfold wd; rw [List.getD_eq_getElem?_getD, List.getElem?_eq_getElem h]; exact List.getElem_mem h
theorem wd_inj {W : List (List Nat)} (hn : W.Nodup) {i j : Nat} (hi : i < W.length) (hj : j < W.length) (h : wd W i = wd W j) : i = j := by
  unfold wd at h
  rw [List.getD_eq_getElem?_getD, List.getElem?_eq_getElem hi, List.getD_eq_getElem?_getD, List.getElem?_eq_getElem hj] at h
  exact (List.getElem_inj hn).mp h
theorem map_inj {W : List (List Nat)} (hn : W.Nodup) : ∀ p q : List Nat, Row W p → Row W q → p.map (wd W) = q.map (wd W) → p = q
  | [], [], _, _, _ => rfl
  | [], _ :: _, _, _, e => by simp at e
  | _ :: _, [], _, _, e => by simp at e
  | x :: p, y :: q, hp, hq, e => by
    simp only [List.map_cons, List.cons.injEq] at e
    rw [wd_inj hn hp.cons.1 hq.cons.1 e.1, map_inj hn p q hp.cons.2 hq.cons.2 e.2]
theorem ud_of_uds {W : List (List Nat)} (hn : W.Nodup) (h : UDs W) : UD W := fun p q hp hq e => by
  have hm : ∀ r, Row W r → ∀ x ∈ r.map (wd W), x ∈ W := fun r hr x hx => by
    obtain ⟨k, hk, rfl⟩ := List.mem_map.mp hx
    exact wd_mem (hr k hk)
  exact map_inj hn p q hp hq (h _ _ (hm p hp) (hm q hq) (by rw [← spell_map, ← spell_map, e]))
theorem row_of_star {W : List (List Nat)} {w : List Nat} (h : Star W w) : ∃ q, Row W q ∧ spell W q = w := by
  obtain ⟨ps, hp, rfl⟩ := h
  induction ps with
  | nil => exact ⟨[], fun _ h => (nomatch h), rfl⟩
  | cons x ps ih =>
    obtain ⟨q, hq, e⟩ := ih fun y hy => hp y (.tail _ hy)
    obtain ⟨k, hk, hx⟩ := List.getElem_of_mem (hp x (.head _))
    refine ⟨k :: q, fun y hy => ?_, ?_⟩
    · rcases List.mem_cons.mp hy with rfl | h
      · exact hk
      · exact hq y h
    · show wd W k ++ spell W q = x ++ ps.flatten
      rw [e]
      unfold wd
      rw [List.getD_eq_getElem?_getD, List.getElem?_eq_getElem hk]
      exact congrArg (· ++ _) hx
/-- what holds of the makers at each turn -/
structure MakeJ (W L : List (List Nat)) : Prop where
  nd : L.Nodup
  ne : ∀ x ∈ L, x ≠ []
  sz : L.length ≤ 3
  star : ∀ k < W.length, Star L (wd W k)
  ud : L.length = 3 → UDs L → UD W
  inf : ∀ x ∈ L, ∃ k < W.length, x <:+: wd W k
/-- a turn -/
noncomputable def makeStep (L : List (List Nat)) (one other : List Nat) : List (List Nat) :=
  let M := L.filter fun x => decide (x ≠ other)
  if other.drop one.length ∈ M then M else M ++ [other.drop one.length]
noncomputable def totLen (L : List (List Nat)) : Nat := (L.map List.length).sum
theorem len_filter_ne {x : List Nat} : ∀ {L : List (List Nat)}, L.Nodup → x ∈ L → (L.filter fun y => decide (y ≠ x)).length + 1 = L.length ∧ totLen (L.filter fun y => decide (y ≠ x)) + x.length = totLen L
  | [], _, h => (nomatch h)
  | y :: L, hn, h => by
    obtain ⟨hy, hn⟩ := List.nodup_cons.mp hn
    by_cases e : y = x
    · subst e
      have : (L.filter fun z => decide (z ≠ y)) = L := List.filter_eq_self.mpr fun z hz => decide_eq_true fun e => hy (e ▸ hz)
      rw [List.filter_cons_of_neg (by simp), this]
      simp [totLen]; ktr_room
    · have hm : x ∈ L := (List.mem_cons.mp h).resolve_left (Ne.symm e)
      have ih := len_filter_ne hn hm
      rw [List.filter_cons_of_pos (by simp [e])]
      simp only [totLen, List.map_cons, List.sum_cons, List.length_cons] at ih ⊢
      ktr_room
theorem MakeJ.step {W L : List (List Nat)} (J : MakeJ W L) {one other : List Nat} (h1 : one ∈ L) (h2 : other ∈ L) (hne : one ≠ other) (hp : one <+: other) : MakeJ W (makeStep L one other) ∧ totLen (makeStep L one other) < totLen L := by
  obtain ⟨rest, rfl⟩ := hp
  have hr : rest ≠ [] := fun e => hne (by rw [e, List.append_nil])
  have h1n := J.ne one h1
  have hl := len_filter_ne J.nd h2
  have hlen : 0 < one.length := List.length_pos_iff.mpr h1n
  unfold makeStep
  rw [List.drop_left]
  generalize hM : (L.filter fun x => decide (x ≠ one ++ rest)) = M at hl
  have hmem : ∀ x, x ∈ M ↔ x ∈ L ∧ x ≠ one ++ rest := fun x => by rw [← hM, List.mem_filter, decide_eq_true_eq]
  have hnd : M.Nodup := by rw [← hM]; exact J.nd.filter _
  have h1M : one ∈ M := (hmem _).mpr ⟨h1, hne⟩
  have hz := J.sz
  have hinf : ∀ x ∈ M, ∃ k < W.length, x <:+: wd W k := fun x hx => J.inf x ((hmem x).mp hx).1
  simp only [List.length_append] at hl
  show MakeJ W (if rest ∈ M then M else M ++ [rest]) ∧ _ < _
  by_cases hrM : rest ∈ M
  · simp only [if_pos hrM]
    refine ⟨⟨hnd, fun x hx => J.ne x ((hmem x).mp hx).1, by ktr_room, fun k hk => star_cut rfl h1M hrM (fun x hx hxo => (hmem x).mpr ⟨hx, hxo⟩) (J.star k hk), fun h3 => by ktr_room, hinf⟩, by ktr_room⟩
  · simp only [if_neg hrM]
    have hrA : rest ∈ M ++ [rest] := List.mem_append_right _ (.head _)
    have h1A : one ∈ M ++ [rest] := List.mem_append_left _ h1M
    have hLA : ∀ x ∈ L, x ≠ one ++ rest → x ∈ M ++ [rest] := fun x hx hxo => List.mem_append_left _ ((hmem x).mpr ⟨hx, hxo⟩)
    refine ⟨⟨?_, ?_, by simp; ktr_room, fun k hk => star_cut rfl h1A hrA hLA (J.star k hk), fun h3 hu => ?_, ?_⟩, ?_⟩
    · exact List.nodup_append.mpr ⟨hnd, by simp, fun a ha b hb => by rw [List.mem_singleton.mp hb]; exact fun e => hrM (e ▸ ha)⟩
    · intro x hx
      rcases List.mem_append.mp hx with h | h
      · exact J.ne x ((hmem x).mp h).1
      · rw [List.mem_singleton.mp h]; exact hr
    · refine J.ud (by simp at h3; ktr_room) (ud_cut rfl h1 h1A hrA hLA hne (fun x hx hxo e => hrM (e ▸ (hmem x).mpr ⟨hx, hxo⟩)) hu)
    · intro x hx
      rcases List.mem_append.mp hx with h | h
      · exact hinf x h
      · obtain ⟨k, hk, hi⟩ := J.inf _ h2
        rw [List.mem_singleton.mp h]
        exact ⟨k, hk, (List.suffix_append one rest).isInfix.trans hi⟩
    · have : totLen (M ++ [rest]) = totLen M + rest.length := by simp [totLen]
      ktr_room
/-- the end: no maker begins another -/
theorem MakeJ.done {W L : List (List Nat)} (J : MakeJ W L) (h : ∀ x ∈ L, ∀ y ∈ L, x ≠ y → ¬ x <+: y) : UD L ∧ (¬ UD W → L.length ≤ 2) ∧ ∀ k < W.length, ∃ q, Row L q ∧ spell L q = wd W k := by
  have hu := ud_prefix J.ne h
  refine ⟨ud_of_uds J.nd hu, fun hn => ?_, fun k hk => row_of_star (J.star k hk)⟩
  have := J.sz
  have : L.length ≠ 3 := fun e => hn (J.ud e hu)
  ktr_room
/-- the words, each once -/
noncomputable def firsts (W : List (List Nat)) : List (List Nat) := (List.range W.length).filterMap fun k => if wd W k ∈ W.take k then none else some (wd W k)
theorem make_start {a b c : List Nat} (ha : a ≠ []) (hb : b ≠ []) (hc : c ≠ []) : MakeJ [a, b, c] (firsts [a, b, c]) := by
  have star1 : ∀ {L : List (List Nat)} {w : List Nat}, w ∈ L → Star L w := fun {L w} h => ⟨[w], fun x hx => by rw [List.mem_singleton.mp hx]; exact h, by simp⟩
  have hk3 : ∀ k, k < [a, b, c].length → k = 0 ∨ k = 1 ∨ k = 2 := fun k hk => by simp at hk; ktr_room
  have inf : ∀ x ∈ [a, b, c], ∃ k < [a, b, c].length, x <:+: wd [a, b, c] k := fun x hx => by
    obtain ⟨k, hk, e⟩ := List.getElem_of_mem hx
    refine ⟨k, hk, ?_⟩
    unfold wd
    rw [List.getD_eq_getElem?_getD, List.getElem?_eq_getElem hk, e]
    exact List.infix_rfl
  have hsub : ∀ {L : List (List Nat)}, (∀ x ∈ L, x ∈ [a, b, c]) → (∀ x ∈ L, x ≠ []) ∧ ∀ x ∈ L, ∃ k < [a, b, c].length, x <:+: wd [a, b, c] k := fun {L} h => ⟨fun x hx => by
      rcases List.mem_cons.mp (h x hx) with rfl | h
      · exact ha
      · rcases List.mem_cons.mp h with rfl | h
        · exact hb
        · rw [List.mem_singleton.mp h]; exact hc, fun x hx => inf x (h x hx)⟩
  have hstar : ∀ {L : List (List Nat)}, a ∈ L → b ∈ L → c ∈ L → ∀ k < [a, b, c].length, Star L (wd [a, b, c] k) := fun h1 h2 h3 k hk => by
    rcases hk3 k hk with rfl | rfl | rfl
    · exact star1 h1
    · exact star1 h2
    · exact star1 h3
  have e : firsts [a, b, c] = (a :: (if b = a then [] else [b])) ++ (if c = a ∨ c = b then [] else [c]) := by
    unfold firsts wd
    simp [List.range, List.range.loop, List.filterMap]
    by_cases h1 : b = a <;> by_cases h2 : c = a <;> by_cases h3 : c = b <;> simp [h1, h2, h3]
  rw [e]
  by_cases h1 : b = a <;> by_cases h2 : c = a ∨ c = b
  · rw [if_pos h1, if_pos h2]
    have hs := hsub (L := [a]) (by simp)
    refine ⟨by simp, hs.1, by simp, hstar (by simp) (by simp [h1]) (by rcases h2 with h | h <;> simp [h, h1]), by simp, hs.2⟩
  · rw [if_pos h1, if_neg h2]
    have hs := hsub (L := [a, c]) (by simp)
    have hca : c ≠ a := fun e => h2 (.inl e)
    refine ⟨by simp [Ne.symm hca], hs.1, by simp, hstar (by simp) (by simp [h1]) (by simp), by simp, hs.2⟩
  · rw [if_neg h1, if_pos h2]
    have hs := hsub (L := [a, b]) (by simp)
    refine ⟨by simp [Ne.symm h1], hs.1, by simp, hstar (by simp) (by simp) (by rcases h2 with h | h <;> simp [h]), by simp, hs.2⟩
  · rw [if_neg h1, if_neg h2]
    have hs := hsub (L := [a, b, c]) (fun _ h => h)
    have hca : c ≠ a := fun e => h2 (.inl e)
    have hcb : c ≠ b := fun e => h2 (.inr e)
    have nd : [a, b, c].Nodup := by simp [Ne.symm h1, Ne.symm hca, Ne.symm hcb]
    exact ⟨nd, hs.1, by simp, hstar (by simp) (by simp) (by simp), fun _ h => ud_of_uds nd h, hs.2⟩
end Mine
end
section
set_option maxRecDepth 100000
namespace Mine
/-! ## the rests and their rows -/
structure En where
  r : List Nat
  l : List Nat
  g : List Nat
/-- an entry is right -/
structure EnOk (W : List (List Nat)) (n : Nat) (e : En) : Prop where
  l : Row W e.l
  g : Row W e.g
  sp : spell W e.l ++ e.r = spell W e.g
  hd : ∃ i j p q, e.l = i :: p ∧ e.g = j :: q ∧ i ≠ j
  len : e.l.length + e.g.length ≤ n
  suf : ∃ k < W.length, e.r <:+ wd W k
theorem EnOk.mono {W : List (List Nat)} {n m : Nat} {e : En} (h : EnOk W n e) (hn : n ≤ m) : EnOk W m e := ⟨h.l, h.g, h.sp, h.hd, Nat.le_trans h.len hn, h.suf⟩
theorem EnOk.ne {W : List (List Nat)} {n : Nat} {e : En} (h : EnOk W n e) : e.l ≠ e.g := fun q => by
  obtain ⟨i, j, p, q', h1, h2, hne⟩ := h.hd
  rw [h1, h2] at q
  injection q with q
  exact hne q
/-- the first entries -/
theorem EnOk.start {W : List (List Nat)} {i j : Nat} (hi : i < W.length) (hj : j < W.length) (hne : i ≠ j) (h : wd W i <+: wd W j) : EnOk W 2 ⟨(wd W j).drop (wd W i).length, [i], [j]⟩ := by
  obtain ⟨a, ha⟩ := h
  refine ⟨.one hi, .one hj, ?_, ⟨i, j, [], [], rfl, rfl, hne⟩, by simp, ⟨j, hj, List.drop_suffix ..⟩⟩
  show spell W [i] ++ _ = spell W [j]
  rw [spell_one, spell_one, ← ha, List.drop_left]
/-- a rest that begins a word -/
theorem EnOk.up {W : List (List Nat)} {n k : Nat} {e : En} (h : EnOk W n e) (hk : k < W.length) (hp : e.r <+: wd W k) : EnOk W (n + 1) ⟨(wd W k).drop e.r.length, e.g, e.l ++ [k]⟩ := by
  obtain ⟨a, ha⟩ := hp
  obtain ⟨i, j, p, q, h1, h2, hne⟩ := h.hd
  refine ⟨h.g, h.l.app (.one hk), ?_, ⟨j, i, q, p ++ [k], h2, by rw [h1]; rfl, Ne.symm hne⟩, ?_, ⟨k, hk, List.drop_suffix ..⟩⟩
  · show spell W e.g ++ _ = spell W (e.l ++ [k])
    rw [spell_app, spell_one, ← h.sp, ← ha, List.drop_left, List.append_assoc]
  · have := h.len
    simp
    ktr_room
/-- a word that begins a rest -/
theorem EnOk.dn {W : List (List Nat)} {n k : Nat} {e : En} (h : EnOk W n e) (hk : k < W.length) (hp : wd W k <+: e.r) : EnOk W (n + 1) ⟨e.r.drop (wd W k).length, e.l ++ [k], e.g⟩ := by
  obtain ⟨a, ha⟩ := hp
  obtain ⟨i, j, p, q, h1, h2, hne⟩ := h.hd
  obtain ⟨x, hx, hs⟩ := h.suf
  refine ⟨h.l.app (.one hk), h.g, ?_, ⟨i, j, p ++ [k], q, by rw [h1]; rfl, h2, hne⟩, ?_, ⟨x, hx, (List.drop_suffix ..).trans hs⟩⟩
  · show spell W (e.l ++ [k]) ++ _ = spell W e.g
    rw [spell_app, spell_one, ← h.sp, ← ha, List.drop_left, List.append_assoc]
  · have := h.len
    simp
    ktr_room
/-- how far the closing has come: in the turn of the newest rest, up to word k -/
structure AJ (W : List (List Nat)) (wait : List En) (seen : List (List Nat)) (pos : Nat) (last : Option (List Nat × Nat)) : Prop where
  ok : ∀ e ∈ wait, EnOk W (2 + seen.length) e
  nd : seen.Nodup
  sn : ∀ r ∈ seen, r ≠ [] ∧ ∃ k < W.length, r <:+ wd W k
  len : wait.length + (match last with | none => 0 | some (_, k) => W.length - k) ≤ 9 + W.length * seen.length
  le : pos ≤ wait.length
  done : ∀ e ∈ wait.take pos, e.r ∈ seen
  st : ∀ i j, i < W.length → j < W.length → i ≠ j → (i < j ∨ wd W i ≠ wd W j) → wd W i <+: wd W j → ∃ e ∈ wait, e.r = (wd W j).drop (wd W i).length
  up : ∀ r ∈ seen, ∀ k < W.length, (∀ q n, last = some (q, n) → r = q → k < n) → r <+: wd W k → ∃ e ∈ wait, e.r = (wd W k).drop r.length
  dn : ∀ r ∈ seen, ∀ k < W.length, (∀ q n, last = some (q, n) → r = q → k < n) → ¬ r <+: wd W k → wd W k <+: r → ∃ e ∈ wait, e.r = r.drop (wd W k).length
theorem AJ.begin {W : List (List Nat)} {wait : List En} (ok : ∀ e ∈ wait, EnOk W 2 e) (len : wait.length ≤ 9) (st : ∀ i j, i < W.length → j < W.length → i ≠ j → (i < j ∨ wd W i ≠ wd W j) → wd W i <+: wd W j → ∃ e ∈ wait, e.r = (wd W j).drop (wd W i).length) : AJ W wait [] 0 none :=
  ⟨fun e he => ok e he, List.nodup_nil, fun _ h => (nomatch h), by simpa using len, Nat.zero_le _, by simp, st, fun _ h => (nomatch h), fun _ h => (nomatch h)⟩
theorem take_succ_mem {α : Type} {l : List α} {n : Nat} {x y : α} (hx : l[n]? = some x) (h : y ∈ l.take (n + 1)) : y ∈ l.take n ∨ y = x := by
  rw [List.take_add_one, hx] at h
  rcases List.mem_append.mp h with h | h
  · exact .inl h
  · exact .inr (by simpa using h)
/-- the entry's rest was seen -/
theorem AJ.old {W : List (List Nat)} {wait : List En} {seen : List (List Nat)} {pos : Nat} {e : En} (J : AJ W wait seen pos none) (he : wait[pos]? = some e) (h : e.r ∈ seen) : AJ W wait seen (pos + 1) none := by
  have hp : pos < wait.length := (List.getElem?_eq_some_iff.mp he).1
  refine ⟨J.ok, J.nd, J.sn, J.len, hp, fun x hx => ?_, J.st, J.up, J.dn⟩
  rcases take_succ_mem he hx with h2 | rfl
  · exact J.done x h2
  · exact h
/-- the entry's rest is new -/
theorem AJ.new {W : List (List Nat)} {wait : List En} {seen : List (List Nat)} {pos : Nat} {e : En} (J : AJ W wait seen pos none) (he : wait[pos]? = some e) (h : e.r ∉ seen) (hne : e.r ≠ []) : AJ W wait (seen ++ [e.r]) (pos + 1) (some (e.r, 0)) := by
  have hp : pos < wait.length := (List.getElem?_eq_some_iff.mp he).1
  have hm : e ∈ wait := List.mem_of_getElem? he
  have hlen := J.len
  have hs : ∀ r, r ∈ seen ++ [e.r] → r ∈ seen ∨ r = e.r := fun r hr => (List.mem_append.mp hr).imp id fun h => List.mem_singleton.mp h
  refine ⟨fun x hx => (J.ok x hx).mono (by simp), ?_, fun r hr => ?_, ?_, hp, fun x hx => ?_, J.st, fun r hr k hk hl => ?_, fun r hr k hk hl => ?_⟩
  · exact List.nodup_append.mpr ⟨J.nd, by simp, fun a ha b hb => by rw [List.mem_singleton.mp hb]; exact fun e => h (e ▸ ha)⟩
  · rcases hs r hr with h2 | rfl
    · exact J.sn r h2
    · exact ⟨hne, (J.ok e hm).suf⟩
  · simp only [List.length_append, List.length_singleton, Nat.mul_add, Nat.mul_one, Nat.sub_zero] at hlen ⊢
    ktr_room
  · rcases take_succ_mem he hx with h2 | rfl
    · exact List.mem_append_left _ (J.done x h2)
    · exact List.mem_append_right _ (.head _)
  · rcases hs r hr with h2 | rfl
    · exact J.up r h2 k hk fun _ _ e => (nomatch e)
    · exact absurd (hl _ _ rfl rfl) (by ktr_room)
  · rcases hs r hr with h2 | rfl
    · exact J.dn r h2 k hk fun _ _ e => (nomatch e)
    · exact absurd (hl _ _ rfl rfl) (by ktr_room)
/-- word k is tried on the new rest: an entry more, or none -/
theorem AJ.next {W : List (List Nat)} {wait : List En} {seen : List (List Nat)} {pos k : Nat} {r : List Nat} (J : AJ W wait seen pos (some (r, k))) (hk : k < W.length) (x : List En) (hx : x.length ≤ 1) (ok : ∀ e ∈ x, EnOk W (2 + seen.length) e)
    (h1 : r <+: wd W k → ∃ e ∈ x, e.r = (wd W k).drop r.length) (h2 : ¬ r <+: wd W k → wd W k <+: r → ∃ e ∈ x, e.r = r.drop (wd W k).length) : AJ W (wait ++ x) seen pos (some (r, k + 1)) := by
  have old : ∀ (P : En → Prop), (∃ e ∈ wait, P e) → ∃ e ∈ wait ++ x, P e := fun P ⟨e, he, hP⟩ => ⟨e, List.mem_append_left _ he, hP⟩
  have new : ∀ (P : En → Prop), (∃ e ∈ x, P e) → ∃ e ∈ wait ++ x, P e := fun P ⟨e, he, hP⟩ => ⟨e, List.mem_append_right _ he, hP⟩
  have hlen := J.len
  have hpos := J.le
  refine ⟨fun e he => (List.mem_append.mp he).elim (J.ok e) (ok e), J.nd, J.sn, ?_, by rw [List.length_append]; ktr_room, fun e he => ?_, fun i j hi hj a b c => old _ (J.st i j hi hj a b c), fun q hq i hi hl hp => ?_, fun q hq i hi hl hn hp => ?_⟩
  · simp only [List.length_append] at hlen ⊢
    ktr_room
  · rw [List.take_append_of_le_length hpos] at he
    exact J.done e he
  · by_cases e : q = r ∧ i = k
    · rw [e.1, e.2] at hp ⊢
      exact new _ (h1 hp)
    · refine old _ (J.up q hq i hi (fun q' n hq' e2 => ?_) hp)
      injection hq' with hq'; injection hq' with e3 e4
      have := hl r (k + 1) rfl (e2.trans e3.symm)
      have : i ≠ k := fun e5 => e ⟨e2.trans e3.symm, e5⟩
      ktr_room
  · by_cases e : q = r ∧ i = k
    · rw [e.1, e.2] at hp hn ⊢
      exact new _ (h2 hn hp)
    · refine old _ (J.dn q hq i hi (fun q' n hq' e2 => ?_) hn hp)
      injection hq' with hq'; injection hq' with e3 e4
      have := hl r (k + 1) rfl (e2.trans e3.symm)
      have : i ≠ k := fun e5 => e ⟨e2.trans e3.symm, e5⟩
      ktr_room
theorem AJ.fin {W : List (List Nat)} {wait : List En} {seen : List (List Nat)} {pos : Nat} {r : List Nat} (J : AJ W wait seen pos (some (r, W.length))) : AJ W wait seen pos none := by
  have hlen := J.len
  exact ⟨J.ok, J.nd, J.sn, by simp only at hlen ⊢; ktr_room, J.le, J.done, J.st, fun q hq k hk _ => J.up q hq k hk fun _ n e _ => by injection e with e; injection e with _ e; ktr_room, fun q hq k hk _ => J.dn q hq k hk fun _ n e _ => by injection e with e; injection e with _ e; ktr_room⟩
/-- all entries done: the words spell no text in two ways -/
theorem AJ.ud {W : List (List Nat)} {wait : List En} {seen : List (List Nat)} {pos : Nat} (J : AJ W wait seen pos none) (hp : wait.length ≤ pos) (hW : ∀ k < W.length, wd W k ≠ []) : UD W := by
  have all : ∀ e ∈ wait, e.r ∈ seen := fun e he => J.done e (by rw [List.take_of_length_le hp]; exact he)
  refine Closed.ud (S := seen) ⟨fun h => (J.sn _ h).1 rfl, fun i j hi hj a b c => ?_, fun r hr k hk h => ?_, fun r hr k hk h h2 => ?_⟩ hW
  · obtain ⟨e, he, q⟩ := J.st i j hi hj a b c
    exact q ▸ all e he
  · obtain ⟨e, he, q⟩ := J.up r hr k hk (fun _ _ e => (nomatch e)) h
    exact q ▸ all e he
  · obtain ⟨e, he, q⟩ := J.dn r hr k hk (fun _ _ e => (nomatch e)) h h2
    exact q ▸ all e he
/-- there are few rests -/
theorem nodup_le {α : Type} [DecidableEq α] : ∀ {l m : List α}, l.Nodup → (∀ x ∈ l, x ∈ m) → l.length ≤ m.length
  | [], _, _, _ => Nat.zero_le _
  | x :: l, m, h, hs => by
    obtain ⟨hx, hn⟩ := List.nodup_cons.mp h
    have hm : x ∈ m := hs x (.head _)
    have := nodup_le (m := m.erase x) hn fun y hy => (List.mem_erase_of_ne (fun e : y = x => hx (by rw [← e]; exact hy))).mpr (hs y (.tail _ hy))
    rw [List.length_erase_of_mem hm] at this
    have := List.length_pos_of_mem hm
    simp only [List.length_cons]
    ktr_room
theorem AJ.few {W : List (List Nat)} {wait : List En} {seen : List (List Nat)} {pos : Nat} {o : Option (List Nat × Nat)} (J : AJ W wait seen pos o) (h3 : W.length = 3) (h4 : ∀ k < W.length, (wd W k).length ≤ 4) : seen.length ≤ 12 ∧ wait.length ≤ 45 := by
  have hs : seen.length ≤ 12 := by
    have := nodup_le (m := (List.range 3).flatMap fun k => (List.range 4).map fun d => (wd W k).drop d) J.nd fun r hr => by
      obtain ⟨hne, k, hk, hsuf⟩ := J.sn r hr
      have hl := hsuf.length_le
      have h4 := h4 k hk
      have hp := List.length_pos_iff.mpr hne
      refine List.mem_flatMap.mpr ⟨k, List.mem_range.mpr (by ktr_room), List.mem_map.mpr ⟨(wd W k).length - r.length, List.mem_range.mpr (by ktr_room), ?_⟩⟩
      exact (List.suffix_iff_eq_drop.mp hsuf).symm
    rw [List.length_flatMap] at this
    simp only [List.length_map, List.length_range] at this
    exact Nat.le_trans this (by decide)
  refine ⟨hs, ?_⟩
  have := J.len
  rw [h3] at this
  ktr_room
end Mine
end
section
open PySem PySem.W PySem.Calls PyProof.Rows
set_option maxRecDepth 100000
namespace Mine
/-! ## law 2: texts -/
theorem ell_pre {x y : Str} (hx : nodot x) : ellM (x ++ Str.ofString "...") y = (L x).isPrefixOf (L y) := by
  rw [dots_eq, ellM_ahead hx, Bool.eq_iff_iff, starts_iff, List.isPrefixOf_iff_prefix]
theorem strsAre_of : ∀ zs : List (Str × Tok), StrsAre (strValues zs) (zs.map (·.1))
  | [] => .nil
  | z :: zs => .cons z.1 z.2 (strsAre_of zs)
theorem any_mem (x : Str) : ∀ ys : List Str, (ys.any (· == x)) = decide (x ∈ ys)
  | [] => rfl
  | y :: ys => by
    rw [List.any_cons, any_mem x ys]
    by_cases h : y = x
    · simp [h]
    · simp [h, Ne.symm h]
section
variable {prog : Program} {w : World} {A : Around} {E : Value → Shared → Prop} {s : Shared} {D : Addr} {zs : List (Str × Tok)} {x : Str} {t : Tok} {Q : Value → Shared → Prop}
theorem notin_txts (hl : s.heap.IsList D (strValues zs).toArray) (h : Q (.bool (!decide (x ∈ zs.map (·.1)))) s) : wpAny (model prog w) A (compareOp .NotIn (.str x t) (.ref D)) Q E s :=
  notin_list_strs hl (strsAre_of zs) (by rw [any_mem]; exact h)
theorem index_txts {n j : Nat} (hl : s.heap.get? D = some (listOf (strValues zs).toArray n)) (hj : zs.length ≤ 1000) (hx : (zs.map (·.1))[j]? = some x) (hno : ∀ m < j, (zs.map (·.1))[m]? ≠ some x)
    (h : Q (.int (j : Int) s.toks) { s with toks := s.toks + 1 }) : wpAny (model prog w) A (call (.builtin "list.index") [.ref D, .str x t]) Q E s := by
  have hat : ∀ (m : Nat) (hm : m < (strValues zs).toArray.size), isStrOf x ((strValues zs).toArray[m]) = decide ((zs.map (·.1))[m]? = some x) := fun m hm => by
    have hm' : m < zs.length := by simpa [strValues] using hm
    have e : (strValues zs).toArray[m] = .str zs[m].1 zs[m].2 := by simp [strValues]
    rw [e]
    show (zs[m].1 == x) = _
    rw [List.getElem?_map, List.getElem?_eq_getElem hm']
    rw [Bool.eq_iff_iff, beq_iff_eq, decide_eq_true_iff, Option.map_some, Option.some.injEq]
  have hjl : j < zs.length := by
    have := (List.getElem?_eq_some_iff.mp hx).1
    simpa using this
  have hjs : j < (strValues zs).toArray.size := by simpa [strValues] using hjl
  refine call_meets PySem.F.slot_list_index ⟨_, hl, rfl⟩ PySem.F.entry_list_index (PySem.F.args_list_index_2 _ _)
    (MeetsSeq.list_index D (strValues zs).toArray n (.str x t) (isStrOf x) (fun y hy => eq_isStrOf x t (strsAre_of zs) y (by simpa using hy)) j hjs (by ktr_room) (by rw [hat j hjs, decide_eq_true hx]) (fun m hm hlt => by rw [hat m hm, decide_eq_false (hno m hlt)])) ⟨hl, h⟩
end
/-- a target that is a pair: a name of the frame and a cell -/
theorem tup_cell2 {prog : Program} {w : World} {A : Around} {E : Value → Shared → Prop} {s : Shared} {h₀ : Heap} {L a c : Addr} {m : Str → Option Value} {name : Str} {scope : Scope} {cd : Value} {v₀ : Option Value} {x y : Str} {px py pos : Pos} {k : Nat} {Q : Unit → Shared → Prop} {pre post : Led} {o : Obj} {os : OsState} {T : Addr} {oT : Obj} {v u : Value} (hh : A.handled = none)
    (S : LoopSt h₀ L os s m (pre ++ (c, o) :: post)) (hx : (envOfC name scope L a cd).kindOf x = some .local) (hy : (envOfC name scope L a cd).kindOf y = some .cell) (hc : (cellsFrom (L + 1) scope.names []).lookup y = some c) (hd : o.data = .cell v₀) (hk : scope.kind = .function)
    (hT : (T, oT) ∈ pre ++ (c, o) :: post) (hct : oT.cls = .type "tuple") (hdt : ∃ n, oT.data = .seq #[v, u] n)
    (h : ∀ s' o', s'.gens = s.gens → o'.data = .cell (some u) → LoopSt h₀ L os s' (fun z => if z = x then some v else m z) (pre ++ (c, o') :: post) → Q () s') :
    wpAny (model prog w) A (assign (.Tuple [.Name x px, .Name y py] k pos) (envOfC name scope L a cd) (.ref T)) Q E s := by
  refine wpAny_assign_Tuple hh ⟨oT, (S.nw _ hT).1, hct, hdt⟩ rfl rfl fun h' he => ?_
  have S₁ := S.grow he
  show wpAny _ A (assignInOrder [assign (.Name x px) _, assign (.Name y py) _] [v, u]) Q _ _
  refine wpAny_assignInOrder_more (wpAny_assign_Name (wpAny_storeName_local hx S₁.fr.ns (fun h₂ hn hs => ?_) (by have hk2 : (envOfC name scope L a cd).scope.kind = .function := hk; rw [hk2]; rfl)))
  have S₂ : ∀ tk, LoopSt h₀ L os { s with heap := h₂, toks := tk } (fun z => if z = x then some v else m z) (pre ++ (c, o) :: post) := fun _ => ⟨S₁.fr.set hn hs, S₁.nw.set hs, S₁.bare, S₁.os, S₁.dn⟩
  refine wpAny_assignInOrder_more (wpAny_assign_Name (st_cell (S₂ _) hy hc hd hk fun h₃ o' ho' S₃ => wpAny_assignInOrder_none ?_))
  exact h _ _ rfl ho' S₃
noncomputable def tx (zs : List (Str × Tok)) : List (List Nat) := zs.map fun z => L z.1
theorem tx_mem {zs : List (Str × Tok)} {x : Str} : x ∈ zs.map (·.1) ↔ L x ∈ tx zs := by
  unfold tx
  rw [List.mem_map, List.mem_map]
  exact ⟨fun ⟨z, hz, e⟩ => ⟨z, hz, by rw [e]⟩, fun ⟨z, hz, e⟩ => ⟨z, hz, str_ext e⟩⟩
theorem tx_len (zs : List (Str × Tok)) : (tx zs).length = zs.length := by simp [tx]
theorem wd_tx {zs : List (Str × Tok)} {k : Nat} {z : Str × Tok} (h : zs[k]? = some z) : wd (tx zs) k = L z.1 := by
  unfold wd tx
  rw [List.getD_eq_getElem?_getD, List.getElem?_map, h]; rfl
theorem strV_at {zs : List (Str × Tok)} {i : Nat} {u : Value} (h : (strValues zs).toArray[i]? = some u) : ∃ p, zs[i]? = some p ∧ u = .str p.1 p.2 := by
  rw [List.getElem?_toArray] at h
  unfold strValues at h
  rw [List.getElem?_map] at h
  cases e : zs[i]? with
  | none => rw [e] at h; cases h
  | some p => rw [e] at h; exact ⟨p, rfl, (Option.some.inj h).symm⟩
theorem strV_len (zs : List (Str × Tok)) : (strValues zs).length = zs.length := by simp [strValues]
theorem pick_take (zs : List (Str × Tok)) (k : Nat) : kms_pick (strValues zs) none (some (k : Int)) = strValues (zs.take k) := by
  unfold kms_pick kms_lo kms_hi
  show ((strValues zs).drop 0).take ((if (k : Int) < 0 then _ else min (k : Int).toNat (strValues zs).length) - 0) = _
  rw [if_neg (by ktr_room), List.drop_zero, Nat.sub_zero, Int.toNat_natCast]
  unfold strValues
  rw [List.map_take, List.length_map, ← List.map_take, ← List.map_take, Nat.min_comm]
  congr 1
  rw [← List.take_take, List.take_of_length_le (by simp; ktr_room)]
end Mine
end
section
open PySem PySem.W PySem.Calls PyProof.Rows
set_option maxRecDepth 100000
namespace Mine
/-! ## law 2: a pile of words (rp: their numbers, the top first) -/
noncomputable def PW (W : List (List Nat)) (rp : List Nat) (ts : List Pc) : Prop := ts.map (fun p => (L p.f, L p.g)) = rp.reverse.map fun k => (([] : List Nat), wd W k)
theorem PW.len {W : List (List Nat)} {rp : List Nat} {ts : List Pc} (h : PW W rp ts) : ts.length = rp.length := by simpa using congrArg List.length h
theorem shown_list (ts : List Pc) : L (shown ts) = (ts.map fun p => L p.f ++ L p.g).flatten := by simp [shown]
theorem spell_flat (W : List (List Nat)) : ∀ p, spell W p = (p.map (wd W)).flatten := spell_map W
theorem PW.shown {W : List (List Nat)} {rp : List Nat} {ts : List Pc} (h : PW W rp ts) : L (shown ts) = spell W rp.reverse := by
  rw [shown_list, spell_flat, show (ts.map fun p => L p.f ++ L p.g) = (ts.map fun p => (L p.f, L p.g)).map (fun x => x.1 ++ x.2) from by rw [List.map_map]; rfl, show ts.map (fun p => (L p.f, L p.g)) = _ from h, List.map_map]
  rfl
theorem total_shown (ts : List Pc) : total ts = (L (Mine.shown ts)).length := by
  rw [shown_list, List.length_flatten, List.map_map]
  unfold total
  congr 1
  apply List.map_congr_left
  intro p _
  simp only [Function.comp, List.length_append]
  rw [L_len, L_len]
theorem PW.total {W : List (List Nat)} {rp : List Nat} {ts : List Pc} (h : PW W rp ts) : total ts = (spell W rp.reverse).length := by rw [total_shown, h.shown]
theorem PW.push {W : List (List Nat)} {rp : List Nat} {ts : List Pc} {k T : Nat} {f g : Str} {tf tg : Tok} (h : PW W rp ts) (hf : L f = []) (hg : L g = wd W k) : PW W (k :: rp) (ts ++ [⟨T, f, tf, g, tg⟩]) := by
  unfold PW at *
  rw [List.map_append, h, List.reverse_cons, List.map_append]
  simp [hf, hg]
theorem PW.pop {W : List (List Nat)} {j : Nat} {rp : List Nat} {ts : List Pc} (h : PW W (j :: rp) ts) : ∃ ini p, ts = ini ++ [p] ∧ PW W rp ini ∧ L p.g = wd W j := by
  unfold PW at h
  rw [List.reverse_cons, List.map_append] at h
  obtain ⟨ini, e, rfl, h1, h2⟩ := List.map_eq_append_iff.mp h
  obtain ⟨p, r, rfl, h3, h4⟩ := List.map_eq_cons_iff.mp (show List.map _ e = (([] : List Nat), wd W j) :: [] from h2)
  cases List.map_eq_nil_iff.mp h4
  exact ⟨ini, p, rfl, h1, congrArg Prod.snd h3⟩
theorem PW.at {W : List (List Nat)} {rp : List Nat} {ts : List Pc} (h : PW W rp ts) {i : Nat} {p : Pc} (hp : ts[i]? = some p) : ∃ k, rp.reverse[i]? = some k ∧ L p.f = [] ∧ L p.g = wd W k := by
  have e : (ts.map fun p => (L p.f, L p.g))[i]? = some (L p.f, L p.g) := by rw [List.getElem?_map, hp]; rfl
  rw [h, List.getElem?_map] at e
  cases hk : rp.reverse[i]? with
  | none => rw [hk] at e; cases e
  | some k =>
    rw [hk] at e
    simp only [Option.map_some, Option.some.injEq, Prod.mk.injEq] at e
    exact ⟨k, rfl, e.1.symm, e.2.symm⟩
theorem PW.sz {W : List (List Nat)} {rp : List Nat} {ts : List Pc} (h : PW W rp ts) (hr : ∀ k ∈ rp, k < W.length) (hW : ∀ k < W.length, (wd W k).length ≤ 4) : ∀ p ∈ ts, p.f.length ≤ 4 ∧ p.g.length ≤ 4 := fun p hp => by
  obtain ⟨i, hi, rfl⟩ := List.getElem_of_mem hp
  obtain ⟨k, hk, h1, h2⟩ := h.at (List.getElem?_eq_getElem hi)
  have hkm := List.mem_reverse.mp (List.mem_of_getElem? hk)
  have := hW k (hr k hkm)
  rw [← L_len, ← L_len, h1, h2]
  exact ⟨by simp, this⟩
theorem spell_len {W : List (List Nat)} (hW : ∀ k < W.length, wd W k ≠ []) : ∀ p, (∀ k ∈ p, k < W.length) → p.length ≤ (spell W p).length
  | [], _ => Nat.zero_le _
  | k :: p, h => by
    have ih := spell_len hW p fun x hx => h x (.tail _ hx)
    have := List.length_pos_iff.mpr (hW k (h k (.head _)))
    show p.length + 1 ≤ (wd W k ++ spell W p).length
    rw [List.length_append]
    ktr_room
/-- the rows of the readings: none yet, or the one there is -/
noncomputable def Rst (b : Bool) (row : List Nat) (vs : List Value) (rw : Led) : Prop := if b then ∃ Ra, ∃ xs : List (Nat × Tok), vs = [.ref Ra] ∧ rw = [(Ra, LCg.lst (ivals xs))] ∧ xs.map (·.1) = row else vs = [] ∧ rw = []
theorem idx_of {zs : List (Str × Tok)} (hn : (tx zs).Nodup) {j : Nat} {x : Str} (hj : j < zs.length) (hx : L x = wd (tx zs) j) : (zs.map (·.1))[j]? = some x ∧ ∀ m < j, (zs.map (·.1))[m]? ≠ some x := by
  have e := wd_tx (List.getElem?_eq_getElem hj)
  have hx2 : zs[j].1 = x := str_ext (by rw [show x.cps.toList = L x from rfl, hx, e])
  refine ⟨by rw [List.getElem?_map, List.getElem?_eq_getElem hj]; exact congrArg some hx2, fun m hm h => ?_⟩
  have hml : m < zs.length := by ktr_room
  rw [List.getElem?_map, List.getElem?_eq_getElem hml] at h
  have h2 : zs[m].1 = x := Option.some.inj h
  have := wd_inj hn (i := m) (j := j) (by rw [tx_len]; exact hml) (by rw [tx_len]; exact hj) (by rw [wd_tx (List.getElem?_eq_getElem hml), e, h2, hx2])
  ktr_room
end Mine
end
section
open PySem PySem.W PySem.Calls PyProof.Rows
set_option maxRecDepth 100000
namespace Mine
/-! ## law 2: a row spelled by a pile of symbols' names -/
/-- a symbol's name -/
noncomputable def nm (c : Nat) : Str := Str.ofString (toString (c : Int))
/-- the pile's pieces, the lowest first: whether a blank stands ahead, and the symbol -/
noncomputable def SP (cs : List (Bool × Nat)) (ts : List Pc) : Prop := ts.map (fun p => (L p.f, p.g)) = cs.map fun x => ((if x.1 then [32] else ([] : List Nat)), nm x.2)
theorem SP.len {cs : List (Bool × Nat)} {ts : List Pc} (h : SP cs ts) : ts.length = cs.length := by simpa using congrArg List.length h
theorem SP.push {cs : List (Bool × Nat)} {ts : List Pc} {T : Nat} {f g : Str} {tf tg : Tok} {x : Bool × Nat} (h : SP cs ts) (hf : L f = if x.1 then [32] else []) (hg : g = nm x.2) : SP (cs ++ [x]) (ts ++ [⟨T, f, tf, g, tg⟩]) := by
  unfold SP at *
  rw [List.map_append, h, List.map_append]
  simp [hf, hg]
theorem SP.pop {cs : List (Bool × Nat)} {ts : List Pc} {x : Bool × Nat} (h : SP (cs ++ [x]) ts) : ∃ ini p, ts = ini ++ [p] ∧ SP cs ini ∧ (L p.f = if x.1 then [32] else []) ∧ p.g = nm x.2 := by
  unfold SP at h
  rw [List.map_append] at h
  obtain ⟨ini, e, rfl, h1, h2⟩ := List.map_eq_append_iff.mp h
  obtain ⟨p, r, rfl, h3, h4⟩ := List.map_eq_cons_iff.mp (show List.map _ e = _ :: [] from h2)
  cases List.map_eq_nil_iff.mp h4
  exact ⟨ini, p, rfl, h1, congrArg Prod.fst h3, congrArg Prod.snd h3⟩
theorem nm_len : ∀ c < 260, (nm c).length ≤ 3 := by decide +kernel
theorem SP.sz {cs : List (Bool × Nat)} {ts : List Pc} (h : SP cs ts) (hc : ∀ x ∈ cs, x.2 < 260) : ∀ q ∈ ts, q.f.length ≤ 1 ∧ q.g.length ≤ 3 := fun q hq => by
  have e : (L q.f, q.g) ∈ ts.map (fun p => (L p.f, p.g)) := List.mem_map.mpr ⟨q, hq, rfl⟩
  rw [h] at e
  obtain ⟨x, hx, e⟩ := List.mem_map.mp e
  simp only [Prod.mk.injEq] at e
  rw [← e.2, ← L_len q.f, ← e.1]
  exact ⟨by split <;> simp, nm_len _ (hc x hx)⟩
/-- what the pile shows -/
noncomputable def showL (cs : List (Bool × Nat)) : List Nat := (cs.map fun x => (if x.1 then [32] else []) ++ L (nm x.2)).flatten
theorem SP.shown {cs : List (Bool × Nat)} {ts : List Pc} (h : SP cs ts) : L (shown ts) = showL cs := by
  rw [shown_list, show (ts.map fun p => L p.f ++ L p.g) = (ts.map fun p => (L p.f, p.g)).map (fun x => x.1 ++ L x.2) from by rw [List.map_map]; rfl, show ts.map (fun p => (L p.f, p.g)) = _ from h, List.map_map]
  rfl
/-- what a symbol stands for -/
noncomputable def sym1 (W : List (List Nat)) (ltr : Nat → Nat) (c : Nat) : List Nat := if c = 0 then [] else if c < 256 then [ltr (c - 254)] else wd W (c - 256)
noncomputable def stext (W : List (List Nat)) (ltr : Nat → Nat) (l : List Nat) : List Nat := l.flatMap (sym1 W ltr)
/-- how many turns are left at most -/
noncomputable def wgt (l : List Nat) : Nat := (l.map fun c => if c < 256 then 1 else 6).sum
noncomputable def okSym (n : Nat) (x : Nat) : Prop := (x = 254 ∨ x = 255) ∨ (256 ≤ x ∧ x < 256 + n)
noncomputable def blanks (st : List (Bool × Nat)) : Nat := (st.filter (·.1)).length
/-- between the turns: st is the pile, its top first, text what is spelled, nb the blanks that were taken off -/
structure SpJ (W : List (List Nat)) (ltr : Nat → Nat) (row text : List Nat) (nb : Nat) (st : List (Bool × Nat)) : Prop where
  txt : text ++ stext W ltr (st.map (·.2)) = spell W row
  bl : nb + blanks st = row.length + 1
  ok : ∃ body, st.map (·.2) = body ++ [0] ∧ ∀ x ∈ body, okSym W.length x
theorem stext_row (W : List (List Nat)) (ltr : Nat → Nat) : ∀ row : List Nat, stext W ltr (row.map (256 + ·) ++ [0]) = spell W row
  | [] => rfl
  | k :: row => by
    have ih := stext_row W ltr row
    show sym1 W ltr (256 + k) ++ stext W ltr (row.map (256 + ·) ++ [0]) = wd W k ++ spell W row
    rw [ih]
    unfold sym1
    rw [if_neg (by ktr_room), if_neg (by ktr_room), show 256 + k - 256 = k by ktr_room]
theorem SpJ.start {W : List (List Nat)} {ltr : Nat → Nat} {row : List Nat} (h : Row W row) : SpJ W ltr row [] 0 (row.map (fun k => (true, 256 + k)) ++ [(true, 0)]) := by
  have e : (row.map (fun k => (true, 256 + k)) ++ [(true, 0)]).map (fun x : Bool × Nat => x.2) = row.map (256 + ·) ++ [0] := by simp
  refine ⟨by rw [e]; exact stext_row W ltr row, ?_, ⟨row.map (256 + ·), e, fun x hx => ?_⟩⟩
  · have hb : ∀ r : List Nat, blanks (r.map (fun k => (true, 256 + k)) ++ [(true, 0)]) = r.length + 1 := by
      intro r
      induction r with
      | nil => rfl
      | cons k r ih => unfold blanks at ih ⊢; simp at ih ⊢; ktr_room
    rw [hb]; ktr_room
  · obtain ⟨k, hk, rfl⟩ := List.mem_map.mp hx
    have := h k hk
    exact .inr ⟨by ktr_room, by ktr_room⟩
/-- the end: 0 is on top -/
theorem SpJ.zero {W : List (List Nat)} {ltr : Nat → Nat} {row text : List Nat} {nb : Nat} {f : Bool} {st : List (Bool × Nat)} (J : SpJ W ltr row text nb ((f, 0) :: st)) : st = [] ∧ text = spell W row ∧ nb + (if f then 1 else 0) = row.length + 1 := by
  obtain ⟨body, hb, hok⟩ := J.ok
  have hst : st = [] := by
    cases body with
    | nil => simpa using hb
    | cons x body =>
      simp only [List.map_cons, List.cons_append, List.cons.injEq] at hb
      have := hok x (.head _)
      unfold okSym at this
      ktr_room
  subst hst
  refine ⟨rfl, ?_, ?_⟩
  · have := J.txt
    simpa [stext, sym1] using this
  · have := J.bl
    cases f <;> simpa [blanks] using this
/-- the top is taken off: its blank is counted -/
theorem SpJ.took {W : List (List Nat)} {ltr : Nat → Nat} {row text : List Nat} {nb c : Nat} {f : Bool} {st : List (Bool × Nat)} (J : SpJ W ltr row text nb ((f, c) :: st)) : SpJ W ltr row text (nb + if f then 1 else 0) ((false, c) :: st) := by
  refine ⟨J.txt, ?_, J.ok⟩
  have := J.bl
  cases f <;> simp [blanks] at this ⊢ <;> ktr_room
/-- a symbol that is not 0 stands on another one -/
theorem SpJ.more {W : List (List Nat)} {ltr : Nat → Nat} {row text : List Nat} {nb c : Nat} {f : Bool} {st : List (Bool × Nat)} (J : SpJ W ltr row text nb ((f, c) :: st)) (hc : c ≠ 0) : okSym W.length c ∧ ∃ g d r, st = (g, d) :: r := by
  obtain ⟨body, hb, hok⟩ := J.ok
  cases body with
  | nil => simp only [List.map_cons, List.nil_append, List.cons.injEq] at hb; exact absurd hb.1 hc
  | cons x body =>
    simp only [List.map_cons, List.cons_append, List.cons.injEq] at hb
    refine ⟨hb.1 ▸ hok x (.head _), ?_⟩
    cases st with
    | nil => simp at hb
    | cons y r => exact ⟨y.1, y.2, r, rfl⟩
/-- a turn: the top symbol gives way to what is pushed, and to what is spelled -/
theorem SpJ.turn {W : List (List Nat)} {ltr : Nat → Nat} {row text : List Nat} {nb c : Nat} {f : Bool} {st : List (Bool × Nat)} (J : SpJ W ltr row text nb ((f, c) :: st)) (hc : c ≠ 0) (add : List Nat) (out : List Nat) (hadd : ∀ x ∈ add, x = 254 ∨ x = 255)
    (hs : sym1 W ltr c = out ++ stext W ltr add) : SpJ W ltr row (text ++ out) (nb + if f then 1 else 0) (add.map (fun x => (false, x)) ++ st) := by
  obtain ⟨body, hb, hok⟩ := J.ok
  have e : (add.map (fun x => (false, x)) ++ st).map (fun x : Bool × Nat => x.2) = add ++ st.map (·.2) := by
    rw [List.map_append, List.map_map]
    congr 1
    exact List.map_id add
  refine ⟨?_, ?_, ?_⟩
  · rw [← J.txt, e]
    simp only [stext, List.map_cons, List.flatMap_cons, List.flatMap_append] at hs ⊢
    rw [hs]
    simp [List.append_assoc]
  · have h1 := J.bl
    have h2 : ∀ l : List Nat, blanks (l.map (fun x => (false, x)) ++ st) = blanks st := by
      intro l
      unfold blanks
      rw [List.filter_append, List.filter_eq_nil_iff.mpr (by simp)]
      rfl
    rw [h2]
    cases f <;> simp [blanks] at h1 ⊢ <;> ktr_room
  · cases body with
    | nil => simp only [List.map_cons, List.nil_append, List.cons.injEq] at hb; exact absurd hb.1 hc
    | cons x body =>
      simp only [List.map_cons, List.cons_append, List.cons.injEq] at hb
      refine ⟨add ++ body, by rw [e, hb.2, List.append_assoc], fun y hy => ?_⟩
      rcases List.mem_append.mp hy with h | h
      · exact .inl (hadd y h)
      · exact hok y (.tail _ h)
theorem wgt_cons (c : Nat) (l : List Nat) : wgt (c :: l) = (if c < 256 then 1 else 6) + wgt l := by simp [wgt]
theorem wgt_app (l r : List Nat) : wgt (l ++ r) = wgt l + wgt r := by simp [wgt]
theorem wgt_ge : ∀ l : List Nat, l.length ≤ wgt l
  | [] => Nat.zero_le _
  | c :: l => by
    have := wgt_ge l
    rw [wgt_cons, List.length_cons]
    split <;> ktr_room
theorem wgt_small : ∀ l : List Nat, (∀ x ∈ l, x = 254 ∨ x = 255) → wgt l = l.length
  | [], _ => rfl
  | c :: l, h => by
    rw [wgt_cons, wgt_small l fun x hx => h x (.tail _ hx), if_pos (by have := h c (.head _); ktr_room), List.length_cons]
    ktr_room
theorem wgt_row : ∀ row : List Nat, wgt ((row.map (fun k => (true, 256 + k)) ++ [((true, 0) : Bool × Nat)]).map fun x : Bool × Nat => x.2) = 6 * row.length + 1
  | [] => rfl
  | k :: row => by
    have ih := wgt_row row
    simp only [List.map_cons, List.cons_append, List.length_cons] at ih ⊢
    rw [wgt_cons, ih, if_neg (by ktr_room)]
    ktr_room
theorem spell_le {W : List (List Nat)} (hW : ∀ k < W.length, (wd W k).length ≤ 4) : ∀ row : List Nat, Row W row → (spell W row).length ≤ 4 * row.length
  | [], _ => Nat.le_refl _
  | k :: row, h => by
    have ih := spell_le hW row fun x hx => h x (.tail _ hx)
    have := hW k (h k (.head _))
    show (wd W k ++ spell W row).length ≤ _
    rw [List.length_append, List.length_cons]
    ktr_room
theorem SpJ.tlen {W : List (List Nat)} {ltr : Nat → Nat} {row text : List Nat} {nb : Nat} {st : List (Bool × Nat)} (J : SpJ W ltr row text nb st) : text.length ≤ (spell W row).length := by
  rw [← J.txt, List.length_append]; ktr_room
theorem SpJ.lt {W : List (List Nat)} {ltr : Nat → Nat} {row text : List Nat} {nb : Nat} {st : List (Bool × Nat)} (J : SpJ W ltr row text nb st) (hW : W.length ≤ 3) : ∀ x ∈ st, x.2 < 260 := fun x hx => by
  obtain ⟨body, hb, hok⟩ := J.ok
  have hm : x.2 ∈ body ++ [0] := hb ▸ List.mem_map.mpr ⟨x, hx, rfl⟩
  rcases List.mem_append.mp hm with h | h
  · have := hok _ h
    unfold okSym at this
    ktr_room
  · have := List.mem_singleton.mp h
    ktr_room
/-- a word's sign as a symbol: 254 or 255 -/
noncomputable def lsym (ca c : Nat) : Nat := if c = ca then 254 else 255
theorem stext_lsym {W : List (List Nat)} {ca cb : Nat} : ∀ x : List Nat, (∀ c ∈ x, c = ca ∨ c = cb) → stext W (fun i => if i = 0 then ca else cb) (x.map (lsym ca)) = x
  | [], _ => rfl
  | c :: x, h => by
    have ih := stext_lsym (W := W) x fun y hy => h y (.tail _ hy)
    have h1 : sym1 W (fun i => if i = 0 then ca else cb) (lsym ca c) = [c] := by
      unfold sym1 lsym
      rcases h c (.head _) with e | e
      · subst e; simp
      · by_cases he : c = ca
        · simp [he]
        · rw [if_neg he]; simp [e]
    unfold stext at ih ⊢
    rw [List.map_cons, List.flatMap_cons, ih, h1]
    rfl
theorem lsym_two (ca : Nat) (x : List Nat) : ∀ y ∈ x.map (lsym ca), y = 254 ∨ y = 255 := fun y hy => by
  obtain ⟨c, _, rfl⟩ := List.mem_map.mp hy
  unfold lsym
  split <;> simp
end Mine
end
section
open PySem PySem.W PySem.Calls PyProof.Rows
set_option maxRecDepth 100000
namespace Mine
/-! ## law 2's last statement: names shown, dots between words, blanks -/
theorem nm_ok : ∀ k < 260, ∀ c ∈ L (nm k), c < 60000 := by decide +kernel
theorem showL_app (a b : List (Bool × Nat)) : showL (a ++ b) = showL a ++ showL b := by simp [showL]
theorem showL_len : ∀ cs : List (Bool × Nat), (∀ x ∈ cs, x.2 < 260) → (showL cs).length ≤ 4 * cs.length
  | [], _ => Nat.le_refl _
  | x :: cs, h => by
    have ih := showL_len cs fun y hy => h y (.tail _ hy)
    have h1 := nm_len x.2 (h x (.head _))
    rw [← L_len] at h1
    show ((_ ++ L (nm x.2)) ++ showL cs).length ≤ _
    rw [List.length_append, List.length_append, List.length_cons]
    have : (if x.1 then [32] else ([] : List Nat)).length ≤ 1 := by split <;> simp
    ktr_room
theorem showL_ok : ∀ cs : List (Bool × Nat), (∀ x ∈ cs, x.2 < 260) → ∀ c ∈ showL cs, c < 60000
  | [], _, c, h => by cases h
  | x :: cs, hx, c, h => by
    have h : c ∈ (_ ++ L (nm x.2)) ++ showL cs := h
    rcases List.mem_append.mp h with h | h
    · rcases List.mem_append.mp h with h | h
      · split at h
        · rw [List.mem_singleton.mp h]; decide
        · cases h
      · exact nm_ok _ (hx x (.head _)) c h
    · exact showL_ok cs (fun y hy => hx y (.tail _ hy)) c h
theorem ok_lt2 {x : Str} (h : ∀ c ∈ L x, c < 60000) : PySem.PyData.strOk x = true := by
  unfold PySem.PyData.strOk
  rw [Array.all_eq_true']
  intro c hc
  have := h c (by simpa [L] using hc)
  exact decide_eq_true (by ktr_room)
theorem asg_cell {prog : Program} {w : World} {A : Around} {h₀ : Heap} {L a c I : Addr} {m : Str → Option Value} {name : Str} {scope : Scope} {cd v : Value} {v₀ : Option Value} {x : Str} {px : Pos} {Q : Unit → Shared → Prop} {pre post : Led} {o : Obj} {os : OsState} {s : Shared} (hx : (envOfC name scope L a cd).kindOf x = some .cell) (hc : (cellsFrom (L + 1) scope.names []).lookup x = some c) (hk : scope.kind = .function) (S : LoopSt h₀ L os s m (pre ++ (c, o) :: post)) (hd : o.data = .cell v₀)
    (h : ∀ s' o', o'.data = .cell (some v) → LoopSt h₀ L os s' m (pre ++ (c, o') :: post) → Q () s') :
    wpAny (model prog w) A (letOwnedTupleGo (.Name x px) (.ref I) v) (fun _ s₂' => wpAny (model prog w) A (assign (.Name x px) (envOfC name scope L a cd) v) Q (fun _ _ => False) s₂') (fun _ _ => False) s := by
  refine wpAny_of_eq (show letOwnedTupleGo (.Name x px) (.ref I) v = pure () from rfl) ?_
  exact wpAny_assign_Name (st_cell S hx hc hd hk fun h' o' e S' => h _ o' e S')
/-- dots between the pieces, and at their ends or not -/
theorem join_dots : ∀ ps : List Str, Txt.join dots ps = joinD ps := by
  intro ps
  show Builtin.Str.glued dots ps = _
  rw [StrLaws.glued_eq_join]
  induction ps with
  | nil => rfl
  | cons x r ih =>
    cases r with
    | nil => rfl
    | cons y r =>
      show x ++ dots ++ Str.join dots (y :: r) = x ++ dots ++ joinD (y :: r)
      rw [ih]
theorem joinD_back : ∀ ps : List Str, ps ≠ [] → joinD (ps ++ [Str.empty]) = joinD ps ++ dots
  | [p], _ => str_app_nil _
  | p :: q :: r, _ => by
    show p ++ dots ++ joinD (q :: r ++ [Str.empty]) = p ++ dots ++ joinD (q :: r) ++ dots
    rw [joinD_back (q :: r) (by simp), ← str_app_assoc]
theorem joinD_front (ps : List Str) (h : ps ≠ []) : joinD (Str.empty :: ps) = dots ++ joinD ps := by
  cases ps with
  | nil => exact absurd rfl h
  | cons p r => show Str.empty ++ dots ++ joinD (p :: r) = _; rw [str_nil_app]
theorem catS_empty (ps : List Str) : catS (ps ++ [Str.empty]) = catS ps := by rw [catS_app]; simp [catS, L, Str.empty]
theorem dots_both {ps : List Str} (hne : ps ≠ []) (h : ∀ p ∈ ps, nodot p) {da db : Str} (hda : da = Str.empty ∨ da = dots) (hdb : db = Str.empty ∨ db = dots) :
    ∃ qs : List Str, qs ≠ [] ∧ (∀ p ∈ qs, nodot p) ∧ catS qs = catS ps ∧ da ++ joinD ps ++ db = joinD qs := by
  obtain ⟨rs, h1, h2, h3, h4⟩ : ∃ rs : List Str, rs ≠ [] ∧ (∀ p ∈ rs, nodot p) ∧ catS rs = catS ps ∧ da ++ joinD ps = joinD rs := by
    rcases hda with rfl | rfl
    · exact ⟨ps, hne, h, rfl, str_nil_app _⟩
    · exact ⟨Str.empty :: ps, by simp, fun p hp => (List.mem_cons.mp hp).elim (fun e => e ▸ nodot_nil) (h p), by simp [catS, L, Str.empty], (joinD_front ps hne).symm⟩
  rw [h4]
  rcases hdb with rfl | rfl
  · exact ⟨rs, h1, h2, h3, str_app_nil _⟩
  · exact ⟨rs ++ [Str.empty], by simp, fun p hp => (List.mem_append.mp hp).elim (h2 p) (fun e => List.mem_singleton.mp e ▸ nodot_nil), by rw [catS_empty, h3], (joinD_back rs h1).symm⟩
theorem want_three {ps : List Str} (hne : ps ≠ []) (h : ∀ p ∈ ps, nodot p) {x x1 x2 : Str} (hx : L x = catS ps) (h1 : L x1 = (L x).drop 1) (h2 : L x2 = (L x).dropLast) (h0 : L x ≠ []) {da db : Str} (hda : da = Str.empty ∨ da = dots) (hdb : db = Str.empty ∨ db = dots) :
    ellM (da ++ joinD ps ++ db) x = true ∧ ellM (da ++ joinD ps ++ db) x1 = false ∧ ellM (da ++ joinD ps ++ db) x2 = false := by
  obtain ⟨qs, a1, a2, a3, a4⟩ := dots_both hne h hda hdb
  have hp := List.length_pos_iff.mpr h0
  rw [a4]
  refine ⟨ellM_whole a1 a2 (hx.trans a3.symm), ellM_short a1 a2 ?_, ellM_short a1 a2 ?_⟩
  · rw [a3, ← hx, ← L_len, h1, List.length_drop]; ktr_room
  · rw [a3, ← hx, ← L_len, h2, List.length_dropLast]; ktr_room
theorem catS_map : ∀ zs : List (Str × Tok), catS (zs.map (·.1)) = zs.flatMap fun z => L z.1
  | [] => rfl
  | z :: zs => by rw [List.map_cons, List.flatMap_cons, ← catS_map zs]; rfl
theorem joinD_len : ∀ ps : List Str, (L (joinD ps)).length ≤ (catS ps).length + 3 * ps.length
  | [] => Nat.zero_le _
  | [p] => by show (L p).length ≤ (L p ++ []).length + _; rw [List.append_nil]; ktr_room
  | p :: q :: r => by
    have ih := joinD_len (q :: r)
    show (L (p ++ dots ++ joinD (q :: r))).length ≤ (L p ++ catS (q :: r)).length + _
    rw [L_app, L_app, List.length_append, List.length_append, List.length_append, dots_list]
    simp only [List.length_cons, List.length_nil] at ih ⊢
    ktr_room
theorem mul_blank {prog : Program} {w : World} {A : Around} {s : Shared} {E : Value → Shared → Prop} {Q : Value → Shared → Prop} {n : Nat} {t u : Tok} (hn : n ≤ 100) (h : ∀ y t' k, L y = List.replicate n 32 → Q (.str y t') { s with toks := k }) :
    wpAny (model prog w) A (binaryOp .Mult (.str (Str.ofString " ") t) (.int (n : Int) u)) Q E s := by
  have hl : (Str.ofString " ").length = 1 := by decide +kernel
  refine SB.mul ?_ fun t' k => h _ t' k ?_
  · refine ⟨by simp; ktr_room, fun h1 _ => ?_, fun _ _ => ?_⟩
    · rw [hl]
      have : 1 ≤ (2 ^ 63 - 1 : Int) / (n : Int) := (Int.le_ediv_iff_mul_le (by ktr_room)).mpr (by ktr_room)
      ktr_room
    · unfold PySem.Builtin.Str.tooLong
      refine decide_eq_false ?_
      rw [sizeLine_eq, hl]
      ktr_room
  · have e : ∀ (k : Nat) (z : Array Nat), ((List.replicate k (Str.ofString " ").cps).foldl (· ++ ·) z).toList = z.toList ++ List.replicate k 32 := by
      intro k
      induction k with
      | zero => intro z; simp
      | succ k ih =>
        intro z
        rw [List.replicate_succ, List.foldl_cons, ih, Array.toList_append, show (Str.ofString " ").cps.toList = [32] by decide +kernel, List.append_assoc, List.replicate_succ]
        rfl
    unfold Txt.mul
    rw [hl]
    split
    · have : n = 0 := by ktr_room
      subst this; rfl
    · split
      · rename_i h1
        have : n = 1 := by simp at h1; ktr_room
        subst this; decide +kernel
      · show (((List.replicate (n : Int).toNat (Str.ofString " ").cps).foldl (· ++ ·) #[]) : Array Nat).toList = _
        rw [e, Int.toNat_natCast]
        rfl
end Mine
end
section
open PySem PySem.W PyProof.Rows
open Mine
-- a name of the frame told by a fact
local macro_rules | `(tactic| walk_at "eval Name") => `(tactic| (k_here; k_dflt (refine' ld ?k1 ?k2 ?_; (case k1 => k_asm); (case k2 => ktr_units); k_whole)))
local macro_rules | `(tactic| walk_at "loadName") => `(tactic| (k_here; k_dflt (refine' ldn ?k1 ?k2 ?_; (case k1 => k_asm); (case k2 => ktr_units); k_whole)))
-- an update of the ledger by its own distinctness
local macro_rules | `(tactic| k_upd) => `(tactic| (refine' upd_dn (by first | assumption | ktr_rel) ?_; (repeat' (first | exact UpdM.head | refine' UpdM.tail ?_))))
-- DN of the ledger at hand
local macro_rules | `(tactic| ktr_rel) => `(tactic| first | with_reducible assumption | exact dn_nil | (refine dn_cons ?_ ?_ <;> ktr_rel) | (refine AllLt.ne (by assumption) ?_; first | exact Nat.le_refl _ | omega | exact Nat.le_of_lt (by assumption)) | exact DN.allNe (by assumption) | (refine AllNe.cons ?_ ?_ <;> ktr_rel) | exact trivial | (dsimp only; omega) | assumption)
local macro_rules | `(tactic| walk_at "call builtin:len") => `(tactic| (k_here; refine len_led (News.isList (by k_asm) (by k_mem)) (by (try simp only [List.length_cons, List.length_append, List.length_nil]); exact rfl) (by first | decide | omega) ?_; intro t' u'; (try dsimp only)))
-- what a name of the frame holds
local macro_rules | `(tactic| ktr_units) => `(tactic| first | ((with_reducible refine' nm_ne2 (by decide) ?hm); (case hm => ktr_units)) | assumption | exact nm_eq)
local macro_rules | `(tactic| ktr_unf) => `(tactic| first | ktr_units | rfl)
-- a call of a def with a contract in the context
local macro_rules | `(tactic| ktr_room) => `(tactic| first | exact room1 (by assumption) (by decide) | exact room2 (by assumption) (by decide) | exact room3 (by assumption) (by decide))
local macro_rules | `(tactic| walk_at "call ref") => `(tactic| (k_here; refine Does.use (by first | k_offL | with_reducible assumption | assumption) (by assumption) (by k_asm) (by k_asm) (by k_asm) (by k_asm) rfl (by assumption) (by first | assumption | ktr_rel) (by ktr_room) (by ktr_room) ?_; intro v' s' nw' F' N' G' ho' D' hp'; obtain ⟨hv', hn'⟩ := hp'; (repeat (first | subst hv' | obtain ⟨_, hv'⟩ := hv')); (repeat (first | subst hn' | obtain ⟨_, hn'⟩ := hn')); (try dsimp only [List.nil_append, List.cons_append] at N' D')))
-- what stands behind a statement is named
local macro_rules | `(tactic| walk_at "execs cons") => `(tactic| (k_here; (try k_made); (try k_gentoks); (try k_fold); (with_reducible refine wpAny_execs_cons ?_); (try dsimp only); (try k_fold)))
-- a gate told by its key
local macro_rules | `(tactic| walk_at $k:str) => `(tactic| ((with_reducible rename Gate $k => hGate); refine stop_here ?_))
section
open PySem PySem.W PyProof.Rows
set_option maxRecDepth 100000
set_option maxHeartbeats 8000000
namespace Mine
theorem eof_spec (w : World) (x : Int) (t1 : Tok) :
  Does PySem.Challenge.rw_wr0021_02.row.prog w (Mine.frag.heap_1 w.params) topProg (.ref 165) 4 30 [.int x t1] [] (fun v nw => v = .bool (decide (x = 0)) ∧ nw = []) := by
  w_top off
  k_fill
  k_dflt (refine' does_of ?k1 ?k2 (fun _ kX => ?k3) ?k4 (by decide) (by decide) ?_ ?k5 ?k6 ?k7 ?k8; (case k1 => k_is); (case k2 => k_is); (case k3 => first | exact BindsTo.of_eq rfl | exact binds_K kX rfl (by k_is) rfl rfl rfl); (case k4 => exact locs rfl); (case k5 => decide); (case k6 => exact rfl); (case k7 => exact rfl); (case k8 => exact rfl)); intro loose mean mg mb dp un gd outer A₀ base g L' s₁ rest B F X N T G D hlt hdp hun; (try dsimp only); (try dsimp only [List.nil_append, List.cons_append] at N D hlt); have hL := F.ns.lt; (try (refine letA ?_; intro kA))
  k_steps
  all_goals (refine BodyPost.mk [] (by assumption) (by assumption) G rfl D ⟨?_, rfl⟩)
  all_goals (first | rfl | (simp; done) | (show Value.bool _ = _; congr 1; simp) | skip)
theorem term_spec (w : World) (x : Int) (t1 : Tok) :
  Does PySem.Challenge.rw_wr0021_02.row.prog w (Mine.frag.heap_1 w.params) topProg (.ref 151) 4 30 [.int x t1] [] (fun v nw => v = .bool (decide (x < 256)) ∧ nw = []) := by
  w_top off
  k_fill
  k_dflt (refine' does_of ?k1 ?k2 (fun _ kX => ?k3) ?k4 (by decide) (by decide) ?_ ?k5 ?k6 ?k7 ?k8; (case k1 => k_is); (case k2 => k_is); (case k3 => first | exact BindsTo.of_eq rfl | exact binds_K kX rfl (by k_is) rfl rfl rfl); (case k4 => exact locs rfl); (case k5 => decide); (case k6 => exact rfl); (case k7 => exact rfl); (case k8 => exact rfl)); intro loose mean mg mb dp un gd outer A₀ base g L' s₁ rest B F X N T G D hlt hdp hun; (try dsimp only); (try dsimp only [List.nil_append, List.cons_append] at N D hlt); have hL := F.ns.lt; (try (refine letA ?_; intro kA))
  k_steps
  all_goals (refine BodyPost.mk [] (by assumption) (by assumption) G rfl D ⟨?_, rfl⟩)
  all_goals (first | rfl | (simp; done) | (show Value.bool _ = _; congr 1; simp) | skip)
theorem nterm_spec (w : World) (x : Int) (t1 : Tok) :
  Does PySem.Challenge.rw_wr0021_02.row.prog w (Mine.frag.heap_1 w.params) topProg (.ref 158) 4 30 [.int x t1] [] (fun v nw => v = .bool (decide (256 ≤ x)) ∧ nw = []) := by
  w_top off
  k_fill
  k_dflt (refine' does_of ?k1 ?k2 (fun _ kX => ?k3) ?k4 (by decide) (by decide) ?_ ?k5 ?k6 ?k7 ?k8; (case k1 => k_is); (case k2 => k_is); (case k3 => first | exact BindsTo.of_eq rfl | exact binds_K kX rfl (by k_is) rfl rfl rfl); (case k4 => exact locs rfl); (case k5 => decide); (case k6 => exact rfl); (case k7 => exact rfl); (case k8 => exact rfl)); intro loose mean mg mb dp un gd outer A₀ base g L' s₁ rest B F X N T G D hlt hdp hun; (try dsimp only); (try dsimp only [List.nil_append, List.cons_append] at N D hlt); have hL := F.ns.lt; (try (refine letA ?_; intro kA))
  k_steps
  all_goals (refine BodyPost.mk [] (by assumption) (by assumption) G rfl D ⟨?_, rfl⟩)
  all_goals (first | rfl | (simp; done) | (show Value.bool _ = _; congr 1; simp) | skip)
end Mine
end
section
open PySem PySem.W PyProof.Rows
set_option maxRecDepth 100000
set_option maxHeartbeats 8000000
namespace Mine
local macro_rules | `(tactic| walk_at "truthy str") => `(tactic| (refine SBL.truthy (by omega) ?_))
local macro_rules | `(tactic| walk_at "subscriptTail Name Constant ref int") => `(tactic| (k_here; refine item_at (News.isList (by assumption) (by k_mem)) (by decide) (by decide) rfl ?_ (by with_unfolding_all rfl)))
local macro_rules | `(tactic| walk_at "subscriptTail Name UnaryOp ref int") => `(tactic| (k_here; refine item_last (News.isList (by assumption) (by k_mem)) ?_ (by with_unfolding_all rfl)))
local macro_rules | `(tactic| walk_at "delItem ref int") => `(tactic| (k_here; (first | refine del_first (by k_asm) (by k_asm) (by k_upd) ?z ?_ | refine del_last (by k_asm) (by k_asm) (by k_upd) ?z ?_); (case z => (rw [sizeLine_eq]; (try simp); omega)); intro h' F' N'; (try dsimp only)))
/-- behind the first if; behind the second; between the pieces -/
inductive ElC1 (g : Heap) (L' : Addr) (os : OsState) (lw : Addr) (rest : Led) (got : Str) (t2 : Tok) (want b : Str) (tb : Tok) (s' : Shared) : Prop
  | mk (m : Str → Option Value) (ini : List (Str × Tok)) (lo : Nat) (t te : Tok) (nn : Nat) : Fr g L' s'.heap m → m "ws" = some (.ref lw) → m "got" = some (.str got t2) → m "startpos" = some (.int ((lo : Nat) : Int) t) → m "endpos" = some (.int (got.length : Int) te) → News g L' s'.heap ((lw, listOf (strValues ini ++ [Value.str b tb]).toArray nn) :: rest) → AllBare s'.gens → s'.os = os → lo ≤ got.length → (strValues ini).length ≤ 1001 → ellM want got = ellEnd got (ini.map (·.1)) b lo → ElC1 g L' os lw rest got t2 want b tb s'
inductive ElC2 (g : Heap) (L' : Addr) (os : OsState) (lw : Addr) (rest : Led) (got : Str) (t2 : Tok) (want : Str) (s' : Shared) : Prop
  | mk (m : Str → Option Value) (rs : List (Str × Tok)) (lo hi : Nat) (t te : Tok) (nn : Nat) : Fr g L' s'.heap m → m "ws" = some (.ref lw) → m "got" = some (.str got t2) → m "startpos" = some (.int ((lo : Nat) : Int) t) → m "endpos" = some (.int ((hi : Nat) : Int) te) → News g L' s'.heap ((lw, listOf (strValues rs).toArray nn) :: rest) → AllBare s'.gens → s'.os = os → hi ≤ got.length → ellM want got = ellGo got (rs.map (·.1)) lo hi → ElC2 g L' os lw rest got t2 want s'
inductive ElJ (got : Str) (t2 : Tok) (hi : Nat) (rs : List (Str × Tok)) (lo : Nat) (rest : Led) (i : Nat) (m' : Str → Option Value) : Led → Prop
  | mk (lo' : Nat) (t' te' : Tok) : m' "got" = some (.str got t2) → m' "startpos" = some (.int ((lo' : Nat) : Int) t') → m' "endpos" = some (.int ((hi : Nat) : Int) te') → ellLoop got hi (rs.map (·.1)) lo = ellLoop got hi ((rs.map (·.1)).drop i) lo' → ElJ got t2 hi rs lo rest i m' rest
theorem ell_spec (w : World) (want got : Str) (t1 t2 : Tok) (hw : want.length ≤ 1000) (hg : got.length ≤ 1000) :
  Does PySem.Challenge.rw_wr0021_02.row.prog w (Mine.frag.heap_1 w.params) topProg (.ref 112) 10 80 [.str want t1, .str got t2] [] (fun v nw => v = .bool (ellM want got) ∧ nw = []) := by
  w_top off
  k_fill
  k_dflt (refine' does_of ?k1 ?k2 (fun _ kX => ?k3) ?k4 (by decide) (by decide) ?_ ?k5 ?k6 ?k7 ?k8; (case k1 => k_is); (case k2 => k_is); (case k3 => first | exact BindsTo.of_eq rfl | exact binds_K kX rfl (by k_is) rfl rfl rfl); (case k4 => exact locs rfl); (case k5 => decide); (case k6 => exact rfl); (case k7 => exact rfl); (case k8 => exact rfl)); intro loose mean mg mb dp un gd outer A₀ base g L' s₁ rest B F X N T G D hlt hdp hun; (try dsimp only); (try dsimp only [List.nil_append, List.cons_append] at N D hlt); have hL := F.ns.lt; (try (refine letA ?_; intro kA))
  have hGate : Gate "exec Assert" := ⟨⟩
  k_steps
  · (rename (_ = true) => hc)
    exact BodyPost.mk [] (by assumption) (by assumption) (by assumption) rfl (by assumption) ⟨by unfold ellM Txt.contains dots; rw [hc]; simp, rfl⟩
  · (repeat (with_reducible rename Gate _ => hG; clear hG))
    refine Stop.go ?_
    (rename (_ = Txt.split _ _) => hsp)
    (rename (_ = false) => hc)
    (rename (∀ a, _ → Str.length a ≤ _) => hlens)
    (rename StrsAre _ _ => hS)
    (rename Heap.IsList _ _ _ => hIs)
    clear hS hIs
    obtain ⟨a, ta, mid, b, tb, rfl⟩ := l_shape (by unfold Txt.contains dots; rw [hc]; rfl) hsp
    have ha : a.length ≤ 1000 := Nat.le_trans (hlens a (by simp)) hw
    have hb : b.length ≤ 1000 := Nat.le_trans (hlens b (by simp)) hw
    have hmid : (strValues mid).length ≤ 1000 := by
      have h1 := congrArg List.length hsp
      have h2 := split_len want dots
      unfold dots at h2
      rw [← h1] at h2
      simp [strValues] at h2 ⊢
      ktr_room
    simp only [strVals_cons, strVals_app, strVals_nil] at *
    generalize s₁.heap.objs.size = lw at *
    (rename News _ _ _ _ => N1)
    have D1 : DN ((lw, listOf (Value.str a ta :: (strValues mid ++ [Value.str b tb])).toArray 0) :: rest) := dn_cons (AllLt.ne hlt (Nat.le_of_lt hL)) D
    have hM : ellM want got = (if a.length ≠ 0 then (if Txt.startswith got a then ellEnd got (mid.map (·.1)) b a.length else false) else ellEnd got (a :: mid.map (·.1)) b 0) := by
      unfold ellM Txt.contains dots
      rw [hc, ← hsp]
      simp [List.dropLast_concat]
    have hGate : Gate "exec If" := ⟨⟩
    k_steps
    (repeat (with_reducible rename Gate _ => hG; clear hG))
    refine Stop.go ?_
    refine wpAny_mono (Q := Cut (ElC1 g L' s₁.os lw rest got t2 want b tb) (BodyPost g L' s₁.os rest fun v nw => v = .bool (ellM want got) ∧ nw = [])) ?_ (fun f s' hf => ?_) (fun _ _ e => e)
    · k_steps
      · (rename Fr _ _ _ _ => F9)
        (rename News _ _ _ _ => N9)
        (rename Txt.startswith _ _ = true => hst)
        have hne' : a.length ≠ 0 := by ktr_room
        refine Cut.next ⟨_, mid, a.length, _, _, _, F9, by ktr_unf, by ktr_unf, by ktr_unf, by ktr_unf, fun q hq => N9 q (.tail _ hq), G, rfl, ?_, by ktr_room, ?_⟩
        · unfold Txt.startswith at hst; simp at hst; ktr_room
        · rw [hM, if_pos hne', if_pos hst]
      · (rename Fr _ _ _ _ => F9)
        (rename News _ _ _ _ => N9)
        (rename Txt.startswith _ _ = false => hst)
        have hne' : a.length ≠ 0 := by ktr_room
        dsimp only [Cut]
        exact BodyPost.mk [] F9 (fun q hq => N9 q (.tail _ (.tail _ hq))) G rfl D ⟨by rw [hM, if_pos hne', hst]; rfl, rfl⟩
      · (rename Fr _ _ _ _ => F9)
        (rename News _ _ _ _ => N9)
        have hne' : ¬ a.length ≠ 0 := by ktr_room
        refine Cut.next ⟨_, (a, ta) :: mid, 0, _, _, _, F9, by ktr_unf, by ktr_unf, by ktr_unf, by ktr_unf, fun q hq => N9 q (.tail _ hq), G, rfl, Nat.zero_le _, by rw [strVals_cons, List.length_cons]; ktr_room, ?_⟩
        rw [hM, if_neg hne']; rfl
    · cases f with
      | next =>
        clear hM
        (rename Fr _ _ _ _ => F9; rename News _ _ _ _ => N9; clear F9 N9)
        obtain ⟨m, ini, lo, t, te, nn, F2, hm1, hm2, hm3, hm4, N2, G2, ho2, hlo, hini, hE⟩ := hf
        have D2 : DN ((lw, listOf (strValues ini ++ [Value.str b tb]).toArray nn) :: rest) := D1
        have hGate : Gate "exec If" := ⟨⟩
        k_steps
        (repeat (with_reducible rename Gate _ => hG; clear hG))
        refine Stop.go ?_
        refine wpAny_mono (Q := Cut (ElC2 g L' s₁.os lw rest got t2 want) (BodyPost g L' s₁.os rest fun v nw => v = .bool (ellM want got) ∧ nw = [])) ?_ (fun f s' hf => ?_) (fun _ _ e => e)
        · k_steps
          · (rename Fr _ _ _ _ => F9)
            (rename News _ _ _ _ => N9)
            (rename Txt.endswith _ _ = true => hst)
            have hne' : b.length ≠ 0 := by ktr_room
            have hle : b.length ≤ got.length := by unfold Txt.endswith at hst; simp at hst; ktr_room
            refine Cut.next ⟨_, ini, lo, got.length - b.length, _, _, _, F9, by ktr_unf, by ktr_unf, by ktr_unf, by rw [show (((got.length - b.length : Nat) : Int)) = (got.length : Int) - (b.length : Int) by ktr_room]; ktr_unf, fun q hq => N9 q hq, G2, ho2, by ktr_room, ?_⟩
            · rw [hE]; unfold ellEnd; rw [if_pos hne', if_pos hst]
          · (rename Fr _ _ _ _ => F9)
            (rename News _ _ _ _ => N9)
            (rename Txt.endswith _ _ = false => hst)
            have hne' : b.length ≠ 0 := by ktr_room
            dsimp only [Cut]
            exact BodyPost.mk [] F9 (fun q hq => N9 q (.tail _ hq)) G2 ho2 D ⟨by rw [hE]; unfold ellEnd; rw [if_pos hne', hst]; rfl, rfl⟩
          · (rename Fr _ _ _ _ => F9)
            (rename News _ _ _ _ => N9)
            have hne' : ¬ b.length ≠ 0 := by ktr_room
            refine Cut.next ⟨_, ini ++ [(b, tb)], lo, got.length, _, _, nn, F9, by ktr_unf, by ktr_unf, by ktr_unf, by ktr_unf, by rw [strVals_app]; exact N9, G2, ho2, Nat.le_refl _, ?_⟩
            rw [hE]; unfold ellEnd; rw [if_neg hne']; simp
        · cases f with
          | next =>
            obtain ⟨m, rs, lo, hi, t, te, nn, F3, hm1, hm2, hm3, hm4, N3, G3, ho3, hhi, hE3⟩ := hf
            have D3 : DN ((lw, listOf (strValues rs).toArray nn) :: rest) := D1
            have hGate : Gate "exec For" := ⟨⟩
            k_steps
            · (repeat (with_reducible rename Gate _ => hG; clear hG))
              exact BodyPost.mk [] F3 (fun q hq => N3 q (.tail _ hq)) G3 ho3 D ⟨by rw [hE3]; unfold ellGo; rw [if_pos (by ktr_room)], rfl⟩
            · (repeat (with_reducible rename Gate _ => hG; clear hG))
              refine Stop.go ?_
              refine For_obl (h₀ := g) rfl ?_ (by intro _; rfl)
              k_steps
              refine ⟨[lw], [(lw, listOf (strValues rs).toArray nn)], _, _, m, rest, fun i m' => ElJ got t2 hi rs lo rest i m', _, src_list (News.isList N3 (.head _)), fun b hb => .inl (by simpa using hb), ⟨F3, N3, G3, rfl, D3⟩, .mk lo t te hm2 hm3 hm4 rfl,
                fun I o i u m' news' s₂ Q' hP hi hJ S _ h => asg_name rfl rfl S h, ?_, ?_⟩
              · rintro I o i u m' news' s₂ hP hi2 ⟨lo', t', te', hm5, hm6, hm7, hE4⟩ ⟨F4, N4, G4, ho4, D4⟩
                obtain ⟨tw, y, r', hu, hdr⟩ : ∃ (tw : Tok) (y : Str) (r' : List Str), u = .str y tw ∧ (rs.map (·.1)).drop i = y :: r' ∧ (rs.map (·.1)).drop (i + 1) = r' := turn_at hP
                subst hu
                simp only [List.cons_append, List.nil_append] at N4 D4
                have hGate : Gate "call builtin:str.find" := ⟨⟩
                k_steps
                (repeat (with_reducible rename Gate _ => hG; clear hG))
                refine Stop.go ?_
                cases hocc : Builtin.Str.occurrences got y lo' hi 1 with
                | nil =>
                  refine find4_none hhi hocc fun t9 k9 => ?_
                  k_steps
                  (rename Fr _ _ _ _ => F9)
                  (rename News _ _ _ _ => N9)
                  dsimp only [TurnPost]
                  refine BodyPost.mk [] F9 (fun q hq => N9 q (.tail _ (.tail _ hq))) G4 (ho4.trans ho3) D ⟨?_, rfl⟩
                  rw [hE3]; unfold ellGo; rw [if_neg (by ktr_room), hE4, hdr.1]; unfold ellLoop; rw [hocc]
                | cons k r9 =>
                  have hk9 := occ_len hocc
                  refine find4_some hhi hocc fun t9 k9 => ?_
                  k_steps
                  (rename Fr _ _ _ _ => F9)
                  (rename News _ _ _ _ => N9)
                  refine ⟨_, rest, ⟨F9, N9, G4, ho4, D4⟩, .mk (k + y.length) _ _ (by ktr_unf) (by rw [show (((k + y.length : Nat) : Int)) = (k : Int) + (y.length : Int) by ktr_room]; ktr_unf) (by ktr_unf) ?_⟩
                  rw [hE4, hdr.1, hdr.2]; conv => lhs; unfold ellLoop
                  rw [hocc]
              · rintro m' news' s₂ ⟨lo', t', te', hm5, hm6, hm7, hE4⟩ ⟨F4, N4, G4, ho4, D4⟩
                simp only [List.cons_append, List.nil_append] at N4 D4
                k_steps
                refine BodyPost.mk [] F4 (fun q hq => N4 q (.tail _ hq)) G4 (ho4.trans ho3) D ⟨?_, rfl⟩
                rw [hE3]; unfold ellGo; rw [if_neg (by ktr_room), hE4, List.drop_of_length_le (by simp [strValues])]; rfl
          | _ => exact hf
      | _ => exact hf
end Mine
end
section
open PySem PySem.W PyProof.Rows
set_option maxRecDepth 100000
set_option maxHeartbeats 8000000
namespace Mine
/-- between the turns -/
inductive PaJ (resp : Str) (t1 : Tok) (rest : Led) (m' : Str → Option Value) : Nat → Led → Prop
  | mk (i : Nat) (d : Str) (ti tn td : Tok) : m' "resp" = some (.str resp t1) → m' "i" = some (.int (i : Int) ti) → m' "n" = some (.int (resp.length : Int) tn) → m' "dirname" = some (.str d td) → d.length ≤ i → d.cps.toList ++ p257 (resp.cps.toList.drop i) = p257 (resp.cps.toList.drop 5) → PaJ resp t1 rest m' (resp.length + 1 - i) rest
theorem parse_spec (w : World) (resp : Str) (t1 : Tok) (hw : resp.length ≤ 1000) (h3 : resp.cps.toList.take 3 = [50, 53, 55]) :
  Does PySem.Challenge.rw_wr0021_02.row.prog w (Mine.frag.heap_1 w.params) topProg (.ref 144) 10 80 [.str resp t1] [] (fun v nw => (∃ t, v = .str (parseM resp) t) ∧ nw = []) := by
  have e3 : Txt.slice resp none (some 3) = Str.ofString "257" := str_ext (by
    rw [slice_list, show (Str.ofString "257").cps.toList = [50, 53, 55] from by decide +kernel, ← h3]
    have hl : 3 ≤ resp.length := by have := congrArg List.length h3; rw [List.length_take, len_list] at this; change min 3 resp.length = 3 at this; ktr_room
    simp only [clip]; rw [show (max 0 (min (if (3 : Int) < 0 then 3 + (resp.length : Int) else 3) resp.length)).toNat = 3 by ktr_room, List.drop_zero])
  have e5 : (Txt.slice resp (some 3) (some 5) = Str.ofString " \"") ↔ (resp.cps.toList.drop 3).take 2 = [32, 34] := by
    have hl : 3 ≤ resp.length := by have := congrArg List.length h3; rw [List.length_take, len_list] at this; change min 3 resp.length = 3 at this; ktr_room
    have hs : (Txt.slice resp (some 3) (some 5)).cps.toList = (resp.cps.toList.drop 3).take 2 := by
      rw [slice_list]
      have e1 : clip resp.length (some 3) 0 = 3 := by simp only [clip]; ktr_room
      have e2 : clip resp.length (some 5) resp.length = min 5 resp.length := by simp only [clip]; ktr_room
      rw [e1, e2, List.drop_take]
      by_cases h : 5 ≤ resp.length
      · rw [show min 5 resp.length - 3 = 2 by ktr_room]
      · rw [List.take_of_length_le (by rw [List.length_drop, len_list]; ktr_room), List.take_of_length_le (by rw [List.length_drop, len_list]; ktr_room)]
    constructor
    · intro h; rw [← hs, h]; decide +kernel
    · intro h; exact str_ext (by rw [hs, h]; decide +kernel)
  w_top off
  k_fill
  k_dflt (refine' does_of ?k1 ?k2 (fun _ kX => ?k3) ?k4 (by decide) (by decide) ?_ ?k5 ?k6 ?k7 ?k8; (case k1 => k_is); (case k2 => k_is); (case k3 => first | exact BindsTo.of_eq rfl | exact binds_K kX rfl (by k_is) rfl rfl rfl); (case k4 => exact locs rfl); (case k5 => decide); (case k6 => exact rfl); (case k7 => exact rfl); (case k8 => exact rfl)); intro loose mean mg mb dp un gd outer A₀ base g L' s₁ rest B F X N T G D hlt hdp hun; (try dsimp only); (try dsimp only [List.nil_append, List.cons_append] at N D hlt); have hL := F.ns.lt; (try (refine letA ?_; intro kA)); refine open_Q ?_; intro QB hQB
  have hGate : Gate "exec While" := ⟨⟩
  k_steps
  · (rename (_ != _) = true => hne)
    (rename Fr _ _ _ _ => F9)
    (rename News _ _ _ _ => N9)
    (try dsimp only [Cut])
    subst hQB; refine BodyPost.mk [] F9 N9 G rfl D ⟨⟨_, by unfold parseM; rw [if_neg (fun z => by rw [e5.mpr z] at hne; simp at hne)]; rfl⟩, rfl⟩
  · (rename (_ != _) = false => hne)
    (rename Fr _ _ _ _ => F9)
    (rename News _ _ _ _ => N9)
    (repeat (with_reducible rename Gate _ => hG; clear hG))
    have h5 : (resp.cps.toList.drop 3).take 2 = [32, 34] := e5.mp (by rw [bne_eq_false_iff_eq] at hne; exact hne)
    refine Stop.go ?_
    refine While_obl (h₀ := g) (L := L') (os := s₁.os) (fun k m' news' => PaJ resp t1 rest m' k news') _ ⟨F9, N9, G, rfl, D⟩ (.mk 5 Str.empty _ _ _ (by ktr_unf) (by ktr_unf) (by ktr_unf) (by ktr_unf) (by decide) rfl) ?_
    rintro k m' news' s₂ ⟨i, d, ti, tn, td, hm1, hm2, hm3, hm4, hd, hE⟩ ⟨F4, N4, G4, ho4, D4⟩
    k_steps
    · (rename Fr _ _ _ _ => F9)
      (rename News _ _ _ _ => N9)
      (rename (_ == _) = true => hc)
      (rename (_ : Int) ≤ _ => hn)
      obtain ⟨c, hdr, hit⟩ := at_sign (x := resp) (i := i) (by ktr_room)
      rw [hit, mark_str, sign_eq, decide_eq_true_eq] at hc
      subst hc
      have hE2 : d = ⟨(p257 (resp.cps.toList.drop 5)).toArray⟩ := str_ext (by
        show d.cps.toList = _
        rw [← hE, hdr, List.drop_of_length_le (by rw [len_list]; ktr_room), p257_mark_end (by simp)]; simp)
      dsimp only [TurnPost]
      k_steps
      subst hQB; refine BodyPost.mk [] F9 N9 G4 ho4 D4 ⟨⟨td, ?_⟩, rfl⟩
      show Value.str d td = _
      rw [hE2]; unfold parseM; rw [if_pos h5]
    · (rename Fr _ _ _ _ => F9)
      (rename News _ _ _ _ => N9)
      (rename (_ == _) = true => hc)
      (rename ¬ (_ : Int) ≤ _ => hn)
      (rename (_ != _) = true => hm)
      obtain ⟨c, hdr, hit⟩ := at_sign (x := resp) (i := i) (by ktr_room)
      obtain ⟨c2, hdr2, hit2⟩ := at_sign (x := resp) (i := i + 1) (by ktr_room)
      rw [hit, mark_str, sign_eq, decide_eq_true_eq] at hc
      rw [show (i : Int) + 1 = ((i + 1 : Nat) : Int) by ktr_room, hit2, mark_str, bne, sign_eq] at hm
      subst hc
      have hE2 : d = ⟨(p257 (resp.cps.toList.drop 5)).toArray⟩ := str_ext (by
        show d.cps.toList = _
        rw [← hE, hdr, hdr2, p257_mark_end (by simpa using hm)]; simp)
      dsimp only [TurnPost]
      k_steps
      subst hQB; refine BodyPost.mk [] F9 N9 G4 ho4 D4 ⟨⟨td, ?_⟩, rfl⟩
      show Value.str d td = _
      rw [hE2]; unfold parseM; rw [if_pos h5]
    · (rename Fr _ _ _ _ => F9)
      (rename News _ _ _ _ => N9)
      (rename (_ == _) = true => hc)
      (rename ¬ (_ : Int) ≤ _ => hn)
      (rename (_ != _) = false => hm)
      obtain ⟨c, hdr, hit⟩ := at_sign (x := resp) (i := i) (by ktr_room)
      obtain ⟨c2, hdr2, hit2⟩ := at_sign (x := resp) (i := i + 1) (by ktr_room)
      have hc' := hc
      rw [hit, mark_str, sign_eq, decide_eq_true_eq] at hc'
      rw [show (i : Int) + 1 = ((i + 1 : Nat) : Int) by ktr_room, hit2, mark_str, bne, sign_eq] at hm
      have hm' : c2 = 34 := by simpa using hm
      subst hc'; subst hm'
      dsimp only [TurnPost]
      refine ⟨_, rest, ⟨F9, N9, G4, ho4, D4⟩, _, ?_, .mk (i + 2) _ _ _ _ (by ktr_unf) (by rw [show (((i + 2 : Nat) : Int)) = (i : Int) + 1 + 1 by ktr_room]; ktr_unf) (by ktr_unf) (by ktr_unf) ?_ ?_⟩
      · ktr_room
      · ktr_room
      · show (d ++ _).cps.toList ++ _ = _
        rw [← hE, hdr, hdr2, p257_mark, hit, Str.cps_append, Array.toList_append, List.append_assoc]; rfl
    · (rename Fr _ _ _ _ => F9)
      (rename News _ _ _ _ => N9)
      (rename (_ == _) = false => hc)
      (rename (i : Int) < _ => hn)
      obtain ⟨c, hdr, hit⟩ := at_sign (x := resp) (i := i) (by ktr_room)
      have hc' := hc
      rw [hit, mark_str, sign_eq, decide_eq_false_iff_not] at hc'
      dsimp only [TurnPost]
      refine ⟨_, rest, ⟨F9, N9, G4, ho4, D4⟩, _, ?_, .mk (i + 1) _ _ _ _ (by ktr_unf) (by rw [show (((i + 1 : Nat) : Int)) = (i : Int) + 1 by ktr_room]; ktr_unf) (by ktr_unf) (by ktr_unf) ?_ ?_⟩
      · ktr_room
      · ktr_room
      · show (d ++ _).cps.toList ++ _ = _
        rw [← hE, hdr, p257_sign hc', hit, Str.cps_append, Array.toList_append, List.append_assoc]; rfl
    · (rename ¬ (i : Int) < _ => hn)
      have hE2 : d = ⟨(p257 (resp.cps.toList.drop 5)).toArray⟩ := str_ext (by
        show d.cps.toList = _
        rw [← hE, List.drop_of_length_le (by rw [len_list]; ktr_room)]; simp [p257])
      subst hQB; refine BodyPost.mk [] F4 N4 G4 ho4 D4 ⟨⟨td, ?_⟩, rfl⟩
      show Value.str d td = _
      rw [hE2]; unfold parseM; rw [if_pos h5]
end Mine
end
section
open PySem PySem.W PyProof.Rows
set_option maxRecDepth 100000
set_option maxHeartbeats 8000000
namespace Mine
theorem len_old {prog : Program} {w : World} {A : Around} {E : Value → Shared → Prop} {s : Shared} {h₀ : Heap} {L l : Addr} {m : Str → Option Value} {vs : List Value} {Q : Value → Shared → Prop} (F : Fr h₀ L s.heap m) (hl : h₀.IsList l vs.toArray) (hk : vs.length < 2 ^ 62) (h : ∀ t u, Q (.int ((vs.length : Nat) : Int) t) { s with toks := u }) : wpAny (model prog w) A (call (.builtin "len") [.ref l]) Q E s :=
  len_led (hl.at fun o e => F.keep _ o e) rfl hk h
local macro_rules | `(tactic| walk_at "call builtin:len") => `(tactic| (k_here; refine len_old (by k_asm) (by assumption) (by omega) ?_; intro t' u'))
theorem ki_setL_eq : ∀ {l : List Value} {k : Nat} {v : Value}, k < l.length → ki_setL l k v = some (l.set k v)
  | [], _, _, h => by simp at h
  | _ :: _, 0, _, _ => rfl
  | x :: r, k + 1, v, h => by
    unfold ki_setL
    rw [ki_setL_eq (l := r) (by simpa using h)]
    rfl
theorem nums_spec (w : World) (Sl : Addr) (so : Obj) (items : List Value) (sn : Nat) (hcls : so.cls = .type "list") (hdat : so.data = .seq items.toArray sn) (hi : ∀ v ∈ items, ∃ (k : Int) (t : Tok), v = .int k t) (hl : items.length ≤ 63) :
  DoesO PySem.Challenge.rw_wr0021_02.row.prog w (Mine.frag.heap_1 w.params) topProg (.ref 172) 20 200 [.ref Sl] [(Sl, so)] [] (fun v nw => ∃ Nl xs n, v = .ref Nl ∧ nw = [(Nl, listOf (ivals xs).toArray n)] ∧ xs.length = 5 ∧ ∀ p ∈ xs, p.1 ≤ 10 ^ 8) := by
  w_top off
  k_fill
  k_dflt (refine' does_ofO ?k1 ?k2 (fun _ kX => ?k3) ?k4 (by decide) (by decide) ?_ ?k5 ?k6 ?k7 ?k8; (case k1 => k_is); (case k2 => k_is); (case k3 => first | exact BindsTo.of_eq rfl | exact binds_K kX rfl (by k_is) rfl rfl rfl); (case k4 => exact locs rfl); (case k5 => decide); (case k6 => exact rfl); (case k7 => exact rfl); (case k8 => exact rfl)); intro loose mean mg mb dp un gd outer A₀ base g L' s₁ rest B F X O N T G D hlt hdp hun; (try dsimp only); (try dsimp only [List.nil_append, List.cons_append] at N D hlt); have hL := F.ns.lt; (try (refine letA ?_; intro kA)); refine open_Q ?_; intro QB hQB
  have hsl : g.IsList Sl items.toArray := ⟨so, O _ (.head _), hcls, sn, hdat⟩
  have hGate : Gate "exec For Name Call cons nil" := ⟨⟩
  k_steps
  (repeat (with_reducible rename Gate _ => hG; clear hG))
  refine Stop.go ?_
  refine For_obl (h₀ := g) rfl ?_ (by intro _; rfl)
  k_steps
  (rename IsRange _ _ _ _ _ _ _ _ => R1)
  (rename Fr _ _ _ _ => F1)
  (rename News _ _ _ ((_, listOf _ 0) :: _) => N1)
  (rename ∀ p : Addr × Obj, p ∈ _ → p.1 < _ => l1)
  refine ⟨[], [], items.length, _, _, _, fun i m' nw => ∃ Nl xs n, nw = (Nl, listOf (ivals xs).toArray n) :: rest ∧ m' "numbers" = some (.ref Nl) ∧ m' "script" = some (.ref Sl) ∧ xs.length = 5 ∧ ∀ p ∈ xs, p.1 ≤ 500 + 10 ^ 6 * i, _, src_range R1 (small_one (by ktr_room) (by ktr_room) (by ktr_room) (by ktr_room)) _ (by rw [rangeSize_nat]; ktr_room), (by simp), ⟨F1, N1, G, rfl, DN.cons_of D l1⟩,
    ⟨_, [(9, _), (26, _), (22, _), (500, _), (3, _)], 0, rfl, by ktr_unf, by ktr_unf, rfl, by simp⟩, fun I o i u m' nw s₂ Q' hP hi hJ S _ h => asg_name rfl rfl S h, ?_, ?_⟩
  · rintro I o i u m' nw s₂ ⟨tu, rfl⟩ hi2 ⟨Nl, xs, n, rfl, hm1, hm2, hx5, hxs⟩ ⟨F2, N2, G2, ho2, D2⟩
    dsimp only [List.cons_append, List.nil_append] at N2 D2
    have hGate : Gate "subscriptTail" := ⟨⟩; have hGate : Gate "getItem ref int" := ⟨⟩; have hGate : Gate "setItem ref int" := ⟨⟩
    k_steps
    (repeat (with_reducible rename Gate _ => hG; clear hG))
    refine Stop.go ?_
    have hk5 : ((0 + (i : Int) * 1).fmod 5) = ((i % 5 : Nat) : Int) := by rw [Int.fmod_eq_emod_of_nonneg _ (by decide)]; ktr_room
    have hkl : i % 5 < xs.length := by ktr_room
    obtain ⟨p, hp⟩ : ∃ p, xs[i % 5]? = some p := ⟨_, List.getElem?_eq_getElem hkl⟩
    have hpl := hxs p (List.mem_of_getElem? hp)
    obtain ⟨ks, tks, hks⟩ := hi _ (List.getElem_mem hi2)
    refine wpAny_getItem_list (x := .int (p.1 : Int) p.2) (News.isList N2 (by k_mem)) (by rw [hk5]; ktr_room) (by rw [hk5]; ktr_room) (by rw [hk5, List.getElem?_toArray]; unfold ivals; rw [List.getElem?_map]; show (xs[((i % 5 : Nat) : Int).toNat]?).map _ = _; rw [Int.toNat_natCast, hp]; rfl) ?_
    have hGate : Gate "subscriptTail" := ⟨⟩; have hGate : Gate "getItem ref int" := ⟨⟩; have hGate : Gate "setItem ref int" := ⟨⟩
    k_steps
    (repeat (with_reducible rename Gate _ => hG; clear hG))
    refine Stop.go ?_
    refine item_at (vs := items) (v := .int ks tks) (hsl.at fun o e => F2.keep _ o e) (by ktr_room) (by ktr_room) (by rw [show (0 + (i : Int) * 1).toNat = i by ktr_room, List.getElem?_eq_getElem hi2, hks]) ?_ (by with_unfolding_all rfl)
    have hm0 : 0 ≤ ks.fmod 1000000 := by rw [Int.fmod_eq_emod_of_nonneg _ (by decide)]; ktr_room
    have hm6 : ks.fmod 1000000 < 1000000 := by rw [Int.fmod_eq_emod_of_nonneg _ (by decide)]; ktr_room
    have hGate : Gate "subscriptTail" := ⟨⟩; have hGate : Gate "getItem ref int" := ⟨⟩; have hGate : Gate "setItem ref int" := ⟨⟩
    k_steps
    (repeat (with_reducible rename Gate _ => hG; clear hG))
    refine Stop.go ?_
    obtain ⟨kn, hkn⟩ : ∃ kn : Nat, (p.1 : Int) + ks.fmod 1000000 = (kn : Int) := ⟨((p.1 : Int) + ks.fmod 1000000).toNat, by ktr_room⟩
    have key : ∀ (v : Value) (tt : Tok), v = .int ((p.1 : Int) + ks.fmod 1000000) tt → (ivals xs).set (i % 5) v = ivals (xs.set (i % 5) (kn, tt)) := fun v tt e => by
      rw [e, hkn]; unfold ivals; rw [List.map_set]
    refine ki_set (its := (ivals xs).toArray) (n := n) F2 N2 (by rw [hk5]; ktr_room) (by rw [hk5]; ktr_room) (q := ivals (xs.set (i % 5) (kn, _))) (by rw [hk5, Int.toNat_natCast, ← key _ _ rfl]; exact ki_setL_eq (by rw [ivals_len]; exact hkl)) (upd_dn D2 (.tail .head)) ?_
    intro h9 F9 N9
    k_steps
    refine ⟨_, _, ⟨F9, N9, G2, ho2, D2⟩, Nl, _, n, rfl, by ktr_unf, by ktr_unf, by rw [List.length_set]; exact hx5, ?_⟩
    intro q hq
    rcases List.mem_or_eq_of_mem_set hq with h | rfl
    · have := hxs q h
      ktr_room
    · show kn ≤ _
      ktr_room
  · rintro m' nw s₂ ⟨Nl, xs, n, rfl, hm1, hm2, hx5, hxs⟩ ⟨F2, N2, G2, ho2, D2⟩
    dsimp only [List.cons_append, List.nil_append] at N2 D2
    k_steps
    subst hQB; refine BodyPost.mk [_] F2 N2 G2 ho2 D2 ⟨Nl, xs, n, rfl, rfl, hx5, fun p hp => ?_⟩
    have := hxs p hp
    ktr_room
end Mine
end
section
open PySem PySem.W PyProof.Rows
set_option maxRecDepth 100000
set_option maxHeartbeats 8000000
namespace Mine
theorem takes_spec (w : World) (want got : Str) (t1 t2 : Tok) (hw : want.length ≤ 900) (hg : got.length ≤ 1000) :
  Does PySem.Challenge.rw_wr0021_02.row.prog w (Mine.frag.heap_1 w.params) topProg (.ref 179) 14 120 [.str want t1, .str got t2] [] (fun v nw => v = .bool (ellM want got) ∧ nw = []) := by
  have hE := ell_spec w want got t1 t2 (Nat.le_trans hw (by decide)) hg
  w_top off
  k_fill
  k_dflt (refine' does_of ?k1 ?k2 (fun _ kX => ?k3) ?k4 (by decide) (by decide) ?_ ?k5 ?k6 ?k7 ?k8; (case k1 => k_is); (case k2 => k_is); (case k3 => first | exact BindsTo.of_eq rfl | exact binds_K kX rfl (by k_is) rfl rfl rfl); (case k4 => exact locs rfl); (case k5 => decide); (case k6 => exact rfl); (case k7 => exact rfl); (case k8 => exact rfl)); intro loose mean mg mb dp un gd outer A₀ base g L' s₁ rest B F X N T G D hlt hdp hun; (try dsimp only); (try dsimp only [List.nil_append, List.cons_append] at N D hlt); have hL := F.ns.lt; (try (refine letA ?_; intro kA)); refine open_Q ?_; intro QB hQB
  k_steps
  · subst hQB; exact BodyPost.mk [] (by assumption) (by assumption) (by assumption) (by assumption) D ⟨rfl, rfl⟩
  · subst hQB; exact BodyPost.mk [] (by assumption) (by assumption) (by assumption) (by assumption) D ⟨rfl, rfl⟩
  · exfalso
    cases hq : ellM want got <;> simp_all
end Mine
end
section
open PySem PySem.W PyProof.Rows
open Mine
local macro_rules | `(tactic| k_inst) => `(tactic| refine acc_inst (by k_asm) (by k_mem) (by k_mem))
local macro_rules | `(tactic| walk_at "getMethod ref") => `(tactic| (k_here; refine acc_method (by assumption) (by k_in) (by k_inst) (by exact rfl) (by k_is) (by k_is) (by decide +kernel) (by k_get) ?_))
section
open PySem PySem.W PyProof.Rows
open Mine
local macro_rules | `(tactic| walk_at "getMethod ref") => `(tactic| (k_here; (first | refine' sup_len ?F ?X ?N ?m ?I ?c ?o ?hm ?_ | refine' sup_pop ?F ?X ?N ?m ?I ?c ?o ?hm ?_ | refine' sup_init ?F ?X ?N ?m ?I ?c ?o ?hm ?_); (case F => k_asm); (case X => k_asm); (case N => k_asm); (case m => k_mem); (case I => k_inst); (case c => assumption); (case o => k_is); (case hm => ks_is); intro q' h' F' N' l1; (try k_lt l1)))
local macro_rules | `(tactic| walk_at "callWith ref") => `(tactic| (k_here; first | refine cw_wrap (by k_asm) (by k_mem) ?_ | refine cw_func (by k_asm) (by k_mem) ?_))
local macro_rules | `(tactic| walk_at "call ref") => `(tactic| (k_here; refine bound_len (by k_asm) (by k_mem) (by k_mem) ?_))
local macro_rules | `(tactic| walk_at "call ref") => `(tactic| (k_here; refine bound_init (by k_asm) (by k_asm) (by k_mem) (by k_upd) ?_; intro h' F' N'; (try dsimp only)))
local macro_rules | `(tactic| walk_at "call ref") => `(tactic| (k_here; refine bound_pop (by k_asm) (by k_asm) (by k_asm) (by k_mem) (by k_upd) (by exact rfl) (by k_is) (by k_is) (by exact rfl) (by first | omega | (simp; omega)) ?_; intro h' F' N'; (try dsimp only)))
local macro_rules | `(tactic| walk_at "setAttr ref") => `(tactic| (k_here; refine acc_set (by k_asm) (by k_asm) (by k_asm) (by k_inst) (by exact rfl) (by k_is) (by exact rfl) (by exact rfl) (by k_is) (by exact rfl) (by k_get) (by k_put) (by k_upd) (by exact Nat.le_of_ble_eq_true rfl) ?_; intro h' F' N'; (try dsimp only)))
local macro_rules | `(tactic| walk_at "call builtin:list.append") => `(tactic| (k_here; refine' acc_append (by assumption) (by k_asm) (by k_asm) (by k_asm) ?m (by k_upd) (by first | omega | (simp; omega)) ?_; (case m => k_mem); intro h' F' N'; (try dsimp only)))
local macro_rules | `(tactic| walk_at $k:str) => `(tactic| ((with_reducible rename Gate $k => hGate); refine stop_here ?_))
section
open PySem PySem.W PyProof.Rows
set_option maxRecDepth 100000
set_option maxHeartbeats 8000000
namespace Mine
theorem lcls (w : World) : LCls (Mine.frag.heap_1 w.params) 101 := ⟨by kernel_rfl, by kernel_rfl, by kernel_rfl, by kernel_rfl⟩
theorem push_spec (w : World) (a : At) (ts : List Pc) (n : Nat) (f g' : Str) (tf tg : Tok) (hl : ts.length ≤ 900) :
  Does PySem.Challenge.rw_wr0021_02.row.prog w (Mine.frag.heap_1 w.params) topProg (.ref 45) 8 60 [.ref a.P, .str f tf, .str g' tg] (pile w 101 a ts n) (fun v nw => v = .none ∧ ∃ T n', nw = pile w 101 a (ts ++ [⟨T, f, tf, g', tg⟩]) n') := by
  have hC := lcls w
  have hrl : (refs ts).length ≤ 900 := by rw [refs_len]; exact hl
  w_top off
  k_fill
  obtain ⟨P, dx, sz, tk, tz⟩ := a
  dsimp only [pile]
  k_dflt (refine' does_of ?k1 ?k2 (fun _ kX => ?k3) ?k4 (by decide) (by decide) ?_ ?k5 ?k6 ?k7 ?k8; (case k1 => k_is); (case k2 => k_is); (case k3 => first | exact BindsTo.of_eq rfl | exact binds_K kX rfl (by k_is) rfl rfl rfl); (case k4 => exact locs rfl); (case k5 => decide); (case k6 => exact rfl); (case k7 => exact rfl); (case k8 => exact rfl)); intro loose mean mg mb dp un gd outer A₀ base g L' s₁ rest B F X N T G D hlt hdp hun; (try dsimp only); (try dsimp only [List.nil_append, List.cons_append] at N D hlt); have hL := F.ns.lt; (try (refine letA ?_; intro kA))
  have mkD : ∀ T, (P < T ∧ dx < T ∧ AllLt T (ts.map Pc.ent ++ rest)) → DN (Pc.ent ⟨T, f, tf, g', tg⟩ :: (P, accO 101 dx (refs ts ++ [Value.ref T]).toArray (n + 1)) :: (dx, sizeD w sz tk tz) :: (ts.map Pc.ent ++ rest)) := fun T l =>
    dn_cons (AllNe.cons (Nat.ne_of_lt l.1) (AllNe.cons (Nat.ne_of_lt l.2.1) (AllLt.ne l.2.2 (Nat.le_refl _)))) D
  k_steps
  (rename Fr _ _ _ _ => F9)
  (rename News _ _ _ ((_, tupO _ _) :: _) => N9)
  (rename (_ ∧ _ ∧ AllLt _ _) => l9)
  have pm := fun T => (pile_push (w := w) (C := 101) (a := ⟨P, dx, sz, tk, tz⟩) (ts := ts) (n := n + 1) (p := ⟨T, f, tf, g', tg⟩)).append_right rest
  refine BodyPost.mk _ F9 (News.perm N9 (pm _)) G rfl (DN.perm (mkD _ l9) (pm _)) ⟨rfl, _, n + 1, rfl⟩
theorem count_spec (w : World) (a : At) (ts : List Pc) (n : Nat) :
  Does PySem.Challenge.rw_wr0021_02.row.prog w (Mine.frag.heap_1 w.params) topProg (.ref 98) 8 60 [.ref a.P] (pile w 101 a ts n) (fun v nw => (∃ t, v = .int (ts.length : Int) t) ∧ nw = pile w 101 a ts n) := by
  have hC := lcls w
  w_top off
  k_fill
  obtain ⟨P, dx, sz, tk, tz⟩ := a
  dsimp only [pile]
  k_dflt (refine' does_ofS ?k1 ?k2 (fun _ kX => ?k3) ?k4 (by decide) (by decide) ?_ ?k5 ?k6 ?k7 ?k8; (case k1 => k_is); (case k2 => k_is); (case k3 => first | exact BindsTo.of_eq rfl | exact binds_K kX rfl (by k_is) rfl rfl rfl); (case k4 => exact locs rfl); (case k5 => decide); (case k6 => exact rfl); (case k7 => exact rfl); (case k8 => exact rfl)); intro loose mean mg mb dp un gd outer A₀ base g L' s₁ rest B F X N T G D hlt hdp hun; (try dsimp only); (try dsimp only [List.nil_append, List.cons_append] at N D hlt); have hL := F.ns.lt; (try (refine letA ?_; intro kA))
  k_steps
  (rename Fr _ _ _ _ => F9)
  (rename News _ _ _ _ => N9)
  exact BodyPost.mk (_ :: _ :: ts.map Pc.ent) F9 (fun q hq => N9 q (.tail _ (.tail _ hq))) G rfl D ⟨⟨_, by show Value.int ((refs ts).length : Int) _ = _; rw [refs_len]⟩, rfl⟩
theorem pop_some (w : World) (a : At) (ini : List Pc) (p : Pc) (n : Nat) (hl : ini.length ≤ 900) :
  Does PySem.Challenge.rw_wr0021_02.row.prog w (Mine.frag.heap_1 w.params) topProg (.ref 61) 16 120 [.ref a.P] (pile w 101 a (ini ++ [p]) n) (fun v nw => v = .ref p.T ∧ ∃ n', nw = p.ent :: pile w 101 a ini n') := by
  have hC := lcls w
  have hcnt := count_spec w a (ini ++ [p]) n
  have hrl : (refs ini).length ≤ 900 := by rw [refs_len]; exact hl
  w_top off
  k_fill
  obtain ⟨P, dx, sz, tk, tz⟩ := a
  dsimp only [pile] at hcnt ⊢
  rw [refs_app] at hcnt ⊢
  rw [show refs [p] = [Value.ref p.T] from rfl] at hcnt ⊢
  k_dflt (refine' does_ofS ?k1 ?k2 (fun _ kX => ?k3) ?k4 (by decide) (by decide) ?_ ?k5 ?k6 ?k7 ?k8; (case k1 => k_is); (case k2 => k_is); (case k3 => first | exact BindsTo.of_eq rfl | exact binds_K kX rfl (by k_is) rfl rfl rfl); (case k4 => exact locs rfl); (case k5 => decide); (case k6 => exact rfl); (case k7 => exact rfl); (case k8 => exact rfl)); intro loose mean mg mb dp un gd outer A₀ base g L' s₁ rest B F X N T G D hlt hdp hun; (try dsimp only); (try dsimp only [List.nil_append, List.cons_append] at N D hlt); have hL := F.ns.lt; (try (refine letA ?_; intro kA))
  refine ks_wpAt_execs_cons (ks_wpAt_If (wpAt_of_wpAny ?_))
  have hGate : Gate "wpAt" := ⟨⟩
  k_steps
  · exfalso
    (rename _ = _ => hz)
    simp at hz
    ktr_room
  · (repeat (with_reducible rename Gate _ => hG; clear hG))
    refine Stop.go ?_
    refine wpAt_of_wpAny (wpAny_execs_nil ?_)
    refine ks_wpAt_execs_cons ?_
    k_steps
    (rename Fr _ _ _ _ => F9)
    (rename News _ _ _ _ => N9)
    (rename AllBare _ => G9)
    (rename _ = _ => ho9)
    have pm := (pile_pop (w := w) (C := 101) (a := ⟨P, dx, sz, tk, tz⟩) (ini := ini) (n := n + 1) (p := p)).append_right rest
    exact BodyPost.mk _ F9 (News.perm (fun q hq => N9 q (.tail _ (.tail _ hq))) pm) G9 ho9 (DN.perm (by exact D) pm) ⟨rfl, n + 1, rfl⟩
theorem pop_none (w : World) (a : At) (n : Nat) :
  Does PySem.Challenge.rw_wr0021_02.row.prog w (Mine.frag.heap_1 w.params) topProg (.ref 61) 16 120 [.ref a.P] (pile w 101 a [] n) (fun v nw => ∃ p : Pc, v = .ref p.T ∧ p.f = Str.empty ∧ p.g = Str.empty ∧ nw = p.ent :: pile w 101 a [] n) := by
  have hC := lcls w
  have hcnt := count_spec w a [] n
  w_top off
  k_fill
  obtain ⟨P, dx, sz, tk, tz⟩ := a
  dsimp only [pile] at hcnt ⊢
  k_dflt (refine' does_ofS ?k1 ?k2 (fun _ kX => ?k3) ?k4 (by decide) (by decide) ?_ ?k5 ?k6 ?k7 ?k8; (case k1 => k_is); (case k2 => k_is); (case k3 => first | exact BindsTo.of_eq rfl | exact binds_K kX rfl (by k_is) rfl rfl rfl); (case k4 => exact locs rfl); (case k5 => decide); (case k6 => exact rfl); (case k7 => exact rfl); (case k8 => exact rfl)); intro loose mean mg mb dp un gd outer A₀ base g L' s₁ rest B F X N T G D hlt hdp hun; (try dsimp only); (try dsimp only [List.nil_append, List.cons_append] at N D hlt); have hL := F.ns.lt; (try (refine letA ?_; intro kA))
  refine ks_wpAt_execs_cons (ks_wpAt_If (wpAt_of_wpAny ?_))
  have hGate : Gate "wpAt" := ⟨⟩
  have mkD : ∀ T u v, (P < T ∧ dx < T ∧ AllLt T ([].map Pc.ent ++ rest)) → DN (Pc.ent ⟨T, Str.ofString "", u, Str.ofString "", v⟩ :: (P, accO 101 dx (refs []).toArray n) :: (dx, sizeD w sz tk tz) :: ([].map Pc.ent ++ rest)) := fun T u v l =>
    dn_cons (AllNe.cons (Nat.ne_of_lt l.1) (AllNe.cons (Nat.ne_of_lt l.2.1) (AllLt.ne l.2.2 (Nat.le_refl _)))) D
  k_steps
  (repeat (with_reducible rename Gate _ => hG; clear hG))
  refine Stop.go ?_
  k_steps
  (rename Fr _ _ _ _ => F9)
  (rename News _ _ _ ((_, tupO _ _) :: _) => N9)
  (rename AllBare _ => G9)
  (rename _ = _ => ho9)
  (rename (_ ∧ _ ∧ AllLt _ _) => l9)
  exact BodyPost.mk (Pc.ent ⟨_, Str.ofString "", _, Str.ofString "", _⟩ :: (P, accO 101 dx (refs []).toArray n) :: (dx, sizeD w sz tk tz) :: []) F9 N9 G9 ho9 (mkD _ _ _ l9) ⟨_, rfl, rfl, rfl, rfl⟩
end Mine
end
section
open PySem PySem.W PyProof.Rows
set_option maxRecDepth 100000
set_option maxHeartbeats 8000000
namespace Mine
theorem lcls' (w : World) : LCls (Mine.frag.heap_1 w.params) 101 := ⟨by kernel_rfl, by kernel_rfl, by kernel_rfl, by kernel_rfl⟩
theorem makes (w : World) : ∀ (M : Model) (h : Heap), Frag.In (Mine.frag.heap_1 w.params) h → MakesL M h 101 := fun M h X => makesL_of X (by exact rfl) rfl rfl rfl rfl (by decide +kernel) (by decide +kernel) (by kernel_rfl) (by kernel_rfl)
theorem make_spec (w : World) (sz : Int) (tz : Tok) :
  Does PySem.Challenge.rw_wr0021_02.row.prog w (Mine.frag.heap_1 w.params) topProg (.ref 101) 20 160 [.int sz tz] [] (fun v nw => ∃ P dx tk n, v = .ref P ∧ nw = pile w 101 ⟨P, dx, sz, tk, tz⟩ [] n) := by
  have hC := lcls' w
  w_top off
  k_fill
  k_dflt (refine' does_cls (binds := fun x => [(Str.ofString "self", Value.ref x), (Str.ofString "initial_size", Value.int sz tz)]) (makes w) ?k0 ?k9 (fun sig hs => ln_args _ _ sig hs) ?k1 ?k2 (fun _ _ kX => ?k3) (fun _ => ?k4) (by decide) (by decide) ?_ ?k5 ?k6 ?k7 ?k8; (case k0 => k_is); (case k9 => k_is); (case k1 => k_is); (case k2 => k_is); (case k3 => first | exact BindsTo.of_eq rfl | exact binds_K kX rfl (by k_is) rfl rfl rfl); (case k4 => exact locs rfl); (case k5 => decide); (case k6 => exact rfl); (case k7 => exact rfl); (case k8 => exact rfl))
  intro P dx loose mean mg mb dp un gd outer A₀ base g L' s₁ rest B F X N T G D hlt hdp hun
  (try dsimp only)
  dsimp only [List.nil_append, List.cons_append] at N D hlt
  refine ks_wpAt_execs_cons (wpAt_of_wpAny ?_)
  have hGate : Gate "wpAt" := ⟨⟩
  k_steps
  (repeat (with_reducible rename Gate _ => hG; clear hG))
  refine Stop.go ?_
  refine ks_wpAt_execs_cons (ks_wpAt_Expr_any (ks_wpAt_MethodCall ?_))
  k_steps
  (rename Fr _ _ _ _ => F9)
  (rename News _ _ _ _ => N9)
  exact BodyPost.mk ((P, accO 101 dx (refs []).toArray 0) :: (dx, sizeD w sz _ tz) :: []) F9 (fun q hq => N9 q (.tail _ (.tail _ hq))) G rfl D ⟨rfl, P, dx, _, _, rfl, rfl⟩
end Mine
end
section
open PySem PySem.W PyProof.Rows
set_option maxRecDepth 100000
set_option maxHeartbeats 8000000
namespace Mine
theorem make_spec0 (w : World) :
  Does PySem.Challenge.rw_wr0021_02.row.prog w (Mine.frag.heap_1 w.params) topProg (.ref 101) 20 160 [] [] (fun v nw => ∃ P dx tk n, v = .ref P ∧ nw = pile w 101 ⟨P, dx, 0, tk, 210⟩ [] n) := by
  have hC := lcls' w
  w_top off
  k_fill
  k_dflt (refine' does_cls (binds := fun x => [(Str.ofString "self", Value.ref x), (Str.ofString "initial_size", Value.int 0 210)]) (makes w) ?k0 ?k9 (fun sig hs => ln_args0 _ sig hs) ?k1 ?k2 (fun _ _ kX => ?k3) (fun _ => ?k4) (by decide) (by decide) ?_ ?k5 ?k6 ?k7 ?k8; (case k0 => k_is); (case k9 => k_is); (case k1 => k_is); (case k2 => k_is); (case k3 => first | exact BindsTo.of_eq rfl | exact binds_K kX rfl (by k_is) rfl rfl rfl); (case k4 => exact locs rfl); (case k5 => decide); (case k6 => exact rfl); (case k7 => exact rfl); (case k8 => exact rfl))
  intro P dx loose mean mg mb dp un gd outer A₀ base g L' s₁ rest B F X N T G D hlt hdp hun
  (try dsimp only)
  dsimp only [List.nil_append, List.cons_append] at N D hlt
  refine ks_wpAt_execs_cons (wpAt_of_wpAny ?_)
  have hGate : Gate "wpAt" := ⟨⟩
  k_steps
  (repeat (with_reducible rename Gate _ => hG; clear hG))
  refine Stop.go ?_
  refine ks_wpAt_execs_cons (ks_wpAt_Expr_any (ks_wpAt_MethodCall ?_))
  k_steps
  (rename Fr _ _ _ _ => F9)
  (rename News _ _ _ _ => N9)
  exact BodyPost.mk ((P, accO 101 dx (refs []).toArray 0) :: (dx, sizeD w 0 _ 210) :: []) F9 (fun q hq => N9 q (.tail _ (.tail _ hq))) G rfl D ⟨rfl, P, dx, _, _, rfl, rfl⟩
end Mine
end
section
open PySem PySem.W PyProof.Rows
set_option maxRecDepth 100000
set_option maxHeartbeats 8000000
namespace Mine
local macro_rules | `(tactic| walk_at "getAttr ref") => `(tactic| (k_here; refine acc_size (by assumption) (by k_in) (by k_inst) (by k_is) ?_))
theorem codeLen (w : World) : CodeK (Mine.frag.heap_1 w.params) 67 63 := ⟨⟨_, _, _, _, _, _, _, _, _, by exact rfl, rfl, rfl, rfl, rfl, rfl, rfl, rfl⟩, by decide⟩
theorem lcls2 (w : World) : LCls (Mine.frag.heap_1 w.params) 101 := ⟨by kernel_rfl, by kernel_rfl, by kernel_rfl, by kernel_rfl⟩
theorem iterIn (w : World) : findIn (Mine.frag.heap_1 w.params) (.ref 101) "__iter__" = some (some (.builtin "list.__iter__")) := by kernel_rfl
theorem len_spec (w : World) (a : At) (ts : List Pc) (n : Nat) (pl : Array Value) (hp : TriplesOk pl.toList) (hsz : 0 ≤ a.sz ∧ a.sz ≤ 10000) (hl : ts.length ≤ 900) (hlen : ∀ p ∈ ts, p.f.length ≤ 1000 ∧ p.g.length ≤ 1000) :
  Does PySem.Challenge.rw_wr0021_02.row.prog w (Mine.frag.heap_1 w.params) topProg (.ref 68) 10 100 [.ref a.P] ((63, tabO pl) :: pile w 101 a ts n) (fun v nw => (∃ t, v = .int (a.sz + (total ts : Nat)) t) ∧ ∃ pl', TriplesOk pl'.toList ∧ nw = (63, tabO pl') :: pile w 101 a ts n) := by
  have hC := lcls2 w
  have hcK := codeLen w
  have hit := iterIn w
  w_top off
  k_fill
  obtain ⟨P, dx, sz, tk, tz⟩ := a
  dsimp only [pile] at hsz ⊢
  k_dflt (refine' does_of ?k1 ?k2 (fun _ kX => ?k3) ?k4 (by decide) (by decide) ?_ ?k5 ?k6 ?k7 ?k8; (case k1 => k_is); (case k2 => k_is); (case k3 => first | exact BindsTo.of_eq rfl | exact binds_K kX rfl (by k_is) rfl rfl rfl); (case k4 => exact locs rfl); (case k5 => decide); (case k6 => exact rfl); (case k7 => exact rfl); (case k8 => exact rfl)); intro loose mean mg mb dp un gd outer A₀ base g L' s₁ rest B F X N T G D hlt hdp hun; (try dsimp only); (try dsimp only [List.nil_append, List.cons_append] at N D hlt); have hL := F.ns.lt; (try (refine letA ?_; intro kA))
  have hGate : Gate "eval GeneratorExp" := ⟨⟩; have hGate : Gate "call builtin:sum" := ⟨⟩
  k_steps
  (repeat (with_reducible rename Gate _ => hG; clear hG))
  refine Stop.go ?_
  refine gen_led (rest := (P, accO 101 dx (refs ts).toArray n) :: (dx, sizeD w sz tk tz) :: (ts.map Pc.ent ++ rest)) (its := (refs ts).toArray) (Ts := fun i => (ts.getD i pc0).T) (va := fun i => .str (ts.getD i pc0).f (ts.getD i pc0).tf) (vb := fun i => .str (ts.getD i pc0).g (ts.getD i pc0).tg)
    (F' := fun i v => ∃ t, v = .int (((ts.getD i pc0).f.length + (ts.getD i pc0).g.length : Nat) : Int) t) rfl (show dp < recursionLimit by ktr_room) F X N T G hcK hp D.ne rfl rfl rfl rfl (by decide) rfl rfl rfl (by decide) rfl ?hev hC hit (.head _) (.tail _ (.head _)) ?hts ?helt ?hQ (fun _ => rfl)
  case hev =>
    intro Q' E' hq
    exact wpAny_Name (wpAny_loadName_local rfl rfl F.ns rfl hq)
  case hts => exact fun j hj => rows_at j (by simpa [refs] using hj)
  case helt =>
    intro C' cv A' E' i t m₂ hA hD hU hi hF hma hmb
    have hi' : i < ts.length := by simpa [refs] using hi
    have hb := hlen _ (getD_mem hi')
    exact gn_lens rfl rfl rfl rfl rfl (by decide) (by decide) hF T (mg_none_of X T.g (by kernel_rfl)) (by first | boot_by_name | rfl | kernel_rfl) hma hmb (Nat.le_trans hb.1 (by decide)) (Nat.le_trans hb.2 (by decide))
  case hQ =>
    intro ps' ag Kb s₅ hps hF5 hN5 hG5 hos hLK hle hGen
    clear F N
    have hGate : Gate "eval GeneratorExp" := ⟨⟩; have hGate : Gate "call builtin:sum" := ⟨⟩
    k_steps
    (repeat (with_reducible rename Gate _ => hG; clear hG))
    refine Stop.go ?_
    refine sum_pile (s := { s₅ with toks := s₅.toks + 1 }) hF5 hN5 hG5 (Gen.toks hGen (Nat.le_succ _)) hLK hle (fun i => (ts.getD i pc0).f.length + (ts.getD i pc0).g.length) (fun j v hv => hv) ⟨hsz.1, by ktr_room⟩ (fun j => getD_len hlen j) (by simp [refs]; ktr_room) ?_
    intro s6 t6 F6 N6 G6 ho6
    refine BodyPost.mk ((63, tabO ps') :: _ :: _ :: ts.map Pc.ent) F6 N6 G6 (ho6.trans hos) D ⟨⟨t6, ?_⟩, ps', hps, rfl⟩
    show Value.int (sz + _) t6 = _
    rw [show (refs ts).toArray.size = ts.length by simp [refs], sumTo_list ts (fun p => p.f.length + p.g.length) pc0]
    rfl
end Mine
end
section
open PySem PySem.W PyProof.Rows
set_option maxRecDepth 100000
set_option maxHeartbeats 8000000
namespace Mine
local macro_rules | `(tactic| walk_at "no tree at all") => `(tactic| skip)
local macro_rules | `(tactic| walk_at "getAttr ref") => `(tactic| (k_here; refine acc_size (by assumption) (by k_in) (by k_inst) (by k_is) ?_))
theorem codeStr (w : World) : CodeK (Mine.frag.heap_1 w.params) 74 70 := ⟨⟨_, _, _, _, _, _, _, _, _, by exact rfl, rfl, rfl, rfl, rfl, rfl, rfl, rfl⟩, by decide⟩
theorem lcls3 (w : World) : LCls (Mine.frag.heap_1 w.params) 101 := ⟨by kernel_rfl, by kernel_rfl, by kernel_rfl, by kernel_rfl⟩
theorem iterIn3 (w : World) : findIn (Mine.frag.heap_1 w.params) (.ref 101) "__iter__" = some (some (.builtin "list.__iter__")) := by kernel_rfl
theorem str_spec (w : World) (a : At) (ts : List Pc) (n : Nat) (pl : Array Value) (hp : TriplesOk pl.toList) (hl : ts.length ≤ 900) (hlen : ∀ p ∈ ts, p.f.length ≤ 500 ∧ p.g.length ≤ 500) :
  Does PySem.Challenge.rw_wr0021_02.row.prog w (Mine.frag.heap_1 w.params) topProg (.ref 75) 10 100 [.ref a.P] ((70, tabO pl) :: pile w 101 a ts n) (fun v nw => (∃ t, v = .str (shown ts) t) ∧ ∃ pl', TriplesOk pl'.toList ∧ nw = (70, tabO pl') :: pile w 101 a ts n) := by
  have hC := lcls3 w
  have hcK := codeStr w
  have hit := iterIn3 w
  w_top off
  k_fill
  obtain ⟨P, dx, sz, tk, tz⟩ := a
  dsimp only [pile]
  k_dflt (refine' does_of ?k1 ?k2 (fun _ kX => ?k3) ?k4 (by decide) (by decide) ?_ ?k5 ?k6 ?k7 ?k8; (case k1 => k_is); (case k2 => k_is); (case k3 => first | exact BindsTo.of_eq rfl | exact binds_K kX rfl (by k_is) rfl rfl rfl); (case k4 => exact locs rfl); (case k5 => decide); (case k6 => exact rfl); (case k7 => exact rfl); (case k8 => exact rfl)); intro loose mean mg mb dp un gd outer A₀ base g L' s₁ rest B F X N T G D hlt hdp hun; (try dsimp only); (try dsimp only [List.nil_append, List.cons_append] at N D hlt); have hL := F.ns.lt; (try (refine letA ?_; intro kA))
  have hGate : Gate "eval GeneratorExp" := ⟨⟩; have hGate : Gate "call builtin:str.join" := ⟨⟩
  k_steps
  (repeat (with_reducible rename Gate _ => hG; clear hG))
  refine Stop.go ?_
  refine gen_led (rest := (P, accO 101 dx (refs ts).toArray n) :: (dx, sizeD w sz tk tz) :: (ts.map Pc.ent ++ rest)) (its := (refs ts).toArray) (Ts := fun i => (ts.getD i pc0).T) (va := fun i => .str (ts.getD i pc0).f (ts.getD i pc0).tf) (vb := fun i => .str (ts.getD i pc0).g (ts.getD i pc0).tg)
    (F' := fun i v => ∃ t, v = .str (pcS (ts.getD i pc0)) t) rfl (show dp < recursionLimit by ktr_room) F X N T G hcK hp D.ne rfl rfl rfl rfl (by decide) rfl rfl rfl (by decide) rfl ?hev hC hit (.head _) (.tail _ (.head _)) ?hts ?helt ?hQ (fun _ => rfl)
  case hev =>
    intro Q' E' hq
    exact wpAny_Name (wpAny_loadName_local rfl rfl F.ns rfl hq)
  case hts => exact fun j hj => rows_at j (by simpa [refs] using hj)
  case helt =>
    intro C' cv A' E' i t m₂ hA hD hU hi hF hma hmb
    have hi' : i < ts.length := by simpa [refs] using hi
    have hb := hlen _ (getD_mem hi')
    exact gn_join rfl rfl rfl rfl rfl (by decide) (by decide) (by decide) hF T (mg_of X T.g (by k_is)) hma hmb (Nat.le_trans hb.1 (by decide)) (Nat.le_trans hb.2 (by decide)) rfl
  case hQ =>
    intro ps' ag Kb s₅ hps hF5 hN5 hG5 hos hLK hle hGen
    clear F N
    have hGate : Gate "eval GeneratorExp" := ⟨⟩; have hGate : Gate "call builtin:str.join" := ⟨⟩
    k_steps
    (repeat (with_reducible rename Gate _ => hG; clear hG))
    refine Stop.go ?_
    refine join_pile (s := s₅) hF5 hN5 hG5 hGen hLK hle (fun i => pcS (ts.getD i pc0)) (fun j v hv => hv) ?_ (by simp [refs]; ktr_room) ?_
    · rw [show (refs ts).toArray.size = ts.length by simp [refs], map_range_getD ts pcS]
      have := weigh ts hlen
      exact joinOk_of_weight (by simp only [List.length_map]; ktr_room) (by decide)
    · intro s6 t6 F6 N6 G6 ho6
      refine BodyPost.mk ((70, tabO ps') :: _ :: _ :: ts.map Pc.ent) F6 N6 G6 (ho6.trans hos) D ⟨⟨t6, ?_⟩, ps', hps, rfl⟩
      show Value.str _ t6 = _
      rw [show (refs ts).toArray.size = ts.length by simp [refs], map_range_getD ts pcS]
      exact congrArg (fun x => Value.str x t6) (shown_join ts)
end Mine
end
section
open PySem PySem.W PyProof.Rows
set_option maxRecDepth 100000
set_option maxHeartbeats 8000000
namespace Mine
local macro_rules | `(tactic| walk_at "subscriptTail Name Slice ref ref") => `(tactic| (k_here; refine acc_tail (by assumption) (by k_asm) (by k_asm) (by k_asm) (by k_mem) (by k_mem) (by k_is) (by k_is) (.int _ _) .none (by omega) ?_ (by with_unfolding_all rfl) (by intro _; with_unfolding_all rfl); intro D' h' F' N' l1; (try k_lt l1)))
theorem lcls4 (w : World) : LCls (Mine.frag.heap_1 w.params) 101 := ⟨by kernel_rfl, by kernel_rfl, by kernel_rfl, by kernel_rfl⟩
theorem popf_spec (w : World) (a : At) (ini lst : List Pc) (n : Nat) (i : Int) (ti : Tok) (hi : i = ini.length) (hl : (ini ++ lst).length ≤ 900) :
  Does PySem.Challenge.rw_wr0021_02.row.prog w (Mine.frag.heap_1 w.params) topProg (.ref 53) 10 100 [.ref a.P, .int i ti] (pile w 101 a (ini ++ lst) n) (fun v nw => ∃ l n', v = .ref l ∧ nw = (l, listOf (refs lst).toArray 0) :: (lst.map Pc.ent ++ pile w 101 a ini n')) := by
  have hC := lcls4 w
  have hrl : (refs (ini ++ lst)).length ≤ 900 := by rw [refs_len]; exact hl
  w_top off
  k_fill
  obtain ⟨P, dx, sz, tk0, tz⟩ := a
  dsimp only [pile]
  rw [refs_app] at hrl ⊢
  k_dflt (refine' does_of ?k1 ?k2 (fun _ kX => ?k3) ?k4 (by decide) (by decide) ?_ ?k5 ?k6 ?k7 ?k8; (case k1 => k_is); (case k2 => k_is); (case k3 => first | exact BindsTo.of_eq rfl | exact binds_K kX rfl (by k_is) rfl rfl rfl); (case k4 => exact locs rfl); (case k5 => decide); (case k6 => exact rfl); (case k7 => exact rfl); (case k8 => exact rfl)); intro loose mean mg mb dp un gd outer A₀ base g L' s₁ rest B F X N T G D hlt hdp hun; (try dsimp only); (try dsimp only [List.nil_append, List.cons_append] at N D hlt); have hL := F.ns.lt; (try (refine letA ?_; intro kA))
  have hGate : Gate "setItem ref ref" := ⟨⟩
  k_steps
  (repeat (with_reducible rename Gate _ => hG; clear hG))
  refine Stop.go ?_
  (rename (_ ∧ _ ∧ _ ∧ AllLt _ _) => l8)
  (rename AllLt _ _ => l9)
  refine' acc_cut_new (us := refs ini) (vs := refs lst) (n' := if (refs ini).length = (refs ini ++ refs lst).length then n else n + 1) hC X ?F ?N (.head _) (Nat.ne_of_gt l8.2.1) ?q ?g ?lo ?sz ?U (.tail _ (.tail _ (.tail _ (.head _)))) rfl ?_
  case F => assumption
  case N => assumption
  case q => k_is
  case g => k_is
  case lo => rw [refs_len]; exact hi
  case sz => exact hrl
  case U =>
    refine' upd_dn ?D (.tail (.tail .head))
    case D => ktr_rel
  intro h' F' N'
  k_steps
  rw [pick_from _ _ i (by rw [refs_len]; exact hi)] at N'
  have pm := fun D' => (pile_split (w := w) (C := 101) (x := (D', listOf (refs lst).toArray 0)) (a := ⟨P, dx, sz, tk0, tz⟩) (ini := ini) (lst := lst) (n := if (refs ini).length = (refs ini ++ refs lst).length then n else n + 1)).append_right rest
  refine BodyPost.mk _ F' (News.perm (fun q hq => N' q (.tail _ hq)) (pm _)) G rfl (DN.perm ?_ (pm _)) ⟨_, _, rfl, rfl⟩
  exact dn_cons (AllLt.ne l9 (Nat.le_refl _)) D
end Mine
end
end
section
open PySem PySem.W PyProof.Rows
open Mine
-- a name of the block
local macro_rules | `(tactic| walk_at "eval Name") => `(tactic| (k_here; (with_reducible show wpAny _ _ (eval (Expr.Name _ _) (compEnvC _ _ _ _)) _ _ _); k_dflt (refine blk_own (by rfl) (by rfl) (by decide) (by k_asm) (by k_mem) (by assumption) (by ktr_units) ?_; k_whole)))
section
open PySem PySem.W PyProof.Rows
set_option maxRecDepth 100000
set_option maxHeartbeats 2000000
namespace Mine
theorem lclsS (w : World) : LCls (Mine.frag.heap_1 w.params) 101 := ⟨by kernel_rfl, by kernel_rfl, by kernel_rfl, by kernel_rfl⟩
theorem ivals_rev (xs : List (Nat × Tok)) : (ivals xs).reverse = ivals xs.reverse := by simp [ivals]
theorem ivals_add (ws : List (Nat × Tok)) (k : Nat) (t : Tok) : ivals ws ++ [Value.int (256 + (k : Int)) t] = ivals (ws ++ [(256 + k, t)]) := by
  unfold ivals
  rw [List.map_append]
  show _ ++ [_] = _ ++ [Value.int ((256 + k : Nat) : Int) _]
  rw [show ((256 + k : Nat) : Int) = 256 + (k : Int) by ktr_room]
theorem iv_at {xs : List (Nat × Tok)} {i : Nat} {u : Value} (h : (ivals xs).toArray[i]? = some u) : ∃ p, xs[i]? = some p ∧ u = .int (p.1 : Int) p.2 := by
  rw [List.getElem?_toArray] at h
  unfold ivals at h
  rw [List.getElem?_map] at h
  cases e : xs[i]? with
  | none => rw [e] at h; cases h
  | some p => rw [e] at h; exact ⟨p, rfl, (Option.some.inj h).symm⟩
/-- what is given back; between the signs pushed; between the turns of the while; behind the two ifs; between a word's signs -/
inductive SpPost (Ro Wl Ll : Addr) (xs : List (Nat × Tok)) (xn : Nat) (zs : List (Str × Tok)) (zn : Nat) (a b : Str) (ta tb : Tok) (ln : Nat) : Value → Led → Prop
  | mk (T Fs : Addr) (y : Str) (ty : Tok) (n : Int) (tn : Tok) (sh : Str) (ts : Tok) (bl : Str) (tbl t2 : Tok) (pe : Pc) (pl pl' : Array Value) : TriplesOk pl.toList → TriplesOk pl'.toList → L y = spell (tx zs) (xs.map (·.1)) → L sh = showL ((0 :: (xs.reverse.map (·.1)).map (256 + ·)).map fun c => (true, c)) → n = 2 + ((L sh).length : Int) → L bl = List.replicate (xs.length + 1) 32 → pe.f = Str.empty → pe.g = Str.empty →
    SpPost Ro Wl Ll xs xn zs zn a b ta tb ln (.ref T) [(T, ({ cls := .type "tuple", data := .seq #[Value.str y ty, Value.ref Fs, Value.str bl tbl, Value.int 2 t2, Value.ref pe.T] } : Obj)), pe.ent, (Fs, listOf [Value.int n tn, Value.str sh ts].toArray 0), (Ro, listOf (ivals xs).toArray xn), (Wl, listOf (strValues zs).toArray zn), (Ll, listOf [Value.str a ta, Value.str b tb].toArray ln), (63, tabO pl), (70, tabO pl')]
inductive PuJ (w : World) (P dx : Addr) (tk0 tz0 : Tok) (Wl Ll : Addr) (tail : Led) (us : List Nat) (i : Nat) (m' : Str → Option Value) : Led → Prop
  | mk (ts : List Pc) (n : Nat) : SP ((us.take i).map fun c => (true, c)) ts → m' "pile" = some (.ref P) → m' "words" = some (.ref Wl) → m' "letters" = some (.ref Ll) → PuJ w P dx tk0 tz0 Wl Ll tail us i m' (pile w 101 ⟨P, dx, 2, tk0, tz0⟩ ts n ++ tail)
inductive SwJ (w : World) (P dx : Addr) (tk0 tz0 : Tok) (Wl Ll Fs : Addr) (W : List (List Nat)) (ltr : Nat → Nat) (row : List Nat) (eW eL : Addr × Obj) (rz : Led) (m' : Str → Option Value) : Nat → Led → Prop
  | mk (c : Nat) (st : List (Bool × Nat)) (ts : List Pc) (n : Nat) (y : Str) (ty : Tok) (bl : Str) (tbl tn : Tok) (nb : Nat) : SpJ W ltr row (L y) nb ((false, c) :: st) → SP st.reverse ts → L bl = List.replicate nb 32 → wgt (c :: st.map (·.2)) ≤ 85 → m' "pile" = some (.ref P) → m' "words" = some (.ref Wl) → m' "letters" = some (.ref Ll) → m' "first" = some (.ref Fs) → m' "text" = some (.str y ty) → m' "blanks" = some (.str bl tbl) → m' "name" = some (.str (nm c) tn) →
    SwJ w P dx tk0 tz0 Wl Ll Fs W ltr row eW eL rz m' (wgt (c :: st.map (·.2))) ((P, accO 101 dx (refs ts).toArray n) :: (dx, sizeD w 2 tk0 tz0) :: eW :: eL :: (ts.map Pc.ent ++ rz))
inductive SpC1 (g : Heap) (L' : Addr) (os : OsState) (led : Led) (P Wl Ll Fs : Addr) (ny : List Nat) (bl : Str) (tbl : Tok) (c : Nat) (s' : Shared) : Prop
  | mk (m2 : Str → Option Value) (y2 : Str) (ty2 ts' : Tok) : LoopSt g L' os s' m2 led → L y2 = ny → m2 "pile" = some (.ref P) → m2 "words" = some (.ref Wl) → m2 "letters" = some (.ref Ll) → m2 "first" = some (.ref Fs) → m2 "text" = some (.str y2 ty2) → m2 "blanks" = some (.str bl tbl) → m2 "symbol" = some (.int (c : Int) ts') → SpC1 g L' os led P Wl Ll Fs ny bl tbl c s'
inductive SpC2 (g : Heap) (L' : Addr) (os : OsState) (w : World) (P dx : Addr) (tk0 tz0 : Tok) (Wl Ll Fs : Addr) (W : List (List Nat)) (ltr : Nat → Nat) (row : List Nat) (eW eL : Addr × Obj) (rz : Led) (nb w0 : Nat) (bl : Str) (tbl : Tok) (s' : Shared) : Prop
  | mk (m3 : Str → Option Value) (y3 : Str) (ty3 : Tok) (ts3 : List Pc) (n3 c3 : Nat) (f3 : Bool) (st3 : List (Bool × Nat)) : LoopSt g L' os s' m3 ((P, accO 101 dx (refs ts3).toArray n3) :: (dx, sizeD w 2 tk0 tz0) :: eW :: eL :: (ts3.map Pc.ent ++ rz)) → SpJ W ltr row (L y3) nb ((f3, c3) :: st3) → SP ((f3, c3) :: st3).reverse ts3 → wgt (c3 :: st3.map (·.2)) < w0 → m3 "pile" = some (.ref P) → m3 "words" = some (.ref Wl) → m3 "letters" = some (.ref Ll) → m3 "first" = some (.ref Fs) → m3 "text" = some (.str y3 ty3) → m3 "blanks" = some (.str bl tbl) →
    SpC2 g L' os w P dx tk0 tz0 Wl Ll Fs W ltr row eW eL rz nb w0 bl tbl s'
inductive FwJ (w : World) (P dx : Addr) (tk0 tz0 : Tok) (Wl Ll Fs : Addr) (eW eL : Addr × Obj) (rz : Led) (base : List (Bool × Nat)) (zl : List Nat) (ca : Nat) (y2 : Str) (ty2 : Tok) (bl : Str) (tbl : Tok) (i : Nat) (m' : Str → Option Value) : Led → Prop
  | mk (ts3 : List Pc) (n3 : Nat) : SP (base ++ (zl.take i).map fun s => (false, lsym ca s)) ts3 → m' "pile" = some (.ref P) → m' "words" = some (.ref Wl) → m' "letters" = some (.ref Ll) → m' "first" = some (.ref Fs) → m' "text" = some (.str y2 ty2) → m' "blanks" = some (.str bl tbl) →
    FwJ w P dx tk0 tz0 Wl Ll Fs eW eL rz base zl ca y2 ty2 bl tbl i m' ((P, accO 101 dx (refs ts3).toArray n3) :: (dx, sizeD w 2 tk0 tz0) :: eW :: eL :: (ts3.map Pc.ent ++ rz))
theorem spelled_spec (w : World) (Ro Wl Ll : Addr) (xs : List (Nat × Tok)) (xn : Nat) (zs : List (Str × Tok)) (zn : Nat) (a b : Str) (ta tb : Tok) (ln : Nat) (ca cb : Nat) (pl pl' : Array Value) (hp : TriplesOk pl.toList) (hp' : TriplesOk pl'.toList)
  (hrow : Row (tx zs) (xs.map (·.1))) (hrl : xs.length ≤ 14) (hzl : zs.length ≤ 3) (ha : L a = [ca]) (hb : L b = [cb]) (hab : ca ≠ cb) (hd : ∀ z ∈ zs, z.1.length ≤ 4 ∧ ∀ c ∈ L z.1, c = ca ∨ c = cb) :
  Does PySem.Challenge.rw_wr0021_02.row.prog w (Mine.frag.heap_1 w.params) topProg (.ref 189) 60 600 [.ref Ro, .ref Wl, .ref Ll] [(Ro, listOf (ivals xs).toArray xn), (Wl, listOf (strValues zs).toArray zn), (Ll, listOf [Value.str a ta, Value.str b tb].toArray ln), (63, tabO pl), (70, tabO pl')] (SpPost Ro Wl Ll xs xn zs zn a b ta tb ln) := by
  have hC := lclsS w
  w_top off
  k_fill
  k_dflt (refine' does_of ?k1 ?k2 (fun _ kX => ?k3) ?k4 (by decide) (by decide) ?_ ?k5 ?k6 ?k7 ?k8; (case k1 => k_is); (case k2 => k_is); (case k3 => first | exact BindsTo.of_eq rfl | exact binds_K kX rfl (by k_is) rfl rfl rfl); (case k4 => exact locs rfl); (case k5 => decide); (case k6 => exact rfl); (case k7 => exact rfl); (case k8 => exact rfl)); intro loose mean mg mb dp un gd outer A₀ base g L' s₁ rest B F X N T G D hlt hdp hun; (try dsimp only); (try dsimp only [List.nil_append, List.cons_append] at N D hlt); have hL := F.ns.lt; (try (refine letA ?_; intro kA)); refine open_Q ?_; intro QB hQB
  have hGate : Gate "call ref" := ⟨⟩
  k_steps
  (repeat (with_reducible rename Gate _ => hG; clear hG))
  refine Stop.go ?_
  refine Does.at (make_spec w 2 _) B (by assumption) X (by assumption) T (by assumption) D rfl _ (List.Perm.refl _) (by first | exact room1 (by assumption) (by decide) | exact room2 (by assumption) (by decide) | exact room3 (by assumption) (by decide) | ktr_room) (by first | exact room1 (by assumption) (by decide) | exact room2 (by assumption) (by decide) | exact room3 (by assumption) (by decide) | ktr_room) ?_
  rintro v s2 nw F2 N2 G2 ho2 D2 ⟨P, dx, tk0, n0, rfl, rfl⟩
  generalize s₁.toks = tz0 at N2 D2
  dsimp only [pile, List.map_nil, List.append_nil, List.cons_append, List.nil_append] at N2 D2
  have hGate : Gate "exec For" := ⟨⟩
  k_steps
  (repeat (with_reducible rename Gate _ => hG; clear hG))
  refine Stop.go ?_
  (rename Fr _ _ _ _ => F3)
  (rename News _ _ _ _ => N3)
  refine For_obl (h₀ := g) rfl ?_ (by intro _; rfl)
  have hGate : Gate "eval ListComp" := ⟨⟩
  k_steps
  (repeat (with_reducible rename Gate _ => hG; clear hG))
  refine Stop.go ?_
  (rename Fr _ _ _ _ => F4)
  (rename News _ _ _ _ => N4)
  refine Comp_obl F4 rfl (by with_unfolding_all rfl) (fun I C D => turn_one ..) ?_ (by decide) rfl (by decide) (by intro _; rfl)
  have hGate : Gate "subscriptTail Name Slice ref ref" := ⟨⟩
  k_steps
  (repeat (with_reducible rename Gate _ => hG; clear hG))
  refine Stop.go ?_
  (rename Fr _ _ _ _ => F5)
  (rename News _ _ _ _ => N5)
  refine krv_lit (zs := ivals xs.reverse) F5 N5 (News.isList N5 (.tail _ (.tail _ (.tail _ (.head _))))) (.int _ _) (ivals_rev xs) ?_ (by with_unfolding_all rfl) (by intro _; with_unfolding_all rfl) (by rw [sizeLine_eq]; simp [ivals]; ktr_room)
  intro Rv h6 F6 N6 l6
  (rename _ ∧ _ ∧ AllLt _ _ => l5)
  rename_i lq _
  have D6 := DN.cons_of (o := listOf (ivals xs.reverse).toArray 0) (DN.more D2 l5) l6
  obtain ⟨t0, N6⟩ : ∃ t0, News g L' h6 ((Rv, listOf (ivals xs.reverse).toArray 0) :: (lq, listOf [Value.int 0 t0].toArray 0) :: (P, accO 101 dx (refs []).toArray n0) :: (dx, sizeD w 2 tk0 tz0) :: (Ro, listOf (ivals xs).toArray xn) :: (Wl, listOf (strValues zs).toArray zn) :: (Ll, listOf [Value.str a ta, Value.str b tb].toArray ln) :: (63, tabO pl) :: (70, tabO pl') :: rest) := ⟨_, N6⟩
  replace D6 : DN ((Rv, listOf (ivals xs.reverse).toArray 0) :: (lq, listOf [Value.int 0 t0].toArray 0) :: (P, accO 101 dx (refs []).toArray n0) :: (dx, sizeD w 2 tk0 tz0) :: (Ro, listOf (ivals xs).toArray xn) :: (Wl, listOf (strValues zs).toArray zn) :: (Ll, listOf [Value.str a ta, Value.str b tb].toArray ln) :: (63, tabO pl) :: (70, tabO pl') :: rest) := D6
  refine ⟨[Rv], [(Rv, listOf (ivals xs.reverse).toArray 0)], xs.reverse.length, _, (lq, listOf [Value.int 0 t0].toArray 0) :: (P, accO 101 dx (refs []).toArray n0) :: (dx, sizeD w 2 tk0 tz0) :: (Ro, listOf (ivals xs).toArray xn) :: (Wl, listOf (strValues zs).toArray zn) :: (Ll, listOf [Value.str a ta, Value.str b tb].toArray ln) :: (63, tabO pl) :: (70, tabO pl') :: rest, fun i ys nw => ∃ ws : List (Nat × Tok), ys = ivals ws ∧ nw = (lq, listOf [Value.int 0 t0].toArray 0) :: (P, accO 101 dx (refs []).toArray n0) :: (dx, sizeD w 2 tk0 tz0) :: (Ro, listOf (ivals xs).toArray xn) :: (Wl, listOf (strValues zs).toArray zn) :: (Ll, listOf [Value.str a ta, Value.str b tb].toArray ln) :: (63, tabO pl) :: (70, tabO pl') :: rest ∧ ws.map (·.1) = ((xs.reverse.map (·.1)).take i).map (256 + ·),
    by rw [← ivals_len xs.reverse]; exact src_list ⟨_, (N6 _ (.head _)).1, rfl, _, rfl⟩, by simp, ⟨F6, N6, G2, rfl, D6⟩, ⟨[], rfl, rfl, rfl⟩, ?_, ?_⟩
  · rintro I o C D' oC m₂ i u ys nw s₂ hPi hi ⟨ws, rfl, rfl, hws⟩ hC S hpl
    obtain ⟨p, hp, rfl⟩ := iv_at hPi
    refine blk_name rfl rfl hC S fun oC' s₃ hC' S' => tests_none ?_
    simp only [if_true]
    refine emit_obl (keep := [(Rv, listOf (ivals xs.reverse).toArray 0)]) (ys := ivals ws) ?_
    generalize hEE : EltEnd _ _ _ _ _ _ _ _ _ _ _ _ = EE; revert EE; refine wrap ?_; intro EE hEE
    obtain ⟨F7, N7, G7, ho7, D7⟩ := S'
    dsimp only [List.cons_append, List.nil_append] at N7 D7
    have hwl : ws.length ≤ 14 := by
      have := congrArg List.length hws
      rw [List.length_map, List.length_map, List.length_take, List.length_map, List.length_reverse] at this
      ktr_room
    k_steps
    subst hEE
    refine ⟨oC', _, _, hC', trivial, ⟨F7, N7, G7, ho7, D7⟩, by rw [sizeLine_eq, ivals_len]; ktr_room, ws ++ [(256 + p.1, _)], ivals_add _ _ _, rfl, ?_⟩
    rw [List.map_append, hws, List.take_add_one, List.map_append, List.getElem?_map, hp]
    rfl
  · rintro D' ys nw s₂ ⟨ws, rfl, rfl, hws⟩ S s₃ S'
    obtain ⟨F7, N7, G7, ho7, D7⟩ := S'
    dsimp only [List.cons_append, List.nil_append] at N7 D7
    replace ho7 : s₃.os = s₁.os := ho7.trans ho2
    rw [List.take_of_length_le (by simp)] at hws
    (try clear S); (try clear F6); (try clear N6); (try clear D6); (try clear F5); (try clear N5)
    have hwl : ws.length = xs.length := by have := congrArg List.length hws; simpa using this
    have hGate : Gate "binaryOp Add ref ref" := ⟨⟩
    k_steps
    (repeat (with_reducible rename Gate _ => hG; clear hG))
    refine Stop.go ?_
    refine add_lists (s := ⟨_, _, _, _, _⟩) (vs := [Value.int 0 t0]) (ws := ivals ws) (hsz := ?hsz) F7 N7 ⟨_, (N7 _ (.tail _ (.tail _ (.head _)))).1, rfl, _, rfl⟩ ⟨_, (N7 _ (.tail _ (.head _))).1, rfl, _, rfl⟩ ?_
    case hsz => rw [sizeLine_eq]; simp [ivals]; ktr_room
    intro h8 F8 N8
    have hML : ∀ q ∈ (Rv, listOf (ivals xs.reverse).toArray 0) :: (D', LCg.lst (ivals ws)) :: (lq, listOf [Value.int 0 t0].toArray 0) :: (P, accO 101 dx (refs []).toArray n0) :: (dx, sizeD w 2 tk0 tz0) :: (Ro, listOf (ivals xs).toArray xn) :: (Wl, listOf (strValues zs).toArray zn) :: (Ll, listOf [Value.str a ta, Value.str b tb].toArray ln) :: (63, tabO pl) :: (70, tabO pl') :: rest, q.1 < _ := fun q hq => Heap.lt_size (N7 q hq).1
    have D8 := DN.cons_of (o := ({ cls := .type "list", data := .seq ([Value.int 0 t0] ++ ivals ws).toArray } : Obj)) D7 hML
    dsimp only at N8 D8 ⊢
    generalize (Heap.objs _).size = M at N8 D8 ⊢
    have hsub : ∀ oM : Obj, ∃ r, ((M, oM) :: (Rv, listOf (ivals xs.reverse).toArray 0) :: (D', LCg.lst (ivals ws)) :: (lq, listOf [Value.int 0 t0].toArray 0) :: (P, accO 101 dx (refs []).toArray n0) :: (dx, sizeD w 2 tk0 tz0) :: (Ro, listOf (ivals xs).toArray xn) :: (Wl, listOf (strValues zs).toArray zn) :: (Ll, listOf [Value.str a ta, Value.str b tb].toArray ln) :: (63, tabO pl) :: (70, tabO pl') :: rest).Perm (r ++ ((M, oM) :: (P, accO 101 dx (refs []).toArray n0) :: (dx, sizeD w 2 tk0 tz0) :: (Ro, listOf (ivals xs).toArray xn) :: (Wl, listOf (strValues zs).toArray zn) :: (Ll, listOf [Value.str a ta, Value.str b tb].toArray ln) :: (63, tabO pl) :: (70, tabO pl') :: rest)) := fun oM => ⟨[(Rv, listOf (ivals xs.reverse).toArray 0), (D', LCg.lst (ivals ws)), (lq, listOf [Value.int 0 t0].toArray 0)], (by exact pm_idx [[_], [_], [_], [_], [_], [_], [_], [_], [_], [_], [_], _] [1, 2, 3, 0, 4, 5, 6, 7, 8, 9, 10, 11] (by kernel_rfl))⟩
    replace N8 := sub_nw N8 (hsub _)
    replace D8 := sub_dn D8 (hsub _)
    clear hsub hML N7 F7 D7
    obtain ⟨us, hus⟩ : ∃ us : List (Nat × Tok), [Value.int 0 t0] ++ ivals ws = ivals us ∧ us.map (·.1) = 0 :: ((xs.reverse.map (·.1)).map (256 + ·)) := ⟨(0, t0) :: ws, rfl, by rw [List.map_cons, hws]⟩
    obtain ⟨hu1, hu2⟩ := hus
    rw [hu1] at N8 D8
    have hul : us.length = xs.length + 1 := by have := congrArg List.length hu2; simpa using this
    refine ⟨[M], [(M, _)], us.length, _, _, _, fun i m' => PuJ w P dx tk0 tz0 Wl Ll ((Ro, listOf (ivals xs).toArray xn) :: (Wl, listOf (strValues zs).toArray zn) :: (Ll, listOf [Value.str a ta, Value.str b tb].toArray ln) :: (63, tabO pl) :: (70, tabO pl') :: rest) (us.map (·.1)) i m', _,
      by rw [← ivals_len us]; exact src_list ⟨_, (N8 _ (.head _)).1, rfl, _, rfl⟩, by simp, ⟨F8, N8, G7, rfl, D8⟩, .mk [] n0 rfl (by ktr_unf) (by ktr_unf) (by ktr_unf), fun I o i u m' nw s₂ Q' hP hi hJ S _ h => asg_name rfl rfl S h, ?_, ?_⟩
    · rintro I o i u m' nw s₄ hPi hi ⟨ts, n, hts, hm1, hm2, hm3⟩ ⟨F9, N9, G9, ho9, D9⟩
      generalize hTQ : TurnPost _ _ _ _ _ _ = TQ; revert TQ; refine wrap ?_; intro TQ hTQ
      obtain ⟨p, hp9, rfl⟩ := iv_at hPi
      dsimp only [pile, List.cons_append, List.nil_append] at N9 D9
      have hpl : p.1 < 260 := by
        have h1 : p.1 ∈ us.map (·.1) := List.mem_map.mpr ⟨p, List.mem_of_getElem? hp9, rfl⟩
        rw [hu2] at h1
        rcases List.mem_cons.mp h1 with h | h
        · ktr_room
        · obtain ⟨y, hy, e⟩ := List.mem_map.mp h
          have := hrow y (by rw [List.map_reverse] at hy; exact List.mem_reverse.mp hy)
          rw [tx_len] at this
          ktr_room
      have htl := hts.len
      rw [List.length_map, List.length_take, List.length_map] at htl
      have hGate : Gate "call ref" := ⟨⟩
      k_steps
      (repeat (with_reducible rename Gate _ => hG; clear hG))
      refine Stop.go ?_
      (rename Fr _ _ _ _ => F10)
      (rename News _ _ _ _ => N10)
      show wpAny _ _ (call (.ref 45) [.ref P, _, _]) _ _ _
      refine Does.at (push_spec w ⟨P, dx, 2, tk0, tz0⟩ ts n _ _ _ _ (by ktr_room)) B F10 X N10 T G9 D9 rfl ((I, o) :: (M, ({ cls := .type "list", data := .seq (ivals us).toArray } : Obj)) :: (Ro, listOf (ivals xs).toArray xn) :: (Wl, listOf (strValues zs).toArray zn) :: (Ll, listOf [Value.str a ta, Value.str b tb].toArray ln) :: (63, tabO pl) :: (70, tabO pl') :: rest) (by exact pm_idx [[_], [_], [_], [_], _, [_], [_], [_], [_], [_], _] [2, 3, 4, 0, 1, 5, 6, 7, 8, 9, 10] (by kernel_rfl)) (by first | exact room1 (by assumption) (by decide) | exact room2 (by assumption) (by decide) | exact room3 (by assumption) (by decide) | ktr_room) (by first | exact room1 (by assumption) (by decide) | exact room2 (by assumption) (by decide) | exact room3 (by assumption) (by decide) | ktr_room) ?_
      rintro v s11 nw F11 N11 G11 ho11 D11 ⟨rfl, Tn, n', rfl⟩
      k_steps
      (rename Fr _ _ _ _ => F12)
      (rename News _ _ _ _ => N12)
      have hSP : ∀ tf tg, SP (((us.map (·.1)).take (i + 1)).map fun c => (true, c)) (ts ++ [⟨Tn, Str.ofString " ", tf, nm p.1, tg⟩]) := fun tf tg => by
        rw [List.take_add_one, List.getElem?_map, hp9, List.map_append]
        exact hts.push (x := (true, p.1)) (by show L (Str.ofString " ") = [32]; decide +kernel) rfl
      obtain ⟨ts2, hSP2, N13, D13⟩ : ∃ ts2, SP (((us.map (·.1)).take (i + 1)).map fun c => (true, c)) ts2 ∧ News g L' s11.heap (pile w 101 ⟨P, dx, 2, tk0, tz0⟩ ts2 n' ++ ((I, o) :: (M, ({ cls := .type "list", data := .seq (ivals us).toArray } : Obj)) :: (Ro, listOf (ivals xs).toArray xn) :: (Wl, listOf (strValues zs).toArray zn) :: (Ll, listOf [Value.str a ta, Value.str b tb].toArray ln) :: (63, tabO pl) :: (70, tabO pl') :: rest)) ∧ DN (pile w 101 ⟨P, dx, 2, tk0, tz0⟩ ts2 n' ++ ((I, o) :: (M, ({ cls := .type "list", data := .seq (ivals us).toArray } : Obj)) :: (Ro, listOf (ivals xs).toArray xn) :: (Wl, listOf (strValues zs).toArray zn) :: (Ll, listOf [Value.str a ta, Value.str b tb].toArray ln) :: (63, tabO pl) :: (70, tabO pl') :: rest)) := ⟨_, hSP _ _, N12, D11⟩
      have pm : (pile w 101 ⟨P, dx, 2, tk0, tz0⟩ ts2 n' ++ ((I, o) :: (M, ({ cls := .type "list", data := .seq (ivals us).toArray } : Obj)) :: (Ro, listOf (ivals xs).toArray xn) :: (Wl, listOf (strValues zs).toArray zn) :: (Ll, listOf [Value.str a ta, Value.str b tb].toArray ln) :: (63, tabO pl) :: (70, tabO pl') :: rest)).Perm ((I, o) :: [(M, ({ cls := .type "list", data := .seq (ivals us).toArray } : Obj))] ++ (pile w 101 ⟨P, dx, 2, tk0, tz0⟩ ts2 n' ++ ((Ro, listOf (ivals xs).toArray xn) :: (Wl, listOf (strValues zs).toArray zn) :: (Ll, listOf [Value.str a ta, Value.str b tb].toArray ln) :: (63, tabO pl) :: (70, tabO pl') :: rest))) := (by exact pm_idx [[_], [_], _, [_], [_], [_], [_], [_], [_], [_], _] [3, 4, 0, 1, 2, 5, 6, 7, 8, 9, 10] (by kernel_rfl))
      subst hTQ
      exact ⟨_, _, ⟨F12, News.perm N13 pm, G11, ho11.trans ho9, DN.perm D13 pm⟩, .mk ts2 n' hSP2 (by ktr_unf) (by ktr_unf) (by ktr_unf)⟩
    · rintro m' nw s₄ ⟨ts, n, hts, hm1, hm2, hm3⟩ ⟨F9, N9, G9, ho9, D9⟩
      dsimp only [List.cons_append, List.nil_append] at N9 D9
      replace N9 : News g L' s₄.heap (pile w 101 ⟨P, dx, 2, tk0, tz0⟩ ts n ++ ((Ro, listOf (ivals xs).toArray xn) :: (Wl, listOf (strValues zs).toArray zn) :: (Ll, listOf [Value.str a ta, Value.str b tb].toArray ln) :: (63, tabO pl) :: (70, tabO pl') :: rest)) := fun q hq => N9 q (.tail _ hq)
      replace D9 : DN (pile w 101 ⟨P, dx, 2, tk0, tz0⟩ ts n ++ ((Ro, listOf (ivals xs).toArray xn) :: (Wl, listOf (strValues zs).toArray zn) :: (Ll, listOf [Value.str a ta, Value.str b tb].toArray ln) :: (63, tabO pl) :: (70, tabO pl') :: rest)) := D9.tail
      rw [List.take_of_length_le (by simp)] at hts
      dsimp only [pile, List.cons_append] at N9 D9
      have htl := hts.len
      rw [List.length_map, List.length_map, hul] at htl
      have hc60 : ∀ x ∈ (us.map (·.1)).map (fun c => (true, c)), x.2 < 260 := fun x hx => by
        obtain ⟨c, hc, rfl⟩ := List.mem_map.mp hx
        rw [hu2] at hc
        show c < 260
        rcases List.mem_cons.mp hc with h | h
        · ktr_room
        · obtain ⟨y, hy, e⟩ := List.mem_map.mp h
          have := hrow y (by rw [List.map_reverse] at hy; exact List.mem_reverse.mp hy)
          rw [tx_len] at this
          ktr_room
      have hsz := hts.sz hc60
      have htot : total ts = (showL ((us.map (·.1)).map fun c => (true, c))).length := by rw [total_shown, hts.shown]
      have htot2 : total ts ≤ 100 := by
        have : ∀ l : List Pc, (∀ q ∈ l, q.f.length ≤ 1 ∧ q.g.length ≤ 3) → total l ≤ 4 * l.length := by
          intro l
          induction l with
          | nil => intro _; simp [total]
          | cons q l ih =>
            intro h
            have h1 := ih fun x hx => h x (.tail _ hx)
            have h2 := h q (.head _)
            unfold total at h1 ⊢
            simp only [List.map_cons, List.sum_cons, List.length_cons]
            ktr_room
        have := this ts hsz
        ktr_room
      have hGate : Gate "call builtin:len" := ⟨⟩
      k_steps
      (repeat (with_reducible rename Gate _ => hG; clear hG))
      refine Stop.go ?_
      (rename Fr _ _ _ _ => F10)
      (rename News _ _ _ _ => N10)
      refine Does.len (len_spec w ⟨P, dx, 2, tk0, tz0⟩ ts n pl hp ⟨by show (0 : Int) ≤ 2; decide, by show (2 : Int) ≤ 10000; decide⟩ (by ktr_room) (fun p hp => ⟨Nat.le_trans (hsz p hp).1 (by decide), Nat.le_trans (hsz p hp).2 (by decide)⟩)) (fun v nw h => ?hpost) (acc_inst N10 (.head _) (.tail _ (.head _))) (by k_is) (by k_is) B F10 X N10 T G9 D9 rfl ((Ro, listOf (ivals xs).toArray xn) :: (Wl, listOf (strValues zs).toArray zn) :: (Ll, listOf [Value.str a ta, Value.str b tb].toArray ln) :: (70, tabO pl') :: rest) (by exact pm_idx [[_], [_], _, [_], [_], [_], [_], [_], _] [6, 0, 1, 2, 3, 4, 5, 7, 8] (by kernel_rfl)) (by first | exact room1 (by assumption) (by decide) | exact room2 (by assumption) (by decide) | exact room3 (by assumption) (by decide) | ktr_room) (by first | exact room1 (by assumption) (by decide) | exact room2 (by assumption) (by decide) | exact room3 (by assumption) (by decide) | ktr_room) ?_
      case hpost => obtain ⟨⟨t, rfl⟩, _⟩ := h; exact ⟨_, t, rfl, by show (0 : Int) ≤ 2 + _; ktr_room, by show (2 : Int) + _ < _; ktr_room⟩
      rintro nn t11 t11' s11 nw F11 N11 G11 ho11 D11 ⟨⟨_, hnn⟩, pl2, hp2, rfl⟩
      obtain rfl : nn = 2 + ((total ts : Nat) : Int) := by injection hnn
      clear hnn
      have pm : ((63, tabO pl2) :: pile w 101 ⟨P, dx, 2, tk0, tz0⟩ ts n ++ ((Ro, listOf (ivals xs).toArray xn) :: (Wl, listOf (strValues zs).toArray zn) :: (Ll, listOf [Value.str a ta, Value.str b tb].toArray ln) :: (70, tabO pl') :: rest)).Perm ((P, accO 101 dx (refs ts).toArray n) :: (dx, sizeD w 2 tk0 tz0) :: (Ro, listOf (ivals xs).toArray xn) :: (Wl, listOf (strValues zs).toArray zn) :: (Ll, listOf [Value.str a ta, Value.str b tb].toArray ln) :: (63, tabO pl2) :: (70, tabO pl') :: (ts.map Pc.ent ++ rest)) := (by exact pm_idx [[_], [_], [_], _, [_], [_], [_], [_], _] [1, 2, 4, 5, 6, 0, 7, 3, 8] (by kernel_rfl))
      replace N11 := News.perm N11 pm
      replace D11 := DN.perm D11 pm
      clear pm
      have hGate : Gate "call type:str" := ⟨⟩
      k_steps
      (repeat (with_reducible rename Gate _ => hG; clear hG))
      refine Stop.go ?_
      (rename Fr _ _ _ _ => F12)
      (rename News _ _ _ _ => N12)
      refine Does.str (str_spec w ⟨P, dx, 2, tk0, tz0⟩ ts n pl' hp' (by ktr_room) (fun p hp => ⟨Nat.le_trans (hsz p hp).1 (by decide), Nat.le_trans (hsz p hp).2 (by decide)⟩)) (fun v nw h => ⟨_, _, h.1.choose_spec⟩) (acc_inst N12 (.head _) (.tail _ (.head _))) (by k_is) (by k_is) B F12 X N12 T G11 D11 rfl ((Ro, listOf (ivals xs).toArray xn) :: (Wl, listOf (strValues zs).toArray zn) :: (Ll, listOf [Value.str a ta, Value.str b tb].toArray ln) :: (63, tabO pl2) :: rest) (by exact pm_idx [[_], [_], [_], [_], [_], [_], [_], _, _] [6, 0, 1, 7, 2, 3, 4, 5, 8] (by kernel_rfl)) (by first | exact room1 (by assumption) (by decide) | exact room2 (by assumption) (by decide) | exact room3 (by assumption) (by decide) | ktr_room) (by first | exact room1 (by assumption) (by decide) | exact room2 (by assumption) (by decide) | exact room3 (by assumption) (by decide) | ktr_room) ?_
      rintro y ty s13 nw F13 N13 G13 ho13 D13 ⟨⟨_, hy⟩, pl3, hp3, rfl⟩
      cases hy
      have hsh := hts.shown
      generalize shown ts = sh at *
      have pm : ((70, tabO pl3) :: pile w 101 ⟨P, dx, 2, tk0, tz0⟩ ts n ++ ((Ro, listOf (ivals xs).toArray xn) :: (Wl, listOf (strValues zs).toArray zn) :: (Ll, listOf [Value.str a ta, Value.str b tb].toArray ln) :: (63, tabO pl2) :: rest)).Perm ((P, accO 101 dx (refs ts).toArray n) :: (dx, sizeD w 2 tk0 tz0) :: (Ro, listOf (ivals xs).toArray xn) :: (Wl, listOf (strValues zs).toArray zn) :: (Ll, listOf [Value.str a ta, Value.str b tb].toArray ln) :: (63, tabO pl2) :: (70, tabO pl3) :: (ts.map Pc.ent ++ rest)) := (by exact pm_idx [[_], [_], [_], _, [_], [_], [_], [_], _] [1, 2, 4, 5, 6, 7, 0, 3, 8] (by kernel_rfl))
      replace N13 := News.perm N13 pm
      replace D13 := DN.perm D13 pm
      clear pm
      have hGate : Gate "call ref" := ⟨⟩
      k_steps
      (repeat (with_reducible rename Gate _ => hG; clear hG))
      refine Stop.go ?_
      (rename Fr _ _ _ _ => F14)
      (rename News _ _ _ _ => N14)
      (rename (_ ∧ _ ∧ _ ∧ _ ∧ _ ∧ _ ∧ _ ∧ AllLt _ _) => l14)
      rename_i Fs _ _ _ _ _ _
      have D14 := D13.more (o := listOf [Value.int (2 + ((total ts : Nat) : Int)) t11, Value.str sh ty].toArray 0) l14
      obtain ⟨t20, t21, N14⟩ : ∃ t20 t21, News g L' _ ((Fs, listOf [Value.int (2 + ((total ts : Nat) : Int)) t20, Value.str sh t21].toArray 0) :: (P, accO 101 dx (refs ts).toArray n) :: (dx, sizeD w 2 tk0 tz0) :: (Ro, listOf (ivals xs).toArray xn) :: (Wl, listOf (strValues zs).toArray zn) :: (Ll, listOf [Value.str a ta, Value.str b tb].toArray ln) :: (63, tabO pl2) :: (70, tabO pl3) :: (ts.map Pc.ent ++ rest)) := ⟨_, _, N14⟩
      have hcs : (us.map (fun u : Nat × Tok => u.1)).map (fun c => (true, c)) = ((xs.map (fun u : Nat × Tok => u.1)).map (fun k => (true, 256 + k)) ++ [((true, 0) : Bool × Nat)]).reverse := by
        rw [hu2]; simp [List.map_reverse, Function.comp_def]
      rw [hcs] at hts
      have hJ0 : SpJ (tx zs) (fun i => if i = 0 then ca else cb) (xs.map (·.1)) [] 0 ((xs.map (·.1)).map (fun k => (true, 256 + k)) ++ [(true, 0)]) := SpJ.start hrow
      obtain ⟨c0, st0, hst0⟩ : ∃ c0 st0, (xs.map (·.1)).map (fun k => (true, 256 + k)) ++ [(true, 0)] = ((true, c0) :: st0 : List (Bool × Nat)) := by
        cases xs with
        | nil => exact ⟨_, _, rfl⟩
        | cons x xs => exact ⟨_, _, rfl⟩
      rw [hst0] at hJ0 hts
      rw [List.reverse_cons] at hts
      obtain ⟨ini, p0, rfl, hini, hp0f, hp0g⟩ := hts.pop
      have hil : ini.length ≤ 20 := by rw [List.length_append] at htl; simp at htl; ktr_room
      show wpAny _ _ (call (.ref 61) [.ref P]) _ _ _
      refine Does.at (pop_some w ⟨P, dx, 2, tk0, tz0⟩ ini p0 n (by ktr_room)) B F14 X N14 T G13 D14 rfl ((Fs, listOf [Value.int (2 + ((total (ini ++ [p0]) : Nat) : Int)) t20, Value.str sh t21].toArray 0) :: (Ro, listOf (ivals xs).toArray xn) :: (Wl, listOf (strValues zs).toArray zn) :: (Ll, listOf [Value.str a ta, Value.str b tb].toArray ln) :: (63, tabO pl2) :: (70, tabO pl3) :: rest) (by exact pm_idx [[_], [_], [_], [_], [_], [_], [_], [_], _, _] [1, 2, 8, 0, 3, 4, 5, 6, 7, 9] (by kernel_rfl)) (by first | exact room1 (by assumption) (by decide) | exact room2 (by assumption) (by decide) | exact room3 (by assumption) (by decide) | ktr_room) (by first | exact room1 (by assumption) (by decide) | exact room2 (by assumption) (by decide) | exact room3 (by assumption) (by decide) | ktr_room) ?_
      rintro v s15 nw F15 N15 G15 ho15 D15 ⟨rfl, n3, rfl⟩
      refine tup_pair rfl rfl rfl rfl F15 N15 (.head _) rfl ⟨_, rfl⟩ ?_
      intro h16 t16 F16 N16
      have hsub : ∃ r, (p0.ent :: pile w 101 ⟨P, dx, 2, tk0, tz0⟩ ini n3 ++ ((Fs, listOf [Value.int (2 + ((total (ini ++ [p0]) : Nat) : Int)) t20, Value.str sh t21].toArray 0) :: (Ro, listOf (ivals xs).toArray xn) :: (Wl, listOf (strValues zs).toArray zn) :: (Ll, listOf [Value.str a ta, Value.str b tb].toArray ln) :: (63, tabO pl2) :: (70, tabO pl3) :: rest)).Perm (r ++ ((P, accO 101 dx (refs ini).toArray n3) :: (dx, sizeD w 2 tk0 tz0) :: (Fs, listOf [Value.int (2 + ((total (ini ++ [p0]) : Nat) : Int)) t20, Value.str sh t21].toArray 0) :: (Ro, listOf (ivals xs).toArray xn) :: (Wl, listOf (strValues zs).toArray zn) :: (Ll, listOf [Value.str a ta, Value.str b tb].toArray ln) :: (63, tabO pl2) :: (70, tabO pl3) :: (ini.map Pc.ent ++ rest))) := ⟨[p0.ent], (by exact pm_idx [[_], [_], [_], _, [_], [_], [_], [_], [_], [_], _] [0, 1, 2, 4, 5, 6, 7, 8, 9, 3, 10] (by kernel_rfl))⟩
      replace N16 := sub_nw N16 hsub
      replace D15 := sub_dn D15 hsub
      clear hsub
      have hGate : Gate "exec While" := ⟨⟩
      k_steps
      (repeat (with_reducible rename Gate _ => hG; clear hG))
      refine Stop.go ?_
      (rename Fr _ _ _ _ => F17)
      (rename News _ _ _ _ => N17)
      obtain ⟨rz, hrz⟩ : ∃ rz : Led, rz = (Fs, listOf [Value.int (2 + ((total (ini ++ [p0]) : Nat) : Int)) t20, Value.str sh t21].toArray 0) :: (Ro, listOf (ivals xs).toArray xn) :: (63, tabO pl2) :: (70, tabO pl3) :: rest := ⟨_, rfl⟩
      have pmz : ((P, accO 101 dx (refs ini).toArray n3) :: (dx, sizeD w 2 tk0 tz0) :: (Fs, listOf [Value.int (2 + ((total (ini ++ [p0]) : Nat) : Int)) t20, Value.str sh t21].toArray 0) :: (Ro, listOf (ivals xs).toArray xn) :: (Wl, listOf (strValues zs).toArray zn) :: (Ll, listOf [Value.str a ta, Value.str b tb].toArray ln) :: (63, tabO pl2) :: (70, tabO pl3) :: (ini.map Pc.ent ++ rest)).Perm ((P, accO 101 dx (refs ini).toArray n3) :: (dx, sizeD w 2 tk0 tz0) :: (Wl, listOf (strValues zs).toArray zn) :: (Ll, listOf [Value.str a ta, Value.str b tb].toArray ln) :: (ini.map Pc.ent ++ rz)) := by rw [hrz]; exact (by exact pm_idx [[_], [_], [_], [_], [_], [_], [_], [_], _, _] [0, 1, 4, 5, 8, 2, 3, 6, 7, 9] (by kernel_rfl))
      replace N17 := News.perm N17 pmz
      replace D15 := DN.perm D15 pmz
      clear pmz
      have hblk : L p0.f = List.replicate 1 32 := by rw [hp0f]; rfl
      refine While_obl (h₀ := g) (L := L') (os := s₁.os) (fun μ m' nw => SwJ w P dx tk0 tz0 Wl Ll Fs (tx zs) (fun i => if i = 0 then ca else cb) (xs.map (·.1)) (Wl, listOf (strValues zs).toArray zn) (Ll, listOf [Value.str a ta, Value.str b tb].toArray ln) rz m' μ nw) _ ⟨F17, N17, G15, ho15.trans (ho13.trans (ho11.trans (ho9.trans ho7))), D15⟩
        (.mk c0 st0 ini n3 (Str.ofString "") _ p0.f p0.tf p0.tg 1 hJ0.took hini hblk ?_ (by ktr_unf) (by ktr_unf) (by ktr_unf) (by ktr_unf) (by ktr_unf) (by ktr_unf) (by rw [← hp0g]; ktr_unf)) ?_
      · have e : st0.map (·.2) = st0.map fun x : Bool × Nat => x.2 := rfl
        have h := wgt_row (xs.map (·.1))
        rw [hst0, List.map_cons, List.length_map] at h
        show wgt (c0 :: st0.map fun x : Bool × Nat => x.2) ≤ 85
        rw [h]
        ktr_room
      clear hJ0 hini F17 N17 hblk D15 F15 N15 hst0
      (try clear F14); (try clear N14); (try clear D14); (try clear l14); (try clear F13); (try clear N13); (try clear D13); (try clear F12); (try clear N12); (try clear D11); (try clear N11); (try clear F11)
      rintro μ m' nw s₄ ⟨c, st, ts, n, y, ty, bl, tbl, tn, nb, hJ, hSP, hbl, hμ, hm1, hm2, hm3, hm4, hm5, hm6, hm7⟩ ⟨F18, N18, G18, ho18, D18⟩
      generalize hTP : TurnPost _ _ _ _ _ _ = TP; revert TP; refine wrap ?_; intro TP hTP
      have hwl : (tx zs).length ≤ 3 := by rw [tx_len]; exact hzl
      have hw4 : ∀ k < (tx zs).length, (wd (tx zs) k).length ≤ 4 := fun k hk => by
        rw [tx_len] at hk
        rw [wd_tx (List.getElem?_eq_getElem hk), L_len]
        exact (hd _ (List.getElem_mem hk)).1
      have hyl : y.length ≤ 56 := by
        have h1 := hJ.tlen
        have h2 := spell_le hw4 _ hrow
        rw [L_len] at h1
        rw [List.length_map] at h2
        ktr_room
      have hbl2 : bl.length ≤ 15 := by
        have h1 := hJ.bl
        rw [List.length_map] at h1
        rw [← L_len, hbl, List.length_replicate]
        ktr_room
      have hc260 : c < 260 := hJ.lt hwl _ (.head _)
      have htl := hSP.len
      rw [List.length_reverse] at htl
      have hwg := wgt_ge (st.map (·.2))
      have hμ0 := hμ
      rw [wgt_cons] at hμ
      rw [List.length_map] at hwg
      have hmn : m' "name" = some (.str (Str.ofString (toString (c : Int))) tn) := hm7
      clear hm7
      have hGate : Gate "call ref" := ⟨⟩
      k_steps
      (repeat (with_reducible rename Gate _ => hG; clear hG))
      refine Stop.go ?_
      (rename Fr _ _ _ _ => F19)
      (rename News _ _ _ _ => N19)
      refine Does.at2 (eof_spec w (c : Int) _) B F19 X N19 T G18 D18 rfl (by first | exact room1 (by assumption) (by decide) | exact room2 (by assumption) (by decide) | exact room3 (by assumption) (by decide) | ktr_room) (by first | exact room1 (by assumption) (by decide) | exact room2 (by assumption) (by decide) | exact room3 (by assumption) (by decide) | ktr_room) ?_
      intro s20 F20 N20 G20 ho20 D20
      (try dsimp only [List.nil_append] at N20 D20)
      (try clear F18); (try clear N18); (try clear F19); (try clear N19); (try clear D18)
      by_cases hc0 : c = 0
      · rw [hc0] at hJ
        obtain ⟨rfl, hye, hne⟩ := hJ.zero
        have hts0 : ts = [] := List.length_eq_zero_iff.mp htl
        subst hts0
        rw [decide_eq_true (show (c : Int) = 0 by ktr_room)]
        -- DEV<
        subst hrz
        have hGate : Gate "call builtin:len" := ⟨⟩
        k_steps
        (repeat (with_reducible rename Gate _ => hG; clear hG))
        refine Stop.go ?_
        (rename Fr _ _ _ _ => F21)
        (rename News _ _ _ _ => N21)
        refine Does.len (len_spec w ⟨P, dx, 2, tk0, tz0⟩ [] n pl2 hp2 ⟨by show (0 : Int) ≤ 2; decide, by show (2 : Int) ≤ 10000; decide⟩ (by simp) (fun p hp => by cases hp)) (fun v nw h => ?hpost) (acc_inst N21 (.head _) (.tail _ (.head _))) (by k_is) (by k_is) B F21 X N21 T G20 D20 rfl ((Fs, listOf [Value.int (2 + ((total (ini ++ [p0]) : Nat) : Int)) t20, Value.str sh t21].toArray 0) :: (Ro, listOf (ivals xs).toArray xn) :: (Wl, listOf (strValues zs).toArray zn) :: (Ll, listOf [Value.str a ta, Value.str b tb].toArray ln) :: (70, tabO pl3) :: rest) (by exact pm_idx [[_], [_], [_], [_], [_], [_], [_], [_], _] [6, 0, 1, 4, 5, 2, 3, 7, 8] (by kernel_rfl)) (by first | exact room1 (by assumption) (by decide) | exact room2 (by assumption) (by decide) | exact room3 (by assumption) (by decide) | ktr_room) (by first | exact room1 (by assumption) (by decide) | exact room2 (by assumption) (by decide) | exact room3 (by assumption) (by decide) | ktr_room) ?_
        case hpost => obtain ⟨⟨t, rfl⟩, _⟩ := h; exact ⟨_, t, rfl, by show (0 : Int) ≤ 2 + _; ktr_room, by show (2 : Int) + _ < _; decide⟩
        rintro nn t22 t22' s22 nw F22 N22 G22 ho22 D22 ⟨⟨_, hnn⟩, pl4, hp4, rfl⟩
        obtain rfl : nn = 2 := by injection hnn
        clear hnn
        have hGate : Gate "call ref" := ⟨⟩
        k_steps
        (repeat (with_reducible rename Gate _ => hG; clear hG))
        refine Stop.go ?_
        (rename Fr _ _ _ _ => F23)
        (rename News _ _ _ _ => N23)
        show wpAny _ _ (call (.ref 61) [.ref P]) _ _ _
        refine Does.at (pop_none w ⟨P, dx, 2, tk0, tz0⟩ n) B F23 X N23 T G22 D22 rfl ((Fs, listOf [Value.int (2 + ((total (ini ++ [p0]) : Nat) : Int)) t20, Value.str sh t21].toArray 0) :: (Ro, listOf (ivals xs).toArray xn) :: (Wl, listOf (strValues zs).toArray zn) :: (Ll, listOf [Value.str a ta, Value.str b tb].toArray ln) :: (63, tabO pl4) :: (70, tabO pl3) :: rest) (by exact pm_idx [[_], [_], [_], [_], [_], [_], [_], [_], _] [1, 2, 3, 4, 5, 6, 0, 7, 8] (by kernel_rfl)) (by first | exact room1 (by assumption) (by decide) | exact room2 (by assumption) (by decide) | exact room3 (by assumption) (by decide) | ktr_room) (by first | exact room1 (by assumption) (by decide) | exact room2 (by assumption) (by decide) | exact room3 (by assumption) (by decide) | ktr_room) ?_
        rintro v s24 nw F24 N24 G24 ho24 D24 ⟨pe, rfl, hpf, hpg, rfl⟩
        k_steps
        (rename Fr _ _ _ _ => F25)
        (rename News _ _ _ _ => N25)
        rename_i T _ _
        have hsub : ∀ oT : Obj, ∃ r, ((T, oT) :: (pe.ent :: pile w 101 ⟨P, dx, 2, tk0, tz0⟩ [] n ++ ((Fs, listOf [Value.int (2 + ((total (ini ++ [p0]) : Nat) : Int)) t20, Value.str sh t21].toArray 0) :: (Ro, listOf (ivals xs).toArray xn) :: (Wl, listOf (strValues zs).toArray zn) :: (Ll, listOf [Value.str a ta, Value.str b tb].toArray ln) :: (63, tabO pl4) :: (70, tabO pl3) :: rest))).Perm (r ++ ([(T, oT), pe.ent, (Fs, listOf [Value.int (2 + ((total (ini ++ [p0]) : Nat) : Int)) t20, Value.str sh t21].toArray 0), (Ro, listOf (ivals xs).toArray xn), (Wl, listOf (strValues zs).toArray zn), (Ll, listOf [Value.str a ta, Value.str b tb].toArray ln), (63, tabO pl4), (70, tabO pl3)] ++ rest)) := fun oT => ⟨pile w 101 ⟨P, dx, 2, tk0, tz0⟩ [] n, (perm_of_cnt fun q => by simp only [pile, cnt_cons, cnt_app, cnt_nil, List.map_append, List.map_cons, List.map_nil, List.append_assoc, List.cons_append, List.nil_append, Nat.add_zero, Nat.zero_add] <;> first | ac_rfl | ktr_room)⟩
        subst hQB; refine BodyPost.mk _ F25 (sub_nw N25 (hsub _)) G24 (ho24.trans (ho22.trans (ho20.trans ho18))) (sub_dn (DN.cons_of D24 (by assumption)) (hsub _)) (SpPost.mk T Fs y ty _ t20 sh t21 bl tbl t22 pe pl4 pl3 hp4 hp3 hye ?_ ?_ ?_ hpf hpg)
        · rw [hsh, hu2]
        · rw [hsh, htot]
        · rw [hbl, show nb = xs.length + 1 by rw [List.length_map] at hne; simpa using hne]
        -- >DEV
      · obtain ⟨hok, fl, d, r, rfl⟩ := hJ.more hc0
        rw [decide_eq_false (show ¬ (c : Int) = 0 by ktr_room)]
        have hGate : Gate "exec If" := ⟨⟩
        k_steps
        (repeat (with_reducible rename Gate _ => hG; clear hG))
        refine Stop.go ?_
        (rename Fr _ _ _ _ => F21)
        (rename News _ _ _ _ => N21)
        refine cut_at (SpC1 g L' s₁.os ((P, accO 101 dx (refs ts).toArray n) :: (dx, sizeD w 2 tk0 tz0) :: (Wl, listOf (strValues zs).toArray zn) :: (Ll, listOf [Value.str a ta, Value.str b tb].toArray ln) :: (ts.map Pc.ent ++ rz)) P Wl Ll Fs (L y ++ (if c < 256 then sym1 (tx zs) (fun i => if i = 0 then ca else cb) c else [])) bl tbl c) ?_ ?_ ()
        · skip
          generalize hCU : Cut _ _ = CU; revert CU; refine wrap ?_; intro CU hCU
          have hGate : Gate "call ref" := ⟨⟩
          k_steps
          (repeat (with_reducible rename Gate _ => hG; clear hG))
          refine Stop.go ?_
          (rename Fr _ _ _ _ => F22)
          (rename News _ _ _ _ => N22)
          refine Does.at2 (term_spec w (c : Int) _) B F22 X N22 T G20 D20 rfl (by first | exact room1 (by assumption) (by decide) | exact room2 (by assumption) (by decide) | exact room3 (by assumption) (by decide) | ktr_room) (by first | exact room1 (by assumption) (by decide) | exact room2 (by assumption) (by decide) | exact room3 (by assumption) (by decide) | ktr_room) ?_
          intro s23 F23 N23 G23 ho23 D23
          (try dsimp only [List.nil_append] at N23 D23)
          (try clear F20); (try clear N20); (try clear F21); (try clear N21); (try clear F22); (try clear N22); (try clear D20)
          by_cases hlow : c < 256
          · rw [decide_eq_true (show (c : Int) < 256 by ktr_room)]
            have hc254 : 254 ≤ c := by unfold okSym at hok; ktr_room
            have hGate : Gate "subscriptTail Name BinOp ref int" := ⟨⟩
            k_steps
            (repeat (with_reducible rename Gate _ => hG; clear hG))
            refine Stop.go ?_
            (rename Fr _ _ _ _ => F24)
            (rename News _ _ _ _ => N24)
            obtain ⟨z, tz, hzat, hzs, hzl1⟩ : ∃ z tz, [Value.str a ta, Value.str b tb][((c : Int) - 254).toNat]? = some (.str z tz) ∧ L z = sym1 (tx zs) (fun i => if i = 0 then ca else cb) c ∧ z.length = 1 := by
              have h2 : c = 254 ∨ c = 255 := by unfold okSym at hok; ktr_room
              unfold sym1
              rw [if_neg hc0, if_pos hlow]
              rcases h2 with h | h
              · subst h; exact ⟨a, ta, rfl, ha, by rw [← L_len, ha]; rfl⟩
              · subst h; exact ⟨b, tb, rfl, hb, by rw [← L_len, hb]; rfl⟩
            refine item_at (vs := [Value.str a ta, Value.str b tb]) (v := .str z tz) (News.isList N24 (by k_mem)) (by ktr_room) (by ktr_room) hzat ?_ (by with_unfolding_all rfl)
            k_steps
            (rename Fr _ _ _ _ => F25)
            (rename News _ _ _ _ => N25)
            subst hCU
            exact Cut.next ⟨_, y ++ z, _, _, ⟨F25, N25, G23, ho23.trans (ho20.trans ho18), D23⟩, by rw [L_app, hzs, if_pos hlow], by ktr_unf, by ktr_unf, by ktr_unf, by ktr_unf, by ktr_unf, by ktr_unf, by ktr_unf⟩
          · rw [decide_eq_false (show ¬ (c : Int) < 256 by ktr_room)]
            k_steps
            (rename Fr _ _ _ _ => F24)
            (rename News _ _ _ _ => N24)
            subst hCU
            exact Cut.next ⟨_, y, _, _, ⟨F24, N24, G23, ho23.trans (ho20.trans ho18), D23⟩, by rw [if_neg hlow, List.append_nil], by ktr_unf, by ktr_unf, by ktr_unf, by ktr_unf, by ktr_unf, by ktr_unf, by ktr_unf⟩
        · rintro s' ⟨m2, y2, ty2, tsy, ⟨F22, N22, G22, ho22, D22⟩, hy2, hm1, hm2, hm3, hm4, hm5, hm6, hm7⟩
          (try clear F20); (try clear N20); (try clear F21); (try clear N21); (try clear D20); (try clear hmn)
          have hGate : Gate "exec If" := ⟨⟩
          k_steps
          (repeat (with_reducible rename Gate _ => hG; clear hG))
          refine Stop.go ?_
          (rename Fr _ _ _ _ => F23)
          (rename News _ _ _ _ => N23)
          refine cut_at (SpC2 g L' s₁.os w P dx tk0 tz0 Wl Ll Fs (tx zs) (fun i => if i = 0 then ca else cb) (xs.map (·.1)) (Wl, listOf (strValues zs).toArray zn) (Ll, listOf [Value.str a ta, Value.str b tb].toArray ln) rz nb (wgt (c :: d :: r.map (·.2))) bl tbl) ?_ ?_ ()
          · skip
            generalize hCV : Cut _ _ = CV; revert CV; refine wrap ?_; intro CV hCV
            have hGate : Gate "call ref" := ⟨⟩
            k_steps
            (repeat (with_reducible rename Gate _ => hG; clear hG))
            refine Stop.go ?_
            (rename Fr _ _ _ _ => F24)
            (rename News _ _ _ _ => N24)
            refine Does.at2 (nterm_spec w (c : Int) _) B F24 X N24 T G22 D22 rfl (by first | exact room1 (by assumption) (by decide) | exact room2 (by assumption) (by decide) | exact room3 (by assumption) (by decide) | ktr_room) (by first | exact room1 (by assumption) (by decide) | exact room2 (by assumption) (by decide) | exact room3 (by assumption) (by decide) | ktr_room) ?_
            intro s25 F25 N25 G25 ho25 D25
            (try dsimp only [List.nil_append] at N25 D25)
            (try clear F22); (try clear N22); (try clear F23); (try clear N23); (try clear F24); (try clear N24); (try clear D22)
            by_cases hlow : c < 256
            · rw [decide_eq_false (show ¬ 256 ≤ (c : Int) by ktr_room)]
              rw [if_pos hlow] at hy2
              k_steps
              (rename Fr _ _ _ _ => F26)
              (rename News _ _ _ _ => N26)
              have hJ2 : SpJ (tx zs) (fun i => if i = 0 then ca else cb) (xs.map (·.1)) (L y ++ sym1 (tx zs) (fun i => if i = 0 then ca else cb) c) nb ((fl, d) :: r) := hJ.turn hc0 [] _ (by simp) (by simp [stext])
              rw [← hy2] at hJ2
              subst hCV
              exact Cut.next ⟨_, y2, ty2, ts, n, d, fl, r, ⟨F26, N26, G25, ho25.trans ho22, D25⟩, hJ2, hSP, by rw [wgt_cons c]; split <;> ktr_room, by ktr_unf, by ktr_unf, by ktr_unf, by ktr_unf, by ktr_unf, by ktr_unf⟩
            · rw [if_neg hlow, List.append_nil] at hy2
              have hc3 : c - 256 < zs.length := by unfold okSym at hok; rw [tx_len] at hok; ktr_room
              obtain ⟨⟨z, tz⟩, hz⟩ : ∃ z, zs[c - 256]? = some z := ⟨_, List.getElem?_eq_getElem hc3⟩
              have hzw := wd_tx hz
              have hsv : (strValues zs)[((c : Int) - 256).toNat]? = some (.str z tz) := by rw [show ((c : Int) - 256).toNat = c - 256 by ktr_room]; unfold strValues; rw [List.getElem?_map, hz]; rfl
              obtain ⟨hz4, hzs⟩ : z.length ≤ 4 ∧ ∀ s ∈ L z, s = ca ∨ s = cb := hd _ (List.mem_of_getElem? hz)
              rw [decide_eq_true (show 256 ≤ (c : Int) by ktr_room)]
              have hGate : Gate "exec For" := ⟨⟩
              k_steps
              (repeat (with_reducible rename Gate _ => hG; clear hG))
              refine Stop.go ?_
              (rename Fr _ _ _ _ => F26)
              (rename News _ _ _ _ => N26)
              refine For_obl (h₀ := g) rfl ?_ (by intro _; rfl)
              have hGate : Gate "subscriptTail Name BinOp ref int" := ⟨⟩
              k_steps
              (repeat (with_reducible rename Gate _ => hG; clear hG))
              refine Stop.go ?_
              (rename Fr _ _ _ _ => F27)
              (rename News _ _ _ _ => N27)
              refine item_at (vs := strValues zs) (v := .str z tz) (News.isList N27 (by k_mem)) (by ktr_room) (by ktr_room) hsv ?_ (by with_unfolding_all rfl)
              k_steps
              (rename Fr _ _ _ _ => F28)
              (rename News _ _ _ _ => N28)
              refine ⟨[], [], _, _, _, ((P, accO 101 dx (refs ts).toArray n) :: (dx, sizeD w 2 tk0 tz0) :: (Wl, listOf (strValues zs).toArray zn) :: (Ll, listOf [Value.str a ta, Value.str b tb].toArray ln) :: (ts.map Pc.ent ++ rz)), fun i m' => FwJ w P dx tk0 tz0 Wl Ll Fs (Wl, listOf (strValues zs).toArray zn) (Ll, listOf [Value.str a ta, Value.str b tb].toArray ln) rz ((fl, d) :: r).reverse (L z).reverse ca y2 ty2 bl tbl i m', _, src_str, (by simp), ⟨F28, N28, G25, rfl, D25⟩, .mk ts n (by rw [List.take_zero, List.map_nil, List.append_nil]; exact hSP) (by ktr_unf) (by ktr_unf) (by ktr_unf) (by ktr_unf) (by ktr_unf) (by ktr_unf),
                fun I o i u m' nw s₂ Q' hP hi hJ S _ h => asg_name rfl rfl S h, ?_, ?_⟩
              · rintro I o i u m4 nw s₂ ⟨sg, tu, hsg, rfl⟩ hi ⟨ts3, n3, hSP3, hm1, hm2, hm3, hm4, hm5, hm6⟩ ⟨F29, N29, G29, ho29, D29⟩
                generalize hTR : TurnPost _ _ _ _ _ _ = TR; revert TR; refine wrap ?_; intro TR hTR
                (try clear F25); (try clear N25); (try clear F26); (try clear N26); (try clear F27); (try clear N27); (try clear F28); (try clear N28); (try clear D25)
                dsimp only [List.cons_append, List.nil_append] at N29 D29
                have hsg2 : (L z).reverse[i]? = some sg := by have h := hsg; rw [← Array.getElem?_toList] at h; rw [← L_rev z]; exact h
                have hsgm := hzs sg (List.mem_reverse.mp (List.mem_of_getElem? hsg2))
                have hts3 := hSP3.len
                rw [List.length_append, List.length_reverse, List.length_map, List.length_take, List.length_reverse, L_len, List.length_cons] at hts3
                have hil4 : ts3.length ≤ 89 := by rw [List.length_cons] at htl hwg; ktr_room
                obtain ⟨j, hj, hix, hno⟩ : ∃ j, 254 + j = lsym ca sg ∧ (([(a, ta), (b, tb)] : List (Str × Tok)).map (·.1))[j]? = some ⟨#[sg]⟩ ∧ ∀ m < j, (([(a, ta), (b, tb)] : List (Str × Tok)).map (·.1))[m]? ≠ some ⟨#[sg]⟩ := by
                  unfold lsym
                  by_cases e : sg = ca
                  · rw [if_pos e]
                    exact ⟨0, rfl, congrArg some (str_ext (by show L a = [sg]; rw [ha, e])), fun m hm => absurd hm (Nat.not_lt_zero _)⟩
                  · rw [if_neg e]
                    refine ⟨1, rfl, congrArg some (str_ext (by show L b = [sg]; rw [hb, hsgm.resolve_left e])), fun m hm h => ?_⟩
                    obtain rfl : m = 0 := by ktr_room
                    have h2 : a = ⟨#[sg]⟩ := Option.some.inj h
                    rw [h2] at ha
                    exact e (List.cons.inj (show [sg] = [ca] from ha)).1
                have hj1 : j ≤ 1 := by unfold lsym at hj; split at hj <;> ktr_room
                have hGate : Gate "call builtin:list.index" := ⟨⟩
                k_steps
                (repeat (with_reducible rename Gate _ => hG; clear hG))
                refine Stop.go ?_
                (rename Fr _ _ _ _ => F30)
                (rename News _ _ _ _ => N30)
                refine index_txts (zs := [(a, ta), (b, tb)]) (j := j) (N30 _ (.tail _ (.tail _ (.tail _ (.tail _ (.head _)))))).1 (by simp) hix hno ?_
                have hGate : Gate "call ref" := ⟨⟩
                k_steps
                (repeat (with_reducible rename Gate _ => hG; clear hG))
                refine Stop.go ?_
                (rename Fr _ _ _ _ => F31)
                (rename News _ _ _ _ => N31)
                show wpAny _ _ (call (.ref 45) [.ref P, _, _]) _ _ _
                refine Does.at (push_spec w ⟨P, dx, 2, tk0, tz0⟩ ts3 n3 _ _ _ _ (by ktr_room)) B F31 X N31 T G29 D29 rfl ((I, o) :: ((Wl, listOf (strValues zs).toArray zn) :: (Ll, listOf [Value.str a ta, Value.str b tb].toArray ln) :: rz)) (by exact pm_idx [[_], [_], [_], [_], [_], _, _] [1, 2, 5, 0, 3, 4, 6] (by kernel_rfl)) (by first | exact room1 (by assumption) (by decide) | exact room2 (by assumption) (by decide) | exact room3 (by assumption) (by decide) | ktr_room) (by first | exact room1 (by assumption) (by decide) | exact room2 (by assumption) (by decide) | exact room3 (by assumption) (by decide) | ktr_room) ?_
                rintro v s32 nw F32 N32 G32 ho32 D32 ⟨rfl, Tn, n', rfl⟩
                k_steps
                (rename Fr _ _ _ _ => F33)
                (rename News _ _ _ _ => N33)
                obtain ⟨ts4, hSP4, N34, D34⟩ : ∃ ts4, SP (((fl, d) :: r).reverse ++ ((L z).reverse.take (i + 1)).map fun s => (false, lsym ca s)) ts4 ∧ News g L' s32.heap (pile w 101 ⟨P, dx, 2, tk0, tz0⟩ ts4 n' ++ ((I, o) :: ((Wl, listOf (strValues zs).toArray zn) :: (Ll, listOf [Value.str a ta, Value.str b tb].toArray ln) :: rz))) ∧ DN (pile w 101 ⟨P, dx, 2, tk0, tz0⟩ ts4 n' ++ ((I, o) :: ((Wl, listOf (strValues zs).toArray zn) :: (Ll, listOf [Value.str a ta, Value.str b tb].toArray ln) :: rz))) := by
                  refine ⟨_, ?_, N33, D32⟩
                  rw [List.take_add_one, hsg2, List.map_append, ← List.append_assoc]
                  refine hSP3.push (x := (false, lsym ca sg)) (by show L (Str.ofString "") = []; decide +kernel) ?_
                  show _ = Str.ofString (toString ((lsym ca sg : Nat) : Int))
                  rw [← hj]
                  rfl
                have pm : (pile w 101 ⟨P, dx, 2, tk0, tz0⟩ ts4 n' ++ ((I, o) :: ((Wl, listOf (strValues zs).toArray zn) :: (Ll, listOf [Value.str a ta, Value.str b tb].toArray ln) :: rz))).Perm ((I, o) :: ([] ++ ((P, accO 101 dx (refs ts4).toArray n') :: (dx, sizeD w 2 tk0 tz0) :: (Wl, listOf (strValues zs).toArray zn) :: (Ll, listOf [Value.str a ta, Value.str b tb].toArray ln) :: (ts4.map Pc.ent ++ rz)))) := (by exact pm_idx [[_], [_], _, [_], [_], [_], _] [3, 0, 1, 4, 5, 2, 6] (by kernel_rfl))
                subst hTR
                exact ⟨_, _, ⟨F33, News.perm N34 pm, G32, ho32.trans ho29, DN.perm D34 pm⟩, .mk ts4 n' hSP4 (by ktr_unf) (by ktr_unf) (by ktr_unf) (by ktr_unf) (by ktr_unf) (by ktr_unf)⟩
              · rintro m4 nw s₂ ⟨ts3, n3, hSP3, hm1, hm2, hm3, hm4, hm5, hm6⟩ ⟨F29, N29, G29, ho29, D29⟩
                dsimp only [List.nil_append] at N29 D29
                rw [List.take_of_length_le (by rw [← L_rev z]; exact Nat.le_refl _)] at hSP3
                k_steps
                obtain ⟨f3, c3, st3, he⟩ : ∃ f3 c3 st3, ((L z).map (lsym ca)).map (fun x => (false, x)) ++ (fl, d) :: r = ((f3, c3) :: st3 : List (Bool × Nat)) := by
                  cases L z with
                  | nil => exact ⟨_, _, _, rfl⟩
                  | cons _ _ => exact ⟨_, _, _, rfl⟩
                have hJ2 : SpJ (tx zs) (fun i => if i = 0 then ca else cb) (xs.map (·.1)) (L y ++ []) nb (((L z).map (lsym ca)).map (fun x => (false, x)) ++ (fl, d) :: r) := hJ.turn hc0 _ [] (lsym_two ca _) (by
                  rw [stext_lsym _ hzs]; unfold sym1; rw [if_neg hc0, if_neg hlow, hzw]; rfl)
                rw [he, List.append_nil, ← hy2] at hJ2
                have hSP4 : SP ((f3, c3) :: st3).reverse ts3 := by
                  rw [← he, List.reverse_append, ← List.map_reverse, ← List.map_reverse, List.map_map]
                  exact hSP3
                have hw3 : wgt (c3 :: st3.map fun x => x.2) < wgt (c :: d :: r.map fun x => x.2) := by
                  have e : wgt ((((L z).map (lsym ca)).map (fun x => (false, x)) ++ (fl, d) :: r).map fun x : Bool × Nat => x.2) = wgt (c3 :: st3.map fun x => x.2) := by rw [he]; rfl
                  have e2 : wgt ((((L z).map (lsym ca)).map (fun x => (false, x))).map fun x : Bool × Nat => x.2) = (L z).length := by
                    rw [List.map_map, show ((fun x : Bool × Nat => x.2) ∘ fun x => (false, x)) = id from rfl, List.map_id, wgt_small _ (lsym_two ca _), List.length_map]
                  rw [← e, List.map_append, wgt_app, e2, wgt_cons c, if_neg hlow, L_len]
                  show z.length + wgt (d :: r.map fun x => x.2) < 6 + wgt (d :: r.map fun x => x.2)
                  ktr_room
                subst hCV
                exact Cut.next ⟨m4, y2, ty2, ts3, n3, c3, f3, st3, ⟨F29, N29, G29, ho29.trans (ho25.trans ho22), D29⟩, hJ2, hSP4, hw3, hm1, hm2, hm3, hm4, hm5, hm6⟩
          · rintro s' ⟨m3, y3, ty3, ts3, n3, c3, f3, st3, ⟨F24, N24, G24, ho24, D24⟩, hJ3, hSP3, hw3, hm1, hm2, hm3, hm4, hm5, hm6⟩
            (try clear F22); (try clear N22); (try clear F23); (try clear N23); (try clear D22)
            rw [List.reverse_cons] at hSP3
            have hts3 := hSP3.len
            obtain ⟨ini3, p3, rfl, hini3, hp3f, hp3g⟩ := hSP3.pop
            have hil3 : ini3.length ≤ 90 := by
              have h1 := wgt_ge (c3 :: st3.map fun x => x.2)
              have h2 : ini3.length = st3.length := by have := hini3.len; rwa [List.length_reverse] at this
              rw [List.length_cons, List.length_map] at h1
              have h3 : wgt (c :: d :: r.map fun x => x.2) ≤ 85 := hμ0
              have h4 : wgt (c3 :: st3.map fun x => x.2) < wgt (c :: d :: r.map fun x => x.2) := hw3
              ktr_room
            have hpfl : p3.f.length ≤ 1 := by rw [← L_len, hp3f]; split <;> simp
            have hGate : Gate "call ref" := ⟨⟩
            k_steps
            (repeat (with_reducible rename Gate _ => hG; clear hG))
            refine Stop.go ?_
            (rename Fr _ _ _ _ => F25)
            (rename News _ _ _ _ => N25)
            show wpAny _ _ (call (.ref 61) [.ref P]) _ _ _
            refine Does.at (pop_some w ⟨P, dx, 2, tk0, tz0⟩ ini3 p3 n3 (by ktr_room)) B F25 X N25 T G24 D24 rfl ((Wl, listOf (strValues zs).toArray zn) :: (Ll, listOf [Value.str a ta, Value.str b tb].toArray ln) :: rz) (by exact pm_idx [[_], [_], [_], [_], _, _] [0, 1, 4, 2, 3, 5] (by kernel_rfl)) (by first | exact room1 (by assumption) (by decide) | exact room2 (by assumption) (by decide) | exact room3 (by assumption) (by decide) | ktr_room) (by first | exact room1 (by assumption) (by decide) | exact room2 (by assumption) (by decide) | exact room3 (by assumption) (by decide) | ktr_room) ?_
            rintro v s26 nw F26 N26 G26 ho26 D26 ⟨rfl, n4, rfl⟩
            refine tup_pair rfl rfl rfl rfl F26 N26 (.head _) rfl ⟨_, rfl⟩ ?_
            intro h27 t27 F27 N27
            have hsub : ∃ r, (p3.ent :: pile w 101 ⟨P, dx, 2, tk0, tz0⟩ ini3 n4 ++ ((Wl, listOf (strValues zs).toArray zn) :: (Ll, listOf [Value.str a ta, Value.str b tb].toArray ln) :: rz)).Perm (r ++ ((P, accO 101 dx (refs ini3).toArray n4) :: (dx, sizeD w 2 tk0 tz0) :: (Wl, listOf (strValues zs).toArray zn) :: (Ll, listOf [Value.str a ta, Value.str b tb].toArray ln) :: (ini3.map Pc.ent ++ rz))) := ⟨[p3.ent], (by exact pm_idx [[_], [_], [_], _, [_], [_], _] [0, 1, 2, 4, 5, 3, 6] (by kernel_rfl))⟩
            replace N27 := sub_nw N27 hsub
            replace D26 := sub_dn D26 hsub
            k_steps
            (rename Fr _ _ _ _ => F28)
            (rename News _ _ _ _ => N28)
            subst hTP
            refine ⟨_, _, ⟨F28, N28, G26, ho26.trans ho24, D26⟩, _, hw3, .mk c3 st3 ini3 n4 y3 ty3 (bl ++ p3.f) _ p3.tg (nb + (if f3 then 1 else 0)) hJ3.took hini3 ?_ (Nat.le_trans (Nat.le_of_lt hw3) hμ0) (by ktr_unf) (by ktr_unf) (by ktr_unf) (by ktr_unf) (by ktr_unf) (by ktr_unf) (by rw [← hp3g]; ktr_unf)⟩
            rw [L_app, hbl, hp3f]
            cases f3 <;> simp [List.replicate_succ']
end Mine
end
section
open PySem PySem.W PyProof.Rows
open Mine
-- a cell of the frame
local macro_rules | `(tactic| walk_at "eval Name") => `(tactic| (k_here; (with_reducible show wpAny _ _ (eval (Expr.Name _ _) (envOfC _ _ _ _ _)) _ _ _); k_dflt (refine nm_cell (by rfl) (by rfl) (by rfl) (by decide) (by k_asm) (by k_mem) (by assumption) ?_; k_whole)))
-- a name of a frame with cells
local macro_rules | `(tactic| walk_at "eval Name") => `(tactic| (k_here; (with_reducible show wpAny _ _ (eval (Expr.Name _ _) (envOfC _ _ _ _ _)) _ _ _); k_dflt (refine nm_C (by rfl) (by rfl) (by decide) (by k_asm) (by ktr_units) ?_; k_whole)))
section
open PySem PySem.W PyProof.Rows
set_option maxRecDepth 100000
set_option maxHeartbeats 2000000
namespace Mine
theorem lclsR (w : World) : LCls (Mine.frag.heap_1 w.params) 101 := ⟨by kernel_rfl, by kernel_rfl, by kernel_rfl, by kernel_rfl⟩
noncomputable abbrev rflat (w : World) (P dx : Addr) (tk : Tok) (ts : List Pc) (n : Nat) (Rl : Addr) (vs : List Value) (rn : Nat) (c : Addr) (oW : Obj) (Wl : Addr) (zs : List (Str × Tok)) (zn : Nat) (pl pl' : Array Value) (R : Led) : Led := (P, accO 101 dx (refs ts).toArray n) :: (dx, sizeD w 0 tk 210) :: (Rl, listOf vs.toArray rn) :: (c, oW) :: (Wl, listOf (strValues zs).toArray zn) :: (63, tabO pl) :: (70, tabO pl') :: (ts.map Pc.ent ++ R)
/-- what is given back -/
inductive RdPost (Wl : Addr) (zs : List (Str × Tok)) (zn : Nat) (row : List Nat) : Value → Led → Prop
  | mk (D Ra : Addr) (n : Nat) (pl pl' : Array Value) (xs : List (Nat × Tok)) : TriplesOk pl.toList → TriplesOk pl'.toList → xs.map (·.1) = row → RdPost Wl zs zn row (.ref D) [(D, listOf [Value.ref Ra].toArray n), (Ra, LCg.lst (ivals xs)), (Wl, listOf (strValues zs).toArray zn), (63, tabO pl), (70, tabO pl')]
/-- between the turns of the while -/
inductive RdJ (w : World) (P dx : Addr) (tk0 : Tok) (Rl c : Addr) (oW : Obj) (Wl : Addr) (zs : List (Str × Tok)) (zn : Nat) (rest : Led) (text : Str) (t : Tok) (row : List Nat) (m' : Str → Option Value) : Nat → Led → Prop
  | mk (ts : List Pc) (n : Nat) (rp : List Nat) (k : Nat) (tk' : Tok) (vs : List Value) (rn : Nat) (pl pl' : Array Value) (rw : Led) (u : List Nat) : PW (tx zs) rp ts → L text = spell (tx zs) rp.reverse ++ u → k ≤ zs.length → (∀ j ∈ rp, j < zs.length) → Rst (found row rp k) row vs rw → TriplesOk pl.toList → TriplesOk pl'.toList → m' "pile" = some (.ref P) → m' "rows" = some (.ref Rl) → m' "k" = some (.int (k : Int) tk') → m' "text" = some (.str text t) →
    RdJ w P dx tk0 Rl c oW Wl zs zn rest text t row m' (remR zs.length (text.length + 1) rp k) (rflat w P dx tk0 ts n Rl vs rn c oW Wl zs zn pl pl' (rw ++ rest))
/-- between the pieces laid back -/
inductive BkJ (w : World) (P dx : Addr) (tk0 : Tok) (Rl : Addr) (text : Str) (t kt : Tok) (tail : Led) (ts2 : List Pc) (i : Nat) (m2 : Str → Option Value) : Led → Prop
  | mk (ts3 : List Pc) (n3 : Nat) : ts3.map (fun p => (L p.f, L p.g)) = (ts2.map (fun p => (L p.f, L p.g))).take i → m2 "pile" = some (.ref P) → m2 "rows" = some (.ref Rl) → m2 "k" = some (.int (0 : Int) kt) → m2 "text" = some (.str text t) → BkJ w P dx tk0 Rl text t kt tail ts2 i m2 (pile w 101 ⟨P, dx, 0, tk0, 210⟩ ts3 n3 ++ tail)
theorem readings_spec (w : World) (text : Str) (t : Tok) (Wl : Addr) (zs : List (Str × Tok)) (zn : Nat) (row : List Nat) (pl pl' : Array Value) (hp : TriplesOk pl.toList) (hp' : TriplesOk pl'.toList) (hw : text.length ≤ 60) (hl : zs.length ≤ 3) (hd : ∀ z ∈ zs, Fine z.1 ∧ z.1.length ≤ 4 ∧ L z.1 ≠ []) (hn : (tx zs).Nodup)
  (hr0 : row ≠ []) (hrow : Row (tx zs) row) (hsp : spell (tx zs) row = L text) (huniq : ∀ q, Row (tx zs) q → spell (tx zs) q = L text → q = row) :
  Does PySem.Challenge.rw_wr0021_02.row.prog w (Mine.frag.heap_1 w.params) topProg (.ref 194) 60 600 [.str text t, .ref Wl] [(Wl, listOf (strValues zs).toArray zn), (63, tabO pl), (70, tabO pl')] (RdPost Wl zs zn row) := by
  have hC := lclsR w
  have hWn : ∀ k < (tx zs).length, wd (tx zs) k ≠ [] ∧ (wd (tx zs) k).length ≤ 4 := fun k hk => by
    rw [tx_len] at hk
    rw [wd_tx (List.getElem?_eq_getElem hk)]
    have := hd _ (List.getElem_mem hk)
    rw [L_len]
    exact ⟨this.2.2, this.2.1⟩
  w_top off
  k_fill
  k_dflt (refine' does_ofC ?k1 ?k2 (fun _ kX => ?k3) ?k4 ?k5 (by decide) (by decide) ?_ ?k6 ?k7 ?k8; (case k1 => k_is); (case k2 => k_is); (case k3 => first | exact BindsTo.of_eq rfl | exact binds_K kX rfl (by k_is) rfl rfl rfl); (case k4 => exact rfl); (case k5 => decide); (case k6 => exact rfl); (case k7 => exact rfl); (case k8 => exact rfl)); intro loose mean mg mb dp un gd outer A₀ base g L' s₁ cells rest B F X N Y T G D hlt hdp hun; (try dsimp only); (try dsimp only [List.nil_append, List.cons_append] at N D hlt); have hL := F.ns.lt; (try (refine letA ?_; intro kA)); refine open_Q ?_; intro QB hQB
  obtain ⟨oW, rfl, hoW⟩ := CellsAre.one Y
  replace hoW : oW.data = .cell (some (.ref Wl)) := hoW
  replace F : Fr g L' s₁.heap (fun y => if y = "text" then some (.str text t) else none) := F
  clear Y
  dsimp only [List.nil_append, List.cons_append] at N
  have Dc := DN.cons_of (a := L' + 1) (o := oW) D fun q hq => Nat.lt_succ_of_lt (allLt_all hlt q hq)
  have hGate : Gate "call ref" := ⟨⟩
  k_steps
  (repeat (with_reducible rename Gate _ => hG; clear hG))
  refine Stop.go ?_
  refine Does.at (make_spec0 w) B (by assumption) X (by assumption) T (by assumption) Dc rfl _ (List.Perm.refl _) (by first | exact room1 (by assumption) (by decide) | exact room2 (by assumption) (by decide) | exact room3 (by assumption) (by decide) | ktr_room) (by first | exact room1 (by assumption) (by decide) | exact room2 (by assumption) (by decide) | exact room3 (by assumption) (by decide) | ktr_room) ?_
  rintro v s2 nw F2 N2 G2 ho2 D2 ⟨P, dx, tk0, n0, rfl, rfl⟩
  have hGate : Gate "exec While" := ⟨⟩
  k_steps
  (repeat (with_reducible rename Gate _ => hG; clear hG))
  refine Stop.go ?_
  (rename Fr _ _ _ _ => F3)
  (rename News _ _ _ ((_, listOf _ 0) :: _) => N3)
  (rename ∀ p : Addr × Obj, p ∈ _ → p.1 < _ => l3)
  rename_i Rl _ _ _ _ _ _
  have D3 := DN.cons_of (o := listOf #[] 0) D2 l3
  have pm : ((Rl, listOf #[] 0) :: (pile w 101 ⟨P, dx, 0, tk0, 210⟩ [] n0 ++ (L' + 1, oW) :: (Wl, listOf (strValues zs).toArray zn) :: (63, tabO pl) :: (70, tabO pl') :: rest)).Perm (rflat w P dx tk0 [] n0 Rl [] 0 (L' + 1) oW Wl zs zn pl pl' ([] ++ rest)) := (perm_of_cnt fun q => by simp only [pile, cnt_cons, cnt_app, cnt_nil, List.map_append, List.map_cons, List.map_nil, List.append_assoc, List.cons_append, List.nil_append, Nat.add_zero, Nat.zero_add] <;> first | ac_rfl | ktr_room)
  refine While_obl (h₀ := g) (L := L') (os := s₁.os) (fun μ m' nw => RdJ w P dx tk0 Rl (L' + 1) oW Wl zs zn rest text t row m' μ nw) _ ⟨F3, News.perm N3 pm, G2, ho2, DN.perm D3 pm⟩
    (.mk [] n0 [] 0 _ [] 0 pl pl' [] (L text) rfl rfl (Nat.zero_le _) (by simp) ?_ hp hp' (by ktr_unf) (by ktr_unf) (by ktr_unf) (by ktr_unf)) ?_
  · show Rst (decide (row.getD 0 0 < 0)) row [] []
    rw [decide_eq_false (by ktr_room)]
    exact ⟨rfl, rfl⟩
  clear pm D3 l3 N3 F3 D2 Dc hlt
  (try clear N2); (try clear F2); (try clear N); (try clear F); (try clear hp); (try clear hp')
  rintro μ m' nw s₄ ⟨ts, n, rp, k, tk', vs, rn, pl, pl', rw, u, hPW, hu, hk, hrp, hRst, hp, hp', hm1, hm2, hm3, hm4⟩ ⟨F5, N5, G5, ho5, D5⟩
  generalize hTQ : TurnPost _ _ _ _ _ _ = TQ; revert TQ; refine wrap ?_; intro TQ hTQ
  dsimp only [rflat] at N5 D5
  have hrl : rp.length ≤ text.length := by
    have h1 := spell_len (fun k hk => (hWn k hk).1) rp.reverse fun j hj => by rw [tx_len]; exact hrp j (List.mem_reverse.mp hj)
    have h2 := congrArg List.length hu
    rw [List.length_append, L_len] at h2
    rw [List.length_reverse] at h1
    ktr_room
  have htl := hPW.len
  have hzl : (strValues zs).length = zs.length := strV_len zs
  have htsz := hPW.sz (fun j hj => by rw [tx_len]; exact hrp j hj) fun k hk => (hWn k hk).2
  have hGate : Gate "call ref" := ⟨⟩
  have hGate : Gate "subscriptTail" := ⟨⟩
  k_steps
  · exfalso
    ktr_room
  · (rename (_ : Int) < _ => hlt1)
    have hkl : k < zs.length := by ktr_room
    (repeat (with_reducible rename Gate _ => hG; clear hG))
    (repeat (with_reducible rename Gate _ => hG; clear hG))
    refine Stop.go ?_
    (rename Fr _ _ _ _ => F6)
    (rename News _ _ _ _ => N6)
    obtain ⟨⟨z, tz⟩, hz⟩ : ∃ z, zs[k]? = some z := ⟨_, List.getElem?_eq_getElem hkl⟩
    have hzm := List.mem_of_getElem? hz
    obtain ⟨hzf, hz4, hz0⟩ := hd _ hzm
    have hzw : wd (tx zs) k = L z := wd_tx hz
    have hsv : (strValues zs)[((k : Nat) : Int).toNat]? = some (.str z tz) := by rw [Int.toNat_natCast]; unfold strValues; rw [List.getElem?_map, hz]; rfl
    replace hz4 : z.length ≤ 4 := hz4
    refine item_at (vs := strValues zs) (v := .str z tz) (News.isList N6 (.tail _ (.tail _ (.tail _ (.tail _ (.head _)))))) (by ktr_room) (by ktr_room) hsv ?_ (by with_unfolding_all rfl)
    have hGate : Gate "call builtin:len" := ⟨⟩
    k_steps
    (repeat (with_reducible rename Gate _ => hG; clear hG))
    refine Stop.go ?_
    (rename Fr _ _ _ _ => F7)
    (rename News _ _ _ _ => N7)
    have hsl : (spell (tx zs) rp.reverse).length ≤ 60 := by
      have h2 := congrArg List.length hu
      rw [List.length_append, L_len] at h2
      ktr_room
    have htot : total ts = (spell (tx zs) rp.reverse).length := hPW.total
    refine Does.len (len_spec w ⟨P, dx, 0, tk0, 210⟩ ts n pl hp ⟨by show (0 : Int) ≤ 0; decide, by show (0 : Int) ≤ 10000; decide⟩ (by ktr_room) (fun p hp => ⟨Nat.le_trans (htsz p hp).1 (by decide), Nat.le_trans (htsz p hp).2 (by decide)⟩)) (fun v nw h => ?hpost) (acc_inst N7 (.head _) (.tail _ (.head _))) (by k_is) (by k_is) B F7 X N7 T G5 D5 rfl ((Rl, listOf vs.toArray rn) :: (L' + 1, oW) :: (Wl, listOf (strValues zs).toArray zn) :: (70, tabO pl') :: (rw ++ rest)) (by exact pm_idx [[_], [_], [_], [_], [_], [_], [_], _, _, _] [5, 0, 1, 7, 2, 3, 4, 6, 8, 9] (by kernel_rfl)) (by first | exact room1 (by assumption) (by decide) | exact room2 (by assumption) (by decide) | exact room3 (by assumption) (by decide) | ktr_room) (by first | exact room1 (by assumption) (by decide) | exact room2 (by assumption) (by decide) | exact room3 (by assumption) (by decide) | ktr_room) ?_
    case hpost => obtain ⟨⟨t, rfl⟩, _⟩ := h; exact ⟨_, t, rfl, by show (0 : Int) ≤ 0 + _; ktr_room, by show (0 : Int) + _ < _; ktr_room⟩
    rintro nn t8 t8' s8 nw F8 N8 G8 ho8 D8 ⟨⟨_, hnn⟩, pl2, hp2, rfl⟩
    obtain rfl : nn = (((spell (tx zs) rp.reverse).length : Nat) : Int) := by
      injection hnn with hnn
      rw [hnn, htot]
      show (0 : Int) + _ = _
      ktr_room
    clear hnn
    have pm : ((63, tabO pl2) :: pile w 101 ⟨P, dx, 0, tk0, 210⟩ ts n ++ ((Rl, listOf vs.toArray rn) :: (L' + 1, oW) :: (Wl, listOf (strValues zs).toArray zn) :: (70, tabO pl') :: (rw ++ rest))).Perm (rflat w P dx tk0 ts n Rl vs rn (L' + 1) oW Wl zs zn pl2 pl' (rw ++ rest)) := (by exact pm_idx [[_], [_], [_], _, [_], [_], [_], [_], _, _] [1, 2, 4, 5, 6, 0, 7, 3, 8, 9] (by kernel_rfl))
    have N9 := News.perm N8 pm
    have D9 := DN.perm D8 pm
    clear N8 D8 pm N7
    dsimp only [rflat] at N9 D9
    have hLu : L (Txt.slice text (some (((spell (tx zs) rp.reverse).length : Nat) : Int)) none) = u := by rw [L_drop, hu, List.drop_left]
    have hGate : Gate "call ref" := ⟨⟩
    k_steps
    (repeat (with_reducible rename Gate _ => hG; clear hG))
    refine Stop.go ?_
    (rename Fr _ _ _ _ => F10)
    (rename News _ _ _ _ => N10)
    refine Does.at2 (ell_spec w _ _ _ _ (le_app hz4 len_dots (by decide)) (Nat.le_trans (le_slice hw) (by decide))) B F10 X N10 T G8 D9 rfl (by first | exact room1 (by assumption) (by decide) | exact room2 (by assumption) (by decide) | exact room3 (by assumption) (by decide) | ktr_room) (by first | exact room1 (by assumption) (by decide) | exact room2 (by assumption) (by decide) | exact room3 (by assumption) (by decide) | ktr_room) ?_
    intro s11 F11 N11 G11 ho11 D11
    rw [ell_pre hzf.nodot, hLu]
    (try dsimp only [List.nil_append] at N11 D11)
    clear N10 F10 D9
    have hGate : Gate "subscriptTail" := ⟨⟩
    k_steps
    (all_goals (try k_data))
    · (rename List.isPrefixOf _ _ = true => hpre)
      (repeat (with_reducible rename Gate _ => hG; clear hG))
      refine Stop.go ?_
      (rename Fr _ _ _ _ => F12)
      (rename News _ _ _ _ => N12)
      refine item_at (vs := strValues zs) (v := .str z tz) (News.isList N12 (.tail _ (.tail _ (.tail _ (.tail _ (.head _)))))) (by ktr_room) (by ktr_room) hsv ?_ (by with_unfolding_all rfl)
      obtain ⟨u2, hu2⟩ := List.isPrefixOf_iff_prefix.mp hpre
      replace hu2 : L z ++ u2 = u := hu2
      have hGate : Gate "call ref" := ⟨⟩
      k_steps
      (repeat (with_reducible rename Gate _ => hG; clear hG))
      refine Stop.go ?_
      (rename Fr _ _ _ _ => F13)
      (rename News _ _ _ _ => N13)
      show wpAny _ _ (call (.ref 45) [.ref P, _, _]) _ _ _
      refine Does.at (push_spec w ⟨P, dx, 0, tk0, 210⟩ ts n _ _ _ _ (by ktr_room)) B F13 X N13 T G11 D11 rfl ((Rl, listOf vs.toArray rn) :: (L' + 1, oW) :: (Wl, listOf (strValues zs).toArray zn) :: (63, tabO pl2) :: (70, tabO pl') :: (rw ++ rest)) (by exact pm_idx [[_], [_], [_], [_], [_], [_], [_], _, _, _] [0, 1, 7, 2, 3, 4, 5, 6, 8, 9] (by kernel_rfl)) (by first | exact room1 (by assumption) (by decide) | exact room2 (by assumption) (by decide) | exact room3 (by assumption) (by decide) | ktr_room) (by first | exact room1 (by assumption) (by decide) | exact room2 (by assumption) (by decide) | exact room3 (by assumption) (by decide) | ktr_room) ?_
      rintro v s14 nw F14 N14 G14 ho14 D14 ⟨rfl, Tn, n', rfl⟩
      obtain ⟨ts2, n2, hPW2, N15, D15⟩ : ∃ ts2 n2, PW (tx zs) (k :: rp) ts2 ∧ News g L' s14.heap (pile w 101 ⟨P, dx, 0, tk0, 210⟩ ts2 n2 ++ ((Rl, listOf vs.toArray rn) :: (L' + 1, oW) :: (Wl, listOf (strValues zs).toArray zn) :: (63, tabO pl2) :: (70, tabO pl') :: (rw ++ rest))) ∧ DN (pile w 101 ⟨P, dx, 0, tk0, 210⟩ ts2 n2 ++ ((Rl, listOf vs.toArray rn) :: (L' + 1, oW) :: (Wl, listOf (strValues zs).toArray zn) :: (63, tabO pl2) :: (70, tabO pl') :: (rw ++ rest))) := ⟨_, _, hPW.push (f := Str.ofString "") (by decide +kernel) hzw.symm, N14, D14⟩
      clear N14 D14 F13 N13
      have hrp2 : ∀ j ∈ k :: rp, j < zs.length := fun j hj => by
        rcases List.mem_cons.mp hj with rfl | h
        · exact hkl
        · exact hrp j h
      have hu3 : L text = spell (tx zs) (k :: rp).reverse ++ u2 := by rw [hu, ← hu2, List.reverse_cons, spell_app, spell_one, hzw, List.append_assoc]
      have htl2 := hPW2.len
      rw [List.length_cons] at htl2
      have htsz2 := hPW2.sz (fun j hj => by rw [tx_len]; exact hrp2 j hj) fun k hk => (hWn k hk).2
      have hsh := hPW2.shown
      have pm : (pile w 101 ⟨P, dx, 0, tk0, 210⟩ ts2 n2 ++ ((Rl, listOf vs.toArray rn) :: (L' + 1, oW) :: (Wl, listOf (strValues zs).toArray zn) :: (63, tabO pl2) :: (70, tabO pl') :: (rw ++ rest))).Perm (rflat w P dx tk0 ts2 n2 Rl vs rn (L' + 1) oW Wl zs zn pl2 pl' (rw ++ rest)) := (by exact pm_idx [[_], [_], _, [_], [_], [_], [_], [_], _, _] [0, 1, 3, 4, 5, 6, 7, 2, 8, 9] (by kernel_rfl))
      replace N15 := News.perm N15 pm
      replace D15 := DN.perm D15 pm
      clear pm
      dsimp only [rflat] at N15 D15
      have hGate : Gate "call type:str" := ⟨⟩
      k_steps
      (repeat (with_reducible rename Gate _ => hG; clear hG))
      refine Stop.go ?_
      (rename Fr _ _ _ _ => F16)
      (rename News _ _ _ _ => N16)
      refine Does.str (str_spec w ⟨P, dx, 0, tk0, 210⟩ ts2 n2 pl' hp' (by ktr_room) (fun p hp => ⟨Nat.le_trans (htsz2 p hp).1 (by decide), Nat.le_trans (htsz2 p hp).2 (by decide)⟩)) (fun v nw h => ⟨_, _, h.1.choose_spec⟩) (acc_inst N16 (.head _) (.tail _ (.head _))) (by k_is) (by k_is) B F16 X N16 T G14 D15 rfl ((Rl, listOf vs.toArray rn) :: (L' + 1, oW) :: (Wl, listOf (strValues zs).toArray zn) :: (63, tabO pl2) :: (rw ++ rest)) (by exact pm_idx [[_], [_], [_], [_], [_], [_], [_], _, _, _] [6, 0, 1, 7, 2, 3, 4, 5, 8, 9] (by kernel_rfl)) (by first | exact room1 (by assumption) (by decide) | exact room2 (by assumption) (by decide) | exact room3 (by assumption) (by decide) | ktr_room) (by first | exact room1 (by assumption) (by decide) | exact room2 (by assumption) (by decide) | exact room3 (by assumption) (by decide) | ktr_room) ?_
      rintro y ty s17 nw F17 N17 G17 ho17 D17 ⟨⟨_, hy⟩, pl3, hp3, rfl⟩
      cases hy
      have pm : ((70, tabO pl3) :: pile w 101 ⟨P, dx, 0, tk0, 210⟩ ts2 n2 ++ ((Rl, listOf vs.toArray rn) :: (L' + 1, oW) :: (Wl, listOf (strValues zs).toArray zn) :: (63, tabO pl2) :: (rw ++ rest))).Perm (rflat w P dx tk0 ts2 n2 Rl vs rn (L' + 1) oW Wl zs zn pl2 pl3 (rw ++ rest)) := (by exact pm_idx [[_], [_], [_], _, [_], [_], [_], [_], _, _] [1, 2, 4, 5, 6, 7, 0, 3, 8, 9] (by kernel_rfl))
      replace N17 := News.perm N17 pm
      replace D17 := DN.perm D17 pm
      clear pm N16 F16 D15
      dsimp only [rflat] at N17 D17
      have hGate : Gate "call ref" := ⟨⟩
      k_steps
      · (rename (_ == _) = true => heq)
        have heq : shown ts2 = text := by simpa using heq
        have hrowe : (k :: rp).reverse = row := huniq _ (fun j hj => by rw [tx_len]; exact hrp2 j (List.mem_reverse.mp hj)) (by rw [← hsh, heq])
        have hfn := found_new hrowe
        rw [hfn] at hRst
        obtain ⟨rfl, rfl⟩ : vs = [] ∧ rw = [] := hRst
        (repeat (with_reducible rename Gate _ => hG; clear hG))
        refine Stop.go ?_
        (rename Fr _ _ _ _ => F18)
        (rename News _ _ _ _ => N18)
        show wpAny _ _ (call (.ref 53) [.ref P, _]) _ _ _
        refine Does.at (popf_spec w ⟨P, dx, 0, tk0, 210⟩ [] ts2 n2 0 _ rfl (by show ts2.length ≤ 900; ktr_room)) B F18 X N18 T G17 D17 rfl ((Rl, listOf ([] : List Value).toArray rn) :: (L' + 1, oW) :: (Wl, listOf (strValues zs).toArray zn) :: (63, tabO pl2) :: (70, tabO pl3) :: rest) (perm_of_cnt fun q => by simp only [pile, cnt_cons, cnt_app, cnt_nil, List.map_append, List.map_cons, List.map_nil, List.append_assoc, List.cons_append, List.nil_append, Nat.add_zero, Nat.zero_add] <;> first | ac_rfl | ktr_room) (by first | exact room1 (by assumption) (by decide) | exact room2 (by assumption) (by decide) | exact room3 (by assumption) (by decide) | ktr_room) (by first | exact room1 (by assumption) (by decide) | exact room2 (by assumption) (by decide) | exact room3 (by assumption) (by decide) | ktr_room) ?_
        rintro v s19 nw F19 N19 G19 ho19 D19 ⟨l, n4, rfl, rfl⟩
        have hGate : Gate "eval ListComp" := ⟨⟩
        k_steps
        (repeat (with_reducible rename Gate _ => hG; clear hG))
        refine Stop.go ?_
        (rename Fr _ _ _ _ => F20)
        (rename News _ _ _ _ => N20)
        refine Comp_obl F20 rfl (by with_unfolding_all rfl) (fun I C D => turn_one ..) ?_ (by decide) rfl (by decide) (by intro _; rfl)
        k_steps
        (rename Fr _ _ _ _ => F21)
        (rename News _ _ _ _ => N21)
        have pm : ((l, listOf (refs ts2).toArray 0) :: (ts2.map Pc.ent ++ pile w 101 ⟨P, dx, 0, tk0, 210⟩ [] n4) ++ ((Rl, listOf ([] : List Value).toArray rn) :: (L' + 1, oW) :: (Wl, listOf (strValues zs).toArray zn) :: (63, tabO pl2) :: (70, tabO pl3) :: rest)).Perm (((l, listOf (refs ts2).toArray 0) :: ts2.map Pc.ent) ++ ((Rl, listOf ([] : List Value).toArray rn) :: pile w 101 ⟨P, dx, 0, tk0, 210⟩ [] n4 ++ ((L' + 1, oW) :: (Wl, listOf (strValues zs).toArray zn) :: (63, tabO pl2) :: (70, tabO pl3) :: rest))) := (perm_of_cnt fun q => by simp only [pile, cnt_cons, cnt_app, cnt_nil, List.map_append, List.map_cons, List.map_nil, List.append_assoc, List.cons_append, List.nil_append, Nat.add_zero, Nat.zero_add] <;> first | ac_rfl | ktr_room)
        refine ⟨[l], (l, listOf (refs ts2).toArray 0) :: ts2.map Pc.ent, ts2.length, _, (Rl, listOf ([] : List Value).toArray rn) :: pile w 101 ⟨P, dx, 0, tk0, 210⟩ [] n4 ++ ((L' + 1, oW) :: (Wl, listOf (strValues zs).toArray zn) :: (63, tabO pl2) :: (70, tabO pl3) :: rest), fun i ys nw => ∃ xs : List (Nat × Tok), ys = ivals xs ∧ nw = (Rl, listOf ([] : List Value).toArray rn) :: pile w 101 ⟨P, dx, 0, tk0, 210⟩ [] n4 ++ ((L' + 1, oW) :: (Wl, listOf (strValues zs).toArray zn) :: (63, tabO pl2) :: (70, tabO pl3) :: rest) ∧ xs.map (·.1) = row.take i,
          by rw [← refs_len ts2]; exact src_list ⟨_, (N21 _ (List.mem_append_left _ (.head _))).1, rfl, _, rfl⟩, by simp, ⟨F21, News.perm N21 pm, G19, rfl, DN.perm D19 pm⟩, ⟨[], rfl, rfl, rfl⟩, ?_, ?_⟩
        · rintro I o C D' oC m₂ i u' ys nw s₂ hPi hi ⟨xs, rfl, rfl, hxs⟩ hC2 S hpl
          obtain ⟨q, hq⟩ : ∃ q, ts2[i]? = some q := ⟨_, List.getElem?_eq_getElem hi⟩
          have hu : u' = .ref q.T := by
            have e : (refs ts2)[i]? = some u' := by rw [← List.getElem?_toArray]; exact hPi
            unfold refs at e
            rw [List.getElem?_map, hq] at e
            simpa using e.symm
          subst hu
          obtain ⟨c, hc, hqf, hqg⟩ := hPW2.at hq
          have hcl := hrp2 c (List.mem_reverse.mp (List.mem_of_getElem? hc))
          rw [hrowe] at hc
          obtain ⟨hix, hix2⟩ := idx_of hn hcl hqg
          refine blk_pair rfl rfl rfl rfl hC2 S hpl (List.mem_append_left _ (.tail _ (List.mem_map.mpr ⟨_, List.mem_of_getElem? hq, rfl⟩))) rfl ⟨_, rfl⟩ fun oC' s₃ hC' S' => tests_none ?_
          simp only [if_true]
          refine emit_obl (keep := (l, listOf (refs ts2).toArray 0) :: ts2.map Pc.ent) (ys := ivals xs) ?_
          generalize hEE : EltEnd _ _ _ _ _ _ _ _ _ _ _ _ = EE; revert EE; refine wrap ?_; intro EE hEE
          obtain ⟨F22, N22, G22, ho22, D22⟩ := S'
          k_steps
          refine index_txts (j := c) (N22 _ (List.mem_append_right _ (.tail _ (.tail _ (List.mem_append_right _ (.tail _ (.head _))))))).1 (by ktr_room) hix hix2 ?_
          have hxl : xs.length ≤ i := by
            have := congrArg List.length hxs
            rw [List.length_map, List.length_take] at this
            ktr_room
          subst hEE
          refine ⟨oC', _, _, hC', trivial, ⟨F22, N22, G22, ho22, D22⟩, by rw [sizeLine_eq, ivals_len]; ktr_room, xs ++ [(c, s₃.toks)], by simp [ivals], rfl, ?_⟩
          rw [List.map_append, hxs, List.take_add_one, hc]
          rfl
        · rintro D' ys nw s₄ ⟨xs, rfl, rfl, hxs⟩ S s₅ S5
          obtain ⟨F22, N22, G22, ho22, D22⟩ := S5
          have hrl2 : row.length = ts2.length := by rw [← hrowe, List.length_reverse, List.length_cons]; ktr_room
          rw [List.take_of_length_le (by ktr_room)] at hxs
          have pm2 : ((l, listOf (refs ts2).toArray 0) :: ts2.map Pc.ent ++ (D', LCg.lst (ivals xs)) :: ((Rl, listOf ([] : List Value).toArray rn) :: pile w 101 ⟨P, dx, 0, tk0, 210⟩ [] n4 ++ ((L' + 1, oW) :: (Wl, listOf (strValues zs).toArray zn) :: (63, tabO pl2) :: (70, tabO pl3) :: rest))).Perm ((Rl, listOf ([] : List Value).toArray rn) :: (((l, listOf (refs ts2).toArray 0) :: ts2.map Pc.ent) ++ (pile w 101 ⟨P, dx, 0, tk0, 210⟩ [] n4 ++ ((D', LCg.lst (ivals xs)) :: (L' + 1, oW) :: (Wl, listOf (strValues zs).toArray zn) :: (63, tabO pl2) :: (70, tabO pl3) :: rest)))) := (by exact pm_idx [[_], _, [_], [_], [_], [_], [_], [_], [_], [_], _] [3, 0, 1, 4, 5, 2, 6, 7, 8, 9, 10] (by kernel_rfl))
          replace N22 := News.perm N22 pm2
          replace D22 := DN.perm D22 pm2
          clear pm2 S D19
          (try clear F20); (try clear N20)
          (try clear F21); (try clear N21); (try clear N19); (try clear F19); (try clear N17); (try clear F17); (try clear D17); (try clear N18)
          replace F22 : Fr g L' s₅.heap _ := F22
          replace N22 : News g L' s₅.heap _ := N22
          replace ho22 : s₅.os = s₁.os := ho22.trans (ho19.trans (ho17.trans (ho14.trans (ho11.trans (ho8.trans ho5)))))
          have hGate : Gate "exec For Name Tuple cons nil" := ⟨⟩; have hGate : Gate "exec For" := ⟨⟩
          k_steps
          (repeat (with_reducible rename Gate _ => hG; clear hG))
          (repeat (with_reducible rename Gate _ => hG; clear hG))
          refine Stop.go ?_
          (rename Fr _ _ _ _ => F25)
          (rename News _ _ _ _ => N25)
          have pm3 : ((Rl, listOf [Value.ref D'].toArray (rn + 1)) :: (((l, listOf (refs ts2).toArray 0) :: ts2.map Pc.ent) ++ (pile w 101 ⟨P, dx, 0, tk0, 210⟩ [] n4 ++ ((D', LCg.lst (ivals xs)) :: (L' + 1, oW) :: (Wl, listOf (strValues zs).toArray zn) :: (63, tabO pl2) :: (70, tabO pl3) :: rest)))).Perm (((l, listOf (refs ts2).toArray 0) :: ts2.map Pc.ent) ++ (pile w 101 ⟨P, dx, 0, tk0, 210⟩ [] n4 ++ ((Rl, listOf [Value.ref D'].toArray (rn + 1)) :: (D', LCg.lst (ivals xs)) :: (L' + 1, oW) :: (Wl, listOf (strValues zs).toArray zn) :: (63, tabO pl2) :: (70, tabO pl3) :: rest))) := (by exact pm_idx [[_], [_], _, [_], [_], [_], [_], [_], [_], [_], _] [1, 2, 3, 4, 0, 5, 6, 7, 8, 9, 10] (by kernel_rfl))
          refine For_obl (h₀ := g) rfl ?_ (by intro _; rfl)
          k_steps
          (rename Fr _ _ _ _ => F26)
          (rename News _ _ _ _ => N26)
          refine ⟨[l], (l, listOf (refs ts2).toArray 0) :: ts2.map Pc.ent, ts2.length, _, _, _,
            fun i m2 => BkJ w P dx tk0 Rl text t s14.toks ((Rl, listOf [Value.ref D'].toArray (rn + 1)) :: (D', LCg.lst (ivals xs)) :: (L' + 1, oW) :: (Wl, listOf (strValues zs).toArray zn) :: (63, tabO pl2) :: (70, tabO pl3) :: rest) ts2 i m2,
            fun i u m2 z => if z = "part" then some (.str (ts2.getD i pc0).g (ts2.getD i pc0).tg) else if z = "fws" then some (.str (ts2.getD i pc0).f (ts2.getD i pc0).tf) else m2 z,
            by rw [← refs_len ts2]; exact src_list ⟨_, (N26 _ (.tail _ (List.mem_append_left _ (.head _)))).1, rfl, _, rfl⟩, by simp, ⟨F26, News.perm N26 pm3, G22, rfl, DN.perm (by exact D22) pm3⟩, .mk [] n4 rfl (by ktr_unf) (by ktr_unf) (by ktr_unf) (by ktr_unf), ?_, ?_, ?_⟩
          · rintro I o i u' m2 nw s₂ Q' hPi hi hJ S hpl h
            have hq : ts2[i]? = some (ts2.getD i pc0) := by rw [List.getD_eq_getElem?_getD, List.getElem?_eq_getElem hi]; rfl
            have hu : u' = .ref (ts2.getD i pc0).T := by
              have e : (refs ts2)[i]? = some u' := by rw [← List.getElem?_toArray]; exact hPi
              unfold refs at e
              rw [List.getElem?_map, hq] at e
              simpa using e.symm
            subst hu
            exact asg_pair rfl rfl rfl rfl S hpl (List.mem_append_left _ (.tail _ (List.mem_map.mpr ⟨_, List.mem_of_getElem? hq, rfl⟩))) rfl ⟨_, rfl⟩ h
          · rintro I o i u' m2 nw s₂ hPi hi ⟨ts3, n3, hts3, h1, h2, h3, h4⟩ ⟨F27, N27, G27, ho27, D27⟩
            generalize hTR : TurnPost _ _ _ _ _ _ = TR; revert TR; refine wrap ?_; intro TR hTR
            (try dsimp only [List.cons_append, List.nil_append] at N27 D27)
            have hl3 : ts3.length ≤ 61 := by
              have := congrArg List.length hts3
              rw [List.length_map, List.length_take, List.length_map] at this
              ktr_room
            have pm : ((I, o) :: ((l, listOf (refs ts2).toArray 0) :: ts2.map Pc.ent) ++ (pile w 101 ⟨P, dx, 0, tk0, 210⟩ ts3 n3 ++ ((Rl, listOf [Value.ref D'].toArray (rn + 1)) :: (D', LCg.lst (ivals xs)) :: (L' + 1, oW) :: (Wl, listOf (strValues zs).toArray zn) :: (63, tabO pl2) :: (70, tabO pl3) :: rest))).Perm ((P, accO 101 dx (refs ts3).toArray n3) :: (dx, sizeD w 0 tk0 210) :: (I, o) :: (l, listOf (refs ts2).toArray 0) :: (Rl, listOf [Value.ref D'].toArray (rn + 1)) :: (D', LCg.lst (ivals xs)) :: (L' + 1, oW) :: (Wl, listOf (strValues zs).toArray zn) :: (63, tabO pl2) :: (70, tabO pl3) :: (ts3.map Pc.ent ++ (ts2.map Pc.ent ++ rest))) := (by exact pm_idx [[_], [_], _, [_], [_], _, [_], [_], [_], [_], [_], [_], _] [3, 4, 0, 1, 6, 7, 8, 9, 10, 11, 5, 2, 12] (by kernel_rfl))
            replace N27 := News.perm N27 pm
            replace D27 := DN.perm D27 pm
            clear pm
            have hq : ts2[i]? = some (ts2.getD i pc0) := by rw [List.getD_eq_getElem?_getD, List.getElem?_eq_getElem hi]; rfl
            (try dsimp only at F27)
            generalize ts2.getD i pc0 = pc at *
            have hGate : Gate "call ref" := ⟨⟩
            k_steps
            (repeat (with_reducible rename Gate _ => hG; clear hG))
            refine Stop.go ?_
            (rename Fr _ _ _ _ => F28)
            (rename News _ _ _ _ => N28)
            show wpAny _ _ (call (.ref 45) [.ref P, _, _]) _ _ _
            refine Does.at (push_spec w ⟨P, dx, 0, tk0, 210⟩ ts3 n3 _ _ _ _ (by ktr_room)) B F28 X N28 T G27 D27 rfl ((I, o) :: (l, listOf (refs ts2).toArray 0) :: (Rl, listOf [Value.ref D'].toArray (rn + 1)) :: (D', LCg.lst (ivals xs)) :: (L' + 1, oW) :: (Wl, listOf (strValues zs).toArray zn) :: (63, tabO pl2) :: (70, tabO pl3) :: (ts2.map Pc.ent ++ rest)) (by exact pm_idx [[_], [_], [_], [_], [_], [_], [_], [_], [_], [_], _, _, _] [0, 1, 10, 2, 3, 4, 5, 6, 7, 8, 9, 11, 12] (by kernel_rfl)) (by first | exact room1 (by assumption) (by decide) | exact room2 (by assumption) (by decide) | exact room3 (by assumption) (by decide) | ktr_room) (by first | exact room1 (by assumption) (by decide) | exact room2 (by assumption) (by decide) | exact room3 (by assumption) (by decide) | ktr_room) ?_
            rintro v s29 nw F29 N29 G29 ho29 D29 ⟨rfl, Tm, n5, rfl⟩
            k_steps
            (rename Fr _ _ _ _ => F30)
            (rename News _ _ _ _ => N30)
            have pm : (pile w 101 ⟨P, dx, 0, tk0, 210⟩ (ts3 ++ [⟨Tm, pc.f, pc.tf, pc.g, pc.tg⟩]) n5 ++ ((I, o) :: (l, listOf (refs ts2).toArray 0) :: (Rl, listOf [Value.ref D'].toArray (rn + 1)) :: (D', LCg.lst (ivals xs)) :: (L' + 1, oW) :: (Wl, listOf (strValues zs).toArray zn) :: (63, tabO pl2) :: (70, tabO pl3) :: (ts2.map Pc.ent ++ rest))).Perm ((I, o) :: ((l, listOf (refs ts2).toArray 0) :: ts2.map Pc.ent) ++ (pile w 101 ⟨P, dx, 0, tk0, 210⟩ (ts3 ++ [⟨Tm, pc.f, pc.tf, pc.g, pc.tg⟩]) n5 ++ ((Rl, listOf [Value.ref D'].toArray (rn + 1)) :: (D', LCg.lst (ivals xs)) :: (L' + 1, oW) :: (Wl, listOf (strValues zs).toArray zn) :: (63, tabO pl2) :: (70, tabO pl3) :: rest))) := (by exact pm_idx [[_], [_], _, [_], [_], [_], [_], [_], [_], [_], [_], _, _] [3, 4, 11, 0, 1, 2, 5, 6, 7, 8, 9, 10, 12] (by kernel_rfl))
            subst hTR
            refine ⟨_, _, ⟨F30, News.perm N30 pm, G29, ho29.trans ho27, DN.perm D29 pm⟩, .mk _ n5 ?_ (by ktr_unf) (by ktr_unf) (by ktr_unf) (by ktr_unf)⟩
            rw [List.map_append, hts3, List.take_add_one, List.getElem?_map, hq]
            rfl
          · rintro m2 nw s₂ ⟨ts3, n3, hts3, h1, h2, h3, h4⟩ ⟨F27, N27, G27, ho27, D27⟩
            rw [List.take_of_length_le (by simp)] at hts3
            have hPW3 : PW (tx zs) (k :: rp) ts3 := hts3.trans hPW2
            have hfr : found row (k :: rp) 0 = true := found_row hrowe hr0
            k_steps
            have hsub : ∃ r, (((l, listOf (refs ts2).toArray 0) :: ts2.map Pc.ent) ++ (pile w 101 ⟨P, dx, 0, tk0, 210⟩ ts3 n3 ++ ((Rl, listOf [Value.ref D'].toArray (rn + 1)) :: (D', LCg.lst (ivals xs)) :: (L' + 1, oW) :: (Wl, listOf (strValues zs).toArray zn) :: (63, tabO pl2) :: (70, tabO pl3) :: rest))).Perm (r ++ rflat w P dx tk0 ts3 n3 Rl [Value.ref D'] (rn + 1) (L' + 1) oW Wl zs zn pl2 pl3 ([(D', LCg.lst (ivals xs))] ++ rest)) := ⟨(l, listOf (refs ts2).toArray 0) :: ts2.map Pc.ent, (perm_of_cnt fun q => by simp only [pile, cnt_cons, cnt_app, cnt_nil, List.map_append, List.map_cons, List.map_nil, List.append_assoc, List.cons_append, List.nil_append, Nat.add_zero, Nat.zero_add] <;> first | ac_rfl | ktr_room)⟩
            subst hTQ
            refine ⟨_, _, ⟨F27, sub_nw N27 hsub, G27, ho27.trans ho22, sub_dn D27 hsub⟩, _, rem_push hkl (by ktr_room), .mk ts3 n3 (k :: rp) 0 _ [Value.ref D'] (rn + 1) pl2 pl3 [(D', LCg.lst (ivals xs))] u2 hPW3 hu3 (Nat.zero_le _) hrp2 ?_ hp2 hp3 h1 h2 h3 h4⟩
            rw [hfr]
            exact ⟨D', xs, rfl, rfl, hxs⟩
      · (rename (_ == _) = false => heq)
        have heq : shown ts2 ≠ text := by simpa using heq
        have hrne : (k :: rp).reverse ≠ row := fun e => heq (str_ext (by show L _ = L _; rw [hsh, e, hsp]))
        rw [← found_push hr0 hrne] at hRst
        subst hTQ
        exact ⟨_, _, ⟨F17, N17, G17, ho17.trans (ho14.trans (ho11.trans (ho8.trans ho5))), D17⟩, _, rem_push hkl (by ktr_room), .mk ts2 n2 (k :: rp) 0 _ vs rn pl2 pl3 rw u2 hPW2 hu3 (Nat.zero_le _) hrp2 hRst hp2 hp3 (by ktr_unf) (by ktr_unf) (by ktr_unf) (by ktr_unf)⟩
    · (rename List.isPrefixOf _ _ = false => hpre)
      (rename Fr _ _ _ _ => F12)
      (rename News _ _ _ _ => N12)
      have hnp : ¬ (rp.reverse ++ [k]) <+: row := fun ⟨r, hr⟩ => by
        rw [← hr, spell_app, spell_app, spell_one, hu, List.append_assoc] at hsp
        have h2 := List.append_cancel_left hsp
        rw [List.isPrefixOf_iff_prefix.mpr ⟨_, by rw [← h2, hzw]⟩] at hpre
        cases hpre
      have hsk := found_skip hr0 hnp
      rw [← hsk] at hRst
      subst hTQ
      exact ⟨_, _, ⟨F12, N12, G11, ho11.trans (ho8.trans ho5), D11⟩, _, rem_skip hkl, .mk ts n rp (k + 1) _ vs rn pl2 pl' rw u hPW hu hkl hrp hRst hp2 hp' (by ktr_unf) (by ktr_unf) (by ktr_unf) (by ktr_unf)⟩
  · (rename ¬ (_ : Int) < _ => hlt1)
    -- DEV<
    obtain rfl : k = zs.length := by ktr_room
    (repeat (with_reducible rename Gate _ => hG; clear hG))
    (repeat (with_reducible rename Gate _ => hG; clear hG))
    refine Stop.go ?_
    (rename Fr _ _ _ _ => F6)
    (rename News _ _ _ _ => N6)
    show wpAny _ _ (call (.ref 98) [.ref P]) _ _ _
    refine Does.at (count_spec w ⟨P, dx, 0, tk0, 210⟩ ts n) B F6 X N6 T G5 D5 rfl ((Rl, listOf vs.toArray rn) :: (L' + 1, oW) :: (Wl, listOf (strValues zs).toArray zn) :: (63, tabO pl) :: (70, tabO pl') :: (rw ++ rest)) (by exact pm_idx [[_], [_], [_], [_], [_], [_], [_], _, _, _] [0, 1, 7, 2, 3, 4, 5, 6, 8, 9] (by kernel_rfl)) (by first | exact room1 (by assumption) (by decide) | exact room2 (by assumption) (by decide) | exact room3 (by assumption) (by decide) | ktr_room) (by first | exact room1 (by assumption) (by decide) | exact room2 (by assumption) (by decide) | exact room3 (by assumption) (by decide) | ktr_room) ?_
    rintro v s7 nw F7 N7 G7 ho7 D7 ⟨⟨t7, rfl⟩, rfl⟩
    rw [htl]
    cases rp with
    | nil =>
      have hts : ts = [] := List.length_eq_zero_iff.mp htl
      subst hts
      have hfd : found row [] zs.length = true := found_end hr0 fun x hx => by have := hrow x hx; rwa [tx_len] at this
      rw [hfd] at hRst
      obtain ⟨Ra, xs, rfl, rfl, hxs⟩ : ∃ Ra, ∃ xs : List (Nat × Tok), vs = [.ref Ra] ∧ rw = [(Ra, LCg.lst (ivals xs))] ∧ xs.map (·.1) = row := hRst
      dsimp only [List.length_nil]
      k_steps
      (rename Fr _ _ _ _ => F8)
      (rename News _ _ _ _ => N8)
      have hsub : ∃ r, (pile w 101 ⟨P, dx, 0, tk0, 210⟩ [] n ++ ((Rl, listOf [Value.ref Ra].toArray rn) :: (L' + 1, oW) :: (Wl, listOf (strValues zs).toArray zn) :: (63, tabO pl) :: (70, tabO pl') :: ([(Ra, LCg.lst (ivals xs))] ++ rest))).Perm (r ++ ([(Rl, listOf [Value.ref Ra].toArray rn), (Ra, LCg.lst (ivals xs)), (Wl, listOf (strValues zs).toArray zn), (63, tabO pl), (70, tabO pl')] ++ rest)) := ⟨(L' + 1, oW) :: pile w 101 ⟨P, dx, 0, tk0, 210⟩ [] n, (by exact pm_idx [[_], [_], [_], [_], [_], [_], [_], [_], _] [3, 0, 1, 2, 7, 4, 5, 6, 8] (by kernel_rfl))⟩
      subst hQB; exact BodyPost.mk _ F8 (sub_nw N8 hsub) G7 (ho7.trans ho5) (sub_dn D7 hsub) (RdPost.mk Rl Ra rn pl pl' xs hp hp' hxs)
    | cons j rp =>
      obtain ⟨ini, p, rfl, hPW2, hpg⟩ := hPW.pop
      have hil : ini.length ≤ 60 := by
        have h1 := hPW2.len
        rw [List.length_cons] at hrl
        ktr_room
      have hjl : j < zs.length := hrp j (.head _)
      obtain ⟨hix, hix2⟩ := idx_of hn hjl hpg
      rw [List.length_cons]
      have hGate : Gate "call ref" := ⟨⟩
      have hGate : Gate "subscriptTail" := ⟨⟩
      k_steps
      · (repeat (with_reducible rename Gate _ => hG; clear hG))
        (repeat (with_reducible rename Gate _ => hG; clear hG))
        refine Stop.go ?_
        (rename Fr _ _ _ _ => F8)
        (rename News _ _ _ _ => N8)
        show wpAny _ _ (call (.ref 61) [.ref P]) _ _ _
        refine Does.at (pop_some w ⟨P, dx, 0, tk0, 210⟩ ini p n (by ktr_room)) B F8 X N8 T G7 D7 rfl ((Rl, listOf vs.toArray rn) :: (L' + 1, oW) :: (Wl, listOf (strValues zs).toArray zn) :: (63, tabO pl) :: (70, tabO pl') :: (rw ++ rest)) (by exact pm_idx [[_], [_], _, [_], [_], [_], [_], [_], _, _] [0, 1, 2, 3, 4, 5, 6, 7, 8, 9] (by kernel_rfl)) (by first | exact room1 (by assumption) (by decide) | exact room2 (by assumption) (by decide) | exact room3 (by assumption) (by decide) | ktr_room) (by first | exact room1 (by assumption) (by decide) | exact room2 (by assumption) (by decide) | exact room3 (by assumption) (by decide) | ktr_room) ?_
        rintro v s9 nw F9 N9 G9 ho9 D9 ⟨rfl, n2, rfl⟩
        k_steps
        (rename Fr _ _ _ _ => F10)
        (rename News _ _ _ _ => N10)
        refine index_txts (j := j) (N10 _ (List.mem_append_right _ (.tail _ (.tail _ (.head _))))).1 (by ktr_room) hix hix2 ?_
        k_steps
        (rename Fr _ _ _ _ => F11)
        (rename News _ _ _ _ => N11)
        have hsub : ∃ r, (p.ent :: pile w 101 ⟨P, dx, 0, tk0, 210⟩ ini n2 ++ ((Rl, listOf vs.toArray rn) :: (L' + 1, oW) :: (Wl, listOf (strValues zs).toArray zn) :: (63, tabO pl) :: (70, tabO pl') :: (rw ++ rest))).Perm (r ++ rflat w P dx tk0 ini n2 Rl vs rn (L' + 1) oW Wl zs zn pl pl' (rw ++ rest)) := ⟨[p.ent], (by exact pm_idx [[_], [_], [_], _, [_], [_], [_], [_], [_], _, _] [0, 1, 2, 4, 5, 6, 7, 8, 3, 9, 10] (by kernel_rfl))⟩
        have hu2 : L text = spell (tx zs) rp.reverse ++ (wd (tx zs) j ++ u) := by rw [hu, List.reverse_cons, spell_app, spell_one, List.append_assoc]
        have hfp := found_pop hr0 (n := zs.length) (rp := rp) (j := j) (fun x hx => by have := hrow x hx; rwa [tx_len] at this)
        rw [hfp] at hRst
        subst hTQ
        exact ⟨_, _, ⟨F11, sub_nw N11 hsub, G9, ho9.trans (ho7.trans ho5), sub_dn D9 hsub⟩, _, rem_pop, .mk ini n2 rp (j + 1) _ vs rn pl pl' rw _ hPW2 hu2 hjl (fun i hi => hrp i (.tail _ hi)) hRst hp hp' (by ktr_unf) (by ktr_unf) (by ktr_unf) (by ktr_unf)⟩
      · exfalso
        ktr_room
    -- >DEV
end Mine
end
end
end
end
section
open PySem PySem.W PyProof.Rows
open Mine
-- a cell of the frame
local macro_rules | `(tactic| walk_at "eval Name") => `(tactic| (k_here; (with_reducible show wpAny _ _ (eval (Expr.Name _ _) (envOfC _ _ _ _ _)) _ _ _); k_dflt (refine nm_cell (by rfl) (by rfl) (by rfl) (by decide) (by k_asm) (by k_mem) (by assumption) ?_; k_whole)))
-- a name of a frame with cells
local macro_rules | `(tactic| walk_at "eval Name") => `(tactic| (k_here; (with_reducible show wpAny _ _ (eval (Expr.Name _ _) (envOfC _ _ _ _ _)) _ _ _); k_dflt (refine nm_C (by rfl) (by rfl) (by decide) (by k_asm) (by ktr_units) ?_; k_whole)))
section
open PySem PySem.W PyProof.Rows
set_option maxRecDepth 100000
set_option maxHeartbeats 8000000
namespace Mine
/-- what the numbers tell -/
structure Qm where
  Nl : Addr
  nn : Nat
  xs : List (Nat × Tok)
  Ll : Addr
  ln : Nat
  a : Str
  ta : Tok
  b : Str
  tb : Tok
noncomputable abbrev Qm.tot (P : Qm) : Nat := (P.xs.map (·.1)).sum
noncomputable abbrev Qm.ca (P : Qm) : Nat := if P.tot % 3 = 2 then 10 else 97 + P.tot % 50000
structure Qm.Ok (P : Qm) : Prop where
  len : P.xs.length = 5
  bd : ∀ p ∈ P.xs, p.1 ≤ 10 ^ 8
  la : L P.a = [P.ca]
  lb : L P.b = [34]
/-- the frame's cells: numbers, letters, words, makers, texts, want, ahead, behind -/
noncomputable def cells8 (L' : Addr) (o1 o2 o3 o4 o5 o6 o7 o8 : Obj) : Led := [(L' + 1 + 1 + 1 + 1 + 1 + 1 + 1 + 1, o8), (L' + 1 + 1 + 1 + 1 + 1 + 1 + 1, o7), (L' + 1 + 1 + 1 + 1 + 1 + 1, o6), (L' + 1 + 1 + 1 + 1 + 1, o5), (L' + 1 + 1 + 1 + 1, o4), (L' + 1 + 1 + 1, o3), (L' + 1 + 1, o2), (L' + 1, o1)]
noncomputable def bareC (o : Obj) : Prop := ∃ v, o.data = .cell v
/-- the state at the law's beginning; with the numbers and the letters -/
inductive StO (Sl tl ts L' : Addr) (m : Str → Option Value) : Led → Prop
  | mk : m "script" = some (.ref Sl) → ∀ (o1 o2 o3 o4 o5 o6 o7 o8 : Obj), o1.data = .cell none → o2.data = .cell none → bareC o3 → bareC o4 → bareC o5 → bareC o6 → bareC o7 → bareC o8 → StO Sl tl ts L' m (cells8 L' o1 o2 o3 o4 o5 o6 o7 o8 ++ [(tl, tabO #[]), (ts, tabO #[])])
inductive StA (P : Qm) (tl ts L' : Addr) (m : Str → Option Value) : Led → Prop
  | mk (o1 o2 o3 o4 o5 o6 o7 o8 : Obj) : o1.data = .cell (some (.ref P.Nl)) → o2.data = .cell (some (.ref P.Ll)) → bareC o3 → bareC o4 → bareC o5 → bareC o6 → bareC o7 → bareC o8 → StA P tl ts L' m (cells8 L' o1 o2 o3 o4 o5 o6 o7 o8 ++ [(P.Nl, listOf (ivals P.xs).toArray P.nn), (P.Ll, listOf [Value.str P.a P.ta, Value.str P.b P.tb].toArray P.ln), (tl, tabO #[]), (ts, tabO #[])])
theorem law_a (w : World) (Sl : Addr) (so : Obj) (items : List Value) (sn : Nat) (hcls : so.cls = .type "list") (hdat : so.data = .seq items.toArray sn) (hi : ∀ v ∈ items, ∃ (k : Int) (t : Tok), v = .int k t) (hl : items.length ≤ 63)
  (next : ∀ P : Qm, P.Ok → LawFrom PySem.Challenge.rw_wr0021_02.row.prog w (Mine.frag.heap_1 w.params) 209 3 Sl so 63 70 70 700 (StA P 63 70)) :

  LawFrom PySem.Challenge.rw_wr0021_02.row.prog w (Mine.frag.heap_1 w.params) 209 0 Sl so 63 70 70 700 (StO Sl 63 70) := by
  w_top off
  k_fill
  refine law_from (by k_is) ?_
  rintro loose mean mg mb dp un gd A₀ g L' fa ccd m led os s₁ Q E B X O T ⟨F, N, G, ho, D⟩ ⟨hm, o1, o2, o3, o4, o5, o6, o7, o8, d1, d2, d3, d4, d5, d6, d7, d8⟩ hdp hun hret
  dsimp only [List.drop]
  (try (refine letA ?_; intro kA))
  dsimp only [cells8, List.cons_append, List.nil_append] at N D
  have hGate : Gate "call ref" := ⟨⟩
  k_steps
  (all_goals (try k_data))
  (repeat (with_reducible rename Gate _ => hG; clear hG))
  refine Stop.go ?_
  (rename Fr _ _ _ _ => F1)
  (rename News _ _ _ _ => N1)
  refine nums_spec w Sl so items sn hcls hdat hi hl _ _ _ _ _ _ _ _ _ _ _ _ _ _ _ _ _ _ _ _ _ _ B F1 X (fun q hq => by rw [List.mem_singleton.mp hq]; exact O) N1 T rfl G D (by first | exact room1 (by assumption) (by decide) | exact room2 (by assumption) (by decide) | exact room3 (by assumption) (by decide) | ktr_room) (by first | exact room1 (by assumption) (by decide) | exact room2 (by assumption) (by decide) | exact room3 (by assumption) (by decide) | ktr_room) ?_
  rintro v s2 nw F2 N2 G2 ho2 D2 ⟨Nl, xs, nn, rfl, rfl, hx, hk⟩
  dsimp only [List.cons_append, List.nil_append] at N2 D2
  have pm2 : ((Nl, listOf (ivals xs).toArray nn) :: (L' + 1 + 1 + 1 + 1 + 1 + 1 + 1 + 1, o8) :: (L' + 1 + 1 + 1 + 1 + 1 + 1 + 1, o7) :: (L' + 1 + 1 + 1 + 1 + 1 + 1, o6) :: (L' + 1 + 1 + 1 + 1 + 1, o5) :: (L' + 1 + 1 + 1 + 1, o4) :: (L' + 1 + 1 + 1, o3) :: (L' + 1 + 1, o2) :: (L' + 1, o1) :: (63, tabO #[]) :: (70, tabO #[]) :: []).Perm ((L' + 1, o1) :: (L' + 1 + 1, o2) :: (Nl, listOf (ivals xs).toArray nn) :: (L' + 1 + 1 + 1, o3) :: (L' + 1 + 1 + 1 + 1, o4) :: (L' + 1 + 1 + 1 + 1 + 1, o5) :: (L' + 1 + 1 + 1 + 1 + 1 + 1, o6) :: (L' + 1 + 1 + 1 + 1 + 1 + 1 + 1, o7) :: (L' + 1 + 1 + 1 + 1 + 1 + 1 + 1 + 1, o8) :: (63, tabO #[]) :: (70, tabO #[]) :: []) := (by exact pm_idx [[_], [_], [_], [_], [_], [_], [_], [_], [_], [_], [_]] [8, 7, 0, 6, 5, 4, 3, 2, 1, 9, 10] (by kernel_rfl))
  replace N2 := News.perm N2 pm2
  replace D2 := DN.perm D2 pm2
  (try clear N1); (try clear F1); (try clear N); (try clear F); (try clear D)
  k_steps
  (all_goals (try k_data))
  (rename Fr _ _ _ _ => F3)
  (rename News _ _ _ _ => N3)
  refine st_cell (pre := []) (os := os) ⟨F3, N3, G2, ho2.trans ho, D2⟩ rfl rfl d1 rfl ?_
  rintro h4 o1' d1' ⟨F4, N4, G4, ho4, D4⟩
  (try clear F3); (try clear N3); (try clear D2); (try clear F2); (try clear N2)
  dsimp only [List.nil_append] at N4 D4
  k_steps
  (all_goals (try k_data))
  (rename Fr _ _ _ _ => F5)
  (rename News _ _ _ _ => N5)
  refine sum_ivals rfl F5 N5 (.tail _ (.tail _ (.head _))) ?_
  intro h6 tk6 tt6 F6 N6
  (try dsimp only at F6 N6)
  (try clear F5); (try clear N5)
  have hGate : Gate "execs cons" := ⟨⟩
  k_steps
  (all_goals (try k_data))
  (repeat (with_reducible rename Gate _ => hG; clear hG))
  refine Stop.go ?_
  refine wpAny_execs_cons ?_
  (try dsimp only)
  have hGate : Gate "execs cons" := ⟨⟩
  k_steps
  (all_goals (try k_data))
  all_goals (
    (repeat (with_reducible rename Gate _ => hG; clear hG))
    (rename Fr _ _ _ _ => F7)
    (rename News _ _ _ _ => N7)
    (rename (_ ∧ _ ∧ _ ∧ _ ∧ _) => l7)
    rename_i l hx7
    have hs0 : (0 : Int) ≤ (((xs.map (·.1)).sum : Nat) : Int) := Int.natCast_nonneg _
    obtain ⟨a, ta, b, tb, N7, l7, ha, hb⟩ : ∃ a ta b tb, News g L' hx7 ((l, listOf [Value.str a ta, Value.str b tb].toArray 0) :: (L' + 1, o1') :: (L' + 1 + 1, o2) :: (Nl, listOf (ivals xs).toArray nn) :: (L' + 1 + 1 + 1, o3) :: (L' + 1 + 1 + 1 + 1, o4) :: (L' + 1 + 1 + 1 + 1 + 1, o5) :: (L' + 1 + 1 + 1 + 1 + 1 + 1, o6) :: (L' + 1 + 1 + 1 + 1 + 1 + 1 + 1, o7) :: (L' + 1 + 1 + 1 + 1 + 1 + 1 + 1 + 1, o8) :: (63, tabO #[]) :: (70, tabO #[]) :: []) ∧ (∀ q ∈ ((L' + 1, o1') :: (L' + 1 + 1, o2) :: (Nl, listOf (ivals xs).toArray nn) :: (L' + 1 + 1 + 1, o3) :: (L' + 1 + 1 + 1 + 1, o4) :: (L' + 1 + 1 + 1 + 1 + 1, o5) :: (L' + 1 + 1 + 1 + 1 + 1 + 1, o6) :: (L' + 1 + 1 + 1 + 1 + 1 + 1 + 1, o7) :: (L' + 1 + 1 + 1 + 1 + 1 + 1 + 1 + 1, o8) :: (63, tabO #[]) :: (70, tabO #[]) :: [] : Led), q.1 < l) ∧ L a = [if (xs.map (·.1)).sum % 3 = 2 then 10 else 97 + (xs.map (·.1)).sum % 50000] ∧ L b = [34] := by
      refine ⟨_, _, _, _, N7, ?_, ?_, by decide +kernel⟩
      · intro q hq
        simp only [List.mem_cons, List.not_mem_nil, or_false] at hq
        obtain ⟨e1, e2, e3, e4, e5, e6, e7, e8, e9, e10, e11⟩ := l7
        rcases hq with rfl | rfl | rfl | rfl | rfl | rfl | rfl | rfl | rfl | rfl | rfl <;> assumption
      · (first | (rename Int.fmod _ _ = _ => hm3) | (rename Int.fmod _ _ ≠ _ => hm3))
        rw [Int.fmod_eq_emod_of_nonneg _ (by decide)] at hm3
        first
        | (rw [if_pos (by ktr_room)]; decide +kernel)
        | (rw [if_neg (by ktr_room)]; show [_] = [_]; rw [Int.fmod_eq_emod_of_nonneg _ (by decide)]; first | done | rfl | (congr 1; done) | (congr 1; ktr_room))
    have D7 := DN.cons_of (o := listOf [Value.str a ta, Value.str b tb].toArray 0) D4 l7
    refine st_cell (pre := [(l, listOf [Value.str a ta, Value.str b tb].toArray 0), (L' + 1, o1')]) (os := os) ⟨F7, N7, G4, ho4, D7⟩ rfl rfl d2 rfl ?_
    rintro h8 o2' d2' ⟨F8, N8, G8, ho8, D8⟩
    (try clear F7); (try clear N7); (try clear D7); (try clear F6); (try clear N6); (try clear D4); (try clear F4); (try clear N4)
    dsimp only [List.nil_append, List.cons_append] at N8 D8
    have hGate : Gate "execs cons" := ⟨⟩
    k_steps
    (repeat (with_reducible rename Gate _ => hG; clear hG))
    refine Stop.go ?_
    refine LawFrom.go (next ⟨Nl, nn, xs, l, 0, a, ta, b, tb⟩ ⟨hx, hk, ha, hb⟩) (by k_is) rfl B X O T (by exact LoopSt.perm ⟨F8, N8, G8, ho8, D8⟩ (perm_of_cnt fun q => by simp only [cells8, cnt_cons, cnt_app, cnt_nil, List.cons_append, List.nil_append, Nat.add_zero]; first | ac_rfl | ktr_room)) ⟨o1', o2', o3, o4, o5, o6, o7, o8, d1', d2', d3, d4, d5, d6, d7, d8⟩ hdp hun hret)
end Mine
end
section
open PySem PySem.W PyProof.Rows
open Mine
-- a name of the block
local macro_rules | `(tactic| walk_at "eval Name") => `(tactic| (k_here; (with_reducible show wpAny _ _ (eval (Expr.Name _ _) (compEnvC _ _ _ _)) _ _ _); k_dflt (refine blk_own (by rfl) (by rfl) (by decide) (by k_asm) (by k_mem) (by assumption) (by ktr_units) ?_; k_whole)))
section
open PySem PySem.W PyProof.Rows
set_option maxRecDepth 100000
set_option maxHeartbeats 8000000
namespace Mine
noncomputable def GoodQ (zs : List (Str × Tok)) (q : Pc) : Prop := (∃ z ∈ zs, z.1 = q.f) ∧ (∃ z ∈ zs, z.1 = q.g) ∧ q.f ≠ q.g ∧ L q.f <+: L q.g
theorem begun_spec (w : World) (Ll : Addr) (zs : List (Str × Tok)) (zn : Nat) (hl : zs.length ≤ 3) (hd : ∀ z ∈ zs, nodot z.1 ∧ z.1.length ≤ 4) :
  Does PySem.Challenge.rw_wr0021_02.row.prog w (Mine.frag.heap_1 w.params) topProg (.ref 199) 30 300 [.ref Ll] [(Ll, listOf (strValues zs).toArray zn)] (fun v nw => ∃ D, ∃ qs : List Pc, v = .ref D ∧ nw = (D, LCg.lst (refs qs)) :: (qs.map Pc.ent ++ [(Ll, listOf (strValues zs).toArray zn)]) ∧ qs.length ≤ 9 ∧ (∀ q ∈ qs, GoodQ zs q) ∧ (qs = [] → ∀ a ∈ zs, ∀ b ∈ zs, a.1 ≠ b.1 → ¬ L a.1 <+: L b.1)) := by
  w_top off
  k_fill
  k_dflt (refine' does_ofC ?k1 ?k2 (fun _ kX => ?k3) ?k4 ?k5 (by decide) (by decide) ?_ ?k6 ?k7 ?k8; (case k1 => k_is); (case k2 => k_is); (case k3 => first | exact BindsTo.of_eq rfl | exact binds_K kX rfl (by k_is) rfl rfl rfl); (case k4 => exact rfl); (case k5 => decide); (case k6 => exact rfl); (case k7 => exact rfl); (case k8 => exact rfl)); intro loose mean mg mb dp un gd outer A₀ base g L' s₁ cells rest B F X N Y T G D hlt hdp hun; (try dsimp only); (try dsimp only [List.nil_append, List.cons_append] at N D hlt); have hL := F.ns.lt; (try (refine letA ?_; intro kA)); refine open_Q ?_; intro QB hQB
  obtain ⟨oc, rfl, hoc⟩ := CellsAre.one Y
  replace hoc : oc.data = .cell (some (.ref Ll)) := hoc
  replace F : Fr g L' s₁.heap (fun _ => none) := F
  clear Y
  dsimp only [List.nil_append, List.cons_append] at N
  have Dc : DN ((L' + 1, oc) :: (Ll, listOf (strValues zs).toArray zn) :: rest) := DN.cons_of D fun q hq => Nat.lt_succ_of_lt (allLt_all hlt q hq)
  have hGate : Gate "eval ListComp" := ⟨⟩
  k_steps
  (repeat (with_reducible rename Gate _ => hG; clear hG))
  refine Stop.go ?_
  refine Comp_obl F rfl (by with_unfolding_all rfl) (fun I C D => turn_first2 ..) ?_ (by decide) rfl (by decide) (by intro _; rfl)
  k_steps
  (rename Fr _ _ _ _ => F1)
  (rename News _ _ _ _ => N1)
  have pm : ((L' + 1, oc) :: (Ll, listOf (strValues zs).toArray zn) :: rest).Perm ([(Ll, listOf (strValues zs).toArray zn)] ++ (L' + 1, oc) :: rest) := (by exact pm_idx [[_], [_], _] [1, 0, 2] (by kernel_rfl))
  refine ⟨[Ll], [(Ll, listOf (strValues zs).toArray zn)], zs.length, _, (L' + 1, oc) :: rest, fun i ys nw => ∃ qs : List Pc, ys = refs qs ∧ nw = (L' + 1, oc) :: (qs.map Pc.ent ++ rest) ∧ qs.length ≤ 3 * i ∧ (∀ q ∈ qs, GoodQ zs q) ∧ (qs = [] → ∀ a ∈ zs.take i, ∀ b ∈ zs, a.1 ≠ b.1 → ¬ L a.1 <+: L b.1),
    by rw [← strV_len zs]; exact src_list (N1.isList (by k_mem)), by simp, ⟨F1, News.perm N1 pm, G, rfl, DN.perm Dc pm⟩, ⟨[], rfl, rfl, by simp, by simp, by simp⟩, ?_, ?_⟩
  · rintro I o C D' oC m₂ i u ys nw s₂ hPi hi ⟨qs, rfl, rfl, hqn, hqs, hqe⟩ hC S hpl
    obtain ⟨⟨a, ta⟩, ha, rfl⟩ := strV_at hPi
    refine blk_name rfl rfl hC S fun oC' s₃ hC' S' => tests_none ?_
    simp only [if_true]
    refine inner_obl S' rfl ?_ (by intro _; rfl)
    obtain ⟨F2, N2, G2, ho2, D2⟩ := S'
    dsimp only [List.cons_append, List.nil_append] at N2 D2
    k_steps
    (rename Fr _ _ _ _ => F3)
    (rename News _ _ _ _ => N3)
    refine ⟨[Ll], [(I, o), (Ll, listOf (strValues zs).toArray zn)], zs.length, _, (C, oC') :: (D', LCg.lst (refs qs)) :: (L' + 1, oc) :: (qs.map Pc.ent ++ rest), fun j => BlockJ C D' (fun m => m "one" = some (.str a ta)) (fun ys nw => ∃ qs : List Pc, ys = refs qs ∧ nw = (L' + 1, oc) :: (qs.map Pc.ent ++ rest) ∧ qs.length ≤ 3 * i + j ∧ (∀ q ∈ qs, GoodQ zs q) ∧ (qs = [] → (∀ a ∈ zs.take i, ∀ b ∈ zs, a.1 ≠ b.1 → ¬ L a.1 <+: L b.1) ∧ ∀ b ∈ zs.take j, a ≠ b.1 → ¬ L a <+: L b.1)),
      by rw [← strV_len zs]; exact src_list (N3.isList (by k_mem)), by simp, ⟨F3, N3, G2, ho2, D2⟩, ⟨oC', _, _, _, rfl, hC', by ktr_unf, qs, rfl, rfl, by ktr_room, hqs, fun e => ⟨hqe e, by simp⟩⟩, ?_, ?_⟩
    · rintro I2 o2 j u news' s₄ hPj hj ⟨oC2, m3, ys2, n2, rfl, hC2, hk2, qs2, rfl, rfl, hn2, hqs2, hqe2⟩ S2 hpl2
      obtain ⟨⟨b, tb⟩, hb, rfl⟩ := strV_at hPj
      refine blk_name rfl rfl hC2 S2 fun oC3 s₅ hC3 S3 => tests_one ?_
      obtain ⟨F4, N4, G4, ho4, D4⟩ := S3
      dsimp only [List.cons_append, List.nil_append] at N4 D4
      have hza := hd _ (List.mem_of_getElem? ha)
      have hzb := hd _ (List.mem_of_getElem? hb)
      have hal : a.length ≤ 4 := hza.2
      have hbl : b.length ≤ 4 := hzb.2
      have hGate : Gate "call ref" := ⟨⟩
      k_steps
      · (repeat (with_reducible rename Gate _ => hG; clear hG))
        refine Stop.go ?_
        (rename (_ != _) = true => hne)
        (rename Fr _ _ _ _ => F5)
        (rename News _ _ _ _ => N5)
        have hne : a ≠ b := by simpa using hne
        refine Does.at (ell_spec w _ _ _ _ (le_app hal len_dots (by decide)) (Nat.le_trans hbl (by decide))) B F5 X N5 T G4 D4 rfl _ (List.Perm.refl _) (by first | exact room1 (by assumption) (by decide) | exact room2 (by assumption) (by decide) | exact room3 (by assumption) (by decide) | ktr_room) (by first | exact room1 (by assumption) (by decide) | exact room2 (by assumption) (by decide) | exact room3 (by assumption) (by decide) | ktr_room) ?_
        rintro v s6 nw F6 N6 G6 ho6 D6 ⟨rfl, rfl⟩
        rw [ell_pre hza.1]
        dsimp only [List.nil_append] at N6 D6
        clear F5 N5
        k_steps
        · (rename List.isPrefixOf _ _ = true => hp)
          (rename Fr _ _ _ _ => F7)
          (rename News _ _ _ _ => N7)
          refine emit_obl (keep := [(I, o), (Ll, listOf (strValues zs).toArray zn)]) (ys := refs qs2) (C := C) (Z := fun m => m "one" = some (.str a ta)) ?_
          k_steps
          (rename Fr _ _ _ _ => F8)
          (rename News _ _ _ ((_, tupO _ _) :: _) => N8)
          (rename (_ ∧ _ ∧ _ ∧ _ ∧ _ ∧ _ ∧ AllLt _ _) => l8)
          rename_i T4 _
          have D8 := D6.more (o := tupO (.str a ta) (.str b tb)) l8
          have pm2 : ((T4, tupO (.str a ta) (.str b tb)) :: (I2, o2) :: (I, o) :: (Ll, listOf (strValues zs).toArray zn) :: (C, oC3) :: (D', LCg.lst (refs qs2)) :: (L' + 1, oc) :: (qs2.map Pc.ent ++ rest)).Perm
            ((I2, o2) :: [(I, o), (Ll, listOf (strValues zs).toArray zn)] ++ (C, oC3) :: (D', LCg.lst (refs qs2)) :: ((L' + 1, oc) :: ((qs2 ++ [Pc.mk T4 a ta b tb]).map Pc.ent ++ rest))) := (perm_of_cnt fun q => by simp only [Pc.ent, cnt_cons, cnt_app, cnt_nil, List.map_append, List.map_cons, List.map_nil, List.append_assoc, List.cons_append, List.nil_append, Nat.add_zero, Nat.zero_add] <;> first | ac_rfl | ktr_room)
          have hzl : zs.length ≤ 3 := hl
          refine ⟨oC3, _, _, hC3, by ktr_unf, by exact LoopSt.perm ⟨F8, N8, G6, ho6.trans ho4, D8⟩ pm2, by rw [sizeLine_eq, refs_len]; ktr_room, qs2 ++ [Pc.mk T4 a ta b tb], by simp [refs], rfl, by simp; ktr_room, ?_, by simp⟩
          intro q hq
          rcases List.mem_append.mp hq with h | h
          · exact hqs2 q h
          · rw [List.mem_singleton.mp h]
            exact ⟨⟨_, List.mem_of_getElem? ha, rfl⟩, ⟨_, List.mem_of_getElem? hb, rfl⟩, hne, List.isPrefixOf_iff_prefix.mp hp⟩
        · (rename List.isPrefixOf _ _ = false => hp)
          (rename Fr _ _ _ _ => F7)
          (rename News _ _ _ _ => N7)
          refine ⟨_, ⟨F7, N7, G6, ho6.trans ho4, D6⟩, oC3, _, _, _, rfl, hC3, by ktr_unf, qs2, rfl, rfl, by ktr_room, hqs2, fun e => ⟨(hqe2 e).1, fun b' hb' => ?_⟩⟩
          rcases take_succ_mem hb hb' with h | rfl
          · exact (hqe2 e).2 b' h
          · exact fun _ h => by rw [List.isPrefixOf_iff_prefix.mpr h] at hp; cases hp
      · (rename (_ != _) = false => hne)
        have hne : a = b := by simpa using hne
        refine ⟨_, ⟨F4, N4, G4, ho4, D4⟩, oC3, _, _, _, rfl, hC3, by ktr_unf, qs2, rfl, rfl, by ktr_room, hqs2, fun e => ⟨(hqe2 e).1, fun b' hb' => ?_⟩⟩
        rcases take_succ_mem hb hb' with h | rfl
        · exact (hqe2 e).2 b' h
        · exact fun h => absurd hne h
    · rintro news' s₆ ⟨oC2, m3, ys2, n2, rfl, hC2, hk2, qs2, rfl, rfl, hn2, hqs2, hqe2⟩ S2
      refine ⟨(C, oC2) :: (D', LCg.lst (refs qs2)) :: _, S2, oC2, m3, _, _, rfl, hC2, trivial, qs2, rfl, rfl, by ktr_room, hqs2, fun e a' ha' b' hb' => ?_⟩
      rcases take_succ_mem ha ha' with h | rfl
      · exact (hqe2 e).1 a' h b' hb'
      · exact (hqe2 e).2 b' (by rw [List.take_of_length_le (Nat.le_refl _)]; exact hb')
  · rintro D' ys nw s₄ ⟨qs, rfl, rfl, hqn, hqs, hqe⟩ S s₅ S5
    obtain ⟨F5, N5, G5, ho5, D5⟩ := S5
    dsimp only [List.cons_append, List.nil_append] at N5 D5
    replace F5 : Fr g L' s₅.heap _ := F5
    replace N5 : News g L' s₅.heap _ := N5
    k_steps
    have hsub : ∃ r, ((Ll, listOf (strValues zs).toArray zn) :: (D', LCg.lst (refs qs)) :: (L' + 1, oc) :: (qs.map Pc.ent ++ rest)).Perm (r ++ (((D', LCg.lst (refs qs)) :: (qs.map Pc.ent ++ [(Ll, listOf (strValues zs).toArray zn)])) ++ rest)) := ⟨[(L' + 1, oc)], (perm_of_cnt fun q => by simp only [pile, cnt_cons, cnt_app, cnt_nil, List.map_append, List.map_cons, List.map_nil, List.append_assoc, List.cons_append, List.nil_append, Nat.add_zero, Nat.zero_add] <;> first | ac_rfl | ktr_room)⟩
    subst hQB; refine BodyPost.mk _ F5 (sub_nw N5 hsub) G5 ho5 (sub_dn D5 hsub) ⟨D', qs, rfl, rfl, by ktr_room, hqs, fun e a ha b hb => hqe e a (by rw [List.take_of_length_le (Nat.le_refl _)]; exact ha) b hb⟩
end Mine
end
section
open PySem PySem.W PyProof.Rows
set_option maxRecDepth 100000
set_option maxHeartbeats 2000000
namespace Mine
theorem make_texts {zs ls : List (Str × Tok)} (J : MakeJ (tx zs) (tx ls)) (hd : ∀ z ∈ zs, Fine z.1 ∧ z.1.length ≤ 4) : ∀ z ∈ ls, Fine z.1 ∧ z.1.length ≤ 4 := fun z hz => by
  obtain ⟨k, hk, hi⟩ := J.inf (L z.1) (List.mem_map.mpr ⟨z, hz, rfl⟩)
  rw [tx_len] at hk
  rw [wd_tx (List.getElem?_eq_getElem hk)] at hi
  obtain ⟨h1, h2⟩ := hd _ (List.getElem_mem hk)
  refine ⟨h1.of fun c hc => hi.subset hc, ?_⟩
  have := hi.length_le
  rw [L_len, L_len] at this
  ktr_room
/-- what is given back -/
inductive MkPost (Wl : Addr) (zs : List (Str × Tok)) (zn : Nat) : Value → Led → Prop
  | mk (D : Addr) (ls : List (Str × Tok)) (n : Nat) : MakeJ (tx zs) (tx ls) → (∀ a ∈ tx ls, ∀ b ∈ tx ls, a ≠ b → ¬ a <+: b) → MkPost Wl zs zn (.ref D) [(D, listOf (strValues ls).toArray n), (Wl, listOf (strValues zs).toArray zn)]
/-- between the turns of the while -/
inductive MkJ (L' : Addr) (oW : Obj) (Wl : Addr) (zs : List (Str × Tok)) (zn : Nat) (rest : Led) (pk : Nat) (tp : Tok) (m' : Str → Option Value) : Nat → Led → Prop
  | mk (Dl Db : Addr) (oO' : Obj) (ls : List (Str × Tok)) (n : Nat) (qs : List Pc) : MakeJ (tx zs) (tx ls) → (∃ v, oO'.data = .cell v) → qs.length ≤ 9 → (∀ q ∈ qs, GoodQ ls q) → (qs = [] → ∀ a ∈ ls, ∀ b ∈ ls, a.1 ≠ b.1 → ¬ L a.1 <+: L b.1) → m' "left" = some (.ref Dl) → m' "begun" = some (.ref Db) → m' "pick" = some (.int (pk : Int) tp) →
    MkJ L' oW Wl zs zn rest pk tp m' (totLen (tx ls)) ((Db, LCg.lst (refs qs)) :: (Dl, listOf (strValues ls).toArray n) :: (L' + 1 + 1, oO') :: (L' + 1, oW) :: (Wl, listOf (strValues zs).toArray zn) :: (qs.map Pc.ent ++ rest))
theorem makers_spec (w : World) (Wl : Addr) (zs : List (Str × Tok)) (zn : Nat) (pk : Nat) (tp : Tok) (hl : zs.length = 3) (hd : ∀ z ∈ zs, Fine z.1 ∧ z.1.length ≤ 4 ∧ L z.1 ≠ []) :
  Does PySem.Challenge.rw_wr0021_02.row.prog w (Mine.frag.heap_1 w.params) topProg (.ref 204) 60 600 [.ref Wl, .int (pk : Int) tp] [(Wl, listOf (strValues zs).toArray zn)] (MkPost Wl zs zn) := by
  w_top off
  k_fill
  k_dflt (refine' does_ofC ?k1 ?k2 (fun _ kX => ?k3) ?k4 ?k5 (by decide) (by decide) ?_ ?k6 ?k7 ?k8; (case k1 => k_is); (case k2 => k_is); (case k3 => first | exact BindsTo.of_eq rfl | exact binds_K kX rfl (by k_is) rfl rfl rfl); (case k4 => exact rfl); (case k5 => decide); (case k6 => exact rfl); (case k7 => exact rfl); (case k8 => exact rfl)); intro loose mean mg mb dp un gd outer A₀ base g L' s₁ cells rest B F X N Y T G D hlt hdp hun; (try dsimp only); (try dsimp only [List.nil_append, List.cons_append] at N D hlt); have hL := F.ns.lt; (try (refine letA ?_; intro kA)); refine open_Q ?_; intro QB hQB
  obtain ⟨oO, oW, rfl, hoO, hoW⟩ := CellsAre.two Y
  replace hoW : oW.data = .cell (some (.ref Wl)) := hoW
  replace hoO : oO.data = .cell none := hoO
  replace F : Fr g L' s₁.heap (fun y => if y = "pick" then some (.int (pk : Int) tp) else none) := F
  clear Y
  dsimp only [List.nil_append, List.cons_append] at N
  have Dc : DN ((L' + 1 + 1, oO) :: (L' + 1, oW) :: (Wl, listOf (strValues zs).toArray zn) :: rest) := by
    have h := allLt_all hlt
    refine DN.cons_of (DN.cons_of D fun q hq => Nat.lt_succ_of_lt (h q hq)) fun q hq => ?_
    rcases List.mem_cons.mp hq with rfl | hq
    · exact Nat.lt_succ_self _
    · exact Nat.lt_succ_of_lt (Nat.lt_succ_of_lt (h q hq))
  have hGate : Gate "exec Assign cons ListComp" := ⟨⟩
  k_steps
  (repeat (with_reducible rename Gate _ => hG; clear hG))
  refine Stop.go ?_
  refine CompAssign_obl F rfl (by with_unfolding_all rfl) (by with_unfolding_all rfl) (fun I C D => turn_one ..) ?_ rfl rfl (by decide) rfl (by decide) (by intro _; rfl)
  k_steps
  (rename IsRange _ _ _ _ _ _ _ _ => R1)
  (rename Fr _ _ _ _ => F1)
  (rename News _ _ _ _ => N1)
  have hget : ∀ k, k < 3 → ∃ z, zs[k]? = some z ∧ z ∈ zs := fun k hk => ⟨_, List.getElem?_eq_getElem (by ktr_room), List.getElem_mem _⟩
  refine ⟨[], [], 3, _, (L' + 1 + 1, oO) :: (L' + 1, oW) :: (Wl, listOf (strValues zs).toArray zn) :: rest, fun i ys nw => ∃ ls : List (Str × Tok), ys = strValues ls ∧ nw = (L' + 1 + 1, oO) :: (L' + 1, oW) :: (Wl, listOf (strValues zs).toArray zn) :: rest ∧ ls.length ≤ i ∧ tx ls = (List.range i).filterMap (fun k => if wd (tx zs) k ∈ (tx zs).take k then none else some (wd (tx zs) k)),
    src_range R1 (small_one (by ktr_room) (by ktr_room) (by ktr_room) (by ktr_room)) _ (by rw [rangeSize_nat]; ktr_room), (by simp), ⟨F1, N1, G, rfl, Dc⟩, ⟨[], rfl, rfl, by simp, rfl⟩, ?_, ?_⟩
  · rintro I o C D' oC m₂ i u ys nw s₂ ⟨tu, rfl⟩ hi ⟨ls, rfl, rfl, hll, hls⟩ hC S hpl
    refine blk_name rfl rfl hC S fun oC' s₃ hC' S' => tests_one ?_
    generalize hTE : TurnEnd _ _ _ _ _ _ _ _ = TE; revert TE; refine wrap ?_; intro TE hTE
    obtain ⟨F2, N2, G2, ho2, D2⟩ := S'
    dsimp only [List.cons_append, List.nil_append] at N2 D2
    obtain ⟨⟨z, tz⟩, hz, hzm⟩ := hget i hi
    have hGate : Gate "subscriptTail" := ⟨⟩
    k_steps
    (repeat (with_reducible rename Gate _ => hG; clear hG))
    refine Stop.go ?_
    (rename Fr _ _ _ _ => F3)
    (rename News _ _ _ _ => N3)
    refine item_at (vs := strValues zs) (v := .str z tz) (News.isList N3 (by k_mem)) (by ktr_room) (by ktr_room) (by rw [show (0 + (i : Int) * 1).toNat = i by ktr_room]; unfold strValues; rw [List.getElem?_map, hz]; rfl) ?_ (by with_unfolding_all rfl)
    have hGate : Gate "subscriptTail Name Slice ref ref" := ⟨⟩
    k_steps
    (repeat (with_reducible rename Gate _ => hG; clear hG))
    refine Stop.go ?_
    (rename Fr _ _ _ _ => F4)
    (rename News _ _ _ _ => N4)
    refine kms_slice_lit (zs := strValues (zs.take i)) F4 N4 (News.isList N4 (by k_mem)) .none (.int _ _) (by rw [show (0 + (i : Int) * 1) = (i : Int) by ktr_room]; exact pick_take zs i) ?_ (by with_unfolding_all rfl) (by intro _; with_unfolding_all rfl) (by rw [sizeLine_eq]; simp [strV_len]; ktr_room)
    intro T5 h5 F5 N5 l5
    have hGate : Gate "compareOp NotIn str ref" := ⟨⟩
    k_steps
    (repeat (with_reducible rename Gate _ => hG; clear hG))
    refine Stop.go ?_
    refine notin_txts (News.isList N5 (.head _)) ?_
    have hGate : Gate "subscriptTail" := ⟨⟩
    k_steps
    · (rename _ ∈ _ => hin)
      subst hTE
      refine ⟨_, ⟨F5, fun q hq => N5 q (.tail _ hq), G2, ho2, D2⟩, oC', _, _, _, rfl, hC', trivial, ls, rfl, rfl, by ktr_room, ?_⟩
      rw [List.range_succ, List.filterMap_append, ← hls]
      have : wd (tx zs) i ∈ (tx zs).take i := by
        rw [wd_tx hz]
        unfold tx
        rw [← List.map_take]
        exact tx_mem.mp hin
      simp [this]
    · (rename ¬ _ ∈ _ => hin)
      subst hTE
      refine emit_obl (ys := strValues ls) ?_
      generalize hEE : EltEnd _ _ _ _ _ _ _ _ _ _ _ _ = EE; revert EE; refine wrap ?_; intro EE hEE
      k_steps
      (repeat (with_reducible rename Gate _ => hG; clear hG))
      refine Stop.go ?_
      (rename Fr _ _ _ _ => F6)
      (rename News _ _ _ _ => N6)
      refine item_at (vs := strValues zs) (v := .str z tz) (News.isList N6 (by k_mem)) (by ktr_room) (by ktr_room) (by rw [show (0 + (i : Int) * 1).toNat = i by ktr_room]; unfold strValues; rw [List.getElem?_map, hz]; rfl) ?_ (by with_unfolding_all rfl)
      subst hEE
      refine ⟨oC', _, _, hC', trivial, ⟨F6, fun q hq => N6 q (.tail _ hq), G2, ho2, D2⟩, by rw [sizeLine_eq, strV_len]; ktr_room, ls ++ [(z, tz)], by simp [strValues], rfl, by simp; ktr_room, ?_⟩
      rw [List.range_succ, List.filterMap_append, ← hls]
      have : ¬ wd (tx zs) i ∈ (tx zs).take i := by
        rw [wd_tx hz]
        unfold tx
        rw [← List.map_take]
        exact fun h => hin (tx_mem.mpr h)
      simp only [List.filterMap_cons, if_neg this, List.filterMap_nil]
      rw [wd_tx hz]
      simp [tx]
  · rintro D' ys nw s₄ ⟨ls, rfl, rfl, hll, hls⟩ S s₅ S5
    obtain ⟨F5, N5, G5, ho5, D5⟩ := S5
    dsimp only [List.cons_append, List.nil_append] at N5 D5
    replace F5 : Fr g L' s₅.heap _ := F5
    replace N5 : News g L' s₅.heap _ := N5
    replace ho5 : s₅.os = s₁.os := ho5
    (try clear S); (try clear R1); (try clear F1); (try clear N1)
    have hJ0 : MakeJ (tx zs) (tx ls) := by
      match zs, hl, hd, hls with
      | [a, b, c], _, hd, hls =>
        have := make_start (hd a (.head _)).2.2 (hd b (.tail _ (.head _))).2.2 (hd c (.tail _ (.tail _ (.head _)))).2.2
        rw [hls]; exact this
    have hd2 : ∀ z ∈ zs, Fine z.1 ∧ z.1.length ≤ 4 := fun z hz => ⟨(hd z hz).1, (hd z hz).2.1⟩
    have hGate : Gate "call ref" := ⟨⟩
    k_steps
    (repeat (with_reducible rename Gate _ => hG; clear hG))
    refine Stop.go ?_
    (rename Fr _ _ _ _ => F6)
    (rename News _ _ _ _ => N6)
    have hT := make_texts hJ0 hd2
    refine Does.at (begun_spec w D' ls (strValues ls).length hll fun z hz => ⟨(hT z hz).1.nodot, (hT z hz).2⟩) B F6 X N6 T G5 D5 rfl ((L' + 1 + 1, oO) :: (L' + 1, oW) :: (Wl, listOf (strValues zs).toArray zn) :: rest) (List.Perm.refl _) (by first | exact room1 (by assumption) (by decide) | exact room2 (by assumption) (by decide) | exact room3 (by assumption) (by decide) | ktr_room) (by first | exact room1 (by assumption) (by decide) | exact room2 (by assumption) (by decide) | exact room3 (by assumption) (by decide) | ktr_room) ?_
    rintro v s7 nw F7 N7 G7 ho7 D7 ⟨Db, qs, rfl, rfl, hqn, hqs, hqe⟩
    have hGate : Gate "exec While" := ⟨⟩
    k_steps
    (repeat (with_reducible rename Gate _ => hG; clear hG))
    refine Stop.go ?_
    (rename Fr _ _ _ _ => F8)
    (rename News _ _ _ _ => N8)
    refine While_obl (h₀ := g) (L := L') (os := s₁.os) (fun k m' nw => MkJ L' oW Wl zs zn rest pk tp m' k nw) _ ⟨F8, News.perm N8 ?pm, G7, ho7.trans ho5, DN.perm D7 ?pm⟩ (.mk D' Db oO ls (strValues ls).length qs hJ0 ⟨_, hoO⟩ hqn hqs hqe (by ktr_unf) (by ktr_unf) (by ktr_unf)) ?_
    case pm => exact (perm_of_cnt fun q => by simp only [pile, cnt_cons, cnt_app, cnt_nil, List.map_append, List.map_cons, List.map_nil, List.append_assoc, List.cons_append, List.nil_append, Nat.add_zero, Nat.zero_add] <;> first | ac_rfl | ktr_room)
    (try clear F5 N5); (try clear F6 N6); (try clear F7 N7 D7); (try clear F8 N8)
    clear hJ0 hT hqs hqe hqn hls hll D5 G5 ho5 G7 ho7 Dc hoO
    rintro k m' nw s₈ ⟨Dl, Db, oO', ls, n, qs, hJ, ⟨vO, hoO'⟩, hqn, hqs, hqe, hm1, hm2, hm3⟩ ⟨F5, N5, G5, ho5, D5⟩
    generalize hTQ : TurnPost _ _ _ _ _ _ = TQ; revert TQ; refine wrap ?_; intro TQ hTQ
    have hT := make_texts hJ hd2
    have hl3 : ls.length ≤ 3 := by have := hJ.sz; rwa [tx_len] at this
    have hok : ∀ q ∈ qs, PySem.PyData.strOk q.f = true ∧ PySem.PyData.strOk q.g = true := fun q hq => by
      obtain ⟨⟨a, ha, e1⟩, ⟨b, hb, e2⟩, _⟩ := hqs q hq
      rw [← e1, ← e2]
      exact ⟨(hT a ha).1.ok, (hT b hb).1.ok⟩
    have hGate : Gate "compareOp NotEq ref ref" := ⟨⟩
    k_steps
    (repeat (with_reducible rename Gate _ => hG; clear hG))
    refine Stop.go ?_
    (rename Fr _ _ _ _ => F6)
    (rename News _ _ _ _ => N6)
    refine ne_pcs (t1 := qs) (t2 := []) (N6 _ (.tail _ (.head _))).1 rfl rfl (fun q hq => (N6 _ (.tail _ (.tail _ (.tail _ (.tail _ (.tail _ (.tail _ (List.mem_append_left _ (List.mem_map.mpr ⟨q, hq, rfl⟩))))))))).1) (N6 _ (.head _)).1 rfl rfl (by simp) hok (by simp) (by show un + 64 < cLine; ktr_room) ?_
    replace N6 : News g L' _ ((Db, LCg.lst (refs qs)) :: (Dl, listOf (strValues ls).toArray n) :: (L' + 1 + 1, oO') :: (L' + 1, oW) :: (Wl, listOf (strValues zs).toArray zn) :: (qs.map Pc.ent ++ rest)) := fun q hq => N6 q (.tail _ hq)
    by_cases hq0 : qs = []
    · rw [hq0, decide_eq_true rfl]
      k_steps
      have hsub : ∃ r, ((Db, LCg.lst (refs qs)) :: (Dl, listOf (strValues ls).toArray n) :: (L' + 1 + 1, oO') :: (L' + 1, oW) :: (Wl, listOf (strValues zs).toArray zn) :: (qs.map Pc.ent ++ rest)).Perm (r ++ ([(Dl, listOf (strValues ls).toArray n), (Wl, listOf (strValues zs).toArray zn)] ++ rest)) := ⟨(Db, LCg.lst (refs qs)) :: (L' + 1 + 1, oO') :: (L' + 1, oW) :: qs.map Pc.ent, (perm_of_cnt fun q => by simp only [pile, cnt_cons, cnt_app, cnt_nil, List.map_append, List.map_cons, List.map_nil, List.append_assoc, List.cons_append, List.nil_append, Nat.add_zero, Nat.zero_add] <;> first | ac_rfl | ktr_room)⟩
      subst hQB; refine BodyPost.mk _ F6 (sub_nw N6 hsub) G5 ho5 (sub_dn D5 hsub) (MkPost.mk Dl ls n hJ fun a ha b hb hab => ?_)
      obtain ⟨x, hx, rfl⟩ := List.mem_map.mp ha
      obtain ⟨y, hy, rfl⟩ := List.mem_map.mp hb
      exact hqe hq0 x hx y hy fun e => hab (by rw [e])
    · have hfq : ¬ fg qs = fg [] := fun e => hq0 (List.map_eq_nil_iff.mp e)
      rw [decide_eq_false hfq]
      have hql : 0 < qs.length := List.length_pos_iff.mpr hq0
      have hrl : (refs qs).length = qs.length := refs_len qs
      have hGate : Gate "subscriptTail" := ⟨⟩
      k_steps
      (repeat (with_reducible rename Gate _ => hG; clear hG))
      refine Stop.go ?_
      (rename Fr _ _ _ _ => F7)
      (rename News _ _ _ _ => N7)
      have hm0 : 0 ≤ ((pk : Nat) : Int).fmod (((refs qs).length : Nat) : Int) := by rw [Int.fmod_eq_emod_of_nonneg _ (by ktr_room)]; exact Int.emod_nonneg _ (by ktr_room)
      have hm1 : ((pk : Nat) : Int).fmod (((refs qs).length : Nat) : Int) < (((refs qs).length : Nat) : Int) := by rw [Int.fmod_eq_emod_of_nonneg _ (by ktr_room)]; exact Int.emod_lt_of_pos _ (by ktr_room)
      have him : (((pk : Nat) : Int).fmod (((refs qs).length : Nat) : Int)).toNat < qs.length := by ktr_room
      obtain ⟨q, hq2⟩ : ∃ q, qs[(((pk : Nat) : Int).fmod (((refs qs).length : Nat) : Int)).toNat]? = some q := ⟨_, List.getElem?_eq_getElem him⟩
      have hqm := List.mem_of_getElem? hq2
      obtain ⟨⟨za, hza, hea⟩, ⟨zb, hzb, heb⟩, hqne, hqp⟩ := hqs q hqm
      refine item_at (vs := refs qs) (v := .ref q.T) (News.isList N7 (.head _)) hm0 (by ktr_room) (by unfold refs; rw [List.getElem?_map]; unfold refs at hq2; rw [hq2]; rfl) ?_ (by with_unfolding_all rfl)
      refine tup_cell2 (pre := [(Db, LCg.lst (refs qs)), (Dl, listOf (strValues ls).toArray n)]) (c := L' + 1 + 1) (o := oO') rfl ⟨F7, N7, G5, ho5, D5⟩ rfl rfl rfl hoO' rfl (.tail _ (.tail _ (.tail _ (.tail _ (.tail _ (List.mem_append_left _ (List.mem_map.mpr ⟨q, hqm, rfl⟩)))))) ) rfl ⟨_, rfl⟩ ?_
      rintro s9 oO2 hg9 hoO2 ⟨F9, N9, G9, ho9, D9⟩
      dsimp only [List.cons_append, List.nil_append] at N9 D9
      replace F9 : Fr g L' s9.heap _ := F9
      replace N9 : News g L' s9.heap _ := N9
      clear N7 F7 D5 G5 ho5 hoO' hm0 hm1 him hq2
      (try clear F5); (try clear N5)
      have hGate : Gate "exec Assign cons ListComp" := ⟨⟩
      k_steps
      (repeat (with_reducible rename Gate _ => hG; clear hG))
      refine Stop.go ?_
      refine CompAssign_obl F9 rfl (by with_unfolding_all rfl) (by with_unfolding_all rfl) (fun I C D => turn_one ..) ?_ rfl rfl (by decide) rfl (by decide) (by intro _; rfl)
      k_steps
      (rename Fr _ _ _ _ => F10)
      (rename News _ _ _ _ => N10)
      have pm : ((Db, LCg.lst (refs qs)) :: (Dl, listOf (strValues ls).toArray n) :: (L' + 1 + 1, oO2) :: (L' + 1, oW) :: (Wl, listOf (strValues zs).toArray zn) :: (qs.map Pc.ent ++ rest)).Perm ([(Dl, listOf (strValues ls).toArray n)] ++ ((L' + 1 + 1, oO2) :: (L' + 1, oW) :: (Wl, listOf (strValues zs).toArray zn) :: (Db, LCg.lst (refs qs)) :: (qs.map Pc.ent ++ rest))) := (by exact pm_idx [[_], [_], [_], [_], [_], _, _] [1, 2, 3, 4, 0, 5, 6] (by kernel_rfl))
      refine ⟨[Dl], [(Dl, listOf (strValues ls).toArray n)], ls.length, _, (L' + 1 + 1, oO2) :: (L' + 1, oW) :: (Wl, listOf (strValues zs).toArray zn) :: (Db, LCg.lst (refs qs)) :: (qs.map Pc.ent ++ rest), fun i ys nw => ∃ ms : List (Str × Tok), ys = strValues ms ∧ nw = (L' + 1 + 1, oO2) :: (L' + 1, oW) :: (Wl, listOf (strValues zs).toArray zn) :: (Db, LCg.lst (refs qs)) :: (qs.map Pc.ent ++ rest) ∧ ms.length ≤ i ∧ tx ms = ((tx ls).take i).filter (fun x => decide (x ≠ L q.g)),
        by rw [← strV_len ls]; exact src_list (N10.isList (by k_mem)), by simp, ⟨F10, News.perm N10 pm, G9, rfl, DN.perm D9 pm⟩, ⟨[], rfl, rfl, by simp, rfl⟩, ?_, ?_⟩
      · rintro I o C D' oC m₂ i u ys nw s₂ hPi hi ⟨ms, rfl, rfl, hml, hms⟩ hC S hpl
        obtain ⟨⟨z, tz⟩, hz, rfl⟩ := strV_at hPi
        refine blk_name rfl rfl hC S fun oC' s₃ hC' S' => tests_one ?_
        generalize hTE : TurnEnd _ _ _ _ _ _ _ _ = TE; revert TE; refine wrap ?_; intro TE hTE
        obtain ⟨F11, N11, G11, ho11, D11⟩ := S'
        dsimp only [List.cons_append, List.nil_append] at N11 D11
        k_steps
        · (rename (_ != _) = true => hne)
          have hne : z ≠ q.g := by simpa using hne
          subst hTE
          refine emit_obl (keep := [(Dl, listOf (strValues ls).toArray n)]) (ys := strValues ms) ?_
          generalize hEE : EltEnd _ _ _ _ _ _ _ _ _ _ _ _ = EE; revert EE; refine wrap ?_; intro EE hEE
          k_steps
          (rename Fr _ _ _ _ => F12)
          (rename News _ _ _ _ => N12)
          subst hEE
          refine ⟨oC', _, _, hC', trivial, ⟨F12, N12, G11, ho11, D11⟩, by rw [sizeLine_eq, strV_len]; ktr_room, ms ++ [(z, tz)], by simp [strValues], rfl, by simp; ktr_room, ?_⟩
          rw [List.take_add_one, List.filter_append, ← hms]
          unfold tx
          rw [List.getElem?_map, hz, List.map_append]
          have : L z ≠ L q.g := fun e => hne (str_ext e)
          simp [this]
        · (rename (_ != _) = false => hne)
          have hne : z = q.g := by simpa using hne
          subst hTE
          refine ⟨_, ⟨F11, N11, G11, ho11, D11⟩, oC', _, _, _, rfl, hC', trivial, ms, rfl, rfl, by ktr_room, ?_⟩
          rw [List.take_add_one, List.filter_append, ← hms]
          unfold tx
          rw [List.getElem?_map, hz, hne]
          simp
      · rintro D' ys nw s₄ ⟨ms, rfl, rfl, hml, hms⟩ S s₅ S5
        obtain ⟨F11, N11, G11, ho11, D11⟩ := S5
        dsimp only [List.cons_append, List.nil_append] at N11 D11
        replace F11 : Fr g L' s₅.heap _ := F11
        replace N11 : News g L' s₅.heap _ := N11
        replace ho11 : s₅.os = s₁.os := ho11.trans ho9
        (try clear S); (try clear F9); (try clear N9); (try clear F10); (try clear N10); (try clear D9)
        rw [List.take_of_length_le (by rw [tx_len]; exact Nat.le_refl _)] at hms
        have hgl : q.g.length ≤ 4 := by rw [← heb]; exact (hT zb hzb).2
        have hfl : q.f.length ≤ 4 := by rw [← hea]; exact (hT za hza).2
        obtain ⟨hJ2, htot⟩ := hJ.step (one := L q.f) (other := L q.g) (List.mem_map.mpr ⟨za, hza, by rw [hea]⟩) (List.mem_map.mpr ⟨zb, hzb, by rw [heb]⟩) (fun e => hqne (str_ext e)) hqp
        unfold makeStep at hJ2 htot
        rw [← hms] at hJ2 htot
        have hGate : Gate "exec If" := ⟨⟩
        k_steps
        (repeat (with_reducible rename Gate _ => hG; clear hG))
        refine Stop.go ?_
        (rename Fr _ _ _ _ => F12)
        (rename News _ _ _ _ => N12)
        refine cut_at (fun s' => ∃ ms' n', LoopSt g L' s₁.os s' (fun z => if z = "left" then some (.ref D') else if z = "one" then some (.str q.f q.tf) else m' z) ((Dl, listOf (strValues ls).toArray n) :: (D', listOf (strValues ms').toArray n') :: (L' + 1 + 1, oO2) :: (L' + 1, oW) :: (Wl, listOf (strValues zs).toArray zn) :: (Db, LCg.lst (refs qs)) :: (qs.map Pc.ent ++ rest)) ∧ MakeJ (tx zs) (tx ms') ∧ totLen (tx ms') < totLen (tx ls)) ?_ ?_ ()
        · skip
          generalize hCU : Cut _ _ = CU; revert CU; refine wrap ?_; intro CU hCU
          have hGate : Gate "compareOp NotIn str ref" := ⟨⟩
          k_steps
          (repeat (with_reducible rename Gate _ => hG; clear hG))
          refine Stop.go ?_
          (rename Fr _ _ _ _ => F13)
          (rename News _ _ _ _ => N13)
          refine notin_txts (News.isList N13 (.tail _ (.head _))) ?_
          have hLr : L (Txt.slice q.g (some ((q.f.length : Nat) : Int)) none) = (L q.g).drop (L q.f).length := by rw [L_drop, L_len]
          by_cases hin : Txt.slice q.g (some ((q.f.length : Nat) : Int)) none ∈ ms.map (·.1)
          · rw [decide_eq_true hin]
            have hin2 := tx_mem.mp hin
            rw [hLr] at hin2
            simp only [if_pos hin2] at hJ2 htot
            k_steps
            subst hCU
            exact Cut.next ⟨ms, _, ⟨F13, N13, G11, ho11, D11⟩, hJ2, htot⟩
          · rw [decide_eq_false hin]
            have hin2 := fun h => hin (tx_mem.mpr (hLr ▸ h))
            simp only [if_neg hin2] at hJ2 htot
            k_steps
            (rename Fr _ _ _ _ => F14)
            (rename News _ _ _ _ => N14)
            refine append_K (hsz := ?hsz) F14 N14 (upd_dn D11 (.tail .head)) ?_
            case hsz => rw [sizeLine_eq]; simp [strV_len]; ktr_room
            intro h15 F15 N15
            have exs : ∀ x t k, listOf ((strValues ms).toArray.push (.str x t)) k = listOf (strValues (ms ++ [(x, t)])).toArray k := fun x t k => by rw [List.push_toArray]; unfold strValues; rw [List.map_append]; rfl
            rw [exs] at N15
            k_steps
            subst hCU
            refine Cut.next ⟨ms ++ [(_, _)], _, ⟨F15, N15, G11, ho11, D11⟩, ?_, ?_⟩
            · rw [show tx (ms ++ [(Txt.slice q.g (some ((q.f.length : Nat) : Int)) none, _)]) = tx ms ++ [L (Txt.slice q.g (some ((q.f.length : Nat) : Int)) none)] from by simp [tx], hLr]; exact hJ2
            · rw [show tx (ms ++ [(Txt.slice q.g (some ((q.f.length : Nat) : Int)) none, _)]) = tx ms ++ [L (Txt.slice q.g (some ((q.f.length : Nat) : Int)) none)] from by simp [tx], hLr]; exact htot
        · rintro s' ⟨ms', n', ⟨F13, N13, G13, ho13, D13⟩, hJ3, htot3⟩
          have hT3 := make_texts hJ3 hd2
          have hGate : Gate "call ref" := ⟨⟩
          k_steps
          (repeat (with_reducible rename Gate _ => hG; clear hG))
          refine Stop.go ?_
          (rename Fr _ _ _ _ => F14)
          (rename News _ _ _ _ => N14)
          refine Does.at (begun_spec w D' ms' n' (by have := hJ3.sz; rwa [tx_len] at this) fun z hz => ⟨(hT3 z hz).1.nodot, (hT3 z hz).2⟩) B F14 X N14 T G13 D13 rfl ((Dl, listOf (strValues ls).toArray n) :: (L' + 1 + 1, oO2) :: (L' + 1, oW) :: (Wl, listOf (strValues zs).toArray zn) :: (Db, LCg.lst (refs qs)) :: (qs.map Pc.ent ++ rest)) (by exact pm_idx [[_], [_], [_], [_], [_], [_], _, _] [1, 0, 2, 3, 4, 5, 6, 7] (by kernel_rfl)) (by first | exact room1 (by assumption) (by decide) | exact room2 (by assumption) (by decide) | exact room3 (by assumption) (by decide) | ktr_room) (by first | exact room1 (by assumption) (by decide) | exact room2 (by assumption) (by decide) | exact room3 (by assumption) (by decide) | ktr_room) ?_
          rintro v s15 nw F15 N15 G15 ho15 D15 ⟨Db2, qs2, rfl, rfl, hqn2, hqs2, hqe2⟩
          k_steps
          (rename Fr _ _ _ _ => F16)
          (rename News _ _ _ _ => N16)
          have hsub : ∃ r, (((Db2, LCg.lst (refs qs2)) :: (qs2.map Pc.ent ++ [(D', listOf (strValues ms').toArray n')])) ++ ((Dl, listOf (strValues ls).toArray n) :: (L' + 1 + 1, oO2) :: (L' + 1, oW) :: (Wl, listOf (strValues zs).toArray zn) :: (Db, LCg.lst (refs qs)) :: (qs.map Pc.ent ++ rest))).Perm (r ++ ((Db2, LCg.lst (refs qs2)) :: (D', listOf (strValues ms').toArray n') :: (L' + 1 + 1, oO2) :: (L' + 1, oW) :: (Wl, listOf (strValues zs).toArray zn) :: (qs2.map Pc.ent ++ rest))) := ⟨(Dl, listOf (strValues ls).toArray n) :: (Db, LCg.lst (refs qs)) :: qs.map Pc.ent, (perm_of_cnt fun q => by simp only [pile, cnt_cons, cnt_app, cnt_nil, List.map_append, List.map_cons, List.map_nil, List.append_assoc, List.cons_append, List.nil_append, Nat.add_zero, Nat.zero_add] <;> first | ac_rfl | ktr_room)⟩
          subst hTQ
          exact ⟨_, _, ⟨F16, sub_nw N16 hsub, G15, ho15.trans ho13, sub_dn D15 hsub⟩, _, htot3, .mk D' Db2 oO2 ms' n' qs2 hJ3 ⟨_, hoO2⟩ hqn2 hqs2 hqe2 (by ktr_unf) (by ktr_unf) (by ktr_unf)⟩
end Mine
end
section
open PySem PySem.W PyProof.Rows
open Mine
-- a cell of the frame, read in a block
local macro_rules | `(tactic| walk_at "eval Name") => `(tactic| (k_here; (with_reducible show wpAny _ _ (eval (Expr.Name _ _) (compEnvC _ _ _ _)) _ _ _); k_dflt (first | (refine' lcf_free ?N ?c ?m ?d ?_ ?a ?b; (case a => rfl); (case b => rfl); (case N => k_asm); (case c => rfl); (case m => k_mem); (case d => k_asm); k_whole) | (refine' lcf_cell ?N ?c ?m ?d ?_ ?a ?b; (case a => rfl); (case b => rfl); (case N => k_asm); (case c => rfl); (case m => k_mem); (case d => k_asm); k_whole))))
section
open PySem PySem.W PyProof.Rows
set_option maxRecDepth 100000
set_option maxHeartbeats 2000000
namespace Mine
/-- an entry of the waiting list: its tuple, its text, its two rows -/
structure AE where
  T : Addr
  s : Str
  t : Tok
  A : Addr
  B : Addr
  xs : List (Nat × Tok)
  ys : List (Nat × Tok)
noncomputable abbrev tup3 (a b c : Value) : Obj := { cls := .type "tuple", data := .seq #[a, b, c] }
noncomputable def AE.ent (e : AE) : Addr × Obj := (e.T, tup3 (.str e.s e.t) (.ref e.A) (.ref e.B))
noncomputable def AE.en (e : AE) : En := ⟨L e.s, e.xs.map (·.1), e.ys.map (·.1)⟩
noncomputable def erefs (es : List AE) : List Value := es.map fun e => .ref e.T
/-- the rows' lists -/
noncomputable def rowL (ro : List (Addr × List (Nat × Tok))) : Led := ro.map fun p => (p.1, listOf (ivals p.2).toArray 0)
theorem rowL_cons (a : Addr) (x : List (Nat × Tok)) (ro : List (Addr × List (Nat × Tok))) : rowL ((a, x) :: ro) = (a, listOf (ivals x).toArray 0) :: rowL ro := rfl
theorem rowL_app (ro ro' : List (Addr × List (Nat × Tok))) : rowL (ro ++ ro') = rowL ro ++ rowL ro' := by simp [rowL]
noncomputable def InR (ro : List (Addr × List (Nat × Tok))) (es : List AE) : Prop := ∀ e ∈ es, (e.A, e.xs) ∈ ro ∧ (e.B, e.ys) ∈ ro
theorem InR.more {ro ro' : List (Addr × List (Nat × Tok))} {es : List AE} (h : InR ro es) : InR (ro' ++ ro) es := fun e he => ⟨List.mem_append_right _ (h e he).1, List.mem_append_right _ (h e he).2⟩
theorem erefs_len (es : List AE) : (erefs es).length = es.length := by simp [erefs]
/-- what the first entries are, behind i turns of the outer and j of the inner loop -/
structure St0 (W : List (List Nat)) (wait : List En) (i j : Nat) : Prop where
  ok : ∀ e ∈ wait, EnOk W 2 e
  len : wait.length ≤ 3 * i + j
  st : ∀ x y, x < W.length → y < W.length → x < i ∨ (x = i ∧ y < j) → x ≠ y → (x < y ∨ wd W x ≠ wd W y) → wd W x <+: wd W y → ∃ e ∈ wait, e.r = (wd W y).drop (wd W x).length
theorem St0.skip {W : List (List Nat)} {wait : List En} {i j : Nat} (h : St0 W wait i j) (hn : ¬ (i ≠ j ∧ (i < j ∨ wd W i ≠ wd W j) ∧ wd W i <+: wd W j)) : St0 W wait i (j + 1) := by
  refine ⟨h.ok, Nat.le_succ_of_le h.len, fun x y hx hy hxy h1 h2 h3 => ?_⟩
  by_cases e : x = i ∧ y = j
  · obtain ⟨rfl, rfl⟩ := e; exact absurd ⟨h1, h2, h3⟩ hn
  · exact h.st x y hx hy (by ktr_room) h1 h2 h3
theorem St0.put {W : List (List Nat)} {wait : List En} {i j : Nat} (h : St0 W wait i j) (hi : i < W.length) (hj : j < W.length) (h1 : i ≠ j) (h3 : wd W i <+: wd W j) : St0 W (wait ++ [⟨(wd W j).drop (wd W i).length, [i], [j]⟩]) i (j + 1) := by
  refine ⟨fun e he => ?_, by have := h.len; simp; ktr_room, fun x y hx hy hxy h1 h2 h3 => ?_⟩
  · rcases List.mem_append.mp he with h4 | h4
    · exact h.ok e h4
    · rw [List.mem_singleton.mp h4]; exact .start hi hj h1 h3
  · by_cases e : x = i ∧ y = j
    · obtain ⟨rfl, rfl⟩ := e; exact ⟨_, List.mem_append_right _ (.head _), rfl⟩
    · obtain ⟨e, he, q⟩ := h.st x y hx hy (by ktr_room) h1 h2 h3
      exact ⟨e, List.mem_append_left _ he, q⟩
theorem St0.turn {W : List (List Nat)} {wait : List En} {i : Nat} (h : St0 W wait i 3) (h3 : W.length = 3) : St0 W wait (i + 1) 0 := by
  refine ⟨h.ok, by have := h.len; ktr_room, fun x y hx hy hxy => h.st x y hx hy (by ktr_room)⟩
theorem St0.fin {W : List (List Nat)} {wait : List En} (h : St0 W wait 3 0) (h3 : W.length = 3) : AJ W wait [] 0 none := .begin h.ok (by have := h.len; ktr_room) fun i j hi hj a b c => h.st i j hi hj (by ktr_room) a b c
theorem tup_tri {prog : Program} {w : World} {A : Around} {E : Value → Shared → Prop} {s : Shared} {h₀ : Heap} {env : Env} {x y z : Str} {px py pz pos : Pos} {k : Nat} {m : Str → Option Value} {led : Led} {T : Addr} {oT : Obj} {a b c : Value} {Q : Unit → Shared → Prop} (hh : A.handled = none) (hx : env.kindOf x = some .local) (hy : env.kindOf y = some .local) (hz : env.kindOf z = some .local) (hk : env.scope.kind = .function)
    (F : Fr h₀ env.locals s.heap m) (N : News h₀ env.locals s.heap led) (hT : (T, oT) ∈ led) (hc : oT.cls = .type "tuple") (hd : ∃ n, oT.data = .seq #[a, b, c] n)
    (h : ∀ h' tk, Fr h₀ env.locals h' (fun u => if u = z then some c else if u = y then some b else if u = x then some a else m u) → News h₀ env.locals h' led → Q () { s with heap := h', toks := tk }) :
    wpAny (model prog w) A (assign (.Tuple [.Name x px, .Name y py, .Name z pz] k pos) env (.ref T)) Q E s := by
  refine wpAny_assign_Tuple hh ⟨oT, (N _ hT).1, hc, hd⟩ rfl rfl fun h' he => ?_
  have up : ∀ b o, s.heap.get? b = some o → h'.get? b = some o := fun b o e => he b o (Nat.ne_of_lt (Heap.lt_size e)) e
  have F₁ := F.keeps up
  have N₁ := N.grown up
  show wpAny _ A (assignInOrder [assign (.Name x px) env, assign (.Name y py) env, assign (.Name z pz) env] [a, b, c]) Q _ _
  refine wpAny_assignInOrder_more (wpAny_assign_Name (wpAny_storeName_local hx F₁.ns (fun h₂ hn hs => ?_) (by rw [hk]; rfl)))
  refine wpAny_assignInOrder_more (wpAny_assign_Name (wpAny_storeName_local hy hn (fun h₃ hn' hs' => ?_) (by rw [hk]; rfl)))
  refine wpAny_assignInOrder_more (wpAny_assign_Name (wpAny_storeName_local hz hn' (fun h₄ hn'' hs'' => wpAny_assignInOrder_none ?_) (by rw [hk]; rfl)))
  exact h _ _ (((F₁.set hn hs).set hn' hs').set hn'' hs'') (((N₁.set hs).set hs').set hs'')
theorem two_of {α : Type} {l : List α} {a b : α} (ha : a ∈ l) (hb : b ∈ l) (hne : a ≠ b) : ∃ r, l.Perm (a :: b :: r) := by
  obtain ⟨s, t, rfl⟩ := List.append_of_mem ha
  have hb2 : b ∈ s ++ t := by
    rcases List.mem_append.mp hb with h | h
    · exact List.mem_append_left _ h
    · rcases List.mem_cons.mp h with h | h
      · exact absurd h.symm hne
      · exact List.mem_append_right _ h
  obtain ⟨s2, t2, h2⟩ := List.append_of_mem hb2
  exact ⟨s2 ++ t2, List.perm_middle.trans ((show (s ++ t).Perm (b :: (s2 ++ t2)) by rw [h2]; exact List.perm_middle).cons a)⟩
noncomputable abbrev aflat (D Sn c : Addr) (oW : Obj) (Wl : Addr) (zs : List (Str × Tok)) (zn : Nat) (es : List AE) (wn : Nat) (ss : List (Str × Tok)) (sn : Nat) (ro : List (Addr × List (Nat × Tok))) (R : Led) : Led := (D, listOf (erefs es).toArray wn) :: (Sn, listOf (strValues ss).toArray sn) :: (c, oW) :: (Wl, listOf (strValues zs).toArray zn) :: (es.map AE.ent ++ (rowL ro ++ R))
theorem AJ.fin' {W : List (List Nat)} {wait : List En} {seen : List (List Nat)} {pos : Nat} {r : List Nat} (J : AJ W wait seen pos (some (r, 3))) (h : W.length = 3) : AJ W wait seen pos none := AJ.fin (r := r) (h ▸ J)
/-- the entries of the first two loops; between the turns of the while; between the words -/
inductive AlJ (W : List (List Nat)) (e1 e2 : Addr × Obj) (rest : Led) (i j : Nat) (ys : List Value) : Led → Prop
  | mk (es : List AE) (ro : List (Addr × List (Nat × Tok))) : ys = erefs es → InR ro es → St0 W (es.map AE.en) i j → AlJ W e1 e2 rest i j ys (e1 :: e2 :: (es.map AE.ent ++ (rowL ro ++ rest)))
inductive AwJ (D' Sn c : Addr) (oW : Obj) (Wl : Addr) (zs : List (Str × Tok)) (zn : Nat) (rest : Led) (m' : Str → Option Value) : Nat → Led → Prop
  | mk (es : List AE) (ro : List (Addr × List (Nat × Tok))) (wn : Nat) (ss : List (Str × Tok)) (sn at_ : Nat) (ta : Tok) : InR ro es → AJ (tx zs) (es.map AE.en) (tx ss) at_ none → m' "waiting" = some (.ref D') → m' "seen" = some (.ref Sn) → m' "at" = some (.int (at_ : Int) ta) → AwJ D' Sn c oW Wl zs zn rest m' (45 - at_) (aflat D' Sn c oW Wl zs zn es wn ss sn ro rest)
inductive AfJ (D' Sn c : Addr) (oW : Obj) (Wl : Addr) (zs : List (Str × Tok)) (zn : Nat) (rest : Led) (e : AE) (ss : List (Str × Tok)) (sn2 at_ k : Nat) (m' : Str → Option Value) : Led → Prop
  | mk (es2 : List AE) (ro2 : List (Addr × List (Nat × Tok))) (wn2 : Nat) (ta2 : Tok) : InR ro2 es2 → (e.A, e.xs) ∈ ro2 → (e.B, e.ys) ∈ ro2 → AJ (tx zs) (es2.map AE.en) (tx ss) (at_ + 1) (some (e.en.r, k)) → m' "waiting" = some (.ref D') → m' "seen" = some (.ref Sn) → m' "at" = some (.int ((at_ + 1 : Nat) : Int) ta2) → m' "rest" = some (.str e.s e.t) → m' "lesser" = some (.ref e.A) → m' "longer" = some (.ref e.B) →
    AfJ D' Sn c oW Wl zs zn rest e ss sn2 at_ k m' (aflat D' Sn c oW Wl zs zn es2 wn2 ss sn2 ro2 rest)
/-- what is given back -/
inductive AlPost (Wl : Addr) (zs : List (Str × Tok)) (zn : Nat) : Value → Led → Prop
  | none (R : Addr) : UD (tx zs) → AlPost Wl zs zn (.ref R) [(R, listOf #[] 0), (Wl, listOf (strValues zs).toArray zn)]
  | two (R A B : Addr) (xs ys : List (Nat × Tok)) : EnOk (tx zs) 14 ⟨[], xs.map (·.1), ys.map (·.1)⟩ → AlPost Wl zs zn (.ref R) [(R, listOf [Value.ref A, Value.ref B].toArray 0), (A, listOf (ivals xs).toArray 0), (B, listOf (ivals ys).toArray 0), (Wl, listOf (strValues zs).toArray zn)]
theorem alike_spec (w : World) (Wl : Addr) (zs : List (Str × Tok)) (zn : Nat) (hl : zs.length = 3) (hd : ∀ z ∈ zs, Fine z.1 ∧ z.1.length ≤ 4 ∧ L z.1 ≠ []) :
  Does PySem.Challenge.rw_wr0021_02.row.prog w (Mine.frag.heap_1 w.params) topProg (.ref 184) 60 600 [.ref Wl] [(Wl, listOf (strValues zs).toArray zn)] (AlPost Wl zs zn) := by
  w_top off
  k_fill
  k_dflt (refine' does_ofC ?k1 ?k2 (fun _ kX => ?k3) ?k4 ?k5 (by decide) (by decide) ?_ ?k6 ?k7 ?k8; (case k1 => k_is); (case k2 => k_is); (case k3 => first | exact BindsTo.of_eq rfl | exact binds_K kX rfl (by k_is) rfl rfl rfl); (case k4 => exact rfl); (case k5 => decide); (case k6 => exact rfl); (case k7 => exact rfl); (case k8 => exact rfl)); intro loose mean mg mb dp un gd outer A₀ base g L' s₁ cells rest B F X N Y T G D hlt hdp hun; (try dsimp only); (try dsimp only [List.nil_append, List.cons_append] at N D hlt); have hL := F.ns.lt; (try (refine letA ?_; intro kA)); refine open_Q ?_; intro QB hQB
  obtain ⟨oW, rfl, hoW⟩ := CellsAre.one Y
  replace hoW : oW.data = .cell (some (.ref Wl)) := hoW
  replace F : Fr g L' s₁.heap (fun _ => none) := F
  clear Y
  dsimp only [List.nil_append, List.cons_append] at N
  have Dc := DN.cons_of (a := L' + 1) (o := oW) D fun q hq => Nat.lt_succ_of_lt (allLt_all hlt q hq)
  have hget : ∀ k, k < 3 → ∃ z, zs[k]? = some z ∧ z ∈ zs := fun k hk => ⟨_, List.getElem?_eq_getElem (by ktr_room), List.getElem_mem _⟩
  have hGate : Gate "eval ListComp" := ⟨⟩
  k_steps
  (repeat (with_reducible rename Gate _ => hG; clear hG))
  refine Stop.go ?_
  refine CompAssign_obl F rfl (by with_unfolding_all rfl) (by with_unfolding_all rfl) (fun I C D => turn_first2 ..) ?_ rfl rfl (by decide) rfl (by decide) (by intro _; rfl)
  k_steps
  (rename IsRange _ _ _ _ _ _ _ _ => R1)
  (rename Fr _ _ _ _ => F1)
  (rename News _ _ _ _ => N1)
  refine ⟨[], [], 3, _, (L' + 1, oW) :: (Wl, listOf (strValues zs).toArray zn) :: rest, fun i => AlJ (tx zs) (L' + 1, oW) (Wl, listOf (strValues zs).toArray zn) rest i 0,
    src_range R1 (small_one (by ktr_room) (by ktr_room) (by ktr_room) (by ktr_room)) _ (by rw [rangeSize_nat]; ktr_room), (by simp), ⟨F1, N1, G, rfl, Dc⟩, .mk [] [] rfl (fun _ h => (nomatch h)) ⟨fun _ h => (nomatch h), by simp, by ktr_room⟩, ?_, ?_⟩
  · skip
    -- DEV<
    rintro I o C D' oC m₂ i u ys nw s₂ ⟨tu, hu⟩ hi ⟨es, ro, rfl, hin, hst⟩ hC S hpl
    rw [show (0 + (i : Int) * 1) = i by ktr_room] at hu
    subst hu
    refine blk_name rfl rfl hC S fun oC' s₃ hC' S' => tests_none ?_
    simp only [if_true]
    refine inner_obl S' rfl ?_ (by intro _; rfl)
    obtain ⟨F2, N2, G2, ho2, D2⟩ := S'
    dsimp only [List.cons_append, List.nil_append] at N2 D2
    k_steps
    (rename IsRange _ _ _ _ _ _ _ _ => R2)
    (rename Fr _ _ _ _ => F3)
    (rename News _ _ _ _ => N3)
    refine ⟨[], [(I, o)], 3, _, (C, oC') :: (D', LCg.lst (erefs es)) :: (L' + 1, oW) :: (Wl, listOf (strValues zs).toArray zn) :: (es.map AE.ent ++ (rowL ro ++ rest)), fun j => BlockJ C D' (fun m => m "i" = some (.int (i : Int) tu)) (AlJ (tx zs) (L' + 1, oW) (Wl, listOf (strValues zs).toArray zn) rest i j),
      src_range R2 (small_one (by ktr_room) (by ktr_room) (by ktr_room) (by ktr_room)) _ (by rw [rangeSize_nat]; ktr_room), (by simp), ⟨F3, N3, G2, ho2, D2⟩, ⟨oC', _, _, _, rfl, hC', by ktr_unf, .mk es ro rfl hin hst⟩, ?_, ?_⟩
    · rintro I2 o2 j u news' s₄ ⟨tu2, hu⟩ hj ⟨oC2, m3, ys2, n2, rfl, hC2, hk2, es2, ro2, rfl, hin2, hst2⟩ S2 hpl2
      rw [show (0 + (j : Int) * 1) = j by ktr_room] at hu
      subst hu
      refine blk_name rfl rfl hC2 S2 fun oC3 s₅ hC3 S3 => tests_one ?_
      generalize hTE : TurnEnd _ _ _ _ _ _ _ _ = TE; revert TE; refine wrap ?_; intro TE hTE
      obtain ⟨F4, N4, G4, ho4, D4⟩ := S3
      dsimp only [List.cons_append, List.nil_append] at N4 D4
      (try clear F2); (try clear N2); (try clear D2); (try clear F3); (try clear N3); (try clear S); (try clear R2); (try clear F1); (try clear N1); (try clear R1)
      obtain ⟨⟨a, ta⟩, ha, ham⟩ := hget i hi
      obtain ⟨⟨b, tb⟩, hb, hbm⟩ := hget j hj
      have hsa : (strValues zs)[((i : Nat) : Int).toNat]? = some (.str a ta) := by rw [Int.toNat_natCast]; unfold strValues; rw [List.getElem?_map, ha]; rfl
      have hsb : (strValues zs)[((j : Nat) : Int).toNat]? = some (.str b tb) := by rw [Int.toNat_natCast]; unfold strValues; rw [List.getElem?_map, hb]; rfl
      have hGate : Gate "isTrue BoolOp" := ⟨⟩
      k_steps
      (repeat (with_reducible rename Gate _ => hG; clear hG))
      refine Stop.go ?_
      walk1
      have hGate : Gate "isTrue BoolOp" := ⟨⟩
      k_steps
      · (repeat (with_reducible rename Gate _ => hG; clear hG))
        refine Stop.go ?_
        walk1
        have hGate : Gate "isTrue BoolOp" := ⟨⟩
        k_steps
        (repeat (with_reducible rename Gate _ => hG; clear hG))
        refine Stop.go ?_
        (rename (_ : Int) ≠ _ => hij)
        replace hij : i ≠ j := by ktr_room
        refine wpAny_mono (Q := fun c s' => c = decide (i < j ∨ a ≠ b) ∧ s' = s₅) (E := fun _ _ => False) ?_ ?_ (fun _ _ e => e.elim)
        · walk1
          have hGate : Gate "subscriptTail Name Name ref int" := ⟨⟩
          k_steps
          · exact (decide_eq_true (.inl (by ktr_room))).symm
          · (rename ¬ (_ : Int) < _ => hnl)
            (repeat (with_reducible rename Gate _ => hG; clear hG))
            refine Stop.go ?_
            (rename Fr _ _ _ _ => F5)
            (rename News _ _ _ _ => N5)
            refine item_at (vs := strValues zs) (v := .str a ta) (News.isList N5 (by k_mem)) (by ktr_room) (by ktr_room) hsa ?_ (by with_unfolding_all rfl)
            have hGate : Gate "subscriptTail Name Name ref int" := ⟨⟩
            k_steps
            (repeat (with_reducible rename Gate _ => hG; clear hG))
            refine Stop.go ?_
            (rename Fr _ _ _ _ => F6)
            (rename News _ _ _ _ => N6)
            refine item_at (vs := strValues zs) (v := .str b tb) (News.isList N6 (by k_mem)) (by ktr_room) (by ktr_room) hsb ?_ (by with_unfolding_all rfl)
            k_steps
            · (rename (_ != _) = true => hne)
              exact (decide_eq_true (.inr (by simpa using hne))).symm
            · (rename (_ != _) = false => hne)
              exact (decide_eq_false fun h => h.elim (fun h => by ktr_room) (fun h => h (by simpa using hne))).symm
        · rintro c s' ⟨rfl, rfl⟩
          have hfa := hd _ ham
          have hfb := hd _ hbm
          have hal : a.length ≤ 4 := hfa.2.1
          have hbl : b.length ≤ 4 := hfb.2.1
          by_cases hc : i < j ∨ a ≠ b
          · rw [decide_eq_true hc]
            simp only [if_true]
            have hGate : Gate "subscriptTail Name Name ref int" := ⟨⟩
            k_steps
            (repeat (with_reducible rename Gate _ => hG; clear hG))
            refine Stop.go ?_
            (rename Fr _ _ _ _ => F5)
            (rename News _ _ _ _ => N5)
            refine item_at (vs := strValues zs) (v := .str a ta) (News.isList N5 (by k_mem)) (by ktr_room) (by ktr_room) hsa ?_ (by with_unfolding_all rfl)
            have hGate : Gate "subscriptTail Name Name ref int" := ⟨⟩
            k_steps
            (repeat (with_reducible rename Gate _ => hG; clear hG))
            refine Stop.go ?_
            (rename Fr _ _ _ _ => F6)
            (rename News _ _ _ _ => N6)
            refine item_at (vs := strValues zs) (v := .str b tb) (News.isList N6 (by k_mem)) (by ktr_room) (by ktr_room) hsb ?_ (by with_unfolding_all rfl)
            have hGate : Gate "call ref" := ⟨⟩
            k_steps
            (repeat (with_reducible rename Gate _ => hG; clear hG))
            refine Stop.go ?_
            (rename Fr _ _ _ _ => F7)
            (rename News _ _ _ _ => N7)
            refine Does.at2 (ell_spec w _ _ _ _ (le_app hal len_dots (by decide)) (Nat.le_trans hbl (by decide))) B F7 X N7 T G4 D4 rfl (by first | exact room1 (by assumption) (by decide) | exact room2 (by assumption) (by decide) | exact room3 (by assumption) (by decide) | ktr_room) (by first | exact room1 (by assumption) (by decide) | exact room2 (by assumption) (by decide) | exact room3 (by assumption) (by decide) | ktr_room) ?_
            intro s8 F8 N8 G8 ho8 D8
            rw [ell_pre hfa.1.nodot]
            (try dsimp only [List.nil_append] at N8 D8)
            (try clear F4); (try clear N4); (try clear F5); (try clear N5); (try clear F6); (try clear N6); (try clear F7); (try clear N7)
            k_steps
            · (rename List.isPrefixOf _ _ = true => hp)
              (rename Fr _ _ _ _ => F9)
              (rename News _ _ _ _ => N9)
              subst hTE
              refine emit_obl (keep := [(I, o)]) (ys := erefs es2) (C := C) (Z := fun m => m "i" = some (.int (i : Int) tu)) ?_
              generalize hEE : EltEnd _ _ _ _ _ _ _ _ _ _ _ _ = EE; revert EE; refine wrap ?_; intro EE hEE
              have hGate : Gate "subscriptTail Name Name ref int" := ⟨⟩
              k_steps
              (repeat (with_reducible rename Gate _ => hG; clear hG))
              refine Stop.go ?_
              (rename Fr _ _ _ _ => F10)
              (rename News _ _ _ _ => N10)
              refine item_at (vs := strValues zs) (v := .str b tb) (News.isList N10 (by k_mem)) (by ktr_room) (by ktr_room) hsb ?_ (by with_unfolding_all rfl)
              have hGate : Gate "subscriptTail Name Name ref int" := ⟨⟩
              k_steps
              (repeat (with_reducible rename Gate _ => hG; clear hG))
              refine Stop.go ?_
              (rename Fr _ _ _ _ => F11)
              (rename News _ _ _ _ => N11)
              refine item_at (vs := strValues zs) (v := .str a ta) (News.isList N11 (by k_mem)) (by ktr_room) (by ktr_room) hsa ?_ (by with_unfolding_all rfl)
              k_steps
              (rename Fr _ _ _ _ => F12)
              (rename News _ _ _ _ => N12)
              rename_i A9 h9 l9 B9 h10 l10 T9 h11 l11
              have D12 := ((D8.more (o := listOf (ivals [(i, tu)]).toArray 0) l9).more (o := listOf (ivals [(j, tu2)]).toArray 0) l10)
              obtain ⟨tt, N13⟩ : ∃ tt, News g L' h11 ((T9, tup3 (.str (Txt.slice b (some ((a.length : Nat) : Int)) none) tt) (.ref A9) (.ref B9)) :: (B9, listOf (ivals [(j, tu2)]).toArray 0) :: (A9, listOf (ivals [(i, tu)]).toArray 0) :: (I2, o2) :: (I, o) :: (C, oC3) :: (D', LCg.lst (erefs es2)) :: (L' + 1, oW) :: (Wl, listOf (strValues zs).toArray zn) :: (es2.map AE.ent ++ (rowL ro2 ++ rest))) := ⟨_, N12⟩
              have pm2 : ((T9, tup3 (.str (Txt.slice b (some ((a.length : Nat) : Int)) none) tt) (.ref A9) (.ref B9)) :: (B9, listOf (ivals [(j, tu2)]).toArray 0) :: (A9, listOf (ivals [(i, tu)]).toArray 0) :: (I2, o2) :: (I, o) :: (C, oC3) :: (D', LCg.lst (erefs es2)) :: (L' + 1, oW) :: (Wl, listOf (strValues zs).toArray zn) :: (es2.map AE.ent ++ (rowL ro2 ++ rest))).Perm
                ((I2, o2) :: [(I, o)] ++ (C, oC3) :: (D', LCg.lst (erefs es2)) :: ((L' + 1, oW) :: (Wl, listOf (strValues zs).toArray zn) :: ((es2 ++ [AE.mk T9 (Txt.slice b (some ((a.length : Nat) : Int)) none) tt A9 B9 [(i, tu)] [(j, tu2)]]).map AE.ent ++ (rowL ([(A9, [(i, tu)]), (B9, [(j, tu2)])] ++ ro2) ++ rest)))) := (perm_of_cnt fun q => by simp only [AE.ent, rowL_cons, rowL_app, cnt_cons, cnt_app, cnt_nil, List.map_append, List.map_cons, List.map_nil, List.append_assoc, List.cons_append, List.nil_append, Nat.add_zero, Nat.zero_add] <;> first | ac_rfl | ktr_room)
              have hst3 := hst2.put (by rw [tx_len]; ktr_room) (by rw [tx_len]; ktr_room) hij (by rw [wd_tx ha, wd_tx hb]; exact List.isPrefixOf_iff_prefix.mp hp)
              rw [wd_tx ha, wd_tx hb] at hst3
              have hle := hst2.len
              rw [List.length_map] at hle
              subst hEE
              refine ⟨oC3, _, _, hC3, by ktr_unf, by exact LoopSt.perm ⟨F12, N13, G8, ho8.trans ho4, D12.more l11⟩ pm2, by rw [sizeLine_eq, erefs_len]; ktr_room, .mk (es2 ++ [AE.mk T9 (Txt.slice b (some ((a.length : Nat) : Int)) none) tt A9 B9 [(i, tu)] [(j, tu2)]]) ([(A9, [(i, tu)]), (B9, [(j, tu2)])] ++ ro2) (by simp [erefs]) ?_ ?_⟩
              · intro e he
                rcases List.mem_append.mp he with h | h
                · exact hin2.more e h
                · rw [List.mem_singleton.mp h]
                  exact ⟨.head _, .tail _ (.head _)⟩
              · rw [List.map_append]
                show St0 (tx zs) (es2.map AE.en ++ [⟨L (Txt.slice b (some ((a.length : Nat) : Int)) none), [i], [j]⟩]) i (j + 1)
                rw [L_drop, ← L_len a]
                exact hst3
            · (rename List.isPrefixOf _ _ = false => hp)
              (rename Fr _ _ _ _ => F9)
              (rename News _ _ _ _ => N9)
              subst hTE
              refine ⟨_, ⟨F9, N9, G8, ho8.trans ho4, D8⟩, oC3, _, _, _, rfl, hC3, by ktr_unf, .mk es2 ro2 rfl hin2 (hst2.skip fun h => ?_)⟩
              rw [wd_tx ha, wd_tx hb] at h
              rw [List.isPrefixOf_iff_prefix.mpr h.2.2] at hp
              cases hp
          · rw [decide_eq_false hc]
            (try simp only [if_false])
            k_steps
            subst hTE
            exact ⟨_, ⟨F4, N4, G4, ho4, D4⟩, oC3, _, _, _, rfl, hC3, by ktr_unf, .mk es2 ro2 rfl hin2 (hst2.skip fun h => hc (h.2.1.imp id fun q e => q (by rw [wd_tx ha, wd_tx hb, e])))⟩
      · (rename (_ : Int) = _ => hij)
        subst hTE
        exact ⟨_, ⟨F4, N4, G4, ho4, D4⟩, oC3, _, _, _, rfl, hC3, by ktr_unf, .mk es2 ro2 rfl hin2 (hst2.skip fun h => h.1 (by ktr_room))⟩
    · rintro news' s₆ ⟨oC2, m3, ys2, n2, rfl, hC2, hk2, es2, ro2, rfl, hin2, hst2⟩ S2
      exact ⟨(C, oC2) :: (D', LCg.lst (erefs es2)) :: _, S2, oC2, m3, _, _, rfl, hC2, trivial, .mk es2 ro2 rfl hin2 (hst2.turn (by rw [tx_len]; exact hl))⟩
    -- >DEV
  · rintro D' ys nw s₄ ⟨es, ro, rfl, hin, hst⟩ S s₅ S5
    obtain ⟨F5, N5, G5, ho5, D5⟩ := S5
    dsimp only [List.cons_append, List.nil_append] at N5 D5
    replace F5 : Fr g L' s₅.heap _ := F5
    replace N5 : News g L' s₅.heap _ := N5
    replace ho5 : s₅.os = s₁.os := ho5
    (try clear S); (try clear R1); (try clear F1); (try clear N1)
    have hJ0 := hst.fin (by rw [tx_len]; exact hl)
    have hGate : Gate "exec While Compare" := ⟨⟩
    k_steps
    (repeat (with_reducible rename Gate _ => hG; clear hG))
    refine Stop.go ?_
    (rename Fr _ _ _ _ => F6)
    (rename News _ _ _ _ => N6)
    (rename (_ ∧ _ ∧ _ ∧ AllLt _ _) => l6)
    rename_i Sn _ _ _ _ _ _
    have D6 := D5.more (o := listOf #[] 0) l6
    have pm : ((Sn, listOf #[] 0) :: (D', LCg.lst (erefs es)) :: (L' + 1, oW) :: (Wl, listOf (strValues zs).toArray zn) :: (es.map AE.ent ++ (rowL ro ++ rest))).Perm (aflat D' Sn (L' + 1) oW Wl zs zn es (erefs es).length [] 0 ro rest) := (perm_of_cnt fun q => by simp only [AE.ent, rowL_cons, rowL_app, cnt_cons, cnt_app, cnt_nil, List.map_append, List.map_cons, List.map_nil, List.append_assoc, List.cons_append, List.nil_append, Nat.add_zero, Nat.zero_add] <;> first | ac_rfl | ktr_room)
    refine While_obl (h₀ := g) (L := L') (os := s₁.os) (fun μ m' nw => AwJ D' Sn (L' + 1) oW Wl zs zn rest m' μ nw) _ ⟨F6, News.perm N6 pm, G5, ho5, DN.perm D6 pm⟩ (.mk es ro _ [] 0 0 _ hin hJ0 (by ktr_unf) (by ktr_unf) (by ktr_unf)) ?_
    (try clear pm); (try clear D6); (try clear l6); (try clear F6); (try clear N6); (try clear F5); (try clear N5); (try clear D5); (try clear hJ0); (try clear hst); (try clear hin); (try clear Dc)
    have hw4 : ∀ k < (tx zs).length, (wd (tx zs) k).length ≤ 4 := fun k hk => by
      rw [tx_len] at hk
      rw [wd_tx (List.getElem?_eq_getElem hk), L_len]
      exact (hd _ (List.getElem_mem hk)).2.1
    rintro μ m' nw s₆ ⟨es, ro, wn, ss, sn, at_, ta, hin, hJ, hm1, hm2, hm3⟩ ⟨F7, N7, G7, ho7, D7⟩
    generalize hTP : TurnPost _ _ _ _ _ _ = TP; revert TP; refine wrap ?_; intro TP hTP
    dsimp only [aflat] at N7 D7
    have hfew := hJ.few (by rw [tx_len]; exact hl) hw4
    rw [List.length_map] at hfew
    have hel := erefs_len es
    have hGate : Gate "subscriptTail Name Name ref int" := ⟨⟩
    k_steps
    · (rename (_ : Int) < _ => hat)
      replace hat : at_ < es.length := by ktr_room
      (repeat (with_reducible rename Gate _ => hG; clear hG))
      refine Stop.go ?_
      (rename Fr _ _ _ _ => F8)
      (rename News _ _ _ _ => N8)
      obtain ⟨e, he⟩ : ∃ e, es[at_]? = some e := ⟨_, List.getElem?_eq_getElem hat⟩
      have hem := List.mem_of_getElem? he
      have hev : (erefs es)[((at_ : Nat) : Int).toNat]? = some (.ref e.T) := by rw [Int.toNat_natCast]; unfold erefs; rw [List.getElem?_map, he]; rfl
      refine item_at (vs := erefs es) (v := .ref e.T) (News.isList N8 (.head _)) (by ktr_room) (by ktr_room) hev ?_ (by with_unfolding_all rfl)
      refine tup_tri rfl rfl rfl rfl rfl F8 N8 (.tail _ (.tail _ (.tail _ (.tail _ (List.mem_append_left _ (List.mem_map.mpr ⟨e, hem, rfl⟩)))))) rfl ⟨_, rfl⟩ ?_
      intro h9 t9 F9 N9
      have heo := hJ.ok e.en (List.mem_map.mpr ⟨e, hem, rfl⟩)
      have hes : e.s.length ≤ 4 := by
        obtain ⟨k, hk, h⟩ := heo.suf
        have h1 := h.length_le
        have h2 := hw4 k hk
        have h3 : L e.s = e.en.r := rfl
        rw [← L_len, h3]
        ktr_room
      have hef : Fine e.s := by
        obtain ⟨k, hk, h⟩ := heo.suf
        rw [tx_len] at hk
        rw [wd_tx (List.getElem?_eq_getElem hk)] at h
        exact (hd _ (List.getElem_mem hk)).1.of fun c hc => h.subset hc
      have hej : (es.map AE.en)[at_]? = some e.en := by rw [List.getElem?_map, he]; rfl
      (try clear F8); (try clear N8); (try clear F7); (try clear N7)
      have hGate : Gate "compareOp NotIn str ref" := ⟨⟩
      have hGate : Gate "TurnPost" := ⟨⟩
      k_steps
      (all_goals (try k_data))
      · (repeat (with_reducible rename Gate _ => hG; clear hG))
        refine Stop.go ?_
        k_steps
        subst hTP
        dsimp only [TurnPost]
        (try k_steps)
        (rename Fr _ _ _ _ => F10)
        (rename News _ _ _ _ => N10)
        (rename (_ ∧ _ ∧ _ ∧ _ ∧ AllLt _ _) => l10)
        (rename (_ == _) = true => hr)
        rename_i R _ _ _ _
        obtain ⟨hA, hB⟩ := hin e hem
        have hne : (e.A, e.xs) ≠ (e.B, e.ys) := fun q => heo.ne (by show e.xs.map (·.1) = e.ys.map (·.1); rw [(Prod.mk.inj q).2])
        obtain ⟨r, hr2⟩ := two_of hA hB hne
        have hrl : (rowL ro).Perm ((e.A, listOf (ivals e.xs).toArray 0) :: (e.B, listOf (ivals e.ys).toArray 0) :: rowL r) := hr2.map _
        have pm : ((R, listOf [Value.ref e.A, Value.ref e.B].toArray 0) :: (D', listOf (erefs es).toArray wn) :: (Sn, listOf (strValues ss).toArray sn) :: (L' + 1, oW) :: (Wl, listOf (strValues zs).toArray zn) :: (es.map AE.ent ++ (rowL ro ++ rest))).Perm ((R, listOf [Value.ref e.A, Value.ref e.B].toArray 0) :: (D', listOf (erefs es).toArray wn) :: (Sn, listOf (strValues ss).toArray sn) :: (L' + 1, oW) :: (Wl, listOf (strValues zs).toArray zn) :: (es.map AE.ent ++ (((e.A, listOf (ivals e.xs).toArray 0) :: (e.B, listOf (ivals e.ys).toArray 0) :: rowL r) ++ rest))) := (((((hrl.append_right rest).append_left (es.map AE.ent)).cons _).cons _).cons _).cons _ |>.cons _
        have hsub : ∃ r', ((R, listOf [Value.ref e.A, Value.ref e.B].toArray 0) :: (D', listOf (erefs es).toArray wn) :: (Sn, listOf (strValues ss).toArray sn) :: (L' + 1, oW) :: (Wl, listOf (strValues zs).toArray zn) :: (es.map AE.ent ++ (((e.A, listOf (ivals e.xs).toArray 0) :: (e.B, listOf (ivals e.ys).toArray 0) :: rowL r) ++ rest))).Perm (r' ++ ([(R, listOf [Value.ref e.A, Value.ref e.B].toArray 0), (e.A, listOf (ivals e.xs).toArray 0), (e.B, listOf (ivals e.ys).toArray 0), (Wl, listOf (strValues zs).toArray zn)] ++ rest)) := ⟨(D', listOf (erefs es).toArray wn) :: (Sn, listOf (strValues ss).toArray sn) :: (L' + 1, oW) :: (es.map AE.ent ++ rowL r), (perm_of_cnt fun q => by simp only [AE.ent, rowL_cons, rowL_app, cnt_cons, cnt_app, cnt_nil, List.map_append, List.map_cons, List.map_nil, List.append_assoc, List.cons_append, List.nil_append, Nat.add_zero, Nat.zero_add] <;> first | ac_rfl | ktr_room)⟩
        have hen : EnOk (tx zs) 14 ⟨[], e.xs.map (·.1), e.ys.map (·.1)⟩ := by
          have h := heo.mono (m := 14) (by have := hfew.1; ktr_room)
          have h2 : e.en = ⟨[], e.xs.map (·.1), e.ys.map (·.1)⟩ := by
            show En.mk (L e.s) _ _ = _
            rw [show L e.s = [] by rw [show e.s = Str.ofString "" by simpa using hr]; decide +kernel]
          rw [← h2]; exact h
        subst hQB; refine BodyPost.mk _ F10 (sub_nw (News.perm N10 pm) hsub) G7 ho7 (sub_dn (DN.perm (D7.more l10) pm) hsub) (AlPost.two R e.A e.B e.xs e.ys hen)
      · (rename (_ == _) = false => hr)
        (repeat (with_reducible rename Gate _ => hG; clear hG))
        refine Stop.go ?_
        (rename Fr _ _ _ _ => F10)
        (rename News _ _ _ _ => N10)
        refine notin_txts (News.isList N10 (.tail _ (.head _))) ?_
        by_cases hsn : e.s ∈ ss.map (·.1)
        · rw [decide_eq_true hsn]
          k_steps
          (rename Fr _ _ _ _ => F11)
          (rename News _ _ _ _ => N11)
          subst hTP
          exact ⟨_, _, ⟨F11, N11, G7, ho7, D7⟩, _, (by ktr_room : 45 - (at_ + 1) < 45 - at_), .mk es ro wn ss sn (at_ + 1) _ hin (hJ.old hej (tx_mem.mp hsn)) (by ktr_unf) (by ktr_unf) (by ktr_unf)⟩
        · rw [decide_eq_false hsn]
          k_steps
          (rename Fr _ _ _ _ => F11)
          (rename News _ _ _ _ => N11)
          refine append_K (hsz := ?hsz) F11 N11 (upd_dn D7 (.tail .head)) ?_
          case hsz => rw [sizeLine_eq]; have := hfew.1; rw [tx_len] at this; simp [strV_len]; ktr_room
          intro h12 F12 N12
          have exs : ∀ x t k, listOf ((strValues ss).toArray.push (.str x t)) k = listOf (strValues (ss ++ [(x, t)])).toArray k := fun x t k => by rw [List.push_toArray]; unfold strValues; rw [List.map_append]; rfl
          rw [exs] at N12
          obtain ⟨sn2, N12⟩ : ∃ sn2, News g L' h12 ((D', listOf (erefs es).toArray wn) :: (Sn, listOf (strValues (ss ++ [(e.s, e.t)])).toArray sn2) :: (L' + 1, oW) :: (Wl, listOf (strValues zs).toArray zn) :: (es.map AE.ent ++ (rowL ro ++ rest))) := ⟨_, N12⟩
          have hne0 : e.en.r ≠ [] := fun h => by
            have h2 : e.s = Str.ofString "" := str_ext (by show L e.s = L (Str.ofString ""); rw [show L e.s = [] from h]; decide +kernel)
            rw [h2] at hr
            revert hr
            decide +kernel
          have hJ1 := hJ.new hej (fun h => hsn (tx_mem.mpr h)) hne0
          rw [show tx ss ++ [e.en.r] = tx (ss ++ [(e.s, e.t)]) by simp [tx, AE.en]] at hJ1
          have hGate : Gate "exec For Name Call cons nil" := ⟨⟩
          k_steps
          (repeat (with_reducible rename Gate _ => hG; clear hG))
          refine Stop.go ?_
          (rename Fr _ _ _ _ => F13)
          (rename News _ _ _ _ => N13)
          refine For_obl (h₀ := g) rfl ?_ (by intro _; rfl)
          k_steps
          (rename IsRange _ _ _ _ _ _ _ _ => R2)
          (rename Fr _ _ _ _ => F14)
          (rename News _ _ _ _ => N14)
          refine ⟨[], [], 3, _, _, _, fun k m' => AfJ D' Sn (L' + 1) oW Wl zs zn rest e (ss ++ [(e.s, e.t)]) sn2 at_ k m', _, src_range R2 (small_one (by ktr_room) (by ktr_room) (by ktr_room) (by ktr_room)) _ (by rw [rangeSize_nat]; ktr_room), (by simp), ⟨F14, N14, G7, rfl, D7⟩,
            .mk es ro wn _ hin (hin e hem).1 (hin e hem).2 hJ1 (by ktr_unf) (by ktr_unf) (by ktr_unf) (by ktr_unf) (by ktr_unf) (by ktr_unf), fun I o i u m' nw s₂ Q' hP hi hJ S _ h => asg_name rfl rfl S h, ?_, ?_⟩
          · rintro I o k u m' nw s₂ ⟨tu, hu⟩ hk3 ⟨es2, ro2, wn2, ta2, hin2, hA2, hB2, hJ2, hm1, hm2, hm3, hm4, hm5, hm6⟩ ⟨F15, N15, G15, ho15, D15⟩
            generalize hTQ : TurnPost _ _ _ _ _ _ = TQ; revert TQ; refine wrap ?_; intro TQ hTQ
            rw [show (0 + (k : Int) * 1) = k by ktr_room] at hu
            subst hu
            (try clear F9); (try clear N9); (try clear F10); (try clear N10); (try clear F11); (try clear N11); (try clear F12); (try clear N12); (try clear F13); (try clear N13); (try clear F14); (try clear N14); (try clear R2)
            dsimp only [List.cons_append, List.nil_append, aflat] at N15 D15
            obtain ⟨⟨a, ta3⟩, ha, ham⟩ := hget k hk3
            have hsa : (strValues zs)[((k : Nat) : Int).toNat]? = some (.str a ta3) := by rw [Int.toNat_natCast]; unfold strValues; rw [List.getElem?_map, ha]; rfl
            have hfa := hd _ ham
            have hal : a.length ≤ 4 := hfa.2.1
            have hGate : Gate "subscriptTail Name Name ref int" := ⟨⟩
            k_steps
            (repeat (with_reducible rename Gate _ => hG; clear hG))
            refine Stop.go ?_
            (rename Fr _ _ _ _ => F16)
            (rename News _ _ _ _ => N16)
            refine item_at (vs := strValues zs) (v := .str a ta3) (News.isList N16 (.tail _ (.tail _ (.tail _ (.tail _ (.head _)))))) (by ktr_room) (by ktr_room) hsa ?_ (by with_unfolding_all rfl)
            have hGate : Gate "call ref" := ⟨⟩
            k_steps
            (repeat (with_reducible rename Gate _ => hG; clear hG))
            refine Stop.go ?_
            (rename Fr _ _ _ _ => F17)
            (rename News _ _ _ _ => N17)
            refine Does.at2 (ell_spec w _ _ _ _ (le_app hes len_dots (by decide)) (Nat.le_trans hal (by decide))) B F17 X N17 T G15 D15 rfl (by first | exact room1 (by assumption) (by decide) | exact room2 (by assumption) (by decide) | exact room3 (by assumption) (by decide) | ktr_room) (by first | exact room1 (by assumption) (by decide) | exact room2 (by assumption) (by decide) | exact room3 (by assumption) (by decide) | ktr_room) ?_
            intro s18 F18 N18 G18 ho18 D18
            rw [ell_pre hef.nodot]
            (try dsimp only [List.nil_append] at N18 D18)
            (try clear F15); (try clear N15); (try clear F16); (try clear N16); (try clear F17); (try clear N17); (try clear D15)
            have hel2 := heo.len
            rw [show e.en.l = e.xs.map (·.1) from rfl, show e.en.g = e.ys.map (·.1) from rfl, List.length_map, List.length_map] at hel2
            have hfew2 := (hJ2.few (by rw [tx_len]; exact hl) hw4).2
            rw [List.length_map] at hfew2
            have hfew1 := hfew.1
            have hel3 := erefs_len es2
            have hGate : Gate "subscriptTail Name Name ref int" := ⟨⟩
            k_steps
            · (rename List.isPrefixOf _ _ = true => hp)
              replace hp : L e.s <+: L a := List.isPrefixOf_iff_prefix.mp hp
              (repeat (with_reducible rename Gate _ => hG; clear hG))
              refine Stop.go ?_
              (rename Fr _ _ _ _ => F19)
              (rename News _ _ _ _ => N19)
              refine item_at (vs := strValues zs) (v := .str a ta3) (News.isList N19 (.tail _ (.tail _ (.tail _ (.tail _ (.head _)))))) (by ktr_room) (by ktr_room) hsa ?_ (by with_unfolding_all rfl)
              have hGate : Gate "binaryOp Add ref ref" := ⟨⟩
              k_steps
              (repeat (with_reducible rename Gate _ => hG; clear hG))
              refine Stop.go ?_
              (rename Fr _ _ _ _ => F20)
              (rename News _ _ _ _ => N20)
              (rename (_ ∧ _ ∧ _ ∧ _ ∧ _ ∧ AllLt _ _) => l20)
              rename_i K _
              have D20 := D18.more (o := listOf (ivals [(k, tu)]).toArray 0) l20
              replace N20 : News g L' _ ((K, listOf (ivals [(k, tu)]).toArray 0) :: (I, o) :: (D', listOf (erefs es2).toArray wn2) :: (Sn, listOf (strValues (ss ++ [(e.s, e.t)])).toArray sn2) :: (L' + 1, oW) :: (Wl, listOf (strValues zs).toArray zn) :: (es2.map AE.ent ++ (rowL ro2 ++ rest))) := N20
              refine add_lists (s := ⟨_, _, _, _, _⟩) (vs := ivals e.xs) (ws := ivals [(k, tu)]) (hsz := ?hsz) F20 N20 ⟨_, (N20 _ (.tail _ (.tail _ (.tail _ (.tail _ (.tail _ (.tail _ (List.mem_append_right _ (List.mem_append_left _ (List.mem_map.mpr ⟨_, hA2, rfl⟩)))))))))).1, rfl, _, rfl⟩ ⟨_, (N20 _ (.head _)).1, rfl, _, rfl⟩ ?_
              case hsz => rw [sizeLine_eq]; simp [ivals]; ktr_room
              intro h201 F201 N201
              have hML : ∀ q ∈ ((K, listOf (ivals [(k, tu)]).toArray 0) :: (I, o) :: (D', listOf (erefs es2).toArray wn2) :: (Sn, listOf (strValues (ss ++ [(e.s, e.t)])).toArray sn2) :: (L' + 1, oW) :: (Wl, listOf (strValues zs).toArray zn) :: (es2.map AE.ent ++ (rowL ro2 ++ rest))), q.1 < _ := fun q hq => Heap.lt_size (N20 q hq).1
              have D201 := DN.cons_of (o := ({ cls := .type "list", data := .seq (ivals e.xs ++ ivals [(k, tu)]).toArray } : Obj)) D20 hML
              dsimp only at N201 D201 ⊢
              generalize (Heap.objs _).size = M at N201 D201 ⊢
              (try clear hML); (try clear N20); (try clear F20)
              k_steps
              (rename Fr _ _ _ _ => F202)
              (rename News _ _ _ _ => N202)
              (rename (_ ∧ _ ∧ _ ∧ _ ∧ _ ∧ _ ∧ _ ∧ AllLt _ _) => l202)
              rename_i T20 hx20 hy20
              have D202 := D201.more (o := tup3 (.str (Txt.slice a (some ((e.s.length : Nat) : Int)) none) 0) (.ref (e.B)) (.ref (M))) l202
              rw [show ivals e.xs ++ ivals [(k, tu)] = ivals (e.xs ++ [(k, tu)]) by simp [ivals]] at N202
              have hpush : ∀ (x : AE) (k : Nat), listOf (erefs (es2 ++ [x])).toArray k = listOf ((erefs es2).toArray.push (.ref x.T)) k := fun x k => by rw [List.push_toArray]; simp [erefs]
              obtain ⟨tt, wn3, N204⟩ : ∃ tt wn3, News g L' hy20 ((T20, tup3 (.str (Txt.slice a (some ((e.s.length : Nat) : Int)) none) tt) (.ref (e.B)) (.ref (M))) :: (M, listOf (ivals (e.xs ++ [(k, tu)])).toArray 0) :: (K, listOf (ivals [(k, tu)]).toArray 0) :: (I, o) :: (D', listOf (erefs (es2 ++ [AE.mk T20 (Txt.slice a (some ((e.s.length : Nat) : Int)) none) tt (e.B) (M) (e.ys) (e.xs ++ [(k, tu)])])).toArray wn3) :: (Sn, listOf (strValues (ss ++ [(e.s, e.t)])).toArray sn2) :: (L' + 1, oW) :: (Wl, listOf (strValues zs).toArray zn) :: (es2.map AE.ent ++ (rowL ro2 ++ rest))) := ⟨_, _, by rw [hpush]; exact N202⟩
              have pm : ((T20, tup3 (.str (Txt.slice a (some ((e.s.length : Nat) : Int)) none) tt) (.ref (e.B)) (.ref (M))) :: (M, listOf (ivals (e.xs ++ [(k, tu)])).toArray 0) :: (K, listOf (ivals [(k, tu)]).toArray 0) :: (I, o) :: (D', listOf (erefs (es2 ++ [AE.mk T20 (Txt.slice a (some ((e.s.length : Nat) : Int)) none) tt (e.B) (M) (e.ys) (e.xs ++ [(k, tu)])])).toArray wn3) :: (Sn, listOf (strValues (ss ++ [(e.s, e.t)])).toArray sn2) :: (L' + 1, oW) :: (Wl, listOf (strValues zs).toArray zn) :: (es2.map AE.ent ++ (rowL ro2 ++ rest))).Perm ((I, o) :: ([] ++ ((D', listOf (erefs (es2 ++ [AE.mk T20 (Txt.slice a (some ((e.s.length : Nat) : Int)) none) tt (e.B) (M) (e.ys) (e.xs ++ [(k, tu)])])).toArray wn3) :: (Sn, listOf (strValues (ss ++ [(e.s, e.t)])).toArray sn2) :: (L' + 1, oW) :: (Wl, listOf (strValues zs).toArray zn) :: ((es2 ++ [AE.mk T20 (Txt.slice a (some ((e.s.length : Nat) : Int)) none) tt (e.B) (M) (e.ys) (e.xs ++ [(k, tu)])]).map AE.ent ++ (rowL ((M, e.xs ++ [(k, tu)]) :: (K, [(k, tu)]) :: ro2) ++ rest))))) := (perm_of_cnt fun q => by simp only [AE.ent, rowL_cons, rowL_app, cnt_cons, cnt_app, cnt_nil, List.map_append, List.map_cons, List.map_nil, List.append_assoc, List.cons_append, List.nil_append, Nat.add_zero, Nat.zero_add] <;> first | ac_rfl | ktr_room)
              subst hTQ
              refine ⟨_, _, ⟨F202, News.perm N204 pm, G18, ho18.trans ho15, DN.perm (show DN ((T20, tup3 (.str (Txt.slice a (some ((e.s.length : Nat) : Int)) none) tt) (.ref (e.B)) (.ref (M))) :: (M, listOf (ivals (e.xs ++ [(k, tu)])).toArray 0) :: (K, listOf (ivals [(k, tu)]).toArray 0) :: (I, o) :: (D', listOf (erefs (es2 ++ [AE.mk T20 (Txt.slice a (some ((e.s.length : Nat) : Int)) none) tt (e.B) (M) (e.ys) (e.xs ++ [(k, tu)])])).toArray wn3) :: (Sn, listOf (strValues (ss ++ [(e.s, e.t)])).toArray sn2) :: (L' + 1, oW) :: (Wl, listOf (strValues zs).toArray zn) :: (es2.map AE.ent ++ (rowL ro2 ++ rest))) from D202) pm⟩, .mk (es2 ++ [AE.mk T20 (Txt.slice a (some ((e.s.length : Nat) : Int)) none) tt (e.B) (M) (e.ys) (e.xs ++ [(k, tu)])]) ((M, e.xs ++ [(k, tu)]) :: (K, [(k, tu)]) :: ro2) wn3 _ ?_ (.tail _ (.tail _ hA2)) (.tail _ (.tail _ hB2)) ?_ (by ktr_unf) (by ktr_unf) (by ktr_unf) (by ktr_unf) (by ktr_unf) (by ktr_unf)⟩
              · intro x hx
                rcases List.mem_append.mp hx with h | h
                · exact ⟨.tail _ (.tail _ (hin2 x h).1), .tail _ (.tail _ (hin2 x h).2)⟩
                · rw [List.mem_singleton.mp h]
                  exact ⟨.tail _ (.tail _ hB2), .head _⟩
              · rw [List.map_append]
                refine hJ2.next (by rw [tx_len]; ktr_room) _ (Nat.le_refl _) (fun x hx => ?_) (fun _ => ⟨_, .head _, by show L (Txt.slice a _ none) = _; rw [L_drop, wd_tx ha, ← L_len]; rfl⟩) (fun h => absurd (by rw [wd_tx ha]; exact hp) h)
                rw [List.mem_singleton.mp hx, show (tx (ss ++ [(e.s, e.t)])).length = (tx ss).length + 1 by simp [tx]]
                have h := heo.up (k := k) (by rw [tx_len]; ktr_room) (by rw [wd_tx ha]; exact hp)
                rw [wd_tx ha] at h
                show EnOk (tx zs) (2 + (tx ss).length + 1) ⟨L (Txt.slice a (some ((e.s.length : Nat) : Int)) none), (e.ys).map (·.1), (e.xs ++ [(k, tu)]).map (·.1)⟩
                rw [L_drop, ← L_len, List.map_append]
                exact h
            · (rename List.isPrefixOf _ _ = false => hp)
              replace hp : ¬ L e.s <+: L a := fun h => by rw [List.isPrefixOf_iff_prefix.mpr h] at hp; cases hp
              (repeat (with_reducible rename Gate _ => hG; clear hG))
              refine Stop.go ?_
              (rename Fr _ _ _ _ => F23)
              (rename News _ _ _ _ => N23)
              refine item_at (vs := strValues zs) (v := .str a ta3) (News.isList N23 (.tail _ (.tail _ (.tail _ (.tail _ (.head _)))))) (by ktr_room) (by ktr_room) hsa ?_ (by with_unfolding_all rfl)
              have hGate : Gate "call ref" := ⟨⟩
              k_steps
              (repeat (with_reducible rename Gate _ => hG; clear hG))
              refine Stop.go ?_
              (rename Fr _ _ _ _ => F25)
              (rename News _ _ _ _ => N25)
              refine Does.at2 (ell_spec w _ _ _ _ (le_app hal len_dots (by decide)) (Nat.le_trans hes (by decide))) B F25 X N25 T G18 D18 rfl (by first | exact room1 (by assumption) (by decide) | exact room2 (by assumption) (by decide) | exact room3 (by assumption) (by decide) | ktr_room) (by first | exact room1 (by assumption) (by decide) | exact room2 (by assumption) (by decide) | exact room3 (by assumption) (by decide) | ktr_room) ?_
              intro s26 F26 N26 G26 ho26 D26
              rw [ell_pre hfa.1.nodot]
              (try dsimp only [List.nil_append] at N26 D26)
              (try clear F18); (try clear N18); (try clear F23); (try clear N23); (try clear F25); (try clear N25); (try clear D18)
              have hGate : Gate "subscriptTail Name Name ref int" := ⟨⟩
              k_steps
              · (rename List.isPrefixOf _ _ = true => hq)
                replace hq : L a <+: L e.s := List.isPrefixOf_iff_prefix.mp hq
                (repeat (with_reducible rename Gate _ => hG; clear hG))
                refine Stop.go ?_
                (rename Fr _ _ _ _ => F27)
                (rename News _ _ _ _ => N27)
                refine item_at (vs := strValues zs) (v := .str a ta3) (News.isList N27 (.tail _ (.tail _ (.tail _ (.tail _ (.head _)))))) (by ktr_room) (by ktr_room) hsa ?_ (by with_unfolding_all rfl)
                have hGate : Gate "binaryOp Add ref ref" := ⟨⟩
                k_steps
                (repeat (with_reducible rename Gate _ => hG; clear hG))
                refine Stop.go ?_
                (rename Fr _ _ _ _ => F30)
                (rename News _ _ _ _ => N30)
                (rename (_ ∧ _ ∧ _ ∧ _ ∧ _ ∧ AllLt _ _) => l30)
                rename_i K _
                have D30 := D26.more (o := listOf (ivals [(k, tu)]).toArray 0) l30
                replace N30 : News g L' _ ((K, listOf (ivals [(k, tu)]).toArray 0) :: (I, o) :: (D', listOf (erefs es2).toArray wn2) :: (Sn, listOf (strValues (ss ++ [(e.s, e.t)])).toArray sn2) :: (L' + 1, oW) :: (Wl, listOf (strValues zs).toArray zn) :: (es2.map AE.ent ++ (rowL ro2 ++ rest))) := N30
                refine add_lists (s := ⟨_, _, _, _, _⟩) (vs := ivals e.xs) (ws := ivals [(k, tu)]) (hsz := ?hsz) F30 N30 ⟨_, (N30 _ (.tail _ (.tail _ (.tail _ (.tail _ (.tail _ (.tail _ (List.mem_append_right _ (List.mem_append_left _ (List.mem_map.mpr ⟨_, hA2, rfl⟩)))))))))).1, rfl, _, rfl⟩ ⟨_, (N30 _ (.head _)).1, rfl, _, rfl⟩ ?_
                case hsz => rw [sizeLine_eq]; simp [ivals]; ktr_room
                intro h301 F301 N301
                have hML : ∀ q ∈ ((K, listOf (ivals [(k, tu)]).toArray 0) :: (I, o) :: (D', listOf (erefs es2).toArray wn2) :: (Sn, listOf (strValues (ss ++ [(e.s, e.t)])).toArray sn2) :: (L' + 1, oW) :: (Wl, listOf (strValues zs).toArray zn) :: (es2.map AE.ent ++ (rowL ro2 ++ rest))), q.1 < _ := fun q hq => Heap.lt_size (N30 q hq).1
                have D301 := DN.cons_of (o := ({ cls := .type "list", data := .seq (ivals e.xs ++ ivals [(k, tu)]).toArray } : Obj)) D30 hML
                dsimp only at N301 D301 ⊢
                generalize (Heap.objs _).size = M at N301 D301 ⊢
                (try clear hML); (try clear N30); (try clear F30)
                k_steps
                (rename Fr _ _ _ _ => F302)
                (rename News _ _ _ _ => N302)
                (rename (_ ∧ _ ∧ _ ∧ _ ∧ _ ∧ _ ∧ _ ∧ AllLt _ _) => l302)
                rename_i T30 hx30 hy30
                have D302 := D301.more (o := tup3 (.str (Txt.slice e.s (some ((a.length : Nat) : Int)) none) 0) (.ref (M)) (.ref (e.B))) l302
                rw [show ivals e.xs ++ ivals [(k, tu)] = ivals (e.xs ++ [(k, tu)]) by simp [ivals]] at N302
                have hpush : ∀ (x : AE) (k : Nat), listOf (erefs (es2 ++ [x])).toArray k = listOf ((erefs es2).toArray.push (.ref x.T)) k := fun x k => by rw [List.push_toArray]; simp [erefs]
                obtain ⟨tt, wn3, N304⟩ : ∃ tt wn3, News g L' hy30 ((T30, tup3 (.str (Txt.slice e.s (some ((a.length : Nat) : Int)) none) tt) (.ref (M)) (.ref (e.B))) :: (M, listOf (ivals (e.xs ++ [(k, tu)])).toArray 0) :: (K, listOf (ivals [(k, tu)]).toArray 0) :: (I, o) :: (D', listOf (erefs (es2 ++ [AE.mk T30 (Txt.slice e.s (some ((a.length : Nat) : Int)) none) tt (M) (e.B) (e.xs ++ [(k, tu)]) (e.ys)])).toArray wn3) :: (Sn, listOf (strValues (ss ++ [(e.s, e.t)])).toArray sn2) :: (L' + 1, oW) :: (Wl, listOf (strValues zs).toArray zn) :: (es2.map AE.ent ++ (rowL ro2 ++ rest))) := ⟨_, _, by rw [hpush]; exact N302⟩
                have pm : ((T30, tup3 (.str (Txt.slice e.s (some ((a.length : Nat) : Int)) none) tt) (.ref (M)) (.ref (e.B))) :: (M, listOf (ivals (e.xs ++ [(k, tu)])).toArray 0) :: (K, listOf (ivals [(k, tu)]).toArray 0) :: (I, o) :: (D', listOf (erefs (es2 ++ [AE.mk T30 (Txt.slice e.s (some ((a.length : Nat) : Int)) none) tt (M) (e.B) (e.xs ++ [(k, tu)]) (e.ys)])).toArray wn3) :: (Sn, listOf (strValues (ss ++ [(e.s, e.t)])).toArray sn2) :: (L' + 1, oW) :: (Wl, listOf (strValues zs).toArray zn) :: (es2.map AE.ent ++ (rowL ro2 ++ rest))).Perm ((I, o) :: ([] ++ ((D', listOf (erefs (es2 ++ [AE.mk T30 (Txt.slice e.s (some ((a.length : Nat) : Int)) none) tt (M) (e.B) (e.xs ++ [(k, tu)]) (e.ys)])).toArray wn3) :: (Sn, listOf (strValues (ss ++ [(e.s, e.t)])).toArray sn2) :: (L' + 1, oW) :: (Wl, listOf (strValues zs).toArray zn) :: ((es2 ++ [AE.mk T30 (Txt.slice e.s (some ((a.length : Nat) : Int)) none) tt (M) (e.B) (e.xs ++ [(k, tu)]) (e.ys)]).map AE.ent ++ (rowL ((M, e.xs ++ [(k, tu)]) :: (K, [(k, tu)]) :: ro2) ++ rest))))) := (perm_of_cnt fun q => by simp only [AE.ent, rowL_cons, rowL_app, cnt_cons, cnt_app, cnt_nil, List.map_append, List.map_cons, List.map_nil, List.append_assoc, List.cons_append, List.nil_append, Nat.add_zero, Nat.zero_add] <;> first | ac_rfl | ktr_room)
                subst hTQ
                refine ⟨_, _, ⟨F302, News.perm N304 pm, G26, ho26.trans (ho18.trans ho15), DN.perm (show DN ((T30, tup3 (.str (Txt.slice e.s (some ((a.length : Nat) : Int)) none) tt) (.ref (M)) (.ref (e.B))) :: (M, listOf (ivals (e.xs ++ [(k, tu)])).toArray 0) :: (K, listOf (ivals [(k, tu)]).toArray 0) :: (I, o) :: (D', listOf (erefs (es2 ++ [AE.mk T30 (Txt.slice e.s (some ((a.length : Nat) : Int)) none) tt (M) (e.B) (e.xs ++ [(k, tu)]) (e.ys)])).toArray wn3) :: (Sn, listOf (strValues (ss ++ [(e.s, e.t)])).toArray sn2) :: (L' + 1, oW) :: (Wl, listOf (strValues zs).toArray zn) :: (es2.map AE.ent ++ (rowL ro2 ++ rest))) from D302) pm⟩, .mk (es2 ++ [AE.mk T30 (Txt.slice e.s (some ((a.length : Nat) : Int)) none) tt (M) (e.B) (e.xs ++ [(k, tu)]) (e.ys)]) ((M, e.xs ++ [(k, tu)]) :: (K, [(k, tu)]) :: ro2) wn3 _ ?_ (.tail _ (.tail _ hA2)) (.tail _ (.tail _ hB2)) ?_ (by ktr_unf) (by ktr_unf) (by ktr_unf) (by ktr_unf) (by ktr_unf) (by ktr_unf)⟩
                · intro x hx
                  rcases List.mem_append.mp hx with h | h
                  · exact ⟨.tail _ (.tail _ (hin2 x h).1), .tail _ (.tail _ (hin2 x h).2)⟩
                  · rw [List.mem_singleton.mp h]
                    exact ⟨.head _, .tail _ (.tail _ hB2)⟩
                · rw [List.map_append]
                  refine hJ2.next (by rw [tx_len]; ktr_room) _ (Nat.le_refl _) (fun x hx => ?_) (fun h => absurd (by rw [wd_tx ha] at h; exact h) hp) (fun _ _ => ⟨_, .head _, by show L (Txt.slice e.s _ none) = _; rw [L_drop, wd_tx ha, ← L_len]; rfl⟩)
                  rw [List.mem_singleton.mp hx, show (tx (ss ++ [(e.s, e.t)])).length = (tx ss).length + 1 by simp [tx]]
                  have h := heo.dn (k := k) (by rw [tx_len]; ktr_room) (by rw [wd_tx ha]; exact hq)
                  rw [wd_tx ha] at h
                  show EnOk (tx zs) (2 + (tx ss).length + 1) ⟨L (Txt.slice e.s (some ((a.length : Nat) : Int)) none), (e.xs ++ [(k, tu)]).map (·.1), (e.ys).map (·.1)⟩
                  rw [L_drop, ← L_len, List.map_append]
                  exact h
              · (rename List.isPrefixOf _ _ = false => hq)
                replace hq : ¬ L a <+: L e.s := fun h => by rw [List.isPrefixOf_iff_prefix.mpr h] at hq; cases hq
                (rename Fr _ _ _ _ => F28)
                (rename News _ _ _ _ => N28)
                subst hTQ
                refine ⟨_, _, ⟨F28, N28, G26, ho26.trans (ho18.trans ho15), D26⟩, .mk es2 ro2 wn2 _ hin2 hA2 hB2 ?_ (by ktr_unf) (by ktr_unf) (by ktr_unf) (by ktr_unf) (by ktr_unf) (by ktr_unf)⟩
                have h := hJ2.next (by rw [tx_len]; ktr_room) [] (Nat.zero_le _) (fun _ h => (nomatch h)) (fun h => absurd (by rw [wd_tx ha] at h; exact h) hp) (fun _ h => absurd (by rw [wd_tx ha] at h; exact h) hq)
                rwa [List.append_nil] at h
          · rintro m' nw s₂ ⟨es2, ro2, wn2, ta2, hin2, hA2, hB2, hJ2, hm1, hm2, hm3, hm4, hm5, hm6⟩ ⟨F15, N15, G15, ho15, D15⟩
            dsimp only [List.nil_append] at N15 D15
            k_steps
            subst hTP
            exact ⟨_, _, ⟨F15, N15, G15, ho15.trans ho7, D15⟩, _, (by ktr_room : 45 - (at_ + 1) < 45 - at_), .mk es2 ro2 wn2 (ss ++ [(e.s, e.t)]) sn2 (at_ + 1) _ hin2 (hJ2.fin' (by rw [tx_len, hl])) hm1 hm2 hm3⟩
    · (rename ¬ (_ : Int) < _ => hat)
      (rename Fr _ _ _ _ => F8)
      (rename News _ _ _ _ => N8)
      (rename (_ ∧ _ ∧ _ ∧ _ ∧ AllLt _ _) => l8)
      rename_i R _
      have hsub : ∃ r, ((R, listOf #[] 0) :: (D', listOf (erefs es).toArray wn) :: (Sn, listOf (strValues ss).toArray sn) :: (L' + 1, oW) :: (Wl, listOf (strValues zs).toArray zn) :: (es.map AE.ent ++ (rowL ro ++ rest))).Perm (r ++ ([(R, listOf #[] 0), (Wl, listOf (strValues zs).toArray zn)] ++ rest)) := ⟨(D', listOf (erefs es).toArray wn) :: (Sn, listOf (strValues ss).toArray sn) :: (L' + 1, oW) :: (es.map AE.ent ++ rowL ro), (perm_of_cnt fun q => by simp only [AE.ent, rowL_cons, rowL_app, cnt_cons, cnt_app, cnt_nil, List.map_append, List.map_cons, List.map_nil, List.append_assoc, List.cons_append, List.nil_append, Nat.add_zero, Nat.zero_add] <;> first | ac_rfl | ktr_room)⟩
      subst hQB; refine BodyPost.mk _ F8 (sub_nw N8 hsub) G7 ho7 (sub_dn (D7.more l8) hsub) (AlPost.none R (hJ.ud (by rw [List.length_map]; ktr_room) fun k hk => ?_))
      rw [tx_len] at hk
      rw [wd_tx (List.getElem?_eq_getElem hk)]
      exact (hd _ (List.getElem_mem hk)).2.2
end Mine
end
section
open PySem PySem.W PyProof.Rows
set_option maxRecDepth 100000
set_option maxHeartbeats 2000000
namespace Mine
noncomputable abbrev scK : Scope := { kind := ScopeKind.function, names := [(Str.ofString ".0", NameKind.local), (Str.ofString "k", NameKind.local), (Str.ofString "words", NameKind.free)], isGenerator := false, isCoroutine := false }
/-- the texts that a row names -/
noncomputable def picks (zs : List (Str × Tok)) (row : List Nat) : List (Str × Tok) := row.filterMap fun k => zs[k]?
theorem picks_cons {zs : List (Str × Tok)} {k : Nat} {z : Str × Tok} {row : List Nat} (h : zs[k]? = some z) : picks zs (k :: row) = z :: picks zs row := by simp [picks, h]
theorem picks_app (zs : List (Str × Tok)) (p q : List Nat) : picks zs (p ++ q) = picks zs p ++ picks zs q := by simp [picks]
theorem picks_at {zs : List (Str × Tok)} {row : List Nat} (h : Row (tx zs) row) {k : Nat} (hk : k ∈ row) : ∃ z, zs[k]? = some z := by
  have := h k hk
  rw [tx_len] at this
  exact ⟨_, List.getElem?_eq_getElem this⟩
theorem picks_flat {zs : List (Str × Tok)} : ∀ {row : List Nat}, Row (tx zs) row → (picks zs row).flatMap (fun z => L z.1) = spell (tx zs) row
  | [], _ => rfl
  | k :: row, h => by
    obtain ⟨z, hz⟩ := picks_at h (.head _)
    rw [picks_cons hz, List.flatMap_cons, picks_flat fun x hx => h x (.tail _ hx)]
    show _ = wd (tx zs) k ++ spell (tx zs) row
    rw [wd_tx hz]
theorem words_comp (w : World) {prog : Program} {A : Around} {g : Heap} {L' fa c Wl Ra : Addr} {qual : Str} {scope : Scope} {ccd : Value} {m : Str → Option Value} {s : Shared} {oc : Obj} {zs : List (Str × Tok)} {zn rn : Nat} {xs : List (Nat × Tok)} {R : Led} {iter : Expr} {p1 p2 p3 p4 p5 : Pos} {Q E : Value → Shared → Prop}
  {K : Frag} (X : K.In g) (hh : A.handled = none) (F : Fr g L' s.heap m) (hd : oc.data = .cell (some (.ref Wl))) (hkd : ∀ C, (compEnvC scK [(Str.ofString "words", c)] C (envOfC qual scope L' fa ccd)).kindOf "words" = some .cell) (hclos : closureFor scK (envOfC qual scope L' fa ccd) = pure [(Str.ofString "words", c)]) (hrow : Row (tx zs) (xs.map (·.1))) (hl : xs.length ≤ 900) (hzn : zs.length ≤ 900)
  (hit : wpAny (model prog w) A (eval iter (envOfC qual scope L' fa ccd)) (fun v s₁ => v = .ref Ra ∧ LoopSt g L' s₁.os s₁ m ((Ra, listOf (ivals xs).toArray rn) :: (c, oc) :: (Wl, listOf (strValues zs).toArray zn) :: R) ∧ ∀ D s'', LoopSt g L' s₁.os s'' m ((Ra, listOf (ivals xs).toArray rn) :: (D, LCg.lst (strValues (picks zs (xs.map (·.1))))) :: (c, oc) :: (Wl, listOf (strValues zs).toArray zn) :: R) → Q (.ref D) s'') E s)
  (hs : ∀ x, foldedSetIterable iter (envOfC qual scope L' fa ccd) x = pure x) :
  wpAny (model prog w) A (eval (.ListComp (.Subscript (.Name "words" p1) (.Name "k" p2) p3) [⟨.Name "k" p4, iter, [], 0⟩] scK p5) (envOfC qual scope L' fa ccd)) Q E s := by
  refine Comp_obl F hh hclos (fun I C D => turn_one ..) (wpAny_mono hit (fun v s₁ h => ?_) fun _ _ e => e) (by decide) rfl (by decide) hs
  obtain ⟨rfl, S, next⟩ := h
  refine ⟨[Ra], [(Ra, listOf (ivals xs).toArray rn)], xs.length, _, _, fun i ys nw => ys = strValues (picks zs ((xs.map (·.1)).take i)) ∧ nw = (c, oc) :: (Wl, listOf (strValues zs).toArray zn) :: R,
    by rw [← ivals_len xs]; exact src_list ⟨_, (S.nw _ (.head _)).1, rfl, _, rfl⟩, by simp, S, ⟨rfl, rfl⟩, ?_, ?_⟩
  · rintro I o C D oC m₂ i u ys nw s₂ hPi hi ⟨rfl, rfl⟩ hC S2 hpl
    obtain ⟨p, hp, rfl⟩ : ∃ p, xs[i]? = some p ∧ u = .int (p.1 : Int) p.2 := by
      rw [List.getElem?_toArray] at hPi
      (try unfold ivals at hPi)
      rw [List.getElem?_map] at hPi
      cases e : xs[i]? with
      | none => rw [e] at hPi; cases hPi
      | some p => rw [e] at hPi; exact ⟨p, rfl, (Option.some.inj hPi).symm⟩
    have hbig : ∀ k ∈ xs.map (·.1), k < 2 ^ 40 := fun k hk => by have := hrow k hk; rw [tx_len] at this; ktr_room
    have hpk : p.1 ∈ xs.map (·.1) := List.mem_map.mpr ⟨p, List.mem_of_getElem? hp, rfl⟩
    obtain ⟨z, hz⟩ := picks_at hrow hpk
    refine blk_name rfl rfl hC S2 fun oC' s₃ hC' S3 => tests_none ?_
    simp only [if_true]
    refine emit_obl (ys := strValues (picks zs ((xs.map (·.1)).take i))) ?_
    obtain ⟨F4, N4, G4, ho4, D4⟩ := S3
    dsimp only [List.cons_append, List.nil_append] at N4 D4
    refine Subscript_ ?_
    refine lcf_cell N4 (c := c) (o := oc) (by simp [compEnvC]) (.tail _ (.tail _ (.tail _ (.tail _ (.head _))))) hd ?_ rfl (hkd _)
    refine blk_own rfl (lookup_relabel_local rfl) (by decide) N4 (.tail _ (.tail _ (.head _))) hC' (v := .int (p.1 : Int) p.2) (if_pos rfl) ?_
    have hsv : (strValues zs)[((p.1 : Nat) : Int).toNat]? = some (.str z.1 z.2) := by rw [Int.toNat_natCast]; unfold strValues; rw [List.getElem?_map, hz]; rfl
    have hzl : p.1 < 2 ^ 40 := hbig p.1 hpk
    refine item_at (vs := strValues zs) (v := .str z.1 z.2) (News.isList N4 (.tail _ (.tail _ (.tail _ (.tail _ (.tail _ (.head _))))))) (by ktr_room) (by ktr_room) hsv ?_ (by with_unfolding_all rfl)
    refine ⟨oC', _, _, hC', trivial, ⟨F4, N4, G4, ho4, D4⟩, ?_, ?_, rfl⟩
    · have h1 : (picks zs ((xs.map (·.1)).take i)).length ≤ ((xs.map (·.1)).take i).length := List.length_filterMap_le ..
      rw [List.length_take, List.length_map] at h1
      rw [sizeLine_eq, strV_len]
      ktr_room
    · rw [List.take_add_one, List.getElem?_map, hp, picks_app]
      show _ = strValues (_ ++ picks zs [p.1])
      rw [picks_cons hz]
      simp [strValues, picks]
  · rintro D ys nw s₂ ⟨rfl, rfl⟩ S2 s₃ S3
    rw [List.take_of_length_le (by simp)] at S3
    exact next D s₃ S3
end Mine
end
section
open PySem PySem.W PyProof.Rows
set_option maxRecDepth 100000
set_option maxHeartbeats 2000000
namespace Mine
theorem pick_ivals (xs : List (Nat × Tok)) (k : Nat) : kms_pick (ivals xs) none (some (k : Int)) = ivals (xs.take k) := by
  unfold kms_pick kms_lo kms_hi
  show ((ivals xs).drop 0).take ((if (k : Int) < 0 then _ else min (k : Int).toNat (ivals xs).length) - 0) = _
  rw [if_neg (by ktr_room), List.drop_zero, Nat.sub_zero, Int.toNat_natCast]
  unfold ivals
  rw [List.map_take, List.length_map, ← List.map_take, ← List.map_take, Nat.min_comm]
  congr 1
  rw [← List.take_take, List.take_of_length_le (by simp; ktr_room)]
theorem iv_at' {xs : List (Nat × Tok)} {i : Nat} {u : Value} (h : (ivals xs).toArray[i]? = some u) : ∃ p, xs[i]? = some p ∧ u = .int (p.1 : Int) p.2 := by
  rw [List.getElem?_toArray] at h
  unfold ivals at h
  rw [List.getElem?_map] at h
  cases e : xs[i]? with
  | none => rw [e] at h; cases h
  | some p => rw [e] at h; exact ⟨p, rfl, (Option.some.inj h).symm⟩
theorem two_ways (z : Int) : z.fmod 2 = 0 ∨ z.fmod 2 = 1 := by rw [Int.fmod_eq_emod_of_nonneg _ (by decide)]; ktr_room
theorem flat_one {a b : Str} {ta tb : Tok} {ca cb : Nat} (ha : L a = [ca]) (hb : L b = [cb]) : ∀ qs : List (Str × Tok), (∀ q ∈ qs, q = (a, ta) ∨ q = (b, tb)) → (qs.flatMap fun z => L z.1).length = qs.length ∧ ∀ c ∈ qs.flatMap fun z => L z.1, c = ca ∨ c = cb
  | [], _ => ⟨rfl, fun _ h => nomatch h⟩
  | q :: qs, h => by
    obtain ⟨h1, h2⟩ := flat_one ha hb qs fun x hx => h x (.tail _ hx)
    rw [List.flatMap_cons, List.length_append, h1, List.length_cons]
    rcases h q (.head _) with rfl | rfl
    · refine ⟨by rw [ha]; simp; ktr_room, fun c hc => ?_⟩
      rcases List.mem_append.mp hc with hc | hc
      · rw [ha] at hc; exact .inl (List.mem_singleton.mp hc)
      · exact h2 c hc
    · refine ⟨by rw [hb]; simp; ktr_room, fun c hc => ?_⟩
      rcases List.mem_append.mp hc with hc | hc
      · rw [hb] at hc; exact .inr (List.mem_singleton.mp hc)
      · exact h2 c hc
/-- the words -/
structure Wm where
  Wl : Addr
  zn : Nat
  zs : List (Str × Tok)
noncomputable def goodW (P : Qm) (z : Str × Tok) : Prop := z.1.length ≤ 4 ∧ L z.1 ≠ [] ∧ ∀ c ∈ L z.1, c = P.ca ∨ c = 34
structure Wm.Ok (P : Qm) (W : Wm) : Prop where
  len : W.zs.length = 3
  wd : ∀ z ∈ W.zs, goodW P z
inductive StB (P : Qm) (W : Wm) (tl ts L' : Addr) (m : Str → Option Value) : Led → Prop
  | mk (o1 o2 o3 o4 o5 o6 o7 o8 : Obj) : o1.data = .cell (some (.ref P.Nl)) → o2.data = .cell (some (.ref P.Ll)) → o3.data = .cell (some (.ref W.Wl)) → bareC o4 → bareC o5 → bareC o6 → bareC o7 → bareC o8 → StB P W tl ts L' m (cells8 L' o1 o2 o3 o4 o5 o6 o7 o8 ++ [(W.Wl, listOf (strValues W.zs).toArray W.zn), (P.Nl, listOf (ivals P.xs).toArray P.nn), (P.Ll, listOf [Value.str P.a P.ta, Value.str P.b P.tb].toArray P.ln), (tl, tabO #[]), (ts, tabO #[])])
theorem law_b (w : World) (Sl : Addr) (so : Obj) (P : Qm) (hP : P.Ok)
  (next : ∀ W : Wm, W.Ok P → LawFrom PySem.Challenge.rw_wr0021_02.row.prog w (Mine.frag.heap_1 w.params) 209 4 Sl so 63 70 70 700 (StB P W 63 70)) :

  LawFrom PySem.Challenge.rw_wr0021_02.row.prog w (Mine.frag.heap_1 w.params) 209 3 Sl so 63 70 70 700 (StA P 63 70) := by
  w_top off
  k_fill
  refine law_from (by k_is) ?_
  rintro loose mean mg mb dp un gd A₀ g L' fa ccd m led os s₁ Q E B X O T ⟨F, N, G, ho, D⟩ ⟨o1, o2, o3, o4, o5, o6, o7, o8, d1, d2, d3, d4, d5, d6, d7, d8⟩ hdp hun hret
  dsimp only [List.drop]
  (try (refine letA ?_; intro kA))
  have pm0 : (cells8 L' o1 o2 o3 o4 o5 o6 o7 o8 ++ [(P.Nl, listOf (ivals P.xs).toArray P.nn), (P.Ll, listOf [Value.str P.a P.ta, Value.str P.b P.tb].toArray P.ln), (63, tabO #[]), (70, tabO #[])]).Perm ((L' + 1, o1) :: (L' + 1 + 1, o2) :: (P.Nl, listOf (ivals P.xs).toArray P.nn) :: (P.Ll, listOf [Value.str P.a P.ta, Value.str P.b P.tb].toArray P.ln) :: (L' + 1 + 1 + 1, o3) :: (L' + 1 + 1 + 1 + 1, o4) :: (L' + 1 + 1 + 1 + 1 + 1, o5) :: (L' + 1 + 1 + 1 + 1 + 1 + 1, o6) :: (L' + 1 + 1 + 1 + 1 + 1 + 1 + 1, o7) :: (L' + 1 + 1 + 1 + 1 + 1 + 1 + 1 + 1, o8) :: (63, tabO #[]) :: (70, tabO #[]) :: []) := (by unfold cells8; exact (by exact pm_idx [[_], [_], [_], [_], [_], [_], [_], [_], [_], [_], [_], [_]] [7, 6, 8, 9, 5, 4, 3, 2, 1, 0, 10, 11] (by kernel_rfl)))
  replace N := News.perm N pm0
  replace D := DN.perm D pm0
  have hxl := hP.len
  have hGate : Gate "eval ListComp" := ⟨⟩
  k_steps
  (all_goals (try k_data))
  (repeat (with_reducible rename Gate _ => hG; clear hG))
  refine Stop.go ?_
  (rename Fr _ _ _ _ => F1)
  (rename News _ _ _ _ => N1)
  refine CompX_obl (x := "x") F1 rfl (by with_unfolding_all rfl) (fun I C X D => turn_one ..) ?_ (fun _ => rfl) (fun _ => rfl) rfl (by decide) (by intro _; rfl)
  have hGate : Gate "subscriptTail Name Slice ref ref" := ⟨⟩
  k_steps
  (repeat (with_reducible rename Gate _ => hG; clear hG))
  refine Stop.go ?_
  (rename Fr _ _ _ _ => F2)
  (rename News _ _ _ _ => N2)
  refine kms_slice_lit (zs := ivals (P.xs.take 3)) F2 N2 (News.isList N2 (.tail _ (.tail _ (.head _)))) .none (.int _ _) (pick_ivals P.xs 3) ?_ (by with_unfolding_all rfl) (by intro _; with_unfolding_all rfl) (by rw [sizeLine_eq]; simp [ivals]; ktr_room)
  intro T3 h3 F3 N3 l3
  have D3 := DN.cons_of (o := listOf (ivals (P.xs.take 3)).toArray 0) D l3
  refine ⟨[T3], [(T3, listOf (ivals (P.xs.take 3)).toArray 0)], 3, _, _, fun i ys nw => ∃ zs, ys = strValues zs ∧ nw = (L' + 1, o1) :: (L' + 1 + 1, o2) :: (P.Nl, listOf (ivals P.xs).toArray P.nn) :: (P.Ll, listOf [Value.str P.a P.ta, Value.str P.b P.tb].toArray P.ln) :: (L' + 1 + 1 + 1, o3) :: (L' + 1 + 1 + 1 + 1, o4) :: (L' + 1 + 1 + 1 + 1 + 1, o5) :: (L' + 1 + 1 + 1 + 1 + 1 + 1, o6) :: (L' + 1 + 1 + 1 + 1 + 1 + 1 + 1, o7) :: (L' + 1 + 1 + 1 + 1 + 1 + 1 + 1 + 1, o8) :: (63, tabO #[]) :: (70, tabO #[]) :: [] ∧ zs.length = i ∧ ∀ z ∈ zs, goodW P z,
    by rw [show 3 = (ivals (P.xs.take 3)).toArray.size by simp [ivals]; ktr_room]; exact src_list (N3.isList (.head _)), by simp, ⟨F3, N3, G, rfl, D3⟩, ⟨[], rfl, rfl, rfl, by simp⟩, ?_, ?_⟩
  · rintro I o C X0 D0 oC oX m₂ i u ys nw s₂ hPi hi ⟨zs, rfl, rfl, hzl, hz⟩ hC ⟨v0, hX⟩ S hpl
    obtain ⟨p, hp, rfl⟩ := iv_at' hPi
    refine blk_cell (pre := (I, o) :: [(T3, listOf (ivals (P.xs.take 3)).toArray 0)] ++ [(C, oC), (D0, LCg.lst (strValues zs))]) rfl rfl hX (by exact S) fun oX2 s₃ hX2 S3 => tests_none ?_
    simp only [if_true]
    refine emit_obl (ys := strValues zs) ?_
    obtain ⟨F4, N4, G4, ho4, D4⟩ := S3
    dsimp only [List.cons_append, List.nil_append] at N4 D4
    have hm4 : ((p.1 : Nat) : Int).fmod 4 = ((p.1 % 4 : Nat) : Int) := by rw [Int.fmod_eq_emod_of_nonneg _ (by decide)]; ktr_room
    have hpb : p.1 ≤ 10 ^ 8 := hP.bd p (List.mem_of_mem_take (List.mem_of_getElem? hp))
    have hGate : Gate "eval ListComp" := ⟨⟩
    k_steps
    (repeat (with_reducible rename Gate _ => hG; clear hG))
    refine Stop.go ?_
    (rename Fr _ _ _ _ => F5)
    (rename News _ _ _ _ => N5)
    refine Comp_obl F5 rfl (by with_unfolding_all rfl) (fun I C D => turn_one ..) ?_ (by decide) rfl (by decide) (by intro _; rfl)
    k_steps
    (rename IsRange _ _ _ _ _ _ _ _ => R6)
    (rename Fr _ _ _ _ => F6)
    (rename News _ _ _ _ => N6)
    rw [hm4] at R6
    refine ⟨[], [], 1 + p.1 % 4, _, (I, o) :: (T3, listOf (ivals (P.xs.take 3)).toArray 0) :: (C, oC) :: (D0, LCg.lst (strValues zs)) :: (X0, oX2) :: (L' + 1, o1) :: (L' + 1 + 1, o2) :: (P.Nl, listOf (ivals P.xs).toArray P.nn) :: (P.Ll, listOf [Value.str P.a P.ta, Value.str P.b P.tb].toArray P.ln) :: (L' + 1 + 1 + 1, o3) :: (L' + 1 + 1 + 1 + 1, o4) :: (L' + 1 + 1 + 1 + 1 + 1, o5) :: (L' + 1 + 1 + 1 + 1 + 1 + 1, o6) :: (L' + 1 + 1 + 1 + 1 + 1 + 1 + 1, o7) :: (L' + 1 + 1 + 1 + 1 + 1 + 1 + 1 + 1, o8) :: (63, tabO #[]) :: (70, tabO #[]) :: [], fun j ys nw => ∃ qs : List (Str × Tok), ys = strValues qs ∧ nw = (I, o) :: (T3, listOf (ivals (P.xs.take 3)).toArray 0) :: (C, oC) :: (D0, LCg.lst (strValues zs)) :: (X0, oX2) :: (L' + 1, o1) :: (L' + 1 + 1, o2) :: (P.Nl, listOf (ivals P.xs).toArray P.nn) :: (P.Ll, listOf [Value.str P.a P.ta, Value.str P.b P.tb].toArray P.ln) :: (L' + 1 + 1 + 1, o3) :: (L' + 1 + 1 + 1 + 1, o4) :: (L' + 1 + 1 + 1 + 1 + 1, o5) :: (L' + 1 + 1 + 1 + 1 + 1 + 1, o6) :: (L' + 1 + 1 + 1 + 1 + 1 + 1 + 1, o7) :: (L' + 1 + 1 + 1 + 1 + 1 + 1 + 1 + 1, o8) :: (63, tabO #[]) :: (70, tabO #[]) :: [] ∧ qs.length = j ∧ ∀ q ∈ qs, q = (P.a, P.ta) ∨ q = (P.b, P.tb),
      src_range R6 (small_one (by ktr_room) (by ktr_room) (by ktr_room) (by ktr_room)) _ (by rw [show 1 + ((p.1 % 4 : Nat) : Int) = ((1 + p.1 % 4 : Nat) : Int) by ktr_room, rangeSize_nat]; ktr_room), (by simp), ⟨F6, N6, G4, rfl, D4⟩, ⟨[], rfl, rfl, rfl, by simp⟩, ?_, ?_⟩
    · rintro I2 o2' C2 D2' oC2 m2 j u ys nw s₅ ⟨tu, rfl⟩ hj ⟨qs, rfl, rfl, hql, hq⟩ hC2 S2 hpl2
      refine blk_name rfl rfl hC2 S2 fun oC3 s₆ hC3 S3 => tests_none ?_
      simp only [if_true]
      refine emit_obl (ys := strValues qs) ?_
      obtain ⟨F7, N7, G7, ho7, D7⟩ := S3
      dsimp only [List.cons_append, List.nil_append] at N7 D7
      have hGate : Gate "subscriptTail Name BinOp ref int" := ⟨⟩
      k_steps
      (repeat (with_reducible rename Gate _ => hG; clear hG))
      refine Stop.go ?_
      (rename Fr _ _ _ _ => F8)
      (rename News _ _ _ _ => N8)
      have h2 := two_ways ((((p.1 : Nat) : Int).fdiv 4).fdiv (2 ^ (0 + (j : Int) * 1).toNat))
      obtain ⟨q, hq1, hq2⟩ : ∃ q : Str × Tok, [Value.str P.a P.ta, Value.str P.b P.tb][(((((p.1 : Nat) : Int).fdiv 4).fdiv (2 ^ (0 + (j : Int) * 1).toNat)).fmod 2).toNat]? = some (.str q.1 q.2) ∧ (q = (P.a, P.ta) ∨ q = (P.b, P.tb)) := by
        rcases h2 with e | e
        · rw [e]; exact ⟨(P.a, P.ta), rfl, .inl rfl⟩
        · rw [e]; exact ⟨(P.b, P.tb), rfl, .inr rfl⟩
      refine item_at (vs := [Value.str P.a P.ta, Value.str P.b P.tb]) (v := .str q.1 q.2) (News.isList N8 (by k_mem)) (by ktr_room) (by ktr_room) hq1 ?_ (by with_unfolding_all rfl)
      refine ⟨oC3, _, _, hC3, trivial, ⟨F8, N8, G7, ho7, D7⟩, by rw [sizeLine_eq, strV_len]; ktr_room, qs ++ [q], by simp [strValues], rfl, by simp; ktr_room, fun q' h' => ?_⟩
      rcases List.mem_append.mp h' with h | h
      · exact hq q' h
      · rw [List.mem_singleton.mp h]; exact hq2
    · rintro D2' ys nw s₅ ⟨qs, rfl, rfl, hql, hq⟩ S2 s₆ S3
      obtain ⟨F7, N7, G7, ho7, D7⟩ := S3
      dsimp only [List.cons_append, List.nil_append] at N7 D7
      have hGate : Gate "call builtin:str.join" := ⟨⟩
      k_steps
      (repeat (with_reducible rename Gate _ => hG; clear hG))
      refine Stop.go ?_
      (rename Fr _ _ _ _ => F8)
      (rename News _ _ _ _ => N8)
      obtain ⟨hf1, hf2⟩ := flat_one hP.la hP.lb qs hq
      refine join_led0 (zs := qs) (News.isList N8 (.head _)) (by rw [hf1]; ktr_room) ?_
      intro y ty k hy
      have hyl : y.length = 1 + p.1 % 4 := by rw [← L_len, hy, hf1, hql]
      refine ⟨oC, m₂, _, hC, trivial, ⟨F8, fun q hq => N8 q (.tail _ hq), G7, ho7.trans ho4, D7.tail⟩, by rw [sizeLine_eq, strV_len]; ktr_room, oX2, _, rfl, ⟨_, hX2⟩, zs ++ [(y, ty)], by simp [strValues], rfl, by simp; ktr_room, fun z' h' => ?_⟩
      rcases List.mem_append.mp h' with h | h
      · exact hz z' h
      · rw [List.mem_singleton.mp h]
        refine ⟨by show y.length ≤ 4; ktr_room, fun e => ?_, fun c hc => hf2 c (by rw [← hy]; exact hc)⟩
        have := congrArg List.length e
        rw [L_len, hyl] at this
        simp at this
  · rintro D0 ys nw s₂ ⟨zs, rfl, rfl, hzl, hz⟩ S s₃ S'
    obtain ⟨F4, N4, G4, ho4, D4⟩ := S'
    dsimp only [List.cons_append, List.nil_append] at N4 D4
    obtain ⟨v3, d3⟩ := d3
    refine st_cell (pre := (T3, listOf (ivals (P.xs.take 3)).toArray 0) :: (D0, LCg.lst (strValues zs)) :: (L' + 1, o1) :: (L' + 1 + 1, o2) :: (P.Nl, listOf (ivals P.xs).toArray P.nn) :: (P.Ll, listOf [Value.str P.a P.ta, Value.str P.b P.tb].toArray P.ln) :: []) (os := os) ⟨F4, N4, G4, ho4.trans ho, D4⟩ rfl rfl d3 rfl ?_
    rintro h8 o3' d3' ⟨F8, N8, G8, ho8, D8⟩
    (try clear S); (try clear N4); (try clear F4); (try clear D4)
    dsimp only [List.nil_append, List.cons_append] at N8 D8
    have hGate : Gate "execs cons" := ⟨⟩
    k_steps
    (repeat (with_reducible rename Gate _ => hG; clear hG))
    refine Stop.go ?_
    have pm1 : ((T3, listOf (ivals (P.xs.take 3)).toArray 0) :: (D0, LCg.lst (strValues zs)) :: (L' + 1, o1) :: (L' + 1 + 1, o2) :: (P.Nl, listOf (ivals P.xs).toArray P.nn) :: (P.Ll, listOf [Value.str P.a P.ta, Value.str P.b P.tb].toArray P.ln) :: (L' + 1 + 1 + 1, o3') :: (L' + 1 + 1 + 1 + 1, o4) :: (L' + 1 + 1 + 1 + 1 + 1, o5) :: (L' + 1 + 1 + 1 + 1 + 1 + 1, o6) :: (L' + 1 + 1 + 1 + 1 + 1 + 1 + 1, o7) :: (L' + 1 + 1 + 1 + 1 + 1 + 1 + 1 + 1, o8) :: (63, tabO #[]) :: (70, tabO #[]) :: []).Perm ([(T3, listOf (ivals (P.xs.take 3)).toArray 0)] ++ (cells8 L' o1 o2 o3' o4 o5 o6 o7 o8 ++ [(D0, listOf (strValues zs).toArray (strValues zs).length), (P.Nl, listOf (ivals P.xs).toArray P.nn), (P.Ll, listOf [Value.str P.a P.ta, Value.str P.b P.tb].toArray P.ln), (63, tabO #[]), (70, tabO #[])])) := (by unfold cells8; exact (by exact pm_idx [[_], [_], [_], [_], [_], [_], [_], [_], [_], [_], [_], [_], [_], [_]] [0, 11, 10, 9, 8, 7, 6, 3, 2, 1, 4, 5, 12, 13] (by kernel_rfl)))
    exact LawFrom.go (next ⟨D0, (strValues zs).length, zs⟩ ⟨hzl, hz⟩) (by k_is) rfl B X O T ⟨F8, sub_nw N8 ⟨_, pm1⟩, G8, ho8, sub_dn D8 ⟨_, pm1⟩⟩ ⟨o1, o2, o3', o4, o5, o6, o7, o8, d1, d2, d3', d4, d5, d6, d7, d8⟩ hdp hun hret
end Mine
end
section
open PySem PySem.W PyProof.Rows
set_option maxRecDepth 100000
set_option maxHeartbeats 2000000
namespace Mine
theorem dblL_le : ∀ l : List Nat, (dblL l).length ≤ 2 * l.length
  | [] => Nat.le_refl _
  | c :: l => by
    have := dblL_le l
    simp only [dblL, List.flatMap_cons, List.length_append, List.length_cons] at this ⊢
    split <;> simp <;> ktr_room
theorem goodW.fine {P : Qm} {z : Str × Tok} (h : goodW P z) : Fine z.1 := fun c hc => by
  rcases h.2.2 c hc with e | e
  · rw [e]
    show (if P.tot % 3 = 2 then 10 else 97 + P.tot % 50000) ≠ 46 ∧ (if P.tot % 3 = 2 then 10 else 97 + P.tot % 50000) < 60000
    split <;> ktr_room
  · ktr_room
/-- the frame's ledger: numbers, letters, words, the tables -/
noncomputable def coreW (P : Qm) (W : Wm) (tl ts L' : Addr) (o1 o2 o3 o4 o5 o6 o7 o8 : Obj) (pl pl' : Array Value) : Led := (L' + 1, o1) :: (L' + 1 + 1, o2) :: (L' + 1 + 1 + 1, o3) :: (W.Wl, listOf (strValues W.zs).toArray W.zn) :: (P.Nl, listOf (ivals P.xs).toArray P.nn) :: (P.Ll, listOf [Value.str P.a P.ta, Value.str P.b P.tb].toArray P.ln) :: (L' + 1 + 1 + 1 + 1, o4) :: (L' + 1 + 1 + 1 + 1 + 1, o5) :: (L' + 1 + 1 + 1 + 1 + 1 + 1, o6) :: (L' + 1 + 1 + 1 + 1 + 1 + 1 + 1, o7) :: (L' + 1 + 1 + 1 + 1 + 1 + 1 + 1 + 1, o8) :: (tl, tabO pl) :: (ts, tabO pl') :: []
inductive stW (P : Qm) (W : Wm) (tl ts L' : Addr) (m : Str → Option Value) : Led → Prop
  | mk : ∀ (o1 o2 o3 o4 o5 o6 o7 o8 : Obj) (pl pl' : Array Value), o1.data = .cell (some (.ref P.Nl)) → o2.data = .cell (some (.ref P.Ll)) → o3.data = .cell (some (.ref W.Wl)) → bareC o4 → bareC o5 → bareC o6 → bareC o7 → bareC o8 → TriplesOk pl.toList → TriplesOk pl'.toList → stW P W tl ts L' m (coreW P W tl ts L' o1 o2 o3 o4 o5 o6 o7 o8 pl pl')
theorem law_c (w : World) (Sl : Addr) (so : Obj) (P : Qm) (hP : P.Ok) (W : Wm) (hW : W.Ok P)
  (next : LawFrom PySem.Challenge.rw_wr0021_02.row.prog w (Mine.frag.heap_1 w.params) 209 5 Sl so 63 70 70 700 (stW P W 63 70)) :
  LawFrom PySem.Challenge.rw_wr0021_02.row.prog w (Mine.frag.heap_1 w.params) 209 4 Sl so 63 70 70 700 (stW P W 63 70) := by
  w_top off
  k_fill
  refine law_from (by k_is) ?_
  rintro loose mean mg mb dp un gd A₀ g L' fa ccd m led os s₁ Q E B X O T ⟨F, N, G, ho, D⟩ ⟨o1, o2, o3, o4, o5, o6, o7, o8, pl, pl', d1, d2, d3, d4, d5, d6, d7, d8, hpl, hpl'⟩ hdp hun hret
  dsimp only [List.drop]
  (try (refine letA ?_; intro kA))
  dsimp only [coreW] at N D
  have hzl := hW.len
  have hsl := strV_len W.zs
  have hGate : Gate "exec For" := ⟨⟩
  k_steps
  (all_goals (try k_data))
  (repeat (with_reducible rename Gate _ => hG; clear hG))
  refine Stop.go ?_
  (rename Fr _ _ _ _ => F1)
  (rename News _ _ _ _ => N1)
  refine For_obl (h₀ := g) rfl ?_ (by intro _; rfl)
  k_steps
  (rename Fr _ _ _ _ => F2)
  (rename News _ _ _ _ => N2)
  have pm : ((L' + 1, o1) :: (L' + 1 + 1, o2) :: (L' + 1 + 1 + 1, o3) :: (W.Wl, listOf (strValues W.zs).toArray W.zn) :: (P.Nl, listOf (ivals P.xs).toArray P.nn) :: (P.Ll, listOf [Value.str P.a P.ta, Value.str P.b P.tb].toArray P.ln) :: (L' + 1 + 1 + 1 + 1, o4) :: (L' + 1 + 1 + 1 + 1 + 1, o5) :: (L' + 1 + 1 + 1 + 1 + 1 + 1, o6) :: (L' + 1 + 1 + 1 + 1 + 1 + 1 + 1, o7) :: (L' + 1 + 1 + 1 + 1 + 1 + 1 + 1 + 1, o8) :: (63, tabO pl) :: (70, tabO pl') :: []).Perm ([(W.Wl, listOf (strValues W.zs).toArray W.zn)] ++ ((L' + 1, o1) :: (L' + 1 + 1, o2) :: (L' + 1 + 1 + 1, o3) :: (P.Nl, listOf (ivals P.xs).toArray P.nn) :: (P.Ll, listOf [Value.str P.a P.ta, Value.str P.b P.tb].toArray P.ln) :: (L' + 1 + 1 + 1 + 1, o4) :: (L' + 1 + 1 + 1 + 1 + 1, o5) :: (L' + 1 + 1 + 1 + 1 + 1 + 1, o6) :: (L' + 1 + 1 + 1 + 1 + 1 + 1 + 1, o7) :: (L' + 1 + 1 + 1 + 1 + 1 + 1 + 1 + 1, o8) :: (63, tabO pl) :: (70, tabO pl') :: [])) := (by exact pm_idx [[_], [_], [_], [_], [_], [_], [_], [_], [_], [_], [_], [_], [_]] [3, 0, 1, 2, 4, 5, 6, 7, 8, 9, 10, 11, 12] (by kernel_rfl))
  refine ⟨[W.Wl], [(W.Wl, listOf (strValues W.zs).toArray W.zn)], W.zs.length, _, _, (L' + 1, o1) :: (L' + 1 + 1, o2) :: (L' + 1 + 1 + 1, o3) :: (P.Nl, listOf (ivals P.xs).toArray P.nn) :: (P.Ll, listOf [Value.str P.a P.ta, Value.str P.b P.tb].toArray P.ln) :: (L' + 1 + 1 + 1 + 1, o4) :: (L' + 1 + 1 + 1 + 1 + 1, o5) :: (L' + 1 + 1 + 1 + 1 + 1 + 1, o6) :: (L' + 1 + 1 + 1 + 1 + 1 + 1 + 1, o7) :: (L' + 1 + 1 + 1 + 1 + 1 + 1 + 1 + 1, o8) :: (63, tabO pl) :: (70, tabO pl') :: [], fun i m' nw => nw = (L' + 1, o1) :: (L' + 1 + 1, o2) :: (L' + 1 + 1 + 1, o3) :: (P.Nl, listOf (ivals P.xs).toArray P.nn) :: (P.Ll, listOf [Value.str P.a P.ta, Value.str P.b P.tb].toArray P.ln) :: (L' + 1 + 1 + 1 + 1, o4) :: (L' + 1 + 1 + 1 + 1 + 1, o5) :: (L' + 1 + 1 + 1 + 1 + 1 + 1, o6) :: (L' + 1 + 1 + 1 + 1 + 1 + 1 + 1, o7) :: (L' + 1 + 1 + 1 + 1 + 1 + 1 + 1 + 1, o8) :: (63, tabO pl) :: (70, tabO pl') :: [], _,
    by rw [← strV_len W.zs]; exact src_list (N2.isList (.tail _ (.tail _ (.tail _ (.head _))))), by simp, ⟨F2, News.perm N2 pm, G, rfl, DN.perm D pm⟩, rfl, fun I o i u m' nw s₂ Q' hP hi hJ S _ h => asg_name rfl rfl S h, ?_, ?_⟩
  · rintro I o i u m' nw s₂ hPi hi rfl ⟨F3, N3, G3, ho3, D3⟩
    obtain ⟨⟨z, tz⟩, hz, rfl⟩ := strV_at hPi
    have hzg := hW.wd _ (List.mem_of_getElem? hz)
    have hzf := hzg.fine
    have hz4 : z.length ≤ 4 := hzg.1
    (try clear F); (try clear N); (try clear F1); (try clear N1); (try clear F2); (try clear N2); (try clear D); (try clear pm)
    dsimp only [List.nil_append, List.cons_append] at N3 D3
    have hGate : Gate "binaryOp Add str str" := ⟨⟩
    k_steps
    (all_goals (try k_data))
    (repeat (with_reducible rename Gate _ => hG; clear hG))
    refine Stop.go ?_
    have hrm := replace_marks z
    generalize Txt.replace z (Str.ofString "\"") (Str.ofString "\"\"") = dt at *
    have hdl : dt.length ≤ 8 := by
      rw [← L_len, hrm]
      have := dblL_le (L z)
      rw [L_len] at this
      ktr_room
    refine add_led (a := 5) (b := 8) (by decide +kernel) hdl (by decide) ?_
    intro t1 k1 hl1
    have hGate : Gate "binaryOp Add str str" := ⟨⟩
    k_steps
    (repeat (with_reducible rename Gate _ => hG; clear hG))
    refine Stop.go ?_
    refine add_led (a := 13) (b := 1) hl1 (by decide +kernel) (by decide) ?_
    intro t2 k2 hl2
    have hcl : L (Str.ofString "257 \"" ++ dt ++ Str.ofString "\"") = [50, 53, 55, 32, 34] ++ (dblL (L z) ++ [34]) := by
      rw [L_app, L_app, hrm, show L (Str.ofString "257 \"") = [50, 53, 55, 32, 34] by decide +kernel, show L (Str.ofString "\"") = [34] by decide +kernel, List.append_assoc]
    generalize Str.ofString "257 \"" ++ dt ++ Str.ofString "\"" = cl at *
    have hGate : Gate "call ref" := ⟨⟩
    k_steps
    (repeat (with_reducible rename Gate _ => hG; clear hG))
    refine Stop.go ?_
    (rename Fr _ _ _ _ => F4)
    (rename News _ _ _ _ => N4)
    refine Does.at (parse_spec w cl _ (Nat.le_trans hl2 (by decide)) (by rw [show cl.cps.toList = L cl from rfl, hcl]; rfl)) B F4 X N4 T (by assumption) D3 rfl _ (.refl _) (by first | exact room1 (by assumption) (by decide) | exact room2 (by assumption) (by decide) | exact room3 (by assumption) (by decide) | ktr_room) (by first | exact room1 (by assumption) (by decide) | exact room2 (by assumption) (by decide) | exact room3 (by assumption) (by decide) | ktr_room) ?_
    rintro v s5 nw F5 N5 G5 ho5 D5 ⟨⟨t3, rfl⟩, rfl⟩
    rw [parseM_dbl (x := z) (tail := []) hcl (by simp)]
    (try clear F4); (try clear N4); (try clear F3); (try clear N3); (try clear D3)
    dsimp only [List.nil_append] at N5 D5
    have hGate : Gate "binaryOp Add str str" := ⟨⟩
    k_steps
    (repeat (with_reducible rename Gate _ => hG; clear hG))
    refine Stop.go ?_
    refine add_led (a := 14) (b := 1) hl2 (by decide +kernel) (by decide) ?_
    intro t4 k4 hl4
    have hGate : Gate "binaryOp Add str str" := ⟨⟩
    k_steps
    (repeat (with_reducible rename Gate _ => hG; clear hG))
    refine Stop.go ?_
    refine add_led (a := 15) (b := 4) hl4 hz4 (by decide) ?_
    intro t5 k5 hl5
    have hcl2 : L (cl ++ Str.ofString " " ++ z) = [50, 53, 55, 32, 34] ++ (dblL (L z) ++ 34 :: ([32] ++ L z)) := by
      rw [L_app, L_app, hcl, show L (Str.ofString " ") = [32] by decide +kernel]
      simp
    generalize cl ++ Str.ofString " " ++ z = cl2 at *
    have hGate : Gate "call ref" := ⟨⟩
    k_steps
    (repeat (with_reducible rename Gate _ => hG; clear hG))
    refine Stop.go ?_
    (rename Fr _ _ _ _ => F6)
    (rename News _ _ _ _ => N6)
    refine Does.at (parse_spec w cl2 _ (Nat.le_trans hl5 (by decide)) (by rw [show cl2.cps.toList = L cl2 from rfl, hcl2]; rfl)) B F6 X N6 T (by assumption) D5 rfl _ (.refl _) (by first | exact room1 (by assumption) (by decide) | exact room2 (by assumption) (by decide) | exact room3 (by assumption) (by decide) | ktr_room) (by first | exact room1 (by assumption) (by decide) | exact room2 (by assumption) (by decide) | exact room3 (by assumption) (by decide) | ktr_room) ?_
    rintro v s7 nw F7 N7 G7 ho7 D7 ⟨⟨t7, rfl⟩, rfl⟩
    rw [parseM_dbl (x := z) (tail := [32] ++ L z) hcl2 (by simp)]
    (try clear F6); (try clear N6); (try clear F5); (try clear N5); (try clear D5)
    dsimp only [List.nil_append] at N7 D7
    have hGate : Gate "binaryOp Add str str" := ⟨⟩
    k_steps
    (repeat (with_reducible rename Gate _ => hG; clear hG))
    refine Stop.go ?_
    (rename Fr _ _ _ _ => F8)
    (rename News _ _ _ _ => N8)
    have hsc : (Txt.slice cl (some 4) none).length ≤ 14 := le_slice hl2
    have hcl3 : L (Str.ofString "257-" ++ Txt.slice cl (some 4) none) = 50 :: 53 :: 55 :: 45 :: L (Txt.slice cl (some 4) none) := by
      rw [L_app, show L (Str.ofString "257-") = [50, 53, 55, 45] by decide +kernel]; rfl
    generalize Txt.slice cl (some 4) none = sc at *
    refine add_led (a := 4) (b := 14) (by decide +kernel) hsc (by decide) ?_
    intro t9 k9 hl9
    generalize Str.ofString "257-" ++ sc = cl3 at *
    have hGate : Gate "call ref" := ⟨⟩
    k_steps
    (repeat (with_reducible rename Gate _ => hG; clear hG))
    refine Stop.go ?_
    (rename Fr _ _ _ _ => F9)
    (rename News _ _ _ _ => N9)
    refine Does.at (parse_spec w cl3 _ (Nat.le_trans hl9 (by decide)) (by rw [show cl3.cps.toList = L cl3 from rfl, hcl3]; rfl)) B F9 X N9 T (by assumption) D7 rfl _ (.refl _) (by first | exact room1 (by assumption) (by decide) | exact room2 (by assumption) (by decide) | exact room3 (by assumption) (by decide) | ktr_room) (by first | exact room1 (by assumption) (by decide) | exact room2 (by assumption) (by decide) | exact room3 (by assumption) (by decide) | ktr_room) ?_
    rintro v s10 nw F10 N10 G10 ho10 D10 ⟨⟨t10, rfl⟩, rfl⟩
    rw [show parseM cl3 = Str.ofString "" from (parseM_other (by rw [hcl3]; simp)).trans (by decide +kernel)]
    (try clear F9); (try clear N9); (try clear F8); (try clear N8); (try clear F7); (try clear N7); (try clear D7)
    dsimp only [List.nil_append] at N10 D10
    have hGate : Gate "compareOp NotEq ref ref" := ⟨⟩
    k_steps
    (repeat (with_reducible rename Gate _ => hG; clear hG))
    refine Stop.go ?_
    (rename Fr _ _ _ _ => F11)
    (rename News _ _ _ _ => N11)
    have hok : ∀ x ∈ [z, z, Str.ofString ""], PySem.PyData.strOk x = true := by
      intro x hx
      simp only [List.mem_cons, List.not_mem_nil, or_false] at hx
      rcases hx with rfl | rfl | rfl
      · exact hzf.ok
      · exact hzf.ok
      · decide +kernel
    refine ne_txts (a := [(z, _), (z, _), (Str.ofString "", _)]) (b := [(z, _), (z, _), (Str.ofString "", _)]) (N11 _ (.tail _ (.head _))).1 rfl rfl (N11 _ (.head _)).1 rfl rfl hok hok (by show un + 64 < cLine; ktr_room) ?_
    rw [show (!decide (([(z, _), (z, _), (Str.ofString "", _)] : List (Str × Tok)).map (·.1) = ([(z, _), (z, _), (Str.ofString "", _)] : List (Str × Tok)).map (·.1))) = false by simp]
    k_steps
    (rename Fr _ _ _ _ => F12)
    (rename News _ _ _ _ => N12)
    exact ⟨_, _, ⟨F12, fun q hq => N12 q (.tail _ (.tail _ hq)), G10, ho10.trans (ho7.trans (ho5.trans ho3)), D10⟩, rfl⟩
  · rintro m' nw s₂ rfl ⟨F3, N3, G3, ho3, D3⟩
    dsimp only [List.nil_append, List.cons_append] at N3 D3
    have hGate : Gate "execs cons" := ⟨⟩
    k_steps
    (repeat (with_reducible rename Gate _ => hG; clear hG))
    refine Stop.go ?_
    have pm2 : ((W.Wl, listOf (strValues W.zs).toArray W.zn) :: (L' + 1, o1) :: (L' + 1 + 1, o2) :: (L' + 1 + 1 + 1, o3) :: (P.Nl, listOf (ivals P.xs).toArray P.nn) :: (P.Ll, listOf [Value.str P.a P.ta, Value.str P.b P.tb].toArray P.ln) :: (L' + 1 + 1 + 1 + 1, o4) :: (L' + 1 + 1 + 1 + 1 + 1, o5) :: (L' + 1 + 1 + 1 + 1 + 1 + 1, o6) :: (L' + 1 + 1 + 1 + 1 + 1 + 1 + 1, o7) :: (L' + 1 + 1 + 1 + 1 + 1 + 1 + 1 + 1, o8) :: (63, tabO pl) :: (70, tabO pl') :: []).Perm (coreW P W 63 70 L' o1 o2 o3 o4 o5 o6 o7 o8 pl pl') := (by unfold coreW; exact (by exact pm_idx [[_], [_], [_], [_], [_], [_], [_], [_], [_], [_], [_], [_], [_]] [1, 2, 3, 0, 4, 5, 6, 7, 8, 9, 10, 11, 12] (by kernel_rfl)))
    exact LawFrom.go next (by k_is) rfl B X O T ⟨F3, News.perm N3 pm2, G3, ho3.trans ho, DN.perm D3 pm2⟩ ⟨o1, o2, o3, o4, o5, o6, o7, o8, pl, pl', d1, d2, d3, d4, d5, d6, d7, d8, hpl, hpl'⟩ hdp hun hret
end Mine
end
section
open PySem PySem.W PyProof.Rows
set_option maxRecDepth 100000
set_option maxHeartbeats 2000000
namespace Mine
/-- a row's list -/
structure RowE where
  A : Addr
  n : Nat
  xs : List (Nat × Tok)
noncomputable def RowE.ent (r : RowE) : Addr × Obj := (r.A, listOf (ivals r.xs).toArray r.n)
noncomputable abbrev RowE.row (r : RowE) : List Nat := r.xs.map (·.1)
noncomputable def rrefs (rs : List RowE) : List Value := rs.map fun r => .ref r.A
structure Rm where
  Rw : Addr
  rn : Nat
  r0 : RowE
  rs : List RowE
structure Rm.Ok (W : Wm) (R : Rm) : Prop where
  row : ∀ r ∈ R.r0 :: R.rs, Row (tx W.zs) r.row ∧ spell (tx W.zs) r.row = spell (tx W.zs) R.r0.row ∧ r.row.length ≤ 14
  ne : R.r0.row ≠ []
inductive stR (P : Qm) (W : Wm) (R : Rm) (tl ts L' : Addr) (m : Str → Option Value) : Led → Prop
  | mk : m "rows" = some (.ref R.Rw) → ∀ (o1 o2 o3 o4 o5 o6 o7 o8 : Obj) (pl pl' : Array Value), o1.data = .cell (some (.ref P.Nl)) → o2.data = .cell (some (.ref P.Ll)) → o3.data = .cell (some (.ref W.Wl)) → bareC o4 → bareC o5 → bareC o6 → bareC o7 → bareC o8 → TriplesOk pl.toList → TriplesOk pl'.toList → stR P W R tl ts L' m (coreW P W tl ts L' o1 o2 o3 o4 o5 o6 o7 o8 pl pl' ++ (R.Rw, listOf (rrefs (R.r0 :: R.rs)).toArray R.rn) :: (R.r0 :: R.rs).map RowE.ent)
theorem dat_ivals (news : Led) : ∀ xs : List (Nat × Tok), DatAll news (ivals xs) (xs.map fun p => Dat.int (p.1 : Int))
  | [] => .nil
  | p :: xs => .cons (.int _ _) (dat_ivals news xs)
theorem pow3 : ∀ i < 5, 0 < (3 : Int) ^ i ∧ (3 : Int) ^ i ≤ 81 := by decide
theorem ivals_snoc {ws : List (Nat × Tok)} {y : Int} {c : Nat} {t : Tok} (h : y = (c : Int)) : ivals ws ++ [Value.int y t] = ivals (ws ++ [(c, t)]) := by subst h; simp [ivals]
theorem digit3 (n i : Nat) : ((n : Int).fdiv (3 ^ ((i : Nat) : Int).toNat)).fmod 3 = ((n / 3 ^ i % 3 : Nat) : Int) := by
  rw [Int.toNat_natCast, Int.fdiv_eq_ediv_of_nonneg _ (Int.pow_nonneg (by decide)), Int.fmod_eq_emod_of_nonneg _ (by decide)]
  push_cast
  rfl
theorem two_pow (n : Nat) (h : n ≤ 4) : (2 : Int) ^ (4 - (n : Int)).toNat = ((2 ^ (4 - n) : Nat) : Int) := by
  rw [show (4 - (n : Int)).toNat = 4 - n by ktr_room]
  push_cast
  rfl
theorem kraft_zs {P : Qm} {zs : List (Str × Tok)} (hl : zs.length = 3) (hg : ∀ z ∈ zs, goodW P z) (hu : UD (tx zs)) : (zs.map fun z => 2 ^ (4 - z.1.length)).sum ≤ 16 := by
  have hw : ∀ x < (tx zs).length, ∃ z ∈ zs, wd (tx zs) x = L z.1 := fun x hx => by
    rw [tx_len] at hx
    exact ⟨_, List.getElem_mem hx, wd_tx (List.getElem?_eq_getElem hx)⟩
  have k := kraft (W := tx zs) (by rw [tx_len, hl]) hu (a := P.ca) (b := 34) (fun x hx c hc => by
    obtain ⟨z, hz, e⟩ := hw x hx
    rw [e] at hc
    exact (hg z hz).2.2 c hc) (fun x hx => by
    obtain ⟨z, hz, e⟩ := hw x hx
    obtain ⟨h1, h2, _⟩ := hg z hz
    have := List.length_pos_iff.mpr h2
    rw [e]
    rw [L_len] at this ⊢
    ktr_room)
  match zs, hl with
  | [a, b, c], _ =>
    have e : ∀ z : Str × Tok, z.1.length = (L z.1).length := fun z => (L_len z.1).symm
    simp only [List.map_cons, List.map_nil, List.sum_cons, List.sum_nil, e]
    have k2 : 2 ^ (4 - (L a.1).length) + 2 ^ (4 - (L b.1).length) + 2 ^ (4 - (L c.1).length) ≤ 16 := k
    ktr_room
theorem ud_nodup {W : List (List Nat)} (hu : UD W) : W.Nodup := by
  refine List.pairwise_iff_getElem.mpr fun i j hi hj hij e => ?_
  have hw : ∀ k (hk : k < W.length), wd W k = W[k] := fun k hk => by unfold wd; rw [List.getD_eq_getElem?_getD, List.getElem?_eq_getElem hk]; rfl
  have h := hu [i] [j] (.one hi) (.one hj) (by rw [spell_one, spell_one, hw i hi, hw j hj, e])
  have : i = j := (List.cons.inj h).1
  ktr_room
/-- between the words whose readings are counted -/
inductive RdsJ (pre rz : Led) (i : Nat) (ys : List Value) : Led → Prop
  | mk (ws : List (Nat × Tok)) (pl pl' : Array Value) : ys = ivals ws → ws.map (·.1) = List.replicate i 1 → TriplesOk pl.toList → TriplesOk pl'.toList → RdsJ pre rz i ys (pre ++ (63, tabO pl) :: (70, tabO pl') :: rz)
theorem law_d (w : World) (Sl : Addr) (so : Obj) (P : Qm) (hP : P.Ok) (W : Wm) (hW : W.Ok P)
  (next : ∀ R : Rm, R.Ok W → LawFrom PySem.Challenge.rw_wr0021_02.row.prog w (Mine.frag.heap_1 w.params) 209 7 Sl so 63 70 70 700 (stR P W R 63 70)) :
  LawFrom PySem.Challenge.rw_wr0021_02.row.prog w (Mine.frag.heap_1 w.params) 209 5 Sl so 63 70 70 700 (stW P W 63 70) := by
  w_top off
  k_fill
  refine law_from (by k_is) ?_
  rintro loose mean mg mb dp un gd A₀ g L' fa ccd m led os s₁ Q E B X O T ⟨F, N, G, ho, D⟩ ⟨o1, o2, o3, o4, o5, o6, o7, o8, pl, pl', d1, d2, d3, d4, d5, d6, d7, d8, hpl, hpl'⟩ hdp hun hret
  dsimp only [List.drop]
  (try (refine letA ?_; intro kA))
  obtain ⟨rz, hrz⟩ : ∃ rz : Led, rz = [(L' + 1 + 1, o2), (P.Ll, listOf [Value.str P.a P.ta, Value.str P.b P.tb].toArray P.ln), (L' + 1 + 1 + 1 + 1 + 1, o5), (L' + 1 + 1 + 1 + 1 + 1 + 1, o6), (L' + 1 + 1 + 1 + 1 + 1 + 1 + 1, o7), (L' + 1 + 1 + 1 + 1 + 1 + 1 + 1 + 1, o8)] := ⟨_, rfl⟩
  have pm0 : (coreW P W 63 70 L' o1 o2 o3 o4 o5 o6 o7 o8 pl pl').Perm ((L' + 1, o1) :: (L' + 1 + 1 + 1, o3) :: (L' + 1 + 1 + 1 + 1, o4) :: (W.Wl, listOf (strValues W.zs).toArray W.zn) :: (P.Nl, listOf (ivals P.xs).toArray P.nn) :: (63, tabO pl) :: (70, tabO pl') :: rz) := by rw [hrz]; unfold coreW; exact (by exact pm_idx [[_], [_], [_], [_], [_], [_], [_], [_], [_], [_], [_], [_], [_]] [0, 2, 6, 3, 4, 11, 12, 1, 5, 7, 8, 9, 10] (by kernel_rfl))
  replace N := News.perm N pm0
  replace D := DN.perm D pm0
  clear pm0
  have hzl := hW.len
  have hsl := strV_len W.zs
  have hxl := hP.len
  have hfd : ∀ z ∈ W.zs, Fine z.1 ∧ z.1.length ≤ 4 ∧ L z.1 ≠ [] := fun z hz => ⟨(hW.wd z hz).fine, (hW.wd z hz).1, (hW.wd z hz).2.1⟩
  have hGate : Gate "call ref" := ⟨⟩
  k_steps
  (all_goals (try k_data))
  (repeat (with_reducible rename Gate _ => hG; clear hG))
  refine Stop.go ?_
  (rename Fr _ _ _ _ => F1)
  (rename News _ _ _ _ => N1)
  refine Does.at (alike_spec w W.Wl W.zs W.zn hzl hfd) B F1 X N1 T G D rfl ((L' + 1, o1) :: (L' + 1 + 1 + 1, o3) :: (L' + 1 + 1 + 1 + 1, o4) :: (P.Nl, listOf (ivals P.xs).toArray P.nn) :: (63, tabO pl) :: (70, tabO pl') :: rz) (by exact pm_idx [[_], [_], [_], [_], [_], [_], [_], _] [3, 0, 1, 2, 4, 5, 6, 7] (by kernel_rfl)) (by first | exact room1 (by assumption) (by decide) | exact room2 (by assumption) (by decide) | exact room3 (by assumption) (by decide) | ktr_room) (by first | exact room1 (by assumption) (by decide) | exact room2 (by assumption) (by decide) | exact room3 (by assumption) (by decide) | ktr_room) ?_
  rintro v s2 nw F2 N2 G2 ho2 D2 (⟨R, hud⟩ | ⟨R, A, A2, xs, ys, hen⟩)
  · skip
    -- DEV<
    dsimp only [List.cons_append, List.nil_append] at N2 D2
    (try clear F1); (try clear N1); (try clear F); (try clear N); (try clear D)
    have hGate : Gate "compareOp NotEq ref ref" := ⟨⟩
    k_steps
    (all_goals (try k_data))
    (repeat (with_reducible rename Gate _ => hG; clear hG))
    refine Stop.go ?_
    (rename Fr _ _ _ _ => F3)
    (rename News _ _ _ _ => N3)
    refine ne_txts (a := []) (b := []) (N3 _ (.tail _ (.head _))).1 rfl rfl (N3 _ (.head _)).1 rfl rfl (fun _ h => nomatch h) (fun _ h => nomatch h) (by show un + 64 < cLine; ktr_room) ?_
    rw [show (!decide ((([] : List (Str × Tok)).map (·.1)) = (([] : List (Str × Tok)).map (·.1)))) = false by simp]
    have pm1 : ((W.Wl, listOf (strValues W.zs).toArray W.zn) :: (L' + 1, o1) :: (L' + 1 + 1 + 1, o3) :: (L' + 1 + 1 + 1 + 1, o4) :: (P.Nl, listOf (ivals P.xs).toArray P.nn) :: (63, tabO pl) :: (70, tabO pl') :: rz).Perm ((L' + 1, o1) :: (L' + 1 + 1 + 1, o3) :: (L' + 1 + 1 + 1 + 1, o4) :: (W.Wl, listOf (strValues W.zs).toArray W.zn) :: (P.Nl, listOf (ivals P.xs).toArray P.nn) :: (63, tabO pl) :: (70, tabO pl') :: rz) := (by exact pm_idx [[_], [_], [_], [_], [_], [_], [_], _] [1, 2, 3, 0, 4, 5, 6, 7] (by kernel_rfl))
    replace D2 := DN.perm D2.tail pm1
    have hGate : Gate "eval ListComp" := ⟨⟩; have hGate : Gate "exec Assign cons ListComp" := ⟨⟩
    k_steps
    (repeat (with_reducible rename Gate _ => hG; clear hG))
    refine Stop.go ?_
    (rename Fr _ _ _ _ => F4)
    (rename News _ _ _ _ => N4)
    replace N4 : News g L' _ ((L' + 1, o1) :: (L' + 1 + 1 + 1, o3) :: (L' + 1 + 1 + 1 + 1, o4) :: (W.Wl, listOf (strValues W.zs).toArray W.zn) :: (P.Nl, listOf (ivals P.xs).toArray P.nn) :: (63, tabO pl) :: (70, tabO pl') :: rz) := News.perm (fun q hq => N4 q (.tail _ (.tail _ hq))) pm1
    (try clear F2); (try clear N2); (try clear F3); (try clear N3)
    refine Comp_obl F4 rfl (by with_unfolding_all rfl) (fun I C D => turn_one ..) ?_ (by decide) rfl (by decide) (by intro _; rfl)
    k_steps
    (rename IsRange _ _ _ _ _ _ _ _ => R5)
    (rename Fr _ _ _ _ => F5)
    (rename News _ _ _ _ => N5)
    refine ⟨[], [], 5, _, (L' + 1, o1) :: (L' + 1 + 1 + 1, o3) :: (L' + 1 + 1 + 1 + 1, o4) :: (W.Wl, listOf (strValues W.zs).toArray W.zn) :: (P.Nl, listOf (ivals P.xs).toArray P.nn) :: (63, tabO pl) :: (70, tabO pl') :: rz, fun i ys nw => ∃ ws : List (Nat × Tok), ys = ivals ws ∧ nw = (L' + 1, o1) :: (L' + 1 + 1 + 1, o3) :: (L' + 1 + 1 + 1 + 1, o4) :: (W.Wl, listOf (strValues W.zs).toArray W.zn) :: (P.Nl, listOf (ivals P.xs).toArray P.nn) :: (63, tabO pl) :: (70, tabO pl') :: rz ∧ ws.length = i ∧ ∀ p ∈ ws, p.1 < 3,
      src_range R5 (small_one (by ktr_room) (by ktr_room) (by ktr_room) (by ktr_room)) _ (by rw [rangeSize_nat]; ktr_room), (by simp), ⟨F5, N5, G2, rfl, D2⟩, ⟨[], rfl, rfl, rfl, by simp⟩, ?_, ?_⟩
    · rintro I o C D1 oC m₂ i u ys nw s₃ ⟨tu, hu⟩ hi ⟨ws, rfl, rfl, hwl, hw3⟩ hC S hpl
      rw [show (0 + (i : Int) * 1) = i by ktr_room] at hu
      subst hu
      refine blk_name rfl rfl hC S fun oC' s₄ hC' S' => tests_none ?_
      simp only [if_true]
      refine emit_obl (ys := ivals ws) ?_
      generalize hEE : EltEnd _ _ _ _ _ _ _ _ _ _ _ _ = EE; revert EE; refine wrap ?_; intro EE hEE
      obtain ⟨F6, N6, G6, ho6, D6⟩ := S'
      dsimp only [List.cons_append, List.nil_append] at N6 D6
      (try clear F4); (try clear N4); (try clear F5); (try clear N5); (try clear R5); (try clear S); (try clear D2)
      obtain ⟨⟨x3, t3⟩, hx3⟩ : ∃ x, P.xs[3]? = some x := ⟨_, List.getElem?_eq_getElem (by ktr_room)⟩
      have hx8 : x3 ≤ 10 ^ 8 := hP.bd _ (List.mem_of_getElem? hx3)
      have hi3 : (ivals P.xs)[(3 : Int).toNat]? = some (.int (x3 : Int) t3) := by unfold ivals; rw [List.getElem?_map, show (3 : Int).toNat = 3 from rfl, hx3]; rfl
      have hGate : Gate "subscriptTail Name Constant ref int" := ⟨⟩
      k_steps
      (repeat (with_reducible rename Gate _ => hG; clear hG))
      refine Stop.go ?_
      (rename Fr _ _ _ _ => F7)
      (rename News _ _ _ _ => N7)
      refine item_at (vs := ivals P.xs) (v := .int (x3 : Int) t3) (News.isList N7 (by k_mem)) (by decide) (by decide) hi3 ?_ (by with_unfolding_all rfl)
      k_steps
      obtain ⟨y3, hy3, hyp, hyb⟩ : ∃ y : Int, (3 : Int) ^ ((i : Nat) : Int).toNat = y ∧ 0 < y ∧ y ≤ 81 := ⟨_, rfl, by rw [Int.toNat_natCast]; exact (pow3 i hi).1, by rw [Int.toNat_natCast]; exact (pow3 i hi).2⟩
      rw [hy3]
      k_steps
      (rename Fr _ _ _ _ => F8)
      (rename News _ _ _ _ => N8)
      subst hEE
      refine ⟨oC', _, _, hC', trivial, ⟨F8, N8, G6, ho6, D6⟩, by rw [sizeLine_eq, ivals_len]; ktr_room, ws ++ [(x3 / 3 ^ i % 3, _)], ivals_snoc (by rw [← hy3]; exact digit3 x3 i), rfl, by simp; ktr_room, fun p hp => ?_⟩
      · rcases List.mem_append.mp hp with h | h
        · exact hw3 p h
        · rw [List.mem_singleton.mp h]; exact Nat.mod_lt _ (by decide)
    · rintro D1 ys nw s₃ ⟨ws, rfl, rfl, hwl, hw3⟩ S s₄ ⟨F6, N6, G6, ho6, D6⟩
      dsimp only [List.cons_append, List.nil_append] at N6 D6
      (try clear F4); (try clear N4); (try clear F5); (try clear N5); (try clear R5); (try clear S); (try clear D2)
      have hGate : Gate "eval ListComp" := ⟨⟩; have hGate : Gate "exec Assign cons ListComp" := ⟨⟩
      k_steps
      (repeat (with_reducible rename Gate _ => hG; clear hG))
      refine Stop.go ?_
      (rename Fr _ _ _ _ => F7)
      (rename News _ _ _ _ => N7)
      (rename (_ ∧ _ ∧ _ ∧ _ ∧ _ ∧ _ ∧ _) => l7)
      rename_i Rw _ _
      have D7 := D6.more (o := listOf [Value.ref D1].toArray 0) l7
      refine Comp_obl F7 rfl (by with_unfolding_all rfl) (fun I C D => turn_one ..) ?_ (by decide) rfl (by decide) (by intro _; rfl)
      k_steps
      (rename Fr _ _ _ _ => F8)
      (rename News _ _ _ _ => N8)
      have pm2 : ((Rw, listOf [Value.ref D1].toArray 0) :: (D1, LCg.lst (ivals ws)) :: (L' + 1, o1) :: (L' + 1 + 1 + 1, o3) :: (L' + 1 + 1 + 1 + 1, o4) :: (W.Wl, listOf (strValues W.zs).toArray W.zn) :: (P.Nl, listOf (ivals P.xs).toArray P.nn) :: (63, tabO pl) :: (70, tabO pl') :: rz).Perm ([(W.Wl, listOf (strValues W.zs).toArray W.zn)] ++ ((Rw, listOf [Value.ref D1].toArray 0) :: (D1, LCg.lst (ivals ws)) :: (L' + 1, o1) :: (L' + 1 + 1 + 1, o3) :: (L' + 1 + 1 + 1 + 1, o4) :: (P.Nl, listOf (ivals P.xs).toArray P.nn) :: (63, tabO pl) :: (70, tabO pl') :: rz)) := (by exact pm_idx [[_], [_], [_], [_], [_], [_], [_], [_], [_], _] [5, 0, 1, 2, 3, 4, 6, 7, 8, 9] (by kernel_rfl))
      refine ⟨[W.Wl], [(W.Wl, listOf (strValues W.zs).toArray W.zn)], W.zs.length, _, (Rw, listOf [Value.ref D1].toArray 0) :: (D1, LCg.lst (ivals ws)) :: (L' + 1, o1) :: (L' + 1 + 1 + 1, o3) :: (L' + 1 + 1 + 1 + 1, o4) :: (P.Nl, listOf (ivals P.xs).toArray P.nn) :: (63, tabO pl) :: (70, tabO pl') :: rz, fun i ys nw => ∃ ws2 : List (Nat × Tok), ys = ivals ws2 ∧ nw = (Rw, listOf [Value.ref D1].toArray 0) :: (D1, LCg.lst (ivals ws)) :: (L' + 1, o1) :: (L' + 1 + 1 + 1, o3) :: (L' + 1 + 1 + 1 + 1, o4) :: (P.Nl, listOf (ivals P.xs).toArray P.nn) :: (63, tabO pl) :: (70, tabO pl') :: rz ∧ ws2.map (·.1) = (W.zs.take i).map fun z => 2 ^ (4 - z.1.length),
        by rw [← strV_len W.zs]; exact src_list (News.isList N8 (by k_mem)), by simp, ⟨F8, News.perm N8 pm2, G6, rfl, DN.perm D7 pm2⟩, ⟨[], rfl, rfl, rfl⟩, ?_, ?_⟩
      · rintro I o C D2' oC m₂ i u ys nw s₅ hPi hi ⟨ws2, rfl, rfl, hw2⟩ hC S2 hpl2
        obtain ⟨⟨z, tz⟩, hz, rfl⟩ := strV_at hPi
        have hz4 : z.length ≤ 4 := (hW.wd _ (List.mem_of_getElem? hz)).1
        have hw2l : ws2.length ≤ 3 := by have := congrArg List.length hw2; rw [List.length_map, List.length_map, List.length_take] at this; ktr_room
        refine blk_name rfl rfl hC S2 fun oC' s₆ hC' S' => tests_none ?_
        simp only [if_true]
        refine emit_obl (ys := ivals ws2) ?_
        generalize hEE : EltEnd _ _ _ _ _ _ _ _ _ _ _ _ = EE; revert EE; refine wrap ?_; intro EE hEE
        obtain ⟨F9, N9, G9, ho9, D9⟩ := S'
        dsimp only [List.cons_append, List.nil_append] at N9 D9
        (try clear F6); (try clear N6); (try clear F7); (try clear N7); (try clear F8); (try clear N8); (try clear S2); (try clear pm2); (try clear D7); (try clear D6)
        k_steps
        (rename Fr _ _ _ _ => F10)
        (rename News _ _ _ _ => N10)
        subst hEE
        refine ⟨oC', _, _, hC', trivial, ⟨F10, N10, G9, ho9, D9⟩, by rw [sizeLine_eq, ivals_len]; ktr_room, ws2 ++ [(2 ^ (4 - z.length), _)], ivals_snoc (two_pow z.length hz4), rfl, ?_⟩
        rw [List.map_append, hw2, List.take_add_one, hz, Option.toList_some, List.map_append]
        rfl
      · rintro D2' ys nw s₅ ⟨ws2, rfl, rfl, hw2⟩ S2 s₆ ⟨F9, N9, G9, ho9, D9⟩
        dsimp only [List.cons_append, List.nil_append] at N9 D9
        (try clear F6); (try clear N6); (try clear F7); (try clear N7); (try clear F8); (try clear N8); (try clear S2); (try clear pm2); (try clear D7); (try clear D6)
        k_steps
        (rename Fr _ _ _ _ => F10)
        (rename News _ _ _ _ => N10)
        rw [List.take_of_length_le (Nat.le_refl _)] at hw2
        have hk16 : (((ws2.map (·.1)).sum : Nat) : Int) ≤ 16 := by
          have := kraft_zs hzl hW.wd hud
          rw [← hw2] at this
          ktr_room
        refine sum_ivals rfl F10 N10 (.tail _ (.head _)) ?_
        intro h11 tk11 t11 F11 N11
        (try dsimp only at F11 N11)
        have pm3 : ((W.Wl, listOf (strValues W.zs).toArray W.zn) :: (D2', LCg.lst (ivals ws2)) :: (Rw, listOf [Value.ref D1].toArray 0) :: (D1, LCg.lst (ivals ws)) :: (L' + 1, o1) :: (L' + 1 + 1 + 1, o3) :: (L' + 1 + 1 + 1 + 1, o4) :: (P.Nl, listOf (ivals P.xs).toArray P.nn) :: (63, tabO pl) :: (70, tabO pl') :: rz).Perm ([(D2', LCg.lst (ivals ws2))] ++ ((D1, listOf (ivals ws).toArray (ivals ws).length) :: (L' + 1 + 1 + 1, o3) :: (W.Wl, listOf (strValues W.zs).toArray W.zn) :: (Rw, listOf [Value.ref D1].toArray 0) :: (L' + 1, o1) :: (L' + 1 + 1 + 1 + 1, o4) :: (P.Nl, listOf (ivals P.xs).toArray P.nn) :: (63, tabO pl) :: (70, tabO pl') :: rz)) := (by exact pm_idx [[_], [_], [_], [_], [_], [_], [_], [_], [_], [_], _] [1, 3, 5, 0, 2, 4, 6, 7, 8, 9, 10] (by kernel_rfl))
        replace N11 := sub_nw N11 ⟨_, pm3⟩
        replace D9 := sub_dn D9 ⟨_, pm3⟩
        (try clear N9); (try clear N10); (try clear F9); (try clear F10); (try clear pm3)
        have hGate : Gate "eval ListComp" := ⟨⟩; have hGate : Gate "exec Assign cons ListComp" := ⟨⟩
        k_steps
        (repeat (with_reducible rename Gate _ => hG; clear hG))
        refine Stop.go ?_
        (rename Fr _ _ _ _ => F12)
        (rename News _ _ _ _ => N12)
        have hrow : Row (tx W.zs) (ws.map (·.1)) := fun k hk => by
          obtain ⟨p, hp, rfl⟩ := List.mem_map.mp hk
          rw [tx_len, hzl]; exact hw3 p hp
        refine words_comp w (Ra := D1) (rn := (ivals ws).length) (zn := W.zn) (R := (Rw, listOf [Value.ref D1].toArray 0) :: (L' + 1, o1) :: (L' + 1 + 1 + 1 + 1, o4) :: (P.Nl, listOf (ivals P.xs).toArray P.nn) :: (63, tabO pl) :: (70, tabO pl') :: rz) X rfl F12 d3 (fun _ => rfl) (by with_unfolding_all rfl) hrow (by first | exact room1 (by assumption) (by decide) | exact room2 (by assumption) (by decide) | exact room3 (by assumption) (by decide) | ktr_room) (by first | exact room1 (by assumption) (by decide) | exact room2 (by assumption) (by decide) | exact room3 (by assumption) (by decide) | ktr_room) ?_ (by intro _; rfl)
        have hGate : Gate "subscriptTail Name Constant ref int" := ⟨⟩
        k_steps
        (repeat (with_reducible rename Gate _ => hG; clear hG))
        refine Stop.go ?_
        (rename Fr _ _ _ _ => F13)
        (rename News _ _ _ _ => N13)
        refine item_at (vs := [Value.ref D1]) (v := .ref D1) (News.isList N13 (.tail _ (.tail _ (.tail _ (.head _))))) (by decide) (by decide) rfl ?_ (by with_unfolding_all rfl)
        refine ⟨rfl, ⟨F13, N13, G9, rfl, D9⟩, fun D3' s14 S => ?_⟩
        obtain ⟨F14, N14, G14, ho14, D14⟩ := S
        (try clear F12); (try clear N12); (try clear F13); (try clear N13); (try clear F11); (try clear N11); (try clear D9)
        k_steps
        (rename Fr _ _ _ _ => F15)
        (rename News _ _ _ _ => N15)
        have hpf := picks_flat hrow
        have hsp20 := spell_le (fun k hk => by
          rw [tx_len] at hk
          rw [wd_tx (List.getElem?_eq_getElem hk), L_len]
          exact (hW.wd _ (List.getElem_mem hk)).1) _ hrow
        rw [List.length_map] at hsp20
        have hpl9 : (picks W.zs (ws.map (·.1))).length ≤ (ws.map (·.1)).length := List.length_filterMap_le ..
        rw [List.length_map] at hpl9
        refine join_led0 (zs := picks W.zs (ws.map (·.1))) (News.isList N15 (.tail _ (.head _))) (by rw [hpf]; ktr_room) ?_
        intro y ty k hy
        rw [hpf] at hy
        have hyl : y.length ≤ 60 := by rw [← L_len, hy]; ktr_room
        have hr0 : ws.map (·.1) ≠ [] := fun e => by have h5 := congrArg List.length e; rw [List.length_map, hwl] at h5; exact absurd h5 (by decide)
        have hGate : Gate "call ref" := ⟨⟩
        k_steps
        (repeat (with_reducible rename Gate _ => hG; clear hG))
        refine Stop.go ?_
        (rename Fr _ _ _ _ => F16)
        (rename News _ _ _ _ => N16)
        refine Does.at (readings_spec w y ty W.Wl W.zs W.zn (ws.map (·.1)) pl pl' hpl hpl' hyl (by ktr_room) hfd (ud_nodup hud) hr0 hrow hy.symm fun q hq e => hud q _ hq hrow (e.trans hy)) B F16 X N16 T G14 D14 rfl ((D1, listOf (ivals ws).toArray (ivals ws).length) :: (D3', LCg.lst (strValues (picks W.zs (ws.map (·.1))))) :: (L' + 1 + 1 + 1, o3) :: (Rw, listOf [Value.ref D1].toArray 0) :: (L' + 1, o1) :: (L' + 1 + 1 + 1 + 1, o4) :: (P.Nl, listOf (ivals P.xs).toArray P.nn) :: rz) (by exact pm_idx [[_], [_], [_], [_], [_], [_], [_], [_], [_], [_], _] [3, 8, 9, 0, 1, 2, 4, 5, 6, 7, 10] (by kernel_rfl)) (by first | exact room1 (by assumption) (by decide) | exact room2 (by assumption) (by decide) | exact room3 (by assumption) (by decide) | ktr_room) (by first | exact room1 (by assumption) (by decide) | exact room2 (by assumption) (by decide) | exact room3 (by assumption) (by decide) | ktr_room) ?_
        rintro v s17 nw F17 N17 G17 ho17 D17 ⟨D5, Ra, n5, pl2, pl2', xs5, hp2, hp2', hx5⟩
        dsimp only [List.cons_append, List.nil_append] at N17 D17
        (try clear F14); (try clear N14); (try clear F15); (try clear N15); (try clear F16); (try clear N16); (try clear D14)
        have hGate : Gate "compareOp NotEq ref ref" := ⟨⟩
        k_steps
        (repeat (with_reducible rename Gate _ => hG; clear hG))
        refine Stop.go ?_
        (rename Fr _ _ _ _ => F18)
        (rename News _ _ _ _ => N18)
        have hds : ∀ v : List (Nat × Tok), v.map (fun p => Dat.int (p.1 : Int)) = (v.map (·.1)).map fun c : Nat => Dat.int (c : Int) := fun v => by rw [List.map_map]; rfl
        refine kqd_ne (ds := [Dat.list (xs5.map fun p => Dat.int (p.1 : Int))]) (es := [Dat.list (ws.map fun p => Dat.int (p.1 : Int))]) (xs := [Value.ref Ra]) (ys := [Value.ref D1]) N18 (.head _) rfl rfl (.cons (.list (.tail _ (.head _)) (dat_ivals _ xs5)) .nil) (fun _ h => h) (.tail _ (.tail _ (.tail _ (.tail _ (.tail _ (.tail _ (.tail _ (.tail _ (.head _))))))))) rfl rfl (.cons (.list (.tail _ (.tail _ (.tail _ (.tail _ (.tail _ (.head _)))))) (dat_ivals _ ws)) .nil) (fun _ h => h) ?_ ?_ (by show un + 64 < cLine; ktr_room) ?_
        · intro d hd; rw [List.mem_singleton.mp hd]; simp [kqdOk]
        · intro d hd; rw [List.mem_singleton.mp hd]; simp [kqdOk]
        rw [hds xs5, hds ws, hx5]
        simp only [decide_true, Bool.not_true]
        have hGate : Gate "execs cons" := ⟨⟩
        k_steps
        (repeat (with_reducible rename Gate _ => hG; clear hG))
        refine Stop.go ?_
        (rename Fr _ _ _ _ => F19)
        (rename News _ _ _ _ => N19)
        have pm9 : ((D5, listOf [Value.ref Ra].toArray n5) :: (Ra, LCg.lst (ivals xs5)) :: (W.Wl, listOf (strValues W.zs).toArray W.zn) :: (63, tabO pl2) :: (70, tabO pl2') :: (D1, listOf (ivals ws).toArray (ivals ws).length) :: (D3', LCg.lst (strValues (picks W.zs (ws.map (·.1))))) :: (L' + 1 + 1 + 1, o3) :: (Rw, listOf [Value.ref D1].toArray 0) :: (L' + 1, o1) :: (L' + 1 + 1 + 1 + 1, o4) :: (P.Nl, listOf (ivals P.xs).toArray P.nn) :: rz).Perm ([(D5, listOf [Value.ref Ra].toArray n5), (Ra, LCg.lst (ivals xs5)), (D3', LCg.lst (strValues (picks W.zs (ws.map (·.1)))))] ++ (coreW P W 63 70 L' o1 o2 o3 o4 o5 o6 o7 o8 pl2 pl2' ++ (Rw, listOf (rrefs [⟨D1, (ivals ws).length, ws⟩]).toArray 0) :: [(⟨D1, (ivals ws).length, ws⟩ : RowE)].map RowE.ent)) := by
          rw [hrz]
          unfold coreW rrefs
          simp only [List.map_cons, List.map_nil, RowE.ent]
          exact (by exact pm_idx [[_], [_], [_], [_], [_], [_], [_], [_], [_], [_], [_], [_], [_], [_], [_], [_], [_], [_]] [0, 1, 6, 9, 12, 7, 2, 11, 13, 10, 14, 15, 16, 17, 3, 4, 8, 5] (by kernel_rfl))
        refine LawFrom.go (next ⟨Rw, 0, ⟨D1, (ivals ws).length, ws⟩, []⟩ ⟨fun r hr => ?_, hr0⟩) (by k_is) rfl B X O T ⟨F19, sub_nw N19 ⟨_, pm9⟩, G17, ?_, sub_dn D17 ⟨_, pm9⟩⟩ ⟨by ktr_unf, o1, o2, o3, o4, o5, o6, o7, o8, pl2, pl2', d1, d2, d3, d4, d5, d6, d7, d8, hp2, hp2'⟩ hdp hun hret
        · rw [List.mem_singleton.mp hr]
          exact ⟨hrow, rfl, by show (ws.map (·.1)).length ≤ 14; rw [List.length_map]; ktr_room⟩
        · exact ho17.trans (ho14.trans (ho9.trans (ho6.trans (ho2.trans ho))))
    -- >DEV
  · dsimp only [List.cons_append, List.nil_append] at N2 D2
    (try clear F1); (try clear N1); (try clear F); (try clear N); (try clear D)
    have hGate : Gate "compareOp NotEq ref ref" := ⟨⟩
    k_steps
    (all_goals (try k_data))
    (repeat (with_reducible rename Gate _ => hG; clear hG))
    refine Stop.go ?_
    (rename Fr _ _ _ _ => F3)
    (rename News _ _ _ _ => N3)
    refine kqd_ne (ds := [Dat.list (xs.map fun p => Dat.int (p.1 : Int)), Dat.list (ys.map fun p => Dat.int (p.1 : Int))]) (es := []) (xs := [Value.ref A, Value.ref A2]) (ys := []) N3 (.tail _ (.head _)) rfl rfl (.cons (.list (.tail _ (.tail _ (.head _))) (dat_ivals _ xs)) (.cons (.list (.tail _ (.tail _ (.tail _ (.head _)))) (dat_ivals _ ys)) .nil)) (fun _ h => h) (.head _) rfl rfl .nil (fun _ h => h) ?_ (fun _ h => nomatch h) (by show un + 64 < cLine; ktr_room) ?_
    · intro d hd
      simp only [List.mem_cons, List.not_mem_nil, or_false] at hd
      rcases hd with rfl | rfl <;> simp [kqdOk]
    rw [show (!decide ([Dat.list (xs.map fun p => Dat.int (p.1 : Int)), Dat.list (ys.map fun p => Dat.int (p.1 : Int))] = [])) = true by simp]
    have hGate : Gate "subscriptTail Name Constant ref int" := ⟨⟩
    k_steps
    (repeat (with_reducible rename Gate _ => hG; clear hG))
    refine Stop.go ?_
    (rename Fr _ _ _ _ => F4)
    (rename News _ _ _ _ => N4)
    obtain ⟨⟨x4, t4⟩, hx4⟩ : ∃ x, P.xs[4]? = some x := ⟨_, List.getElem?_eq_getElem (by ktr_room)⟩
    have hi4 : (ivals P.xs)[(4 : Int).toNat]? = some (.int (x4 : Int) t4) := by unfold ivals; rw [List.getElem?_map, show (4 : Int).toNat = 4 from rfl, hx4]; rfl
    refine item_at (vs := ivals P.xs) (v := .int (x4 : Int) t4) (News.isList N4 (by k_mem)) (by decide) (by decide) hi4 ?_ (by with_unfolding_all rfl)
    have hGate : Gate "call ref" := ⟨⟩
    k_steps
    (repeat (with_reducible rename Gate _ => hG; clear hG))
    refine Stop.go ?_
    (rename Fr _ _ _ _ => F5)
    (rename News _ _ _ _ => N5)
    replace N5 : News g L' _ ((R, listOf [Value.ref A, Value.ref A2].toArray 0) :: (A, listOf (ivals xs).toArray 0) :: (A2, listOf (ivals ys).toArray 0) :: (W.Wl, listOf (strValues W.zs).toArray W.zn) :: (L' + 1, o1) :: (L' + 1 + 1 + 1, o3) :: (L' + 1 + 1 + 1 + 1, o4) :: (P.Nl, listOf (ivals P.xs).toArray P.nn) :: (63, tabO pl) :: (70, tabO pl') :: rz) := fun q hq => N5 q (.tail _ hq)
    refine Does.at (makers_spec w W.Wl W.zs W.zn x4 t4 hzl hfd) B F5 X N5 T G2 D2 rfl ((R, listOf [Value.ref A, Value.ref A2].toArray 0) :: (A, listOf (ivals xs).toArray 0) :: (A2, listOf (ivals ys).toArray 0) :: (L' + 1, o1) :: (L' + 1 + 1 + 1, o3) :: (L' + 1 + 1 + 1 + 1, o4) :: (P.Nl, listOf (ivals P.xs).toArray P.nn) :: (63, tabO pl) :: (70, tabO pl') :: rz) (by exact pm_idx [[_], [_], [_], [_], [_], [_], [_], [_], [_], [_], _] [3, 0, 1, 2, 4, 5, 6, 7, 8, 9, 10] (by kernel_rfl)) (by first | exact room1 (by assumption) (by decide) | exact room2 (by assumption) (by decide) | exact room3 (by assumption) (by decide) | ktr_room) (by first | exact room1 (by assumption) (by decide) | exact room2 (by assumption) (by decide) | exact room3 (by assumption) (by decide) | ktr_room) ?_
    rintro v s6 nw F6 N6 G6 ho6 D6 ⟨Dm, ls, mn, hJ, hnb⟩
    dsimp only [List.cons_append, List.nil_append] at N6 D6
    (try clear F2); (try clear N2); (try clear F3); (try clear N3); (try clear F4); (try clear N4); (try clear F5); (try clear N5); (try clear D2)
    k_steps
    (all_goals (try k_data))
    (rename Fr _ _ _ _ => F7)
    (rename News _ _ _ _ => N7)
    obtain ⟨v4, d4⟩ := d4
    refine st_cell (pre := (Dm, listOf (strValues ls).toArray mn) :: (W.Wl, listOf (strValues W.zs).toArray W.zn) :: (R, listOf [Value.ref A, Value.ref A2].toArray 0) :: (A, listOf (ivals xs).toArray 0) :: (A2, listOf (ivals ys).toArray 0) :: (L' + 1, o1) :: (L' + 1 + 1 + 1, o3) :: []) (os := os) ⟨F7, N7, G6, ho6.trans (ho2.trans ho), D6⟩ rfl rfl d4 rfl ?_
    rintro h8 o4' d4' ⟨F8, N8, G8, ho8, D8⟩
    dsimp only [List.cons_append, List.nil_append] at N8 D8
    obtain ⟨hmu, hm2, hmr⟩ := hJ.done hnb
    have hnu : ¬ UD (tx W.zs) := fun h => hen.ne (h _ _ hen.l hen.g (by have := hen.sp; rwa [List.append_nil] at this))
    have hls2 : ls.length ≤ 2 := by have := hm2 hnu; rwa [tx_len] at this
    have hsl2 := strV_len ls
    have hmt := make_texts hJ fun z hz => ⟨(hfd z hz).1, (hfd z hz).2.1⟩
    (try clear F6); (try clear N6); (try clear F7); (try clear N7); (try clear D6)
    have hGate : Gate "eval ListComp" := ⟨⟩; have hGate : Gate "exec Assign cons ListComp" := ⟨⟩
    k_steps
    (repeat (with_reducible rename Gate _ => hG; clear hG))
    refine Stop.go ?_
    (rename Fr _ _ _ _ => F9)
    (rename News _ _ _ _ => N9)
    refine Comp_obl F9 rfl (by with_unfolding_all rfl) (fun I C D => turn_one ..) ?_ (by decide) rfl (by decide) (by intro _; rfl)
    k_steps
    (rename Fr _ _ _ _ => F10)
    (rename News _ _ _ _ => N10)
    have pm4 : ((Dm, listOf (strValues ls).toArray mn) :: (W.Wl, listOf (strValues W.zs).toArray W.zn) :: (R, listOf [Value.ref A, Value.ref A2].toArray 0) :: (A, listOf (ivals xs).toArray 0) :: (A2, listOf (ivals ys).toArray 0) :: (L' + 1, o1) :: (L' + 1 + 1 + 1, o3) :: (L' + 1 + 1 + 1 + 1, o4') :: (P.Nl, listOf (ivals P.xs).toArray P.nn) :: (63, tabO pl) :: (70, tabO pl') :: rz).Perm ([(W.Wl, listOf (strValues W.zs).toArray W.zn)] ++ ((Dm, listOf (strValues ls).toArray mn) :: (R, listOf [Value.ref A, Value.ref A2].toArray 0) :: (A, listOf (ivals xs).toArray 0) :: (A2, listOf (ivals ys).toArray 0) :: (L' + 1, o1) :: (L' + 1 + 1 + 1, o3) :: (L' + 1 + 1 + 1 + 1, o4') :: (P.Nl, listOf (ivals P.xs).toArray P.nn) :: (63, tabO pl) :: (70, tabO pl') :: rz)) := (by exact pm_idx [[_], [_], [_], [_], [_], [_], [_], [_], [_], [_], [_], _] [1, 0, 2, 3, 4, 5, 6, 7, 8, 9, 10, 11] (by kernel_rfl))
    refine ⟨[W.Wl], [(W.Wl, listOf (strValues W.zs).toArray W.zn)], W.zs.length, _, (Dm, listOf (strValues ls).toArray mn) :: (R, listOf [Value.ref A, Value.ref A2].toArray 0) :: (A, listOf (ivals xs).toArray 0) :: (A2, listOf (ivals ys).toArray 0) :: (L' + 1, o1) :: (L' + 1 + 1 + 1, o3) :: (L' + 1 + 1 + 1 + 1, o4') :: (P.Nl, listOf (ivals P.xs).toArray P.nn) :: (63, tabO pl) :: (70, tabO pl') :: rz, fun i => RdsJ ((Dm, listOf (strValues ls).toArray mn) :: (R, listOf [Value.ref A, Value.ref A2].toArray 0) :: (A, listOf (ivals xs).toArray 0) :: (A2, listOf (ivals ys).toArray 0) :: (L' + 1, o1) :: (L' + 1 + 1 + 1, o3) :: (L' + 1 + 1 + 1 + 1, o4') :: (P.Nl, listOf (ivals P.xs).toArray P.nn) :: []) rz i,
      by rw [← strV_len W.zs]; exact src_list (News.isList N10 (by k_mem)), by simp, ⟨F10, News.perm N10 pm4, G8, rfl, DN.perm D8 pm4⟩, .mk [] pl pl' rfl rfl hpl hpl', ?_, ?_⟩
    · rintro I o C D2' oC m₂ i u zs2 nw s₅ hPi hi ⟨ws2, pl, pl', rfl, hw2, hpl, hpl'⟩ hC S2 hpl2
      obtain ⟨⟨z, tz⟩, hz, rfl⟩ := strV_at hPi
      obtain ⟨hzf, hz4, hz0⟩ := hfd _ (List.mem_of_getElem? hz)
      replace hz4 : z.length ≤ 4 := hz4
      have hw2l : ws2.length = i := by have := congrArg List.length hw2; rwa [List.length_map, List.length_replicate] at this
      obtain ⟨q, hq, hqs⟩ := hmr i (by rw [tx_len]; exact hi)
      rw [wd_tx hz] at hqs
      have hq0 : q ≠ [] := fun e => hz0 (by rw [← hqs, e]; rfl)
      refine blk_name rfl rfl hC S2 fun oC' s₆ hC' S' => tests_none ?_
      simp only [if_true]
      refine emit_obl (ys := ivals ws2) ?_
      generalize hEE : EltEnd _ _ _ _ _ _ _ _ _ _ _ _ = EE; revert EE; refine wrap ?_; intro EE hEE
      obtain ⟨F11, N11, G11, ho11, D11⟩ := S'
      dsimp only [List.cons_append, List.nil_append] at N11 D11
      (try clear F8); (try clear N8); (try clear F9); (try clear N9); (try clear F10); (try clear N10); (try clear S2); (try clear pm4); (try clear D8)
      have hGate : Gate "call ref" := ⟨⟩
      k_steps
      (repeat (with_reducible rename Gate _ => hG; clear hG))
      refine Stop.go ?_
      (rename Fr _ _ _ _ => F12)
      (rename News _ _ _ _ => N12)
      refine Does.at (readings_spec w z tz Dm ls mn q pl pl' hpl hpl' (by ktr_room) (by ktr_room) (fun x hx => ⟨(hmt x hx).1, (hmt x hx).2, hJ.ne _ (List.mem_map.mpr ⟨x, hx, rfl⟩)⟩) hJ.nd hq0 hq hqs fun q' hq' e => hmu _ _ hq' hq (e.trans hqs.symm)) B F12 X N12 T G11 D11 rfl ((I, o) :: (W.Wl, listOf (strValues W.zs).toArray W.zn) :: (C, oC') :: (D2', LCg.lst (ivals ws2)) :: (R, listOf [Value.ref A, Value.ref A2].toArray 0) :: (A, listOf (ivals xs).toArray 0) :: (A2, listOf (ivals ys).toArray 0) :: (L' + 1, o1) :: (L' + 1 + 1 + 1, o3) :: (L' + 1 + 1 + 1 + 1, o4') :: (P.Nl, listOf (ivals P.xs).toArray P.nn) :: rz) (by exact pm_idx [[_], [_], [_], [_], [_], [_], [_], [_], [_], [_], [_], [_], [_], [_], _] [4, 12, 13, 0, 1, 2, 3, 5, 6, 7, 8, 9, 10, 11, 14] (by kernel_rfl)) (by first | exact room1 (by assumption) (by decide) | exact room2 (by assumption) (by decide) | exact room3 (by assumption) (by decide) | ktr_room) (by first | exact room1 (by assumption) (by decide) | exact room2 (by assumption) (by decide) | exact room3 (by assumption) (by decide) | ktr_room) ?_
      rintro v s13 nw F13 N13 G13 ho13 D13 ⟨D5, Ra, n5, pl2, pl2', xs5, hp2, hp2', hx5⟩
      dsimp only [List.cons_append, List.nil_append] at N13 D13
      (try clear F11); (try clear N11); (try clear F12); (try clear N12); (try clear D11)
      k_steps
      (rename Fr _ _ _ _ => F14)
      (rename News _ _ _ _ => N14)
      subst hEE
      have pm5 : ((D5, listOf [Value.ref Ra].toArray n5) :: (Ra, LCg.lst (ivals xs5)) :: (Dm, listOf (strValues ls).toArray mn) :: (63, tabO pl2) :: (70, tabO pl2') :: (I, o) :: (W.Wl, listOf (strValues W.zs).toArray W.zn) :: (C, oC') :: (D2', LCg.lst (ivals ws2)) :: (R, listOf [Value.ref A, Value.ref A2].toArray 0) :: (A, listOf (ivals xs).toArray 0) :: (A2, listOf (ivals ys).toArray 0) :: (L' + 1, o1) :: (L' + 1 + 1 + 1, o3) :: (L' + 1 + 1 + 1 + 1, o4') :: (P.Nl, listOf (ivals P.xs).toArray P.nn) :: rz).Perm ([(D5, listOf [Value.ref Ra].toArray n5), (Ra, LCg.lst (ivals xs5))] ++ ((I, o) :: [(W.Wl, listOf (strValues W.zs).toArray W.zn)] ++ (C, oC') :: (D2', LCg.lst (ivals ws2)) :: (Dm, listOf (strValues ls).toArray mn) :: (R, listOf [Value.ref A, Value.ref A2].toArray 0) :: (A, listOf (ivals xs).toArray 0) :: (A2, listOf (ivals ys).toArray 0) :: (L' + 1, o1) :: (L' + 1 + 1 + 1, o3) :: (L' + 1 + 1 + 1 + 1, o4') :: (P.Nl, listOf (ivals P.xs).toArray P.nn) :: (63, tabO pl2) :: (70, tabO pl2') :: rz)) := (by exact pm_idx [[_], [_], [_], [_], [_], [_], [_], [_], [_], [_], [_], [_], [_], [_], [_], [_], _] [0, 1, 5, 6, 7, 8, 2, 9, 10, 11, 12, 13, 14, 15, 3, 4, 16] (by kernel_rfl))
      refine ⟨oC', _, _, hC', trivial, ⟨F14, sub_nw N14 ⟨_, pm5⟩, G13, ho13.trans ho11, sub_dn D13 ⟨_, pm5⟩⟩, by rw [sizeLine_eq, ivals_len]; ktr_room, .mk (ws2 ++ [(1, _)]) pl2 pl2' (ivals_snoc rfl) ?_ hp2 hp2'⟩
      rw [List.map_append, hw2]
      exact List.replicate_succ'.symm
    · rintro D2' zs2 nw s₅ ⟨ws2, pl, pl', rfl, hw2, hpl, hpl'⟩ S2 s₆ ⟨F11, N11, G11, ho11, D11⟩
      dsimp only [List.cons_append, List.nil_append] at N11 D11
      (try clear F8); (try clear N8); (try clear F9); (try clear N9); (try clear F10); (try clear N10); (try clear S2); (try clear pm4); (try clear D8)
      have hGate : Gate "compareOp NotEq ref ref" := ⟨⟩
      k_steps
      (repeat (with_reducible rename Gate _ => hG; clear hG))
      refine Stop.go ?_
      (rename Fr _ _ _ _ => F12)
      (rename News _ _ _ _ => N12)
      have hds3 : ws2.map (fun p => Dat.int (p.1 : Int)) = [Dat.int 1, Dat.int 1, Dat.int 1] := by
        rw [show ws2.map (fun p => Dat.int (p.1 : Int)) = (ws2.map (·.1)).map fun c : Nat => Dat.int (c : Int) by rw [List.map_map]; rfl, hw2, hzl]
        rfl
      refine kqd_ne (ds := ws2.map fun p => Dat.int (p.1 : Int)) (es := [Dat.int 1, Dat.int 1, Dat.int 1]) (xs := ivals ws2) (ys := [Value.int 1 _, Value.int 1 _, Value.int 1 _]) N12 (.tail _ (.tail _ (.head _))) rfl rfl (dat_ivals _ ws2) (fun _ h => h) (.head _) rfl rfl (.cons (.int _ _) (.cons (.int _ _) (.cons (.int _ _) .nil))) (fun _ h => h) ?_ ?_ (by show un + 64 < cLine; ktr_room) ?_
      · intro d hd; obtain ⟨p, _, rfl⟩ := List.mem_map.mp hd; rfl
      · intro d hd; simp only [List.mem_cons, List.not_mem_nil, or_false, or_self] at hd; rw [hd]; rfl
      rw [hds3]
      simp only [decide_true, Bool.not_true]
      have hGate : Gate "execs cons" := ⟨⟩
      k_steps
      (repeat (with_reducible rename Gate _ => hG; clear hG))
      refine Stop.go ?_
      (rename Fr _ _ _ _ => F13)
      (rename News _ _ _ _ => N13)
      have pm6 : ((W.Wl, listOf (strValues W.zs).toArray W.zn) :: (D2', LCg.lst (ivals ws2)) :: (Dm, listOf (strValues ls).toArray mn) :: (R, listOf [Value.ref A, Value.ref A2].toArray 0) :: (A, listOf (ivals xs).toArray 0) :: (A2, listOf (ivals ys).toArray 0) :: (L' + 1, o1) :: (L' + 1 + 1 + 1, o3) :: (L' + 1 + 1 + 1 + 1, o4') :: (P.Nl, listOf (ivals P.xs).toArray P.nn) :: (63, tabO pl) :: (70, tabO pl') :: rz).Perm ([(D2', LCg.lst (ivals ws2)), (Dm, listOf (strValues ls).toArray mn)] ++ (coreW P W 63 70 L' o1 o2 o3 o4' o5 o6 o7 o8 pl pl' ++ (R, listOf (rrefs [⟨A, 0, xs⟩, ⟨A2, 0, ys⟩]).toArray 0) :: ([⟨A, 0, xs⟩, ⟨A2, 0, ys⟩] : List RowE).map RowE.ent)) := by
        rw [hrz]
        unfold coreW rrefs
        simp only [List.map_cons, List.map_nil, RowE.ent]
        exact (by exact pm_idx [[_], [_], [_], [_], [_], [_], [_], [_], [_], [_], [_], [_], [_], [_], [_], [_], [_], [_]] [1, 2, 6, 12, 7, 0, 9, 13, 8, 14, 15, 16, 17, 10, 11, 3, 4, 5] (by kernel_rfl))
      obtain ⟨i0, j0, p0, q0, e1, e2, _⟩ := hen.hd
      have hlen := hen.len
      have hsp := hen.sp
      rw [List.append_nil] at hsp
      refine LawFrom.go (next ⟨R, 0, ⟨A, 0, xs⟩, [⟨A2, 0, ys⟩]⟩ ⟨fun r hr => ?_, fun e => by have e3 : xs.map (·.1) = [] := e; rw [show xs.map (·.1) = i0 :: p0 from e1] at e3; cases e3⟩) (by k_is) rfl B X O T ⟨F13, sub_nw (fun q hq => N13 q (.tail _ hq)) ⟨_, pm6⟩, G11, ho11.trans ho8, sub_dn D11 ⟨_, pm6⟩⟩ ⟨by ktr_unf, o1, o2, o3, o4', o5, o6, o7, o8, pl, pl', d1, d2, d3, ⟨_, d4'⟩, d5, d6, d7, d8, hpl, hpl'⟩ hdp hun hret
      rcases List.mem_cons.mp hr with rfl | hr
      · exact ⟨hen.l, rfl, Nat.le_trans (Nat.le_add_right _ _) hlen⟩
      · rw [List.mem_singleton.mp hr]
        exact ⟨hen.g, hsp.symm, Nat.le_trans (Nat.le_add_left _ _) hlen⟩
end Mine
end
section
open PySem PySem.W PyProof.Rows
set_option maxRecDepth 100000
set_option maxHeartbeats 2000000
namespace Mine
theorem L_init (x : Str) : L (Txt.slice x none (some (-1))) = (L x).dropLast := by
  show (Txt.slice x none (some (-1))).cps.toList = _
  rw [slice_list, List.dropLast_eq_take]
  have e : clip x.length (some (-1)) x.length = x.length - 1 := by simp only [clip]; rw [if_pos (by ktr_room)]; ktr_room
  have e0 : clip x.length none 0 = 0 := rfl
  rw [e, e0, List.drop_zero, L_len]
/-- the state with the texts: text, its tails -/
structure Tm where
  Tl : Addr
  tn : Nat
  text : Str
  t0 : Tok
  x1 : Str
  t1 : Tok
  x2 : Str
  t2 : Tok
structure Tm.Ok (W : Wm) (R : Rm) (Z : Tm) : Prop where
  tx : L Z.text = spell (tx W.zs) R.r0.row
  x1 : L Z.x1 = (L Z.text).drop 1
  x2 : L Z.x2 = (L Z.text).dropLast
inductive stX (P : Qm) (W : Wm) (R : Rm) (Z : Tm) (tl ts L' : Addr) (m : Str → Option Value) : Led → Prop
  | mk : m "rows" = some (.ref R.Rw) → m "text" = some (.str Z.text Z.t0) → ∀ (o1 o2 o3 o4 o5 o6 o7 o8 : Obj) (pl pl' : Array Value), o1.data = .cell (some (.ref P.Nl)) → o2.data = .cell (some (.ref P.Ll)) → o3.data = .cell (some (.ref W.Wl)) → bareC o4 → o5.data = .cell (some (.ref Z.Tl)) → bareC o6 → bareC o7 → bareC o8 → TriplesOk pl.toList → TriplesOk pl'.toList → stX P W R Z tl ts L' m (coreW P W tl ts L' o1 o2 o3 o4 o5 o6 o7 o8 pl pl' ++ (R.Rw, listOf (rrefs (R.r0 :: R.rs)).toArray R.rn) :: (Z.Tl, listOf [Value.str Z.text Z.t0, Value.str Z.x1 Z.t1, Value.str Z.x2 Z.t2].toArray Z.tn) :: (R.r0 :: R.rs).map RowE.ent)
theorem law_e (w : World) (Sl : Addr) (so : Obj) (P : Qm) (hP : P.Ok) (W : Wm) (hW : W.Ok P) (R : Rm) (hR : R.Ok W)
  (next : ∀ Z : Tm, Z.Ok W R → LawFrom PySem.Challenge.rw_wr0021_02.row.prog w (Mine.frag.heap_1 w.params) 209 9 Sl so 63 70 70 700 (stX P W R Z 63 70)) :
  LawFrom PySem.Challenge.rw_wr0021_02.row.prog w (Mine.frag.heap_1 w.params) 209 7 Sl so 63 70 70 700 (stR P W R 63 70) := by
  w_top off
  k_fill
  refine law_from (by k_is) ?_
  rintro loose mean mg mb dp un gd A₀ g L' fa ccd m led os s₁ Q E B X O T ⟨F, N, G, ho, D⟩ ⟨hmr, o1, o2, o3, o4, o5, o6, o7, o8, pl, pl', d1, d2, d3, d4, d5, d6, d7, d8, hpl, hpl'⟩ hdp hun hret
  dsimp only [List.drop]
  (try (refine letA ?_; intro kA))
  obtain ⟨rz, hrz⟩ : ∃ rz : Led, rz = (L' + 1, o1) :: (L' + 1 + 1, o2) :: (P.Nl, listOf (ivals P.xs).toArray P.nn) :: (P.Ll, listOf [Value.str P.a P.ta, Value.str P.b P.tb].toArray P.ln) :: (L' + 1 + 1 + 1 + 1, o4) :: (L' + 1 + 1 + 1 + 1 + 1 + 1, o6) :: (L' + 1 + 1 + 1 + 1 + 1 + 1 + 1, o7) :: (L' + 1 + 1 + 1 + 1 + 1 + 1 + 1 + 1, o8) :: (63, tabO pl) :: (70, tabO pl') :: R.rs.map RowE.ent := ⟨_, rfl⟩
  have pm0 : (coreW P W 63 70 L' o1 o2 o3 o4 o5 o6 o7 o8 pl pl' ++ (R.Rw, listOf (rrefs (R.r0 :: R.rs)).toArray R.rn) :: (R.r0 :: R.rs).map RowE.ent).Perm ((R.r0.A, listOf (ivals R.r0.xs).toArray R.r0.n) :: (L' + 1 + 1 + 1, o3) :: (W.Wl, listOf (strValues W.zs).toArray W.zn) :: (R.Rw, listOf (rrefs (R.r0 :: R.rs)).toArray R.rn) :: (L' + 1 + 1 + 1 + 1 + 1, o5) :: rz) := by
    rw [hrz]; unfold coreW
    simp only [List.map_cons, RowE.ent]
    exact (by exact pm_idx [[_], [_], [_], [_], [_], [_], [_], [_], [_], [_], [_], [_], [_], [_], [_], _] [14, 2, 3, 13, 7, 0, 1, 4, 5, 6, 8, 9, 10, 11, 12, 15] (by kernel_rfl))
  replace N := News.perm N pm0
  replace D := DN.perm D pm0
  clear pm0
  have hzl := hW.len
  have hrl := (hR.row _ (.head _)).2.2
  rw [List.length_map] at hrl
  have hrow := (hR.row _ (.head _)).1
  have hGate : Gate "eval ListComp" := ⟨⟩
  k_steps
  (all_goals (try k_data))
  (repeat (with_reducible rename Gate _ => hG; clear hG))
  refine Stop.go ?_
  (rename Fr _ _ _ _ => F1)
  (rename News _ _ _ _ => N1)
  refine words_comp w (Ra := R.r0.A) (rn := R.r0.n) (zn := W.zn) (R := (R.Rw, listOf (rrefs (R.r0 :: R.rs)).toArray R.rn) :: (L' + 1 + 1 + 1 + 1 + 1, o5) :: rz) X rfl F1 d3 (fun _ => rfl) (by with_unfolding_all rfl) hrow (by first | exact room1 (by assumption) (by decide) | exact room2 (by assumption) (by decide) | exact room3 (by assumption) (by decide) | ktr_room) (by first | exact room1 (by assumption) (by decide) | exact room2 (by assumption) (by decide) | exact room3 (by assumption) (by decide) | ktr_room) ?_ (by intro _; rfl)
  have hGate : Gate "subscriptTail Name Constant ref int" := ⟨⟩
  k_steps
  (repeat (with_reducible rename Gate _ => hG; clear hG))
  refine Stop.go ?_
  (rename Fr _ _ _ _ => F2)
  (rename News _ _ _ _ => N2)
  refine item_at (vs := rrefs (R.r0 :: R.rs)) (v := .ref R.r0.A) (News.isList N2 (.tail _ (.tail _ (.tail _ (.head _))))) (by decide) (by decide) rfl ?_ (by with_unfolding_all rfl)
  refine ⟨rfl, ⟨F2, N2, G, rfl, D⟩, fun D3 s3 S => ?_⟩
  obtain ⟨F3, N3, G3, ho3, D3'⟩ := S
  (try clear F1); (try clear N1); (try clear F2); (try clear N2); (try clear D); (try clear F); (try clear N)
  k_steps
  (rename Fr _ _ _ _ => F4)
  (rename News _ _ _ _ => N4)
  have hpf := picks_flat hrow
  have hsp := spell_le (fun k hk => by
    rw [tx_len] at hk
    rw [wd_tx (List.getElem?_eq_getElem hk), L_len]
    exact (hW.wd _ (List.getElem_mem hk)).1) _ hrow
  rw [List.length_map] at hsp
  have hpl9 : (picks W.zs (R.r0.xs.map (·.1))).length ≤ (R.r0.xs.map (·.1)).length := List.length_filterMap_le ..
  rw [List.length_map] at hpl9
  refine join_led0 (zs := picks W.zs (R.r0.xs.map (·.1))) (News.isList N4 (.tail _ (.head _))) (by rw [hpf]; ktr_room) ?_
  intro y ty k hy
  rw [hpf] at hy
  have hyl : y.length ≤ 60 := by rw [← L_len, hy]; ktr_room
  (try clear F3); (try clear N3)
  k_steps
  (all_goals (try k_data))
  (rename Fr _ _ _ _ => F5)
  (rename News _ _ _ _ => N5)
  (rename (_ ∧ _ ∧ _ ∧ _ ∧ _ ∧ _ ∧ AllLt _ _) => l5)
  rename_i Tl h5
  obtain ⟨u1, u2, N6⟩ : ∃ u1 u2, News g L' h5 ((Tl, listOf [Value.str y ty, Value.str (Txt.slice y (some 1) none) u1, Value.str (Txt.slice y none (some (-1))) u2].toArray 0) :: (R.r0.A, listOf (ivals R.r0.xs).toArray R.r0.n) :: (D3, LCg.lst (strValues (picks W.zs (R.r0.xs.map (·.1))))) :: (L' + 1 + 1 + 1, o3) :: (W.Wl, listOf (strValues W.zs).toArray W.zn) :: (R.Rw, listOf (rrefs (R.r0 :: R.rs)).toArray R.rn) :: (L' + 1 + 1 + 1 + 1 + 1, o5) :: rz) := ⟨_, _, N5⟩
  have D6 := D3'.more (o := listOf [Value.str y ty, Value.str (Txt.slice y (some 1) none) u1, Value.str (Txt.slice y none (some (-1))) u2].toArray 0) l5
  obtain ⟨v5, d5⟩ := d5
  refine st_cell (pre := (Tl, listOf [Value.str y ty, Value.str (Txt.slice y (some 1) none) u1, Value.str (Txt.slice y none (some (-1))) u2].toArray 0) :: (R.r0.A, listOf (ivals R.r0.xs).toArray R.r0.n) :: (D3, LCg.lst (strValues (picks W.zs (R.r0.xs.map (·.1))))) :: (L' + 1 + 1 + 1, o3) :: (W.Wl, listOf (strValues W.zs).toArray W.zn) :: (R.Rw, listOf (rrefs (R.r0 :: R.rs)).toArray R.rn) :: []) (os := os) ⟨F5, N6, G3, ho3.trans ho, D6⟩ rfl rfl d5 rfl ?_
  rintro h8 o5' d5' ⟨F8, N8, G8, ho8, D8⟩
  (try clear F5); (try clear N5); (try clear N6); (try clear D6); (try clear N4); (try clear F4)
  dsimp only [List.cons_append, List.nil_append] at N8 D8
  have hGate : Gate "execs cons" := ⟨⟩
  k_steps
  (repeat (with_reducible rename Gate _ => hG; clear hG))
  refine Stop.go ?_
  (rename Fr _ _ _ _ => F9)
  (rename News _ _ _ _ => N9)
  have pm9 : ((Tl, listOf [Value.str y ty, Value.str (Txt.slice y (some 1) none) u1, Value.str (Txt.slice y none (some (-1))) u2].toArray 0) :: (R.r0.A, listOf (ivals R.r0.xs).toArray R.r0.n) :: (D3, LCg.lst (strValues (picks W.zs (R.r0.xs.map (·.1))))) :: (L' + 1 + 1 + 1, o3) :: (W.Wl, listOf (strValues W.zs).toArray W.zn) :: (R.Rw, listOf (rrefs (R.r0 :: R.rs)).toArray R.rn) :: (L' + 1 + 1 + 1 + 1 + 1, o5') :: rz).Perm ([(D3, LCg.lst (strValues (picks W.zs (R.r0.xs.map (·.1)))))] ++ (coreW P W 63 70 L' o1 o2 o3 o4 o5' o6 o7 o8 pl pl' ++ (R.Rw, listOf (rrefs (R.r0 :: R.rs)).toArray R.rn) :: (Tl, listOf [Value.str y ty, Value.str (Txt.slice y (some 1) none) u1, Value.str (Txt.slice y none (some (-1))) u2].toArray 0) :: (R.r0 :: R.rs).map RowE.ent)) := by
    rw [hrz]; unfold coreW
    simp only [List.map_cons, RowE.ent]
    exact (by exact pm_idx [[_], [_], [_], [_], [_], [_], [_], [_], [_], [_], [_], [_], [_], [_], [_], [_], [_], _] [2, 7, 8, 3, 4, 9, 10, 11, 6, 12, 13, 14, 15, 16, 5, 0, 1, 17] (by kernel_rfl))
  exact LawFrom.go (next ⟨Tl, 0, y, ty, Txt.slice y (some 1) none, u1, Txt.slice y none (some (-1)), u2⟩ ⟨hy, L_drop y 1, L_init y⟩) (by k_is) rfl B X O T ⟨F9, sub_nw N9 ⟨_, pm9⟩, G8, ho8, sub_dn D8 ⟨_, pm9⟩⟩ ⟨by ktr_unf, by ktr_unf, o1, o2, o3, o4, o5', o6, o7, o8, pl, pl', d1, d2, d3, d4, d5', d6, d7, d8, hpl, hpl'⟩ hdp hun hret
end Mine
end
section
open PySem PySem.W PyProof.Rows
set_option maxRecDepth 100000
set_option maxHeartbeats 2000000
namespace Mine
theorem fl_len {α β γ : Type} (xs : List β) (f : α → β → γ) : ∀ l : List α, (l.flatMap fun a => xs.map (f a)).length = l.length * xs.length
  | [] => by simp
  | a :: l => by rw [List.flatMap_cons, List.length_append, fl_len xs f l, List.length_map, List.length_cons, Nat.succ_mul]; ktr_room
theorem Tm.Ok.fine {P : Qm} {W : Wm} {R : Rm} {Z : Tm} (h : Z.Ok W R) (hW : W.Ok P) (hR : R.Ok W) : Z.text.length ≤ 60 ∧ Fine Z.text := by
  have hrow := (hR.row _ (.head _)).1
  have hl := (hR.row _ (.head _)).2.2
  refine ⟨?_, fun c hc => ?_⟩
  · have hsp := spell_le (fun k hk => by
      rw [tx_len] at hk
      rw [wd_tx (List.getElem?_eq_getElem hk), L_len]
      exact (hW.wd _ (List.getElem_mem hk)).1) _ hrow
    rw [← L_len, h.tx]; ktr_room
  · rw [show L Z.text = _ from h.tx, ← picks_flat hrow] at hc
    obtain ⟨z, hz, hc⟩ := List.mem_flatMap.mp hc
    unfold picks at hz
    obtain ⟨k, _, e⟩ := List.mem_filterMap.mp hz
    exact (hW.wd z (List.mem_of_getElem? e)).fine c hc
/-- truths as values -/
noncomputable def bvals (l : List Bool) : List Value := l.map Value.bool
theorem law_f (w : World) (Sl : Addr) (so : Obj) (P : Qm) (hP : P.Ok) (W : Wm) (hW : W.Ok P) (R : Rm) (hR : R.Ok W) (Z : Tm) (hZ : Z.Ok W R)
  (next : LawFrom PySem.Challenge.rw_wr0021_02.row.prog w (Mine.frag.heap_1 w.params) 209 10 Sl so 63 70 70 700 (stX P W R Z 63 70)) :
  LawFrom PySem.Challenge.rw_wr0021_02.row.prog w (Mine.frag.heap_1 w.params) 209 9 Sl so 63 70 70 700 (stX P W R Z 63 70) := by
  w_top off
  k_fill
  refine law_from (by k_is) ?_
  rintro loose mean mg mb dp un gd A₀ g L' fa ccd m led os s₁ Q E B X O T ⟨F, N, G, ho, D⟩ ⟨hmr, hmt, o1, o2, o3, o4, o5, o6, o7, o8, pl, pl', d1, d2, d3, d4, d5, d6, d7, d8, hpl, hpl'⟩ hdp hun hret
  dsimp only [List.drop]
  (try (refine letA ?_; intro kA))
  obtain ⟨xs, hxs⟩ : ∃ xs : List (Str × Tok), xs = [(Z.text, Z.t0), (Z.x1, Z.t1), (Z.x2, Z.t2)] := ⟨_, rfl⟩
  obtain ⟨rz, hrz⟩ : ∃ rz : Led, rz = (L' + 1, o1) :: (L' + 1 + 1, o2) :: (L' + 1 + 1 + 1, o3) :: (W.Wl, listOf (strValues W.zs).toArray W.zn) :: (P.Nl, listOf (ivals P.xs).toArray P.nn) :: (P.Ll, listOf [Value.str P.a P.ta, Value.str P.b P.tb].toArray P.ln) :: (L' + 1 + 1 + 1 + 1, o4) :: (L' + 1 + 1 + 1 + 1 + 1 + 1, o6) :: (L' + 1 + 1 + 1 + 1 + 1 + 1 + 1, o7) :: (L' + 1 + 1 + 1 + 1 + 1 + 1 + 1 + 1, o8) :: (63, tabO pl) :: (70, tabO pl') :: (R.Rw, listOf (rrefs (R.r0 :: R.rs)).toArray R.rn) :: (R.r0 :: R.rs).map RowE.ent := ⟨_, rfl⟩
  have pm0 : (coreW P W 63 70 L' o1 o2 o3 o4 o5 o6 o7 o8 pl pl' ++ (R.Rw, listOf (rrefs (R.r0 :: R.rs)).toArray R.rn) :: (Z.Tl, listOf [Value.str Z.text Z.t0, Value.str Z.x1 Z.t1, Value.str Z.x2 Z.t2].toArray Z.tn) :: (R.r0 :: R.rs).map RowE.ent).Perm ((Z.Tl, listOf (strValues xs).toArray Z.tn) :: (L' + 1 + 1 + 1 + 1 + 1, o5) :: rz) := by
    rw [hrz, hxs]; unfold coreW strValues
    simp only [List.map_cons, List.map_nil]
    exact (by exact pm_idx [[_], [_], [_], [_], [_], [_], [_], [_], [_], [_], [_], [_], [_], [_], [_], [_], _] [14, 7, 0, 1, 2, 3, 4, 5, 6, 8, 9, 10, 11, 12, 13, 15, 16] (by kernel_rfl))
  replace N := News.perm N pm0
  replace D := DN.perm D pm0
  clear pm0
  have hGate : Gate "eval ListComp" := ⟨⟩
  k_steps
  (all_goals (try k_data))
  (repeat (with_reducible rename Gate _ => hG; clear hG))
  refine Stop.go ?_
  (rename Fr _ _ _ _ => F1)
  (rename News _ _ _ _ => N1)
  refine Comp_obl F1 rfl (by with_unfolding_all rfl) (fun I C D => turn_first2 ..) ?_ (by decide) rfl (by decide) (by intro _; rfl)
  k_steps
  (rename Fr _ _ _ _ => F2)
  (rename News _ _ _ _ => N2)
  have hx3 : xs.length = 3 := by rw [hxs]; rfl
  have hxl : ∀ z ∈ xs, z.1.length ≤ 60 ∧ nodot z.1 := by
    obtain ⟨h60, hf⟩ := hZ.fine hW hR
    have sub : ∀ (x : Str), (L x).length ≤ (L Z.text).length → (∀ c ∈ L x, c ∈ L Z.text) → x.length ≤ 60 ∧ nodot x := fun x h1 h2 => ⟨by rw [L_len, L_len] at h1; ktr_room, Fine.nodot (hf.of h2)⟩
    intro z hz
    rw [hxs] at hz
    simp only [List.mem_cons, List.not_mem_nil, or_false] at hz
    rcases hz with rfl | rfl | rfl
    · exact sub _ (Nat.le_refl _) fun _ h => h
    · exact sub _ (by show (L Z.x1).length ≤ _; rw [hZ.x1, List.length_drop]; ktr_room) fun c h => List.mem_of_mem_drop (by rw [← hZ.x1]; exact h)
    · exact sub _ (by show (L Z.x2).length ≤ _; rw [hZ.x2, List.length_dropLast]; ktr_room) fun c h => List.mem_of_mem_take (by rw [← List.dropLast_eq_take, ← hZ.x2]; exact h)
  refine ⟨[Z.Tl], [(Z.Tl, listOf (strValues xs).toArray Z.tn)], xs.length, _, (L' + 1 + 1 + 1 + 1 + 1, o5) :: rz, fun i v9 nw => v9 = bvals ((xs.take i).flatMap fun a => xs.map fun b => a.1 == b.1) ∧ nw = (L' + 1 + 1 + 1 + 1 + 1, o5) :: rz,
    by rw [← strV_len xs]; exact src_list (N2.isList (.head _)), by simp, ⟨F2, N2, G, rfl, D⟩, ⟨rfl, rfl⟩, ?_, ?_⟩
  · rintro I o C D1 oC m₂ i u v9 nw s₂ hPi hi ⟨rfl, rfl⟩ hC S hpl'
    obtain ⟨⟨a, ta⟩, ha, rfl⟩ := strV_at hPi
    refine blk_name rfl rfl hC S fun oC' s₃ hC' S' => tests_none ?_
    simp only [if_true]
    refine inner_obl S' rfl ?_ (by intro _; rfl)
    obtain ⟨F3, N3, G3, ho3, D3⟩ := S'
    dsimp only [List.cons_append, List.nil_append] at N3 D3
    k_steps
    (rename Fr _ _ _ _ => F4)
    (rename News _ _ _ _ => N4)
    refine ⟨[Z.Tl], [(I, o), (Z.Tl, listOf (strValues xs).toArray Z.tn)], xs.length, _, (C, oC') :: (D1, LCg.lst (bvals ((xs.take i).flatMap fun a => xs.map fun b => a.1 == b.1))) :: (L' + 1 + 1 + 1 + 1 + 1, o5) :: rz, fun j => BlockJ C D1 (fun m => m "want" = some (.str a ta)) (fun v9 nw => v9 = bvals (((xs.take i).flatMap fun a => xs.map fun b => a.1 == b.1) ++ (xs.take j).map fun b => a == b.1) ∧ nw = (L' + 1 + 1 + 1 + 1 + 1, o5) :: rz),
      by rw [← strV_len xs]; exact src_list (N4.isList (.tail _ (.head _))), by simp, ⟨F4, N4, G3, ho3, D3⟩, ⟨oC', _, _, _, rfl, hC', by ktr_unf, by simp, rfl⟩, ?_, ?_⟩
    · rintro I2 o2' j u nw s₄ hPj hj ⟨oC2, m3, ys2, n2, rfl, hC2, hk2, rfl, rfl⟩ S2 hpl2
      obtain ⟨⟨b, tb⟩, hb, rfl⟩ := strV_at hPj
      refine blk_name rfl rfl hC2 S2 fun oC3 s₅ hC3 S3 => tests_none ?_
      simp only [if_true]
      refine emit_obl (keep := [(I, o), (Z.Tl, listOf (strValues xs).toArray Z.tn)]) (ys := bvals (((xs.take i).flatMap fun a => xs.map fun b => a.1 == b.1) ++ (xs.take j).map fun b => a == b.1)) (C := C) (Z := fun m => m "want" = some (.str a ta)) ?_
      generalize hEE : EltEnd _ _ _ _ _ _ _ _ _ _ _ _ = EE; revert EE; refine wrap ?_; intro EE hEE
      obtain ⟨F5, N5, G5, ho5, D5⟩ := S3
      dsimp only [List.cons_append, List.nil_append] at N5 D5
      have hza := hxl _ (List.mem_of_getElem? ha)
      have hzb := hxl _ (List.mem_of_getElem? hb)
      (try clear F1); (try clear N1); (try clear F2); (try clear N2); (try clear F3); (try clear N3); (try clear F4); (try clear N4); (try clear D3); (try clear S); (try clear S2)
      have hGate : Gate "call ref" := ⟨⟩
      k_steps
      (repeat (with_reducible rename Gate _ => hG; clear hG))
      refine Stop.go ?_
      (rename Fr _ _ _ _ => F6)
      (rename News _ _ _ _ => N6)
      refine Does.at2 (takes_spec w a b _ _ (Nat.le_trans hza.1 (by decide)) (Nat.le_trans hzb.1 (by decide))) B F6 X N6 T G5 D5 rfl (by first | exact room1 (by assumption) (by decide) | exact room2 (by assumption) (by decide) | exact room3 (by assumption) (by decide) | ktr_room) (by first | exact room1 (by assumption) (by decide) | exact room2 (by assumption) (by decide) | exact room3 (by assumption) (by decide) | ktr_room) ?_
      intro s7 F7 N7 G7 ho7 D7
      rw [ellM_plain hza.2]
      (try dsimp only [List.nil_append] at N7 D7)
      subst hEE
      refine ⟨oC3, _, _, hC3, by ktr_unf, ⟨F7, N7, G7, ho7.trans ho5, D7⟩, ?_, ?_, rfl⟩
      · have h1 := fl_len xs (fun a b : Str × Tok => a.1 == b.1) (xs.take i)
        rw [List.length_take, hx3] at h1
        rw [sizeLine_eq]
        unfold bvals
        rw [List.length_map, List.length_append, h1, List.length_map, List.length_take]
        ktr_room
      · rw [List.take_add_one, hb]
        simp [bvals]
    · rintro nw s₆ ⟨oC2, m3, ys2, n2, rfl, hC2, hk2, rfl, rfl⟩ S2
      refine ⟨(C, oC2) :: (D1, _) :: _, S2, oC2, m3, _, _, rfl, hC2, trivial, ?_, rfl⟩
      rw [List.take_of_length_le (Nat.le_refl _), List.take_add_one, ha]
      simp
  · rintro D1 v9 nw s₂ ⟨rfl, rfl⟩ S s₃ S'
    obtain ⟨F8, N8, G8, ho8, D8⟩ := S'
    rw [List.take_of_length_le (Nat.le_refl _)] at N8 D8
    dsimp only [List.cons_append, List.nil_append] at N8 D8
    (try clear S); (try clear F1); (try clear N1); (try clear F2); (try clear N2)
    have hGate : Gate "eval ListComp" := ⟨⟩
    k_steps
    (repeat (with_reducible rename Gate _ => hG; clear hG))
    refine Stop.go ?_
    (rename Fr _ _ _ _ => F9)
    (rename News _ _ _ _ => N9)
    refine Comp_obl F9 rfl (by with_unfolding_all rfl) (fun I C D => turn_first2 ..) ?_ (by decide) rfl (by decide) (by intro _; rfl)
    k_steps
    (rename Fr _ _ _ _ => F9)
    (rename News _ _ _ _ => N9)
    refine ⟨[Z.Tl], [(Z.Tl, listOf (strValues xs).toArray Z.tn)], xs.length, _, (D1, LCg.lst (bvals (xs.flatMap fun a => xs.map fun b => a.1 == b.1))) :: (L' + 1 + 1 + 1 + 1 + 1, o5) :: rz, fun i v9 nw => v9 = bvals ((xs.take i).flatMap fun a => xs.map fun b => a.1 == b.1) ∧ nw = (D1, LCg.lst (bvals (xs.flatMap fun a => xs.map fun b => a.1 == b.1))) :: (L' + 1 + 1 + 1 + 1 + 1, o5) :: rz,
      by rw [← strV_len xs]; exact src_list (N9.isList (.head _)), by simp, ⟨F9, N9, G8, rfl, D8⟩, ⟨rfl, rfl⟩, ?_, ?_⟩
    · rintro I o C D2x oC m₂ i u v9 nw s₂ hPi hi ⟨rfl, rfl⟩ hC S hpl'
      obtain ⟨⟨a, ta⟩, ha, rfl⟩ := strV_at hPi
      refine blk_name rfl rfl hC S fun oC' s₃ hC' S' => tests_none ?_
      simp only [if_true]
      refine inner_obl S' rfl ?_ (by intro _; rfl)
      obtain ⟨F3, N3, G3, ho3, D3⟩ := S'
      dsimp only [List.cons_append, List.nil_append] at N3 D3
      k_steps
      (rename Fr _ _ _ _ => F4)
      (rename News _ _ _ _ => N4)
      refine ⟨[Z.Tl], [(I, o), (Z.Tl, listOf (strValues xs).toArray Z.tn)], xs.length, _, (C, oC') :: (D2x, LCg.lst (bvals ((xs.take i).flatMap fun a => xs.map fun b => a.1 == b.1))) :: (D1, LCg.lst (bvals (xs.flatMap fun a => xs.map fun b => a.1 == b.1))) :: (L' + 1 + 1 + 1 + 1 + 1, o5) :: rz, fun j => BlockJ C D2x (fun m => m "want" = some (.str a ta)) (fun v9 nw => v9 = bvals (((xs.take i).flatMap fun a => xs.map fun b => a.1 == b.1) ++ (xs.take j).map fun b => a == b.1) ∧ nw = (D1, LCg.lst (bvals (xs.flatMap fun a => xs.map fun b => a.1 == b.1))) :: (L' + 1 + 1 + 1 + 1 + 1, o5) :: rz),
        by rw [← strV_len xs]; exact src_list (N4.isList (.tail _ (.head _))), by simp, ⟨F4, N4, G3, ho3, D3⟩, ⟨oC', _, _, _, rfl, hC', by ktr_unf, by simp, rfl⟩, ?_, ?_⟩
      · rintro I2 o2' j u nw s₄ hPj hj ⟨oC2, m3, ys2, n2, rfl, hC2, hk2, rfl, rfl⟩ S2 hpl2
        obtain ⟨⟨b, tb⟩, hb, rfl⟩ := strV_at hPj
        refine blk_name rfl rfl hC2 S2 fun oC3 s₅ hC3 S3 => tests_none ?_
        simp only [if_true]
        refine emit_obl (keep := [(I, o), (Z.Tl, listOf (strValues xs).toArray Z.tn)]) (ys := bvals (((xs.take i).flatMap fun a => xs.map fun b => a.1 == b.1) ++ (xs.take j).map fun b => a == b.1)) (C := C) (Z := fun m => m "want" = some (.str a ta)) ?_
        generalize hEE : EltEnd _ _ _ _ _ _ _ _ _ _ _ _ = EE; revert EE; refine wrap ?_; intro EE hEE
        obtain ⟨F5, N5, G5, ho5, D5⟩ := S3
        dsimp only [List.cons_append, List.nil_append] at N5 D5
        have hza := hxl _ (List.mem_of_getElem? ha)
        have hzb := hxl _ (List.mem_of_getElem? hb)
        (try clear F8); (try clear N8); (try clear F9); (try clear N9); (try clear F3); (try clear N3); (try clear F4); (try clear N4); (try clear D3); (try clear S); (try clear S2)
        k_steps
        (rename Fr _ _ _ _ => F7)
        (rename News _ _ _ _ => N7)
        subst hEE
        refine ⟨oC3, _, _, hC3, by ktr_unf, ⟨F7, N7, G5, ho5, D5⟩, ?_, ?_, rfl⟩
        · have h1 := fl_len xs (fun a b : Str × Tok => a.1 == b.1) (xs.take i)
          rw [List.length_take, hx3] at h1
          rw [sizeLine_eq]
          unfold bvals
          rw [List.length_map, List.length_append, h1, List.length_map, List.length_take]
          ktr_room
        · rw [List.take_add_one, hb]
          simp [bvals]
      · rintro nw s₆ ⟨oC2, m3, ys2, n2, rfl, hC2, hk2, rfl, rfl⟩ S2
        refine ⟨(C, oC2) :: (D2x, _) :: _, S2, oC2, m3, _, _, rfl, hC2, trivial, ?_, rfl⟩
        rw [List.take_of_length_le (Nat.le_refl _), List.take_add_one, ha]
        simp
    · rintro D2x v9 nw s₂ ⟨rfl, rfl⟩ S s₄ S'
      obtain ⟨F10, N10, G10, ho10, D10⟩ := S'
      rw [List.take_of_length_le (Nat.le_refl _)] at N10 D10
      dsimp only [List.cons_append, List.nil_append] at N10 D10
      (try clear S); (try clear F8); (try clear N8); (try clear F9); (try clear N9)
      have hGate : Gate "compareOp NotEq ref ref" := ⟨⟩
      k_steps
      (repeat (with_reducible rename Gate _ => hG; clear hG))
      refine Stop.go ?_
      (rename Fr _ _ _ _ => F11)
      (rename News _ _ _ _ => N11)
      obtain ⟨b1, b2, b3, b4, b5, b6, b7, b8, b9, hb9⟩ : ∃ b1 b2 b3 b4 b5 b6 b7 b8 b9, (xs.flatMap fun a => xs.map fun b => a.1 == b.1) = [b1, b2, b3, b4, b5, b6, b7, b8, b9] := by rw [hxs]; exact ⟨_, _, _, _, _, _, _, _, _, rfl⟩
      rw [hb9] at N11 D10
      refine ne_same (d := .list [.bool b1, .bool b2, .bool b3, .bool b4, .bool b5, .bool b6, .bool b7, .bool b8, .bool b9]) (reads_list_at (N11.get (.tail _ (.tail _ (.head _)))) rfl rfl (ReadsAll.cons (Reads.bool _) (ReadsAll.cons (Reads.bool _) (ReadsAll.cons (Reads.bool _) (ReadsAll.cons (Reads.bool _) (ReadsAll.cons (Reads.bool _) (ReadsAll.cons (Reads.bool _) (ReadsAll.cons (Reads.bool _) (ReadsAll.cons (Reads.bool _) (ReadsAll.cons (Reads.bool _) ReadsAll.nil)))))))))) (reads_list_at (N11.get (.tail _ (.head _))) rfl rfl (ReadsAll.cons (Reads.bool _) (ReadsAll.cons (Reads.bool _) (ReadsAll.cons (Reads.bool _) (ReadsAll.cons (Reads.bool _) (ReadsAll.cons (Reads.bool _) (ReadsAll.cons (Reads.bool _) (ReadsAll.cons (Reads.bool _) (ReadsAll.cons (Reads.bool _) (ReadsAll.cons (Reads.bool _) ReadsAll.nil)))))))))) ?_ ?_ (by show un + 64 < cLine; ktr_room) ?_
      · rfl
      · rfl
      have hGate : Gate "execs cons" := ⟨⟩
      k_steps
      (repeat (with_reducible rename Gate _ => hG; clear hG))
      refine Stop.go ?_
      (rename Fr _ _ _ _ => F12)
      (rename News _ _ _ _ => N12)
      (try dsimp only)
      have pm9 : ((Z.Tl, listOf (strValues xs).toArray Z.tn) :: (D2x, LCg.lst (bvals [b1, b2, b3, b4, b5, b6, b7, b8, b9])) :: (D1, LCg.lst (bvals [b1, b2, b3, b4, b5, b6, b7, b8, b9])) :: (L' + 1 + 1 + 1 + 1 + 1, o5) :: rz).Perm ([(D2x, LCg.lst (bvals [b1, b2, b3, b4, b5, b6, b7, b8, b9])), (D1, LCg.lst (bvals [b1, b2, b3, b4, b5, b6, b7, b8, b9]))] ++ (coreW P W 63 70 L' o1 o2 o3 o4 o5 o6 o7 o8 pl pl' ++ (R.Rw, listOf (rrefs (R.r0 :: R.rs)).toArray R.rn) :: (Z.Tl, listOf [Value.str Z.text Z.t0, Value.str Z.x1 Z.t1, Value.str Z.x2 Z.t2].toArray Z.tn) :: (R.r0 :: R.rs).map RowE.ent)) := by
        rw [hrz, hxs]; unfold coreW strValues
        simp only [List.map_cons, List.map_nil]
        exact (by exact pm_idx [[_], [_], [_], [_], [_], [_], [_], [_], [_], [_], [_], [_], [_], [_], [_], [_], [_], [_], _] [1, 2, 4, 5, 6, 7, 8, 9, 10, 3, 11, 12, 13, 14, 15, 16, 0, 17, 18] (by kernel_rfl))
      exact LawFrom.go next (by k_is) rfl B X O T ⟨F12, sub_nw N12 ⟨_, pm9⟩, G10, ho10.trans (ho8.trans ho), sub_dn D10 ⟨_, pm9⟩⟩ ⟨hmr, hmt, o1, o2, o3, o4, o5, o6, o7, o8, pl, pl', d1, d2, d3, d4, d5, d6, d7, d8, hpl, hpl'⟩ hdp hun hret
end Mine
end
section
open PySem PySem.W PyProof.Rows
set_option maxRecDepth 100000
set_option maxHeartbeats 2000000
namespace Mine
theorem reads_str {h : Heap} {x y : Str} {t : Tok} (e : x = y) : Reads h (.str x t) (.str y) [] := e ▸ .str _ _
theorem reads_int {h : Heap} {x y : Int} {t : Tok} (e : x = y) : Reads h (.int x t) (.int y) [] := e ▸ .int _ _
theorem rrefs_at {rs : List RowE} {i : Nat} {u : Value} (h : (rrefs rs).toArray[i]? = some u) : ∃ r, rs[i]? = some r ∧ u = .ref r.A := by
  rw [List.getElem?_toArray] at h
  unfold rrefs at h
  rw [List.getElem?_map] at h
  cases e : rs[i]? with
  | none => rw [e] at h; cases h
  | some r => rw [e] at h; exact ⟨r, rfl, (Option.some.inj h).symm⟩
theorem drop3 {g : Heap} {L' : Addr} {h : Heap} {a b c : Addr × Obj} {r : Led} (N : News g L' h (a :: b :: c :: r)) : News g L' h r := fun q hq => N q (.tail _ (.tail _ (.tail _ hq)))
/-- between the rows -/
inductive RowJ (P : Qm) (W : Wm) (R : Rm) (Z : Tm) (tl ts L' : Addr) (o1 o2 o3 o4 o5 : Obj) (m : Str → Option Value) : Led → Prop
  | mk (o6 o7 o8 : Obj) (pl pl' : Array Value) : m "text" = some (.str Z.text Z.t0) → bareC o6 → bareC o7 → bareC o8 → TriplesOk pl.toList → TriplesOk pl'.toList → RowJ P W R Z tl ts L' o1 o2 o3 o4 o5 m (coreW P W tl ts L' o1 o2 o3 o4 o5 o6 o7 o8 pl pl' ++ (Z.Tl, listOf [Value.str Z.text Z.t0, Value.str Z.x1 Z.t1, Value.str Z.x2 Z.t2].toArray Z.tn) :: (R.r0 :: R.rs).map RowE.ent)
/-- the ledger of a row's turn, its head; whole -/
noncomputable abbrev ledH (P : Qm) (W : Wm) (r : RowE) (tl ts L' : Addr) (o2 o3 : Obj) (pl pl' : Array Value) (rx : Led) : Led := (r.A, listOf (ivals r.xs).toArray r.n) :: (W.Wl, listOf (strValues W.zs).toArray W.zn) :: (P.Ll, listOf [Value.str P.a P.ta, Value.str P.b P.tb].toArray P.ln) :: (tl, tabO pl) :: (ts, tabO pl') :: (L' + 1 + 1, o2) :: (L' + 1 + 1 + 1, o3) :: rx
noncomputable abbrev ledG (P : Qm) (W : Wm) (Z : Tm) (r : RowE) (tl ts L' : Addr) (o2 o3 o5 o6 o7 o8 : Obj) (pl pl' : Array Value) (ry : Led) : Led := ledH P W r tl ts L' o2 o3 pl pl' ((L' + 1 + 1 + 1 + 1 + 1, o5) :: (Z.Tl, listOf [Value.str Z.text Z.t0, Value.str Z.x1 Z.t1, Value.str Z.x2 Z.t2].toArray Z.tn) :: (L' + 1 + 1 + 1 + 1 + 1 + 1, o6) :: (L' + 1 + 1 + 1 + 1 + 1 + 1 + 1, o7) :: (L' + 1 + 1 + 1 + 1 + 1 + 1 + 1 + 1, o8) :: ry)
noncomputable abbrev tlH (P : Qm) (tl ts L' : Addr) (o2 : Obj) (pl pl' : Array Value) (rx : Led) : Led := (P.Ll, listOf [Value.str P.a P.ta, Value.str P.b P.tb].toArray P.ln) :: (tl, tabO pl) :: (ts, tabO pl') :: (L' + 1 + 1, o2) :: rx
/-- between the texts ahead; behind the store of one -/
inductive DotA (Z : Tm) (L' : Addr) (o5 o6 : Obj) (rv : Led) (m : Str → Option Value) : (Str → Option Value) → Led → Prop
  | mk (o7 o8 : Obj) : bareC o7 → bareC o8 → DotA Z L' o5 o6 rv m m ((L' + 1 + 1 + 1 + 1 + 1 + 1, o6) :: (L' + 1 + 1 + 1 + 1 + 1 + 1 + 1, o7) :: (L' + 1 + 1 + 1 + 1 + 1 + 1 + 1 + 1, o8) :: (L' + 1 + 1 + 1 + 1 + 1, o5) :: (Z.Tl, listOf [Value.str Z.text Z.t0, Value.str Z.x1 Z.t1, Value.str Z.x2 Z.t2].toArray Z.tn) :: rv)
inductive DotB (Z : Tm) (L' : Addr) (o5 o6 : Obj) (rv : Led) (m : Str → Option Value) : (Str → Option Value) → Led → Prop
  | mk (da : Str) (t : Tok) (o7 o8 : Obj) : da = Str.empty ∨ da = dots → o7.data = .cell (some (.str da t)) → bareC o8 → DotB Z L' o5 o6 rv m m ((L' + 1 + 1 + 1 + 1 + 1 + 1, o6) :: (L' + 1 + 1 + 1 + 1 + 1 + 1 + 1, o7) :: (L' + 1 + 1 + 1 + 1 + 1 + 1 + 1 + 1, o8) :: (L' + 1 + 1 + 1 + 1 + 1, o5) :: (Z.Tl, listOf [Value.str Z.text Z.t0, Value.str Z.x1 Z.t1, Value.str Z.x2 Z.t2].toArray Z.tn) :: rv)
theorem dot_at {a b : Tok} {i : Nat} {u : Value} (h : #[Value.str (Str.ofString "") a, .str (Str.ofString "...") b][i]? = some u) : ∃ da t, u = .str da t ∧ (da = Str.empty ∨ da = dots) := by
  match i, h with
  | 0, h => simp at h; exact ⟨_, _, h.symm, .inl (by decide +kernel)⟩
  | 1, h => simp at h; exact ⟨_, _, h.symm, .inr rfl⟩
  | n + 2, h => simp at h
inductive CellA (pre post : Led) (c : Addr) (m : Str → Option Value) : (Str → Option Value) → Led → Prop
  | mk (o : Obj) : bareC o → CellA pre post c m m (pre ++ (c, o) :: post)
inductive CellB (pre post : Led) (c : Addr) (m : Str → Option Value) : (Str → Option Value) → Led → Prop
  | mk (da : Str) (t : Tok) (o : Obj) : da = Str.empty ∨ da = dots → o.data = .cell (some (.str da t)) → CellB pre post c m m (pre ++ (c, o) :: post)
theorem law_g (w : World) (Sl : Addr) (so : Obj) (P : Qm) (hP : P.Ok) (W : Wm) (hW : W.Ok P) (R : Rm) (hR : R.Ok W) (Z : Tm) (hZ : Z.Ok W R) :
  LawFrom PySem.Challenge.rw_wr0021_02.row.prog w (Mine.frag.heap_1 w.params) 209 10 Sl so 63 70 70 700 (stX P W R Z 63 70) := by
  w_top off
  k_fill
  refine law_from (by k_is) ?_
  rintro loose mean mg mb dp un gd A₀ g L' fa ccd m led os s₁ Q E B X O T ⟨F, N, G, ho, D⟩ ⟨hmr, hmt, o1, o2, o3, o4, o5, o6, o7, o8, pl, pl', d1, d2, d3, d4, d5, d6, d7, d8, hpl, hpl'⟩ hdp hun hret
  dsimp only [List.drop]
  (try (refine letA ?_; intro kA))
  have hzl := hW.len
  have hsl := strV_len W.zs
  have hGate : Gate "exec For" := ⟨⟩
  k_steps
  (all_goals (try k_data))
  (repeat (with_reducible rename Gate _ => hG; clear hG))
  refine Stop.go ?_
  (rename Fr _ _ _ _ => F1)
  (rename News _ _ _ _ => N1)
  refine For_obl (h₀ := g) rfl ?_ (by intro _; rfl)
  k_steps
  (rename Fr _ _ _ _ => F2)
  (rename News _ _ _ _ => N2)
  have pm0 : (coreW P W 63 70 L' o1 o2 o3 o4 o5 o6 o7 o8 pl pl' ++ (R.Rw, listOf (rrefs (R.r0 :: R.rs)).toArray R.rn) :: (Z.Tl, listOf [Value.str Z.text Z.t0, Value.str Z.x1 Z.t1, Value.str Z.x2 Z.t2].toArray Z.tn) :: (R.r0 :: R.rs).map RowE.ent).Perm ([(R.Rw, listOf (rrefs (R.r0 :: R.rs)).toArray R.rn)] ++ (coreW P W 63 70 L' o1 o2 o3 o4 o5 o6 o7 o8 pl pl' ++ (Z.Tl, listOf [Value.str Z.text Z.t0, Value.str Z.x1 Z.t1, Value.str Z.x2 Z.t2].toArray Z.tn) :: (R.r0 :: R.rs).map RowE.ent)) := by
    unfold coreW
    exact (by exact pm_idx [[_], [_], [_], [_], [_], [_], [_], [_], [_], [_], [_], [_], [_], [_], [_], [_], _] [13, 0, 1, 2, 3, 4, 5, 6, 7, 8, 9, 10, 11, 12, 14, 15, 16] (by kernel_rfl))
  refine ⟨[R.Rw], [(R.Rw, listOf (rrefs (R.r0 :: R.rs)).toArray R.rn)], (rrefs (R.r0 :: R.rs)).length, _, _, _, fun _ => RowJ P W R Z 63 70 L' o1 o2 o3 o4 o5, _,
    src_list (News.isList N2 (List.mem_append_right _ (.head _))), by simp, ⟨F2, News.perm N2 pm0, G, rfl, DN.perm D pm0⟩, .mk o6 o7 o8 pl pl' (by ktr_unf) d6 d7 d8 hpl hpl', fun I o i u m' nw s₂ Q' hP hi hJ S _ h => asg_name rfl rfl S h, ?_, ?_⟩
  · rintro I o i u m' nw s₂ hPi hi ⟨o6, o7, o8, pl, pl', hmt, d6, d7, d8, hpl, hpl'⟩ ⟨F3, N3, G3, ho3, D3⟩
    generalize hTQ : TurnPost _ _ _ _ _ _ = TQ; revert TQ; refine wrap ?_; intro TQ hTQ
    obtain ⟨r, hr, rfl⟩ := rrefs_at (rs := R.r0 :: R.rs) hPi
    have hrm := List.mem_of_getElem? hr
    obtain ⟨ra, rb, hab⟩ := List.append_of_mem hrm
    obtain ⟨hrow, hrs, hrl⟩ := hR.row r hrm
    replace hrl : r.xs.length ≤ 14 := by rw [List.length_map] at hrl; exact hrl
    obtain ⟨ry, hry⟩ : ∃ ry : Led, ry = (I, o) :: (R.Rw, listOf (rrefs (R.r0 :: R.rs)).toArray R.rn) :: (L' + 1, o1) :: (P.Nl, listOf (ivals P.xs).toArray P.nn) :: (L' + 1 + 1 + 1 + 1, o4) :: (ra.map RowE.ent ++ rb.map RowE.ent) := ⟨_, rfl⟩
    have pm1 : ∀ o6 o7 o8 pl pl', ([(I, o), (R.Rw, listOf (rrefs (R.r0 :: R.rs)).toArray R.rn)] ++ (coreW P W 63 70 L' o1 o2 o3 o4 o5 o6 o7 o8 pl pl' ++ (Z.Tl, listOf [Value.str Z.text Z.t0, Value.str Z.x1 Z.t1, Value.str Z.x2 Z.t2].toArray Z.tn) :: (R.r0 :: R.rs).map RowE.ent)).Perm (ledG P W Z r 63 70 L' o2 o3 o5 o6 o7 o8 pl pl' ry) := fun o6 o7 o8 pl pl' => by
      rw [hry, hab]; unfold coreW
      simp only [ledG, ledH, List.map_append, List.map_cons, RowE.ent]
      exact (by exact pm_idx [[_], [_], [_], [_], [_], [_], [_], [_], [_], [_], [_], [_], [_], [_], [_], [_], _, [_], _] [17, 5, 7, 13, 14, 3, 4, 9, 15, 10, 11, 12, 0, 1, 2, 6, 8, 16, 18] (by kernel_rfl))
    replace N3 := News.perm N3 (pm1 o6 o7 o8 pl pl')
    replace D3 := DN.perm D3 (pm1 o6 o7 o8 pl pl')
    clear hry hPi pm0
    (try clear F); (try clear N); (try clear D); (try clear F2); (try clear N2)
    obtain ⟨rx, hrx⟩ : ∃ rx : Led, rx = (L' + 1 + 1 + 1 + 1 + 1, o5) :: (Z.Tl, listOf [Value.str Z.text Z.t0, Value.str Z.x1 Z.t1, Value.str Z.x2 Z.t2].toArray Z.tn) :: (L' + 1 + 1 + 1 + 1 + 1 + 1, o6) :: (L' + 1 + 1 + 1 + 1 + 1 + 1 + 1, o7) :: (L' + 1 + 1 + 1 + 1 + 1 + 1 + 1 + 1, o8) :: ry := ⟨_, rfl⟩
    replace N3 : News g L' s₂.heap (ledH P W r 63 70 L' o2 o3 pl pl' rx) := by rw [hrx]; exact N3
    replace D3 : DN (ledH P W r 63 70 L' o2 o3 pl pl' rx) := by rw [hrx]; exact D3
    dsimp only [ledH] at N3 D3
    have hlt : ∀ k ∈ r.xs.map (·.1), k < 3 := fun k hk => by have := hrow k hk; rw [tx_len] at this; ktr_room
    have hGate : Gate "eval ListComp" := ⟨⟩
    k_steps
    (repeat (with_reducible rename Gate _ => hG; clear hG))
    refine Stop.go ?_
    (rename Fr _ _ _ _ => F4)
    (rename News _ _ _ _ => N4)
    refine Comp_obl F4 rfl (by with_unfolding_all rfl) (fun I C D => turn_one ..) ?_ (by decide) rfl (by decide) (by intro _; rfl)
    have hGate : Gate "subscriptTail Name Slice ref ref" := ⟨⟩
    k_steps
    (repeat (with_reducible rename Gate _ => hG; clear hG))
    refine Stop.go ?_
    (rename Fr _ _ _ _ => F5)
    (rename News _ _ _ _ => N5)
    refine krv_lit (zs := ivals r.xs.reverse) F5 N5 (News.isList N5 (.head _)) (.int _ _) (ivals_rev r.xs) ?_ (by with_unfolding_all rfl) (by intro _; with_unfolding_all rfl) (by rw [sizeLine_eq]; simp [ivals]; ktr_room)
    intro Rv h6 F6 N6 l6
    have D6 := DN.cons_of (o := listOf (ivals r.xs.reverse).toArray 0) D3 l6
    refine ⟨[Rv], [(Rv, listOf (ivals r.xs.reverse).toArray 0)], r.xs.reverse.length, _, _, fun i ys nw => ∃ ws : List (Str × Tok), ys = strValues ws ∧ nw = ledH P W r 63 70 L' o2 o3 pl pl' rx ∧ ws.length = i ∧ ws.flatMap (fun z => L z.1) = showL ((((r.xs.reverse.map (·.1)).take i).map (256 + ·)).map fun c => (true, c)),
      by rw [← ivals_len r.xs.reverse]; exact src_list (News.isList N6 (.head _)), by simp, ⟨F6, N6, G3, rfl, D6⟩, ⟨[], rfl, rfl, rfl, rfl⟩, ?_, ?_⟩
    · rintro I2 o2' C D' oC m₂ i2 u ys nw s₃ hPi hi2 ⟨ws, rfl, rfl, hwn, hws⟩ hC S hpl3
      obtain ⟨p, hp, rfl⟩ := iv_at hPi
      have hp3 : p.1 < 3 := hlt _ (by rw [← List.mem_reverse, ← List.map_reverse]; exact List.mem_map.mpr ⟨p, List.mem_of_getElem? hp, rfl⟩)
      refine blk_name rfl rfl hC S fun oC' s₄ hC' S' => tests_none ?_
      simp only [if_true]
      refine emit_obl (keep := [(Rv, listOf (ivals r.xs.reverse).toArray 0)]) (ys := strValues ws) ?_
      generalize hEE : EltEnd _ _ _ _ _ _ _ _ _ _ _ _ = EE; revert EE; refine wrap ?_; intro EE hEE
      obtain ⟨F7, N7, G7, ho7, D7⟩ := S'
      dsimp only [List.cons_append, List.nil_append] at N7 D7
      (try clear F4); (try clear N4); (try clear F5); (try clear N5); (try clear F6); (try clear N6); (try clear D6); (try clear l6); (try clear S); (try clear F3); (try clear N3)
      have hGate : Gate "binaryOp Add str str" := ⟨⟩
      k_steps
      (repeat (with_reducible rename Gate _ => hG; clear hG))
      refine Stop.go ?_
      (rename Fr _ _ _ _ => F8)
      (rename News _ _ _ _ => N8)
      rw [show Str.ofString (toString (256 + (p.1 : Int))) = nm (256 + p.1) by unfold nm; rw [show (256 + (p.1 : Int)) = ((256 + p.1 : Nat) : Int) by ktr_room]]
      have hnl := nm_len (256 + p.1) (by ktr_room)
      refine add_led (a := 1) (b := 3) (by decide +kernel) hnl (by decide) ?_
      intro t1 k1 hl1
      subst hEE
      refine ⟨oC', _, _, hC', trivial, ⟨F8, N8, G7, ho7, D7⟩, by rw [sizeLine_eq, strV_len]; rw [List.length_reverse] at hi2; ktr_room, ws ++ [(Str.ofString " " ++ nm (256 + p.1), t1)], by simp [strValues], rfl, by simp; ktr_room, ?_⟩
      rw [List.flatMap_append, hws, List.take_add_one, List.map_append, List.map_append, showL_app, List.getElem?_map, hp]
      simp [showL, L_app, show L (Str.ofString " ") = [32] by decide +kernel]
    · rintro D' ys nw s₃ ⟨ws, rfl, rfl, hwn, hws⟩ S s₄ ⟨F7, N7, G7, ho7, D7⟩
      dsimp only [List.cons_append, List.nil_append, ledH] at N7 D7
      (try clear F4); (try clear N4); (try clear F5); (try clear N5); (try clear F6); (try clear N6); (try clear D6); (try clear l6); (try clear S); (try clear F3); (try clear N3)
      k_steps
      (rename Fr _ _ _ _ => F8)
      (rename News _ _ _ _ => N8)
      rw [List.take_of_length_le (by simp)] at hws
      have hsy : ∀ x ∈ ((r.xs.reverse.map (·.1)).map (256 + ·)).map fun c => (true, c), x.2 < 260 := fun x hx => by
        simp only [List.mem_map, List.mem_reverse] at hx
        obtain ⟨c, ⟨k, ⟨q, hq, rfl⟩, rfl⟩, rfl⟩ := hx
        have := hlt q.1 (List.mem_map.mpr ⟨q, hq, rfl⟩)
        show 256 + q.1 < 260
        ktr_room
      have hsl := showL_len _ hsy
      rw [List.length_map, List.length_map, List.length_map, List.length_reverse] at hsl
      rw [List.length_reverse] at hwn
      refine join_led0 (zs := ws) (News.isList N8 (.tail _ (.head _))) (by rw [hws]; ktr_room) ?_
      intro y ty k hy
      rw [hws] at hy
      have hyl : y.length ≤ 56 := by rw [← L_len, hy]; ktr_room
      replace N8 : News g L' _ (ledH P W r 63 70 L' o2 o3 pl pl' rx) := fun q hq => N8 q (.tail _ (.tail _ hq))
      dsimp only [ledH] at N8
      (try clear N7); (try clear F7); (try clear D7)
      have hGate : Gate "call ref" := ⟨⟩
      k_steps
      (all_goals (try k_data))
      (repeat (with_reducible rename Gate _ => hG; clear hG))
      refine Stop.go ?_
      (rename Fr _ _ _ _ => F9)
      (rename News _ _ _ _ => N9)
      refine Does.at (spelled_spec w r.A W.Wl P.Ll r.xs r.n W.zs W.zn P.a P.b P.ta P.tb P.ln P.ca 34 pl pl' hpl hpl' hrow hrl (by ktr_room) hP.la hP.lb (by show (if P.tot % 3 = 2 then 10 else 97 + P.tot % 50000) ≠ 34; split <;> ktr_room) (fun z hz => ⟨(hW.wd z hz).1, (hW.wd z hz).2.2⟩)) B F9 X N9 T G7 D3 rfl _ (.refl _) (by first | exact room1 (by assumption) (by decide) | exact room2 (by assumption) (by decide) | exact room3 (by assumption) (by decide) | ktr_room) (by first | exact room1 (by assumption) (by decide) | exact room2 (by assumption) (by decide) | exact room3 (by assumption) (by decide) | ktr_room) ?_
      rintro v s10 nw F10 N10 G10 ho10 D10 ⟨T1, Fs, y1, ty1, n1, tn1, sh, tsh, bl, tbl, t2, ⟨pT, pf, ptf, pg, ptg⟩, pl, pl', hpl, hpl', hy1, hsh, hn1, hbl, hpf, hpg⟩
      dsimp only [List.cons_append, List.nil_append, Pc.ent] at N10 D10 hpf hpg
      (try clear F9); (try clear N9); (try clear F8); (try clear N8); (try clear D3)
      have hGate : Gate "binaryOp Add str str" := ⟨⟩
      k_steps
      (repeat (with_reducible rename Gate _ => hG; clear hG))
      refine Stop.go ?_
      (rename Fr _ _ _ _ => F11)
      (rename News _ _ _ _ => N11)
      refine add_led (a := 2) (b := 56) (by decide +kernel) hyl (by decide) ?_
      intro t3 k3 hl3
      have hil := ivals_len r.xs
      have hGate : Gate "binaryOp Mult str int" := ⟨⟩
      k_steps
      (repeat (with_reducible rename Gate _ => hG; clear hG))
      refine Stop.go ?_
      (rename Fr _ _ _ _ => F12)
      (rename News _ _ _ _ => N12)
      rw [hil]
      refine mul_blank (n := r.xs.length) (by ktr_room) ?_
      intro bz tbz k4 hbz
      have hGate : Gate "binaryOp Add str str" := ⟨⟩
      k_steps
      (repeat (with_reducible rename Gate _ => hG; clear hG))
      refine Stop.go ?_
      (rename Fr _ _ _ _ => F13)
      (rename News _ _ _ _ => N13)
      refine add_led (a := 1) (b := 14) (by decide +kernel) (by rw [← L_len, hbz, List.length_replicate]; ktr_room) (by decide) ?_
      intro t5 k5 hl5
      have hGate : Gate "compareOp NotEq ref ref" := ⟨⟩
      k_steps
      (repeat (with_reducible rename Gate _ => hG; clear hG))
      refine Stop.go ?_
      (rename Fr _ _ _ _ => F14)
      (rename News _ _ _ _ => N14)
      have e1 : y1 = Z.text := str_ext (by show L y1 = L Z.text; rw [hy1, hZ.tx]; exact hrs)
      have hsh2 : L sh = [32, 48] ++ L y := by
        rw [hsh, hy, List.map_cons]
        show ([32] ++ L (nm 0)) ++ showL _ = _
        rw [show L (nm 0) = [48] by decide +kernel]
        rfl
      have e2 : n1 = 4 + (y.length : Int) := by rw [hn1, hsh2, List.length_append, L_len, show [32, 48].length = 2 from rfl]; ktr_room
      have e3 : sh = Str.ofString " 0" ++ y := str_ext (by show L sh = L _; rw [hsh2, L_app]; rw [show L (Str.ofString " 0") = [32, 48] by decide +kernel])
      have e4 : bl = Str.ofString " " ++ bz := str_ext (by show L bl = L _; rw [hbl, L_app, hbz, show L (Str.ofString " ") = [32] by decide +kernel, List.replicate_succ]; rfl)
      have e5 : Str.empty = Str.ofString "" := by decide +kernel
      have hok1 : PySem.PyData.strOk Z.text = true := (hZ.fine hW hR).2.ok
      have hok2 : PySem.PyData.strOk (Str.ofString " 0" ++ y) = true := ok_lt2 fun c hc => by
        rw [← e3, hsh2] at hc
        rcases List.mem_append.mp hc with h | h
        · simp only [List.mem_cons, List.not_mem_nil, or_false] at h; ktr_room
        · rw [hy] at h
          exact showL_ok _ hsy c h
      have hok3 : PySem.PyData.strOk (Str.ofString " " ++ bz) = true := ok_lt2 fun c hc => by
        rw [← e4, hbl] at hc
        rw [(List.mem_replicate.mp hc).2]; decide
      have hok4 : PySem.PyData.strOk (Str.ofString "") = true := by decide +kernel
      refine ne_same (d := .tuple [.str Z.text, .list [.int (4 + (y.length : Int)), .str (Str.ofString " 0" ++ y)], .str (Str.ofString " " ++ bz), .int 2, .tuple [.str (Str.ofString ""), .str (Str.ofString "")]])
        (reads_tuple_at (N14.get (.tail _ (.tail _ (.tail _ (.head _))))) rfl rfl (.cons (reads_str e1) (.cons (reads_list_at (N14.get (.tail _ (.tail _ (.tail _ (.tail _ (.tail _ (.head _))))))) rfl rfl (.cons (reads_int e2) (.cons (reads_str e3) .nil))) (.cons (reads_str e4) (.cons (.int _ _) (.cons (reads_tuple_at (N14.get (.tail _ (.tail _ (.tail _ (.tail _ (.head _)))))) rfl rfl (.cons (reads_str (hpf.trans e5)) (.cons (reads_str (hpg.trans e5)) .nil))) .nil))))))
        (reads_tuple_at (N14.get (.head _)) rfl rfl (.cons (.str _ _) (.cons (reads_list_at (N14.get (.tail _ (.tail _ (.head _)))) rfl rfl (.cons (.int _ _) (.cons (.str _ _) .nil))) (.cons (.str _ _) (.cons (.int _ _) (.cons (reads_tuple_at (N14.get (.tail _ (.head _))) rfl rfl (.cons (.str _ _) (.cons (.str _ _) .nil))) .nil)))))) ?_ ?_ (by show un + 64 < cLine; ktr_room) ?_
      · unfold PySem.SeqAt.shaped
        simp [PyData.canLay0, PyData.canLayAll0, PyData.depth, PyData.depthAll, hok1, hok2, hok3, hok4]
      · rfl
      (try clear e1); (try clear e2); (try clear e3); (try clear e4); (try clear hy1); (try clear hsh); (try clear hsh2); (try clear hn1); (try clear hbl); (try clear hok1); (try clear hok2); (try clear hok3); (try clear hok4); (try clear e5); (try clear hbz); (try clear hl5); (try clear hl3)
      have hGate : Gate "eval ListComp" := ⟨⟩
      k_steps
      (repeat (with_reducible rename Gate _ => hG; clear hG))
      refine Stop.go ?_
      (rename Fr _ _ _ _ => F15)
      (rename News _ _ _ _ => N15)
      have pm2 : ∀ a b c : Addr × Obj, (a :: b :: c :: ledH P W r 63 70 L' o2 o3 pl pl' rx).Perm ([a, b, c] ++ ((r.A, listOf (ivals r.xs).toArray r.n) :: (L' + 1 + 1 + 1, o3) :: (W.Wl, listOf (strValues W.zs).toArray W.zn) :: tlH P 63 70 L' o2 pl pl' rx)) := fun a b c => by unfold tlH; exact (by exact pm_idx [[_], [_], [_], [_], [_], [_], [_], [_], [_], [_], _] [0, 1, 2, 3, 9, 4, 5, 6, 7, 8, 10] (by kernel_rfl))
      replace D10 := sub_dn D10 ⟨_, pm2 _ _ _⟩
      replace N15 := sub_nw (drop3 N15) ⟨_, pm2 _ _ _⟩
      dsimp only [tlH] at N15
      refine words_comp w (Ra := r.A) (rn := r.n) (zn := W.zn) (R := tlH P 63 70 L' o2 pl pl' rx) X rfl F15 d3 (fun _ => rfl) (by with_unfolding_all rfl) hrow (by first | exact room1 (by assumption) (by decide) | exact room2 (by assumption) (by decide) | exact room3 (by assumption) (by decide) | ktr_room) (by first | exact room1 (by assumption) (by decide) | exact room2 (by assumption) (by decide) | exact room3 (by assumption) (by decide) | ktr_room) ?_ (by intro _; rfl)
      refine nm_C rfl rfl (by decide) F15 (by ktr_unf) ?_
      refine ⟨rfl, ⟨F15, N15, G10, rfl, D10⟩, fun D3' s17 S => ?_⟩
      obtain ⟨F17, N17, G17, ho17, D17⟩ := S
      dsimp only [tlH] at N17 D17
      (try clear F15); (try clear N15); (try clear F16); (try clear N16); (try clear D10); (try clear pm2)
      obtain ⟨m0, hm0, F17⟩ : ∃ m0, m0 "text" = some (.str Z.text Z.t0) ∧ Fr g L' _ m0 := ⟨_, by ktr_unf, F17⟩
      obtain ⟨rv, hrv⟩ : ∃ rv : Led, rv = (r.A, listOf (ivals r.xs).toArray r.n) :: (L' + 1 + 1 + 1, o3) :: (W.Wl, listOf (strValues W.zs).toArray W.zn) :: (P.Ll, listOf [Value.str P.a P.ta, Value.str P.b P.tb].toArray P.ln) :: (63, tabO pl) :: (70, tabO pl') :: (L' + 1 + 1, o2) :: ry := ⟨_, rfl⟩
      have pm3 : ∀ d : Addr × Obj, ((r.A, listOf (ivals r.xs).toArray r.n) :: d :: (L' + 1 + 1 + 1, o3) :: (W.Wl, listOf (strValues W.zs).toArray W.zn) :: tlH P 63 70 L' o2 pl pl' rx).Perm ([d] ++ ((L' + 1 + 1 + 1 + 1 + 1 + 1, o6) :: (L' + 1 + 1 + 1 + 1 + 1 + 1 + 1, o7) :: (L' + 1 + 1 + 1 + 1 + 1 + 1 + 1 + 1, o8) :: (L' + 1 + 1 + 1 + 1 + 1, o5) :: (Z.Tl, listOf [Value.str Z.text Z.t0, Value.str Z.x1 Z.t1, Value.str Z.x2 Z.t2].toArray Z.tn) :: rv)) := fun d => by rw [hrv, hrx]; unfold tlH; exact (by exact pm_idx [[_], [_], [_], [_], [_], [_], [_], [_], [_], [_], [_], [_], [_], _] [1, 10, 11, 12, 8, 9, 0, 2, 3, 4, 5, 6, 7, 13] (by kernel_rfl))
      have hpf := picks_flat hrow
      have hsp := spell_le (fun k hk => by
        rw [tx_len] at hk
        rw [wd_tx (List.getElem?_eq_getElem hk), L_len]
        exact (hW.wd _ (List.getElem_mem hk)).1) _ hrow
      rw [List.length_map] at hsp
      have hpl9 : (picks W.zs (r.xs.map (·.1))).length ≤ (r.xs.map (·.1)).length := List.length_filterMap_le ..
      rw [List.length_map] at hpl9
      k_steps
      (rename Fr _ _ _ _ => F18)
      (rename News _ _ _ _ => N18)
      refine join_led (zs := picks W.zs (r.xs.map (·.1))) (News.isList N18 (.tail _ (.head _))) (by decide +kernel) (by rw [hpf]; ktr_room) ?_
      intro tw kw
      rw [show Str.ofString "..." = dots from rfl, join_dots]
      have htx : L Z.text ≠ [] := fun e => by
        have h1 := spell_len (W := tx W.zs) (fun k hk => by
          rw [tx_len] at hk
          rw [wd_tx (List.getElem?_eq_getElem hk)]
          exact (hW.wd _ (List.getElem_mem hk)).2.1) _ (hR.row _ (.head _)).1
        rw [← hZ.tx, e] at h1
        exact hR.ne (List.length_eq_zero_iff.mp (Nat.le_zero.mp h1))
      have hcat : L Z.text = catS ((picks W.zs (r.xs.map (·.1))).map (·.1)) := by rw [catS_map, hpf, hrs, hZ.tx]
      have hwl : (joinD ((picks W.zs (r.xs.map (·.1))).map (·.1))).length ≤ 98 := by
        have := joinD_len ((picks W.zs (r.xs.map (·.1))).map (·.1))
        rw [L_len, ← hcat, hZ.tx, ← hrs, List.length_map] at this
        ktr_room
      have hE : ∀ {da db : Str}, (da = Str.empty ∨ da = dots) → (db = Str.empty ∨ db = dots) → _ := fun {da db} hda hdb => want_three (ps := (picks W.zs (r.xs.map (·.1))).map (·.1)) (fun e => htx (by rw [hcat, e]; rfl)) (fun p hp => by
        obtain ⟨z, hz, rfl⟩ := List.mem_map.mp hp
        unfold picks at hz
        obtain ⟨k, _, e⟩ := List.mem_filterMap.mp hz
        exact ((hW.wd z (List.mem_of_getElem? e)).fine).nodot) hcat hZ.x1 hZ.x2 htx (da := da) (db := db) hda hdb
      generalize joinD ((picks W.zs (r.xs.map (·.1))).map (·.1)) = wt at hE hwl ⊢
      replace N18 := sub_nw N18 ⟨_, pm3 _⟩
      replace D17 := sub_dn D17 ⟨_, pm3 _⟩
      (try clear N17); (try clear F17); (try clear pm3); (try clear hcat); (try clear hpf); (try clear hpl9); (try clear hsp); (try clear hy); (try clear hyl); (try clear hsl); (try clear hws); (try clear hwn); (try clear hsy); (try clear hlt)
      k_steps
      obtain ⟨v6, d6⟩ := d6
      refine st_cell (pre := []) (os := s₁.os) ⟨F18, N18, G17, ho17.trans (ho10.trans (ho7.trans ho3)), D17⟩ rfl rfl d6 rfl ?_
      clear d6
      rintro h19 o6 d6 ⟨F19, N19, G19, ho19, D19⟩
      (try clear N18); (try clear F18); (try clear D17)
      dsimp only [List.cons_append, List.nil_append] at N19 D19
      have hGate : Gate "exec For Name Tuple cons nil" := ⟨⟩
      k_steps
      (all_goals (try k_data))
      (repeat (with_reducible rename Gate _ => hG; clear hG))
      refine Stop.go ?_
      (rename Fr _ _ _ _ => F20)
      (rename News _ _ _ _ => N20)
      refine For_oblC (h₀ := g) rfl ?_ (by intro _; rfl)
      k_steps
      (rename Fr _ _ _ _ => F21)
      (rename News _ _ _ _ => N21)
      (rename (_ ∧ _ ∧ _ ∧ _ ∧ _ ∧ AllLt _ rv) => l21)
      rename_i T3 _
      have D21 := fun o => D19.more (o := o) l21
      obtain ⟨oT, ta, tb, nT, N21, hcT, hdT⟩ : ∃ oT ta tb nT, News g L' _ ((T3, oT) :: (L' + 1 + 1 + 1 + 1 + 1 + 1, o6) :: (L' + 1 + 1 + 1 + 1 + 1 + 1 + 1, o7) :: (L' + 1 + 1 + 1 + 1 + 1 + 1 + 1 + 1, o8) :: (L' + 1 + 1 + 1 + 1 + 1, o5) :: (Z.Tl, listOf [Value.str Z.text Z.t0, Value.str Z.x1 Z.t1, Value.str Z.x2 Z.t2].toArray Z.tn) :: rv) ∧ oT.cls = .type "tuple" ∧ oT.data = .seq #[.str (Str.ofString "") ta, .str (Str.ofString "...") tb] nT := ⟨_, _, _, _, N21, rfl, rfl⟩
      refine ⟨[T3], [(T3, oT)], _, _, m0, _, fun _ => DotA Z L' o5 o6 rv m0, fun _ _ => DotB Z L' o5 o6 rv m0,
        src_tuple ⟨_, (N21 _ (.head _)).1, hcT, _, hdT⟩, by simp, ⟨F21, N21, G19, rfl, D21 _⟩, .mk o7 o8 d7 d8, ?_, ?_, ?_⟩
      · rintro I2 o2' i2 u m2 nw s22 Q' hP hi ⟨o7, o8, ⟨v7, d7⟩, d8⟩ S _ h
        obtain ⟨da, t, rfl, hda⟩ := dot_at hP
        exact asg_cell (pre := [(I2, o2'), (T3, oT), (L' + 1 + 1 + 1 + 1 + 1 + 1, o6)]) rfl rfl rfl S d7 fun s' o' e S' => h s' _ _ S' (.mk da t o' o8 hda e d8)
      · rintro I2 o2' i2 u m2 nw s22 hP hi ⟨da, t, o7, o8, hda, d7, d8⟩ ⟨F22, N22, G22, ho22, D22⟩
        dsimp only [List.cons_append, List.nil_append] at N22 D22
        (try clear F21); (try clear N21); (try clear D21); (try clear l21); (try clear D19); (try clear N19); (try clear F19); (try clear hP)
        generalize hTQ2 : TurnPost _ _ _ _ _ _ = TQ2; revert TQ2; refine wrap ?_; intro TQ2 hTQ2
        have hGate : Gate "exec For Name Tuple cons nil" := ⟨⟩
        k_steps
        (repeat (with_reducible rename Gate _ => hG; clear hG))
        refine Stop.go ?_
        (rename Fr _ _ _ _ => F24)
        (rename News _ _ _ _ => N24)
        refine For_oblC (h₀ := g) rfl ?_ (by intro _; rfl)
        k_steps
        (rename Fr _ _ _ _ => F25)
        (rename News _ _ _ _ => N25)
        (rename (_ ∧ _ ∧ _ ∧ _ ∧ _ ∧ _ ∧ _ ∧ AllLt _ rv) => l25)
        rename_i T4 _
        have D25 := fun o => D22.more (o := o) l25
        obtain ⟨oT4, ta4, tb4, nT4, N25, hcT4, hdT4⟩ : ∃ oU ta tb nT, News g L' _ ((T4, oU) :: (I2, o2') :: (T3, oT) :: (L' + 1 + 1 + 1 + 1 + 1 + 1, o6) :: (L' + 1 + 1 + 1 + 1 + 1 + 1 + 1, o7) :: (L' + 1 + 1 + 1 + 1 + 1 + 1 + 1 + 1, o8) :: (L' + 1 + 1 + 1 + 1 + 1, o5) :: (Z.Tl, listOf [Value.str Z.text Z.t0, Value.str Z.x1 Z.t1, Value.str Z.x2 Z.t2].toArray Z.tn) :: rv) ∧ oU.cls = .type "tuple" ∧ oU.data = .seq #[.str (Str.ofString "") ta, .str (Str.ofString "...") tb] nT := ⟨_, _, _, _, N25, rfl, rfl⟩
        refine ⟨[T4], [(T4, oT4)], _, _, m0, _, fun _ => CellA [(I2, o2'), (T3, oT), (L' + 1 + 1 + 1 + 1 + 1 + 1, o6), (L' + 1 + 1 + 1 + 1 + 1 + 1 + 1, o7)] ((L' + 1 + 1 + 1 + 1 + 1, o5) :: (Z.Tl, listOf [Value.str Z.text Z.t0, Value.str Z.x1 Z.t1, Value.str Z.x2 Z.t2].toArray Z.tn) :: rv) (L' + 1 + 1 + 1 + 1 + 1 + 1 + 1 + 1) m0, fun _ _ => CellB [(I2, o2'), (T3, oT), (L' + 1 + 1 + 1 + 1 + 1 + 1, o6), (L' + 1 + 1 + 1 + 1 + 1 + 1 + 1, o7)] ((L' + 1 + 1 + 1 + 1 + 1, o5) :: (Z.Tl, listOf [Value.str Z.text Z.t0, Value.str Z.x1 Z.t1, Value.str Z.x2 Z.t2].toArray Z.tn) :: rv) (L' + 1 + 1 + 1 + 1 + 1 + 1 + 1 + 1) m0,
          src_tuple ⟨_, (N25 _ (.head _)).1, hcT4, _, hdT4⟩, by simp, ⟨F25, N25, G22, rfl, D25 _⟩, .mk o8 d8, ?_, ?_, ?_⟩
        · rintro I3 o3' i3 u m3 nw s26 Q' hP hi3 ⟨o8, ⟨v8, d8⟩⟩ S _ h
          obtain ⟨db, t, rfl, hdb⟩ := dot_at hP
          exact asg_cell (pre := [(I3, o3'), (T4, oT4), (I2, o2'), (T3, oT), (L' + 1 + 1 + 1 + 1 + 1 + 1, o6), (L' + 1 + 1 + 1 + 1 + 1 + 1 + 1, o7)]) rfl rfl rfl S d8 fun s' o' e S' => h s' _ _ S' (.mk db t o' hdb e)
        · rintro I3 o3' i3 u m3 nw s26 hP hi3 ⟨db, t3, o8, hdb, d8⟩ ⟨F26, N26, G26, ho26, D26⟩
          (try clear F25); (try clear N25); (try clear D25); (try clear l25); (try clear D22); (try clear N22); (try clear F22); (try clear hP)
          generalize hTQ3 : TurnPost _ _ _ _ _ _ = TQ3; revert TQ3; refine wrap ?_; intro TQ3 hTQ3
          obtain ⟨xs, hxs⟩ : ∃ xs : List (Str × Tok), xs = [(Z.text, Z.t0), (Z.x1, Z.t1), (Z.x2, Z.t2)] := ⟨_, rfl⟩
          obtain ⟨rw, hrw⟩ : ∃ rw : Led, rw = (I3, o3') :: (T4, oT4) :: (I2, o2') :: (T3, oT) :: rv := ⟨_, rfl⟩
          have pm6 : (([(I3, o3'), (T4, oT4)] ++ ([(I2, o2'), (T3, oT), (L' + 1 + 1 + 1 + 1 + 1 + 1, o6), (L' + 1 + 1 + 1 + 1 + 1 + 1 + 1, o7)] ++ (L' + 1 + 1 + 1 + 1 + 1 + 1 + 1 + 1, o8) :: (L' + 1 + 1 + 1 + 1 + 1, o5) :: (Z.Tl, listOf [Value.str Z.text Z.t0, Value.str Z.x1 Z.t1, Value.str Z.x2 Z.t2].toArray Z.tn) :: rv))).Perm ((Z.Tl, listOf (strValues xs).toArray Z.tn) :: (L' + 1 + 1 + 1 + 1 + 1 + 1, o6) :: (L' + 1 + 1 + 1 + 1 + 1 + 1 + 1, o7) :: (L' + 1 + 1 + 1 + 1 + 1 + 1 + 1 + 1, o8) :: (L' + 1 + 1 + 1 + 1 + 1, o5) :: rw) := by
            rw [hrw, hxs]; unfold strValues
            exact (perm_of_cnt fun q => by simp only [pile, cnt_cons, cnt_app, cnt_nil, List.map_append, List.map_cons, List.map_nil, List.append_assoc, List.cons_append, List.nil_append, Nat.add_zero, Nat.zero_add] <;> first | ac_rfl | ktr_room)
          replace N26 := News.perm N26 pm6
          replace D26 := DN.perm D26 pm6
          have hx3 : xs.length = 3 := by rw [hxs]; rfl
          obtain ⟨g1, g2, g3⟩ := hE hda hdb
          have hbz : xs.map (fun a => ellM (da ++ wt ++ db) a.1) = [true, false, false] := by rw [hxs]; simp only [List.map_cons, List.map_nil, g1, g2, g3]
          have hxl : ∀ z ∈ xs, z.1.length ≤ 60 := by
            obtain ⟨h60, _⟩ := hZ.fine hW hR
            intro z hz
            rw [hxs] at hz
            simp only [List.mem_cons, List.not_mem_nil, or_false] at hz
            rcases hz with rfl | rfl | rfl
            · exact h60
            · show Z.x1.length ≤ 60
              rw [← L_len, hZ.x1, List.length_drop, L_len]; ktr_room
            · show Z.x2.length ≤ 60
              rw [← L_len, hZ.x2, List.length_dropLast, L_len]; ktr_room
          have hdal : da.length ≤ 3 := by rcases hda with rfl | rfl <;> decide +kernel
          have hdbl : db.length ≤ 3 := by rcases hdb with rfl | rfl <;> decide +kernel
          (try clear g1); (try clear g2); (try clear g3); (try clear hE); (try clear hda); (try clear hdb)
          have hGate : Gate "eval ListComp" := ⟨⟩
          k_steps
          (all_goals (try k_data))
          (repeat (with_reducible rename Gate _ => hG; clear hG))
          refine Stop.go ?_
          (rename Fr _ _ _ _ => F27)
          (rename News _ _ _ _ => N27)
          refine Comp_obl F27 rfl (by with_unfolding_all rfl) (fun I C D => turn_one ..) ?_ (by decide) rfl (by decide) (by intro _; rfl)
          k_steps
          (rename Fr _ _ _ _ => F28)
          (rename News _ _ _ _ => N28)
          refine ⟨[Z.Tl], [(Z.Tl, listOf (strValues xs).toArray Z.tn)], xs.length, _, (L' + 1 + 1 + 1 + 1 + 1 + 1, o6) :: (L' + 1 + 1 + 1 + 1 + 1 + 1 + 1, o7) :: (L' + 1 + 1 + 1 + 1 + 1 + 1 + 1 + 1, o8) :: (L' + 1 + 1 + 1 + 1 + 1, o5) :: rw, fun i v9 nw => v9 = bvals ((xs.take i).map fun a => ellM (da ++ wt ++ db) a.1) ∧ nw = (L' + 1 + 1 + 1 + 1 + 1 + 1, o6) :: (L' + 1 + 1 + 1 + 1 + 1 + 1 + 1, o7) :: (L' + 1 + 1 + 1 + 1 + 1 + 1 + 1 + 1, o8) :: (L' + 1 + 1 + 1 + 1 + 1, o5) :: rw,
            by rw [← strV_len xs]; exact src_list (N28.isList (.head _)), by simp, ⟨F28, N28, G26, rfl, D26⟩, ⟨rfl, rfl⟩, ?_, ?_⟩
          · rintro I4 o4' C D4 oC m₂ i4 u v9 nw s29 hPi hi ⟨rfl, rfl⟩ hC S hpl4
            obtain ⟨⟨a, ta⟩, ha, rfl⟩ := strV_at hPi
            refine blk_name rfl rfl hC S fun oC' s30 hC' S' => tests_none ?_
            simp only [if_true]
            refine emit_obl (keep := [(Z.Tl, listOf (strValues xs).toArray Z.tn)]) (ys := bvals ((xs.take i4).map fun a => ellM (da ++ wt ++ db) a.1)) ?_
            generalize hEE : EltEnd _ _ _ _ _ _ _ _ _ _ _ _ = EE; revert EE; refine wrap ?_; intro EE hEE
            obtain ⟨F31, N31, G31, ho31, D31⟩ := S'
            dsimp only [List.cons_append, List.nil_append] at N31 D31
            have hza := hxl _ (List.mem_of_getElem? ha)
            (try clear F27); (try clear N27); (try clear F28); (try clear N28); (try clear D26); (try clear S); (try clear F26); (try clear N26); (try clear hPi)
            have hGate : Gate "binaryOp Add str str" := ⟨⟩
            k_steps
            (repeat (with_reducible rename Gate _ => hG; clear hG))
            refine Stop.go ?_
            (rename Fr _ _ _ _ => F32)
            (rename News _ _ _ _ => N32)
            refine add_led (a := 3) (b := 98) hdal hwl (by decide) ?_
            intro t5 k5 hl5
            have hGate : Gate "binaryOp Add str str" := ⟨⟩
            k_steps
            (repeat (with_reducible rename Gate _ => hG; clear hG))
            refine Stop.go ?_
            (rename Fr _ _ _ _ => F33)
            (rename News _ _ _ _ => N33)
            refine add_led (a := 101) (b := 3) hl5 hdbl (by decide) ?_
            intro t6 k6 hl6
            have hGate : Gate "call ref" := ⟨⟩
            k_steps
            (repeat (with_reducible rename Gate _ => hG; clear hG))
            refine Stop.go ?_
            (rename Fr _ _ _ _ => F34)
            (rename News _ _ _ _ => N34)
            refine Does.at2 (takes_spec w (da ++ wt ++ db) a _ _ (Nat.le_trans hl6 (by decide)) (Nat.le_trans hza (by decide))) B F34 X N34 T G31 D31 rfl (by first | exact room1 (by assumption) (by decide) | exact room2 (by assumption) (by decide) | exact room3 (by assumption) (by decide) | ktr_room) (by first | exact room1 (by assumption) (by decide) | exact room2 (by assumption) (by decide) | exact room3 (by assumption) (by decide) | ktr_room) ?_
            intro s35 F35 N35 G35 ho35 D35
            (try dsimp only [List.nil_append] at N35 D35)
            subst hEE
            refine ⟨oC', _, _, hC', trivial, ⟨F35, N35, G35, ho35.trans ho31, D35⟩, ?_, ?_, rfl⟩
            · rw [sizeLine_eq]
              unfold bvals
              rw [List.length_map, List.length_map, List.length_take]
              ktr_room
            · rw [List.take_add_one, ha]
              simp [bvals]
          · rintro D4 v9 nw s29 ⟨rfl, rfl⟩ S s30 ⟨F31, N31, G31, ho31, D31⟩
            rw [List.take_of_length_le (Nat.le_refl _)] at N31 D31
            rw [hbz] at N31 D31
            dsimp only [List.cons_append, List.nil_append] at N31 D31
            (try clear F27); (try clear N27); (try clear F28); (try clear N28); (try clear D26); (try clear S); (try clear F26); (try clear N26)
            have hGate : Gate "compareOp NotEq ref ref" := ⟨⟩
            k_steps
            (repeat (with_reducible rename Gate _ => hG; clear hG))
            refine Stop.go ?_
            (rename Fr _ _ _ _ => F32)
            (rename News _ _ _ _ => N32)
            refine ne_same (d := .list [.bool true, .bool false, .bool false]) (reads_list_at (N32.get (.tail _ (.tail _ (.head _)))) rfl rfl (.cons (.bool _) (.cons (.bool _) (.cons (.bool _) .nil)))) (reads_list_at (N32.get (.head _)) rfl rfl (.cons (.bool _) (.cons (.bool _) (.cons (.bool _) .nil)))) ?_ ?_ (by show un + 64 < cLine; ktr_room) ?_
            · rfl
            · rfl
            k_steps
            (rename Fr _ _ _ _ => F33)
            (rename News _ _ _ _ => N33)
            have pm7 : ∀ d : Addr × Obj, ((Z.Tl, listOf (strValues xs).toArray Z.tn) :: d :: (L' + 1 + 1 + 1 + 1 + 1 + 1, o6) :: (L' + 1 + 1 + 1 + 1 + 1 + 1 + 1, o7) :: (L' + 1 + 1 + 1 + 1 + 1 + 1 + 1 + 1, o8) :: (L' + 1 + 1 + 1 + 1 + 1, o5) :: rw).Perm ([d] ++ ([(I3, o3'), (T4, oT4)] ++ ([(I2, o2'), (T3, oT), (L' + 1 + 1 + 1 + 1 + 1 + 1, o6), (L' + 1 + 1 + 1 + 1 + 1 + 1 + 1, o7)] ++ (L' + 1 + 1 + 1 + 1 + 1 + 1 + 1 + 1, o8) :: (L' + 1 + 1 + 1 + 1 + 1, o5) :: (Z.Tl, listOf [Value.str Z.text Z.t0, Value.str Z.x1 Z.t1, Value.str Z.x2 Z.t2].toArray Z.tn) :: rv))) := fun d => by
              rw [hrw, hxs]; unfold strValues
              exact (perm_of_cnt fun q => by simp only [pile, cnt_cons, cnt_app, cnt_nil, List.map_append, List.map_cons, List.map_nil, List.append_assoc, List.cons_append, List.nil_append, Nat.add_zero, Nat.zero_add] <;> first | ac_rfl | ktr_room)
            subst hTQ3
            exact ⟨_, _, ⟨F33, sub_nw (fun q hq => N33 q (.tail _ hq)) ⟨_, pm7 _⟩, G31, ho31.trans ho26, sub_dn D31 ⟨_, pm7 _⟩⟩, .mk o8 ⟨_, d8⟩⟩
        · rintro m3 nw s26 ⟨o8, d8⟩ ⟨F26, N26, G26, ho26, D26⟩
          dsimp only [List.cons_append, List.nil_append] at N26 D26
          k_steps
          subst hTQ2
          exact ⟨_, _, ⟨F26, fun q hq => N26 q (.tail _ hq), G26, ho26.trans ho22, D26.tail⟩, .mk o7 o8 ⟨_, d7⟩ d8⟩
      · rintro m2 nw s22 ⟨o7, o8, d7, d8⟩ ⟨F22, N22, G22, ho22, D22⟩
        dsimp only [List.cons_append, List.nil_append] at N22 D22
        k_steps
        (rename Fr _ _ _ _ => F23)
        (rename News _ _ _ _ => N23)
        subst hTQ
        have pm5 : ∀ t : Addr × Obj, (t :: (L' + 1 + 1 + 1 + 1 + 1 + 1, o6) :: (L' + 1 + 1 + 1 + 1 + 1 + 1 + 1, o7) :: (L' + 1 + 1 + 1 + 1 + 1 + 1 + 1 + 1, o8) :: (L' + 1 + 1 + 1 + 1 + 1, o5) :: (Z.Tl, listOf [Value.str Z.text Z.t0, Value.str Z.x1 Z.t1, Value.str Z.x2 Z.t2].toArray Z.tn) :: rv).Perm ([t] ++ ledG P W Z r 63 70 L' o2 o3 o5 o6 o7 o8 pl pl' ry) := fun t => by rw [hrv]; unfold ledG ledH; exact (by exact pm_idx [[_], [_], [_], [_], [_], [_], [_], [_], [_], [_], [_], [_], [_], _] [0, 6, 8, 9, 10, 11, 12, 7, 4, 5, 1, 2, 3, 13] (by kernel_rfl))
        exact ⟨_, _, ⟨F23, News.perm (sub_nw N23 ⟨_, pm5 _⟩) (pm1 o6 o7 o8 pl pl').symm, G22, ho22.trans ho19, DN.perm (sub_dn D22 ⟨_, pm5 _⟩) (pm1 o6 o7 o8 pl pl').symm⟩, .mk o6 o7 o8 pl pl' hm0 ⟨_, d6⟩ d7 d8 hpl hpl'⟩
  · rintro m' nw s₂ ⟨o6, o7, o8, pl, pl', hmt, d6, d7, d8, hpl, hpl'⟩ ⟨F3, N3, G3, ho3, D3⟩
    dsimp only [List.nil_append, List.cons_append] at N3 D3
    k_steps
    (rename Fr _ _ _ _ => F4)
    (rename News _ _ _ _ => N4)
    refine hret _ _ _ pl pl' F4 N4 ?_ ?_ G3 (ho3.trans ho)
    · exact List.mem_cons_of_mem _ (List.mem_append_left _ (by unfold coreW; k_mem))
    · exact List.mem_cons_of_mem _ (List.mem_append_left _ (by unfold coreW; k_mem))
end Mine
end
end
end
end
end
section
open PySem PySem.W PyProof.Rows
set_option maxRecDepth 100000
set_option maxHeartbeats 8000000
namespace Mine
theorem LawFrom.perm {prog : Program} {w : World} {K : Frag} {f : Addr} {k : Nat} {Sl : Addr} {so : Obj} {tl ts : Addr} {d u : Nat} {st st' : Addr → (Str → Option Value) → Led → Prop} (h : ∀ L' m led, st L' m led → ∃ led', led.Perm led' ∧ st' L' m led') (H : LawFrom prog w K f k Sl so tl ts d u st') : LawFrom prog w K f k Sl so tl ts d u st := by
  intro oc od osl name qual params body scope dV kV doc pm an cdv ct ho loose mean mg mb dp un gd A₀ g L' fa ccd m led os s₁ Q E B X O T S hs hd hu hret
  obtain ⟨led', hp, hs'⟩ := h L' m led hs
  exact H oc od osl name qual params body scope dV kV doc pm an cdv ct ho loose mean mg mb dp un gd A₀ g L' fa ccd m led' os s₁ Q E B X O T (LoopSt.perm S hp) hs' hd hu hret
theorem law_walk (w : World) (Sl : Addr) (so : Obj) (items : List Value) (sn : Nat) (hcls : so.cls = .type "list") (hdat : so.data = .seq items.toArray sn) (hi : ∀ v ∈ items, ∃ (k : Int) (t : Tok), v = .int k t) (hl : items.length ≤ 63) :
  LawFrom PySem.Challenge.rw_wr0021_02.row.prog w (Mine.frag.heap_1 w.params) 209 0 Sl so 63 70 70 700 (StO Sl 63 70) :=
  law_a w Sl so items sn hcls hdat hi hl fun P hP => law_b w Sl so P hP fun W hW => LawFrom.perm (by
    rintro L' m led ⟨o1, o2, o3, o4, o5, o6, o7, o8, d1, d2, d3, d4, d5, d6, d7, d8⟩
    exact ⟨coreW P W 63 70 L' o1 o2 o3 o4 o5 o6 o7 o8 #[] #[], by unfold coreW cells8; exact (perm_of_cnt fun q => by simp only [pile, cnt_cons, cnt_app, cnt_nil, List.map_append, List.map_cons, List.map_nil, List.append_assoc, List.cons_append, List.nil_append, Nat.add_zero, Nat.zero_add] <;> first | ac_rfl | ktr_room), .mk o1 o2 o3 o4 o5 o6 o7 o8 #[] #[] d1 d2 d3 d4 d5 d6 d7 d8 trivial trivial⟩) <|
    law_c w Sl so P hP W hW <| law_d w Sl so P hP W hW fun R hR => law_e w Sl so P hP W hW R hR fun Z hZ => law_f w Sl so P hP W hW R hR Z hZ <| law_g w Sl so P hP W hW R hR Z hZ
end Mine
end
section
open PySem PySem.W PyProof.Rows
set_option maxRecDepth 100000
set_option maxHeartbeats 8000000
namespace Mine
theorem dn10 {n a b : Nat} {o1 o2 o3 o4 o5 o6 o7 o8 o9 o10 : Obj} (ha : a < n) (hb : b < n) (hab : a ≠ b) : DN [(n + 1 + 1 + 1 + 1 + 1 + 1 + 1 + 1, o1), (n + 1 + 1 + 1 + 1 + 1 + 1 + 1, o2), (n + 1 + 1 + 1 + 1 + 1 + 1, o3), (n + 1 + 1 + 1 + 1 + 1, o4), (n + 1 + 1 + 1 + 1, o5), (n + 1 + 1 + 1, o6), (n + 1 + 1, o7), (n + 1, o8), (a, o9), (b, o10)] := by
  show ([n + 1 + 1 + 1 + 1 + 1 + 1 + 1 + 1, n + 1 + 1 + 1 + 1 + 1 + 1 + 1, n + 1 + 1 + 1 + 1 + 1 + 1, n + 1 + 1 + 1 + 1 + 1, n + 1 + 1 + 1 + 1, n + 1 + 1 + 1, n + 1 + 1, n + 1, a, b] : List Nat).Nodup
  simp only [List.nodup_cons, List.mem_cons, List.not_mem_nil, or_false, not_or, not_false_eq_true, and_true, List.nodup_nil]
  ktr_room
theorem law_holds : PySem.Challenge.rw_wr0021_02.Holds := by
  w_on
  refine holds_law head_said fun said => ?_
  refine holds_open (q := view) (loose := [Str.ofString "_Accumulator"]) (Xt := fun s => xlAt view [] s && recOk (RowW.records PySem.Challenge.rw_wr0021_02.row.toRowW) s) (XP := XL view []) (Yf := Hook.obs hook) (Ya := Hook.val hook) (YP := fun w h => InK Mine.frag.heap_1 w h ∧ ∀ P ∈ ([63, 70] : List Addr), h.get? P = some (tabObj #[])) (N := 2916) head_left (Hook.of hook) (Hook.keeps hook) (fun s e => xl_of s (Bool.and_eq_true_iff.mp e).1) XL.keeps (by rfl) (by rfl) (by rfl) (fun s e => recFacts_of (Bool.and_eq_true_iff.mp e).2) (by rfl) (by first | assumption | decide +kernel) (by decide +kernel) ⟨rfl, rfl, rfl, rfl, rfl, by decide +kernel⟩ ?hw ?hc
  (case hw => w_witness2)
  w_strict (
    k_fill
    intro w s₀ s₁ mg mb G Y fa o pm cd doc dV kV ho hd hcd hD hmg hg args vals as hpre hlay hrd hwl hlo
    have KX : (Mine.frag.heap_1 w.params).In s₁.heap := Y.1
    have hT8 : ∀ P ∈ ([63, 70] : List Addr), s₁.heap.get? P = some (tabObj #[]) := Y.2
    have X := (Ground.X G).1
    have V := (Ground.X G).2
    refine Ground.open G ?_
    intro T B D TE TW
    try (refine guard_noD D (by decide +kernel) ?_; clear D)
    have hT9 : TabsAt [(67, 63), (74, 70)] s₁.heap := List.forall_mem_cons.mpr ⟨⟨codeHd_of_K (c := 67) (P := 63) KX (by kernel_rfl), hT8 63 (by k_mem)⟩, List.forall_mem_cons.mpr ⟨⟨codeHd_of_K (c := 74) (P := 70) KX (by kernel_rfl), hT8 70 (by k_mem)⟩, fun _ h => nomatch h⟩⟩
    clear hmg
    wrow_args hpre hlay hrd hwl hlo
    all_goals (
      first | refine callC_kw (enter_call ?_) | refine enter_call ?_
      w_top on
      refine law_post hT9 (fun _ => rfl) ?hp ?_
      (case hp => exact bool_post _ rfl rfl _)
      w_call any ho hd hcd hD T F
      clear hd
      kn_ghosts F T
      (rename Below callerA _ _ _ => K2)
      (rename News _ _ _ _ => N2)
      (rename Fr _ _ _ _ => F2)
      (rename IntsAre _ _ => I2)
      (rename ¬ _ < _ => hc2)
      (rename Top topProg _ _ _ _ _ => T2)
      obtain ⟨so, eso, cso, nso, dso⟩ := lifted
      refine law_walk w _ so _ nso cso dso ?zi ?zl _ _ _ _ _ _ _ _ _ _ _ _ _ _ _ (by k_is) _ _ _ _ _ _ _ _ _ _ _ _ _ _ _ _ _ _ K2 ?zx eso T2 ⟨F2, N2, ?zb, rfl, ?zdn⟩ ?zst ?zd ?zu ?zr
      case zi => exact ints_of I2
      case zl => have := I2.length; ktr_room
      case zx => assumption
      case zb => exact AllBare.of_eq hg
      case zdn =>
        (rename _ < _ ∧ _ < _ => l9)
        exact dn10 l9.1 l9.2 (by decide)
      case zst => exact ⟨rfl, _, _, _, _, _, _, _, _, by assumption, by assumption, ⟨_, by assumption⟩, ⟨_, by assumption⟩, ⟨_, by assumption⟩, ⟨_, by assumption⟩, ⟨_, by assumption⟩, ⟨_, by assumption⟩⟩
      case zd => decide +kernel
      case zu => decide +kernel
      case zr => exact fun s' m' news' pl pl' F9 N9 h1 h2 G9 ho9 => ⟨rfl, fun b o e => F9.keep b o e, ho9, G9, ⟨GrownAt.of N9 h1, GrownAt.of N9 h2, trivial⟩⟩))
end Mine
end
theorem PySem.Challenge.cw_wr0021_02_holds : PySem.Challenge.rw_wr0021_02.Holds := by
  exact Mine.law_holds
