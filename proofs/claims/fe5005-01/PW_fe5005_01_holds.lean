import PyProof.Rows.All
import Wide.All
import OpenK.AllK
import Wide.FinOn
import PySem.Challenge.RW_fe5005_01
set_option Elab.async false
set_option maxRecDepth 100000
set_option maxHeartbeats 0
set_option rowWalk.seconds 0

-- part H1
section
open PySem PySem.W PyProof.Rows
namespace Mine
open_top hd for PySem.Challenge.rw_fe5005_01
end Mine
end

-- part B0
section
open PySem PySem.W PySem.Calls PyProof.Rows
namespace Mine

/-- the surroundings of a call in which no exception is being handled -/
abbrev ar (dp un : Nat) (fr : Option (List Env)) (gd : Option (List Code)) : Around := { handled := none, depth := dp, frames := fr, guards := gd, units := un }

section
variable {prog : Program} {w : World} {A : Around} {E : Value → Shared → Prop} {s : Shared} {h₀ : Heap} {mg mb : Str → Option Value} {K : Frag} {p : Program} {loose : List Str} {mean : ExcName → Option Value}
  {name qual : Str} {params : Arguments} {body : List Stmt} {scope : Scope} {dV kV doc pm cdv ct oc : Value} {an od : Option Addr} {osl : Array (Option Value)} {f : Addr} {pos : List Value} {kw : List (Str × Value)} {binds : List (Str × Value)} {Q : Value → Shared → Prop}

/-- into a def of the text's own: the ledger is what the caller names, all else of the heap is ground -/
theorem enter (news : List (Addr × Obj)) (k0 : h₀.StaysIn s.heap) (X₀ : K.In h₀) (T : Top p loose mean mg mb h₀)
    (N : ∀ q ∈ news, s.heap.get? q.1 = some q.2) (N0 : ∀ q ∈ news, h₀.get? q.1 = none)
    (ho : K.lookup f = some ⟨oc, od, .func (fnOf name qual params body scope dV kV doc pm an cdv ct), osl⟩) (hcd : codeIn K cdv qual = true) (hroom : A.depth < recursionLimit)
    (hbind : BindsTo s (fnOf name qual params body scope dV kV doc pm an cdv ct) ⟨pos, kw⟩ binds) (hloc : ∀ y ∈ binds, scope.names.lookup y.1 = some .local)
    (h : ∀ g L' h₁ tk₁, g = hideAll s.heap (news.map (·.1)) → L' = s.heap.objs.size → h₀.StaysIn g → Fr g L' h₁ (fun y => binds.reverse.lookup y) → News g L' h₁ news → K.In g → Top p loose mean mg mb g →
      wpAny (model prog w) (A.deeper (envOf qual scope L' f cdv)) (execs body (envOf qual scope L' f cdv))
        (fun fl s' => Q (match fl with | .ret v => v | _ => .none) s') (fun _ _ => False) { s with heap := h₁, toks := tk₁ })
    (hco : scope.isCoroutine = false) (hgen : scope.isGenerator = false) (hk : scope.kind = .function) (hcell : ∀ x ∈ scope.names, x.2 ≠ .cell) :
    wpAny (model prog w) A (call (.ref f) pos kw) Q E s := by
  refine wpAny_call ?_
  refine codeAny_call_def (fd := fnOf name qual params body scope dV kV doc pm an cdv ct) (body := body) (binds := binds) hroom (k0 _ _ (X₀ _ _ ho)) rfl (T.nolimit.keeps k0) (codeRec_of (X₀.keeps k0) hcd) rfl hbind hcell hloc (fun h₁ hns hk₁ => ?_) hco hgen hk
  have nm : ∀ b o, h₀.get? b = some o → b ∉ news.map (·.1) := fun b o e q => by
    obtain ⟨q', hp, rfl⟩ := List.mem_map.mp q
    rw [N0 q' hp] at e; cases e
  have st : h₀.StaysIn (hideAll s.heap (news.map (·.1))) := fun b o e => hideAll_get _ (k0 b o e) (nm b o e)
  refine wpAny_mono (h _ _ h₁ _ rfl rfl st ⟨hns, fun b o e => hk₁ b o (of_hideAll _ e), Nat.le_of_eq (hideAll_size _ _)⟩
    (fun q hp => ⟨hk₁ _ _ (N q hp), Nat.ne_of_lt (Heap.lt_size (N q hp)), hideAll_none _ (List.mem_map_of_mem hp)⟩) (X₀.keeps st) (T.keeps st)) (fun fl s' hl => hl) fun _ _ y => y.elim
end
end Mine
end

-- part D1
section
open PySem PySem.W PySem.Calls PyProof.Rows
namespace Mine
abbrev prog := PySem.Challenge.rw_fe5005_01.row.prog

abbrev boxObj (script : Addr) (place seed bud : Int) (t1 t2 t3 : Tok) (n : Nat) : Obj := listOf [.ref script, .int place t1, .int seed t2, .int bud t3].toArray n

theorem draw_spec {w : World} {p : Program} {loose : List Str} {mean : ExcName → Option Value} {mg mb : Str → Option Value} {h₀ : Heap} {dp un : Nat} {fr : Option (List Env)} {gd : Option (List Code)}
    {s : Shared} {box script : Addr} {place seed bud : Int} {t1 t2 t3 : Tok} {n : Nat} {vs : List Value} {ns : List Int} {size : Int} {tk : Tok} {Q E : Value → Shared → Prop}
    (k0 : h₀.StaysIn s.heap) (X : (Mine.hd.heap_39 w.params).In h₀) (T : Top p loose mean mg mb h₀) (hS : h₀.IsList script vs.toArray) (hI : IntsAre vs ns) (hn : ns.length ≤ 63)
    (hb : s.heap.get? box = some (boxObj script place seed bud t1 t2 t3 n)) (hb0 : h₀.get? box = none)
    (hs0 : 0 ≤ seed) (hs1 : seed < 2147483647) (hz0 : 1 ≤ size) (hz1 : size ≤ 9) (hd : dp + 10 < recursionLimit)
    (ret : ∀ (r seed' : Int) (tr t1' t2' : Tok) (n' : Nat) h' tk', (hideAll s.heap [box]).StaysIn h' → h'.get? box = some (boxObj script (place + 1) seed' bud t1' t2' t3 n') → 0 ≤ seed' → seed' < 2147483647 → 0 ≤ r → r < size →
      Q (.int r tr) { s with heap := h', toks := tk' }) :
    wpAny (model PySem.Challenge.rw_fe5005_01.row.prog w) (ar dp un fr gd) (call (.ref 417) [.ref box, .int size tk]) Q E s := by
  revert X; k_fill; intro X; w_top off
  refine' enter (K := Mine.hd.heap_39 w.params) [(box, boxObj script place seed bud t1 t2 t3 n)] k0 X T ?kN ?kN0 ?ko ?kc ?kr ?kb ?kl ?_ ?c1 ?c2 ?c3 ?c4
  case kN => intro q hq; cases hq with | head => exact hb | tail _ h => cases h
  case kN0 => intro q hq; cases hq with | head => exact hb0 | tail _ h => cases h
  case ko => k_is
  case kc => k_is
  case kr => show dp < recursionLimit; omega
  case kb => exact BindsTo.of_eq rfl
  case kl => exact locs rfl
  case c1 => exact rfl
  case c2 => exact rfl
  case c3 => exact rfl
  case c4 => decide
  intro g L' h₁ tk₁ hg hL k1 F N Xg Tg
  have hSg : g.IsList script vs.toArray := stays_list k1 hS
  (try dsimp only)
  (try k_fold)
  k_steps
  all_goals (
    (rename Fr _ _ _ _ => FE); (rename News _ _ _ _ => NE)
    refine ret _ _ _ _ _ _ _ _ (fun b o e => FE.keep b o (by rw [hg]; exact e)) (NE _ (List.Mem.head _)).1 ?_ ?_ ?_ ?_
    · exact Int.fmod_nonneg_of_pos _ (by decide)
    · exact Int.fmod_lt_of_pos _ (by decide)
    · exact Int.fmod_nonneg_of_pos _ (by omega)
    · exact Int.fmod_lt_of_pos _ (by omega))
end Mine
end

-- part D2
section
open PySem PySem.W PySem.Calls PyProof.Rows PyProof.V
namespace Mine
/-- the kinds of a token that is no list -/
inductive LK where
  | para | btextP | btextQ | code | blank | brk
deriving DecidableEq
def LK.ty : LK → Str
  | .para => Str.ofString "paragraph"
  | .btextP => Str.ofString "block_text"
  | .btextQ => Str.ofString "block_text"
  | .code => Str.ofString "block_code"
  | .blank => Str.ofString "blank_line"
  | .brk => Str.ofString "thematic_break"
abbrev sd (x : String) : PyData := .str (Str.ofString x)
def LK.D : LK → List (PyData × PyData)
  | .para => [(sd "type", sd "paragraph"), (sd "text", sd "p")]
  | .btextP => [(sd "type", sd "block_text"), (sd "text", sd "p")]
  | .btextQ => [(sd "type", sd "block_text"), (sd "text", sd "q")]
  | .code => [(sd "type", sd "block_code"), (sd "raw", sd "r")]
  | .blank => [(sd "type", sd "blank_line")]
  | .brk => [(sd "type", sd "thematic_break")]
def LK.of (k : Int) : LK := if k = 0 then .para else if k = 1 then .btextQ else if k = 2 then .code else if k = 3 then .blank else .brk
def LeafObj (w : World) (o : Obj) (l : LK) : Prop := ∃ kvs, o.IsDictOf (PySem.strKind prog w) kvs ∧ FlatPairs PyData.str kvs l.D

theorem plain_spec {w : World} {p : Program} {loose : List Str} {mean : ExcName → Option Value} {mg mb : Str → Option Value} {h₀ : Heap} {dp un : Nat} {fr : Option (List Env)} {gd : Option (List Code)}
    {s : Shared} {box : Value} {k : Int} {tk : Tok} {Q E : Value → Shared → Prop}
    (k0 : h₀.StaysIn s.heap) (X : (Mine.hd.heap_39 w.params).In h₀) (T : Top p loose mean mg mb h₀) (hk0 : 0 ≤ k) (hk1 : k ≤ 4) (hd : dp + 10 < recursionLimit)
    (ret : ∀ d o h' tk', s.heap.StaysIn h' → s.heap.objs.size ≤ d → s.heap.get? d = none → h'.get? d = some o → (d == sysModules) = false → LeafObj w o (LK.of k) → Q (.ref d) { s with heap := h', toks := tk' }) :
    wpAny (model PySem.Challenge.rw_fe5005_01.row.prog w) (ar dp un fr gd) (call (.ref 424) [box, .int k tk]) Q E s := by
  revert X; k_fill; intro X; w_top off
  refine' enter (K := Mine.hd.heap_39 w.params) (binds := [(Str.ofString "box", box), (Str.ofString "kind", .int k tk)]) [] k0 X T ?kN ?kN0 ?ko ?kc ?kr ?kb ?kl ?_ ?c1 ?c2 ?c3 ?c4
  case kN => intro q hq; cases hq
  case kN0 => intro q hq; cases hq
  case ko => k_is
  case kc => k_is
  case kr => show dp < recursionLimit; omega
  case kb => exact BindsTo.of_eq rfl
  case kl => exact locs rfl
  case c1 => exact rfl
  case c2 => exact rfl
  case c3 => exact rfl
  case c4 => decide
  intro g L' h₁ tk₁ hg hL k1 F N Xg Tg
  have hlt : s.heap.objs.size < h₁.objs.size := hL ▸ F.ns.lt
  (try dsimp only)
  (try k_fold)
  k_steps
  all_goals (
    dsimp only
    (rename Fr _ _ _ _ => FE); (rename News _ _ _ _ => NE); (rename FlatPairs _ _ _ => hf)
    refine ret _ _ _ _ (fun b o e => FE.keep b o (by rw [hg]; exact e)) (Nat.le_of_lt hlt) (by have q := (NE _ (List.Mem.head _)).2.2; rw [hg] at q; exact q) (NE _ (List.Mem.head _)).1 (by assumption) ⟨_, by assumption, ?_⟩
    unfold LK.of
    (repeat' split) <;> first | omega | exact hf)
end Mine
end

-- part L1
section
open PySem PySem.W PySem.Calls PyProof.Rows PyProof.V
namespace Mine
section
variable {prog : Program} {w : World} {A : Around} {E : Value → Shared → Prop} {s : Shared} {env : Env} {h₀ : Heap} {x : Str} {body : List Stmt} {Q : Flow → Shared → Prop}

/-- a loop whose iterator I goes over an object l of the ground: own lemma for lists and tuples alike -/
theorem iter_walk {I l : Addr} {n : Nat} {P : Nat → Value → Prop} {St : Nat → Heap → Prop} {m₀ : Str → Option Value} {news : List (Addr × Obj)} (J : Nat → (Str → Option Value) → List (Addr × Obj) → Prop)
    (W : Walks prog w A I [I, l] [I] n P St) (at0 : St 0 s.heap) (live : ∀ i h, St i h → ∃ o, h.get? I = some o) (ground : ∃ o, h₀.get? l = some o) (newI : h₀.get? I = none) (offL : I ≠ env.locals ∧ l ≠ env.locals)
    (offN : ∀ q ∈ news, q.1 ≠ I) (F : Fr h₀ env.locals s.heap m₀) (N : News h₀ env.locals s.heap news) (hj : J 0 m₀ news)
    (turn : ∀ i v m₁ nx h tk own, P i v → TbOff own nx → J i m₁ nx → Fr h₀ env.locals h (fun y => if y = x then some v else m₁ y) → News h₀ env.locals h (nx ++ own) →
      wpAny (model prog w) A (execs body env) (TbPost h₀ env.locals (J (i + 1)) own { s with heap := h, toks := tk } Q) E { s with heap := h, toks := tk })
    (done : ∀ m₁ nx h tk, J n m₁ nx → Fr h₀ env.locals h m₁ → News h₀ env.locals h nx → Q .next { s with heap := h, toks := tk }) :
    LoopAtV prog w A h₀ env x body Q E (.ref I) s := by
  obtain ⟨ol, hol⟩ := ground
  have one : ∀ {b : Addr}, b ∈ [I] → b = I := List.mem_singleton.mp
  refine ⟨I, [I, l], [I], n, P, St, m₀, news, J, rfl, W, fun hm => ?_, fun b hb => one hb ▸ newI, fun q hq hb => offN q hq (one hb), at0, F, N, hj, ?_, fun h' tk m' news' F' N' _ hJ => done m' news' h' tk hJ F' N'⟩
  · rcases List.mem_cons.mp hm with e | e
    · exact offL.1 e.symm
    · exact offL.2 (List.mem_singleton.mp e).symm
  intro i v m₁ nx s₁ own hs₁ hi hP hJ hnx hown _ hheld hst F₁ N₁
  obtain ⟨h, tk, rfl⟩ := hs₁
  obtain ⟨oI, hoI⟩ := live _ _ hst
  have inOwn : (I, oI) ∈ own := hheld I (.head _) newI oI hoI
  have apart : TbOff own nx := fun q hq r hr e => by
    rcases List.mem_cons.mp (hown q hq) with eI | el
    · exact hnx r hr (List.mem_singleton.mpr (e.symm.trans eI))
    · have z := (N₁ r (List.mem_append_right _ hr)).2.2
      rw [← e, List.mem_singleton.mp el, hol] at z
      cases z
  have back : ∀ s₂, TbEnd h₀ env.locals (J (i + 1)) own { s with heap := h, toks := tk } s₂ → LoopStepU h₀ env.locals [I] own (J (i + 1)) { s with heap := h, toks := tk } .next s₂ := fun s₂ p => by
    obtain ⟨h', tk', m', all, nx', e, F', N', sub, subO, off, hJ'⟩ := p
    refine ⟨rfl, h', tk', m', nx', e, F', fun q hq => N' q ?_, fun q hq hb => off _ inOwn q hq (one hb).symm, hJ'⟩
    exact (List.mem_append.mp hq).elim (subO q) (sub q)
  have N₂ : News h₀ env.locals h (nx ++ own) := fun q hq => N₁ q (List.mem_append.mpr (List.mem_append.mp hq).symm)
  refine wpAny_mono (turn i v m₁ nx h tk own hP apart hJ F₁ N₂) (fun f s₂ p => ?_) fun _ _ e => e
  cases f with
  | ret r => exact .ret p
  | brk => exact .brk p
  | next => exact .next (back _ p)
  | cont => exact .cont (back _ p)

/-- a loop over a list of the ground -/
theorem iter_list {l : Addr} {vs : List Value} {m₀ : Str → Option Value} {news : List (Addr × Obj)} (J : Nat → (Str → Option Value) → List (Addr × Obj) → Prop)
    (hh : A.handled = none) (hl : h₀.IsList l vs.toArray) (F : Fr h₀ env.locals s.heap m₀) (N : News h₀ env.locals s.heap news) (hj : J 0 m₀ news)
    (turn : ∀ i v m₁ nx h tk own, vs[i]? = some v → TbOff own nx → J i m₁ nx → Fr h₀ env.locals h (fun y => if y = x then some v else m₁ y) → News h₀ env.locals h (nx ++ own) →
      wpAny (model prog w) A (execs body env) (TbPost h₀ env.locals (J (i + 1)) own { s with heap := h, toks := tk } Q) E { s with heap := h, toks := tk })
    (done : ∀ m₁ nx h tk, J vs.length m₁ nx → Fr h₀ env.locals h m₁ → News h₀ env.locals h nx → Q .next { s with heap := h, toks := tk }) :
    wpAny (model prog w) A (pyIter (.ref l)) (fun it s₂ => LoopAtV prog w A h₀ env x body Q E it s₂) E s := by
  have here : s.heap.IsList l vs.toArray := hl.at fun o e => F.keep l o e
  have ground : ∃ o, h₀.get? l = some o := let ⟨o, ho, _⟩ := hl; ⟨o, ho⟩
  have low : l < env.locals := let ⟨_, ho⟩ := ground; Nat.lt_of_lt_of_le (Heap.lt_size ho) F.above
  have W := Walks.list (prog := prog) (w := w) hh s.heap.objs.size l (Nat.ne_of_lt (Nat.lt_trans low F.ns.lt)) vs.toArray
  rw [List.size_toArray] at W
  refine wpAny_pyIter_list here (iter_walk (m₀ := m₀) J W ⟨⟨_, Heap.get?_push_size _ rfl, rfl, rfl⟩, here.at fun o e => Heap.get?_push_of_some _ e⟩ (fun i h st => ?_) ground (next_is_new F) ⟨Nat.ne_of_gt F.ns.lt, Nat.ne_of_lt low⟩
    (fun q hq => Nat.ne_of_lt (Heap.lt_size (N q hq).1)) (F.push _) (fun q hq => ⟨Heap.get?_push_of_some _ (N q hq).1, (N q hq).2⟩) hj (fun i v m₁ nx h tk own hP => turn i v m₁ nx h tk own (by simpa using hP)) done)
  obtain ⟨⟨o, ho, _⟩, _⟩ := st
  exact ⟨o, ho⟩

/-- a loop over a tuple of the ground -/
theorem iter_tuple {l : Addr} {vs : List Value} {m₀ : Str → Option Value} {news : List (Addr × Obj)} (J : Nat → (Str → Option Value) → List (Addr × Obj) → Prop)
    (hh : A.handled = none) (hl : h₀.IsTuple l vs.toArray) (F : Fr h₀ env.locals s.heap m₀) (N : News h₀ env.locals s.heap news) (hj : J 0 m₀ news)
    (turn : ∀ i v m₁ nx h tk own, vs[i]? = some v → TbOff own nx → J i m₁ nx → Fr h₀ env.locals h (fun y => if y = x then some v else m₁ y) → News h₀ env.locals h (nx ++ own) →
      wpAny (model prog w) A (execs body env) (TbPost h₀ env.locals (J (i + 1)) own { s with heap := h, toks := tk } Q) E { s with heap := h, toks := tk })
    (done : ∀ m₁ nx h tk, J vs.length m₁ nx → Fr h₀ env.locals h m₁ → News h₀ env.locals h nx → Q .next { s with heap := h, toks := tk }) :
    wpAny (model prog w) A (pyIter (.ref l)) (fun it s₂ => LoopAtV prog w A h₀ env x body Q E it s₂) E s := by
  have here : s.heap.IsTuple l vs.toArray := hl.at fun o e => F.keep l o e
  have ground : ∃ o, h₀.get? l = some o := let ⟨o, ho, _⟩ := hl; ⟨o, ho⟩
  have low : l < env.locals := let ⟨_, ho⟩ := ground; Nat.lt_of_lt_of_le (Heap.lt_size ho) F.above
  have W := Walks.tuple (prog := prog) (w := w) hh s.heap.objs.size l (Nat.ne_of_lt (Nat.lt_trans low F.ns.lt)) vs.toArray
  rw [List.size_toArray] at W
  refine wpAny_pyIter_tuple here (iter_walk (m₀ := m₀) J W ⟨⟨_, Heap.get?_push_size _ rfl, rfl, rfl⟩, here.at fun o e => Heap.get?_push_of_some _ e⟩ (fun i h st => ?_) ground (next_is_new F) ⟨Nat.ne_of_gt F.ns.lt, Nat.ne_of_lt low⟩
    (fun q hq => Nat.ne_of_lt (Heap.lt_size (N q hq).1)) (F.push _) (fun q hq => ⟨Heap.get?_push_of_some _ (N q hq).1, (N q hq).2⟩) hj (fun i v m₁ nx h tk own hP => turn i v m₁ nx h tk own (by simpa using hP)) done)
  obtain ⟨⟨o, ho, _⟩, _⟩ := st
  exact ⟨o, ho⟩
end

/-- the end of a turn, the ledger as it is wanted -/
theorem turn_end {h₀ : Heap} {L : Addr} {J : (Str → Option Value) → List (Addr × Obj) → Prop} {own news' nx : List (Addr × Obj)} {s₁ : Shared} {h' : Heap} {tk : Nat} {m' : Str → Option Value}
    (F : Fr h₀ L h' m') (N : News h₀ L h' news') (hn : ∀ q ∈ nx, q ∈ news') (ho : ∀ q ∈ own, q ∈ news') (hoff : TbOff own nx) (hj : J m' nx) : TbEnd h₀ L J own s₁ { s₁ with heap := h', toks := tk } :=
  ⟨h', tk, m', news', nx, rfl, F, N, hn, ho, hoff, hj⟩

/-- the frame's names that matter -/
def HasL (ks : List (Str × Value)) (m : Str → Option Value) : Prop := ∀ q ∈ ks, m q.1 = some q.2
theorem HasL.form {ks : List (Str × Value)} {m : Str → Option Value} (h : HasL ks m) : ∃ u : Str → Option Value, m = fun z => (ks.lookup z).or (u z) := by
  refine ⟨m, funext fun z => ?_⟩
  cases hz : ks.lookup z with
  | none => rfl
  | some v =>
    have : (z, v) ∈ ks := by
      clear h
      induction ks with
      | nil => simp at hz
      | cons q r ih =>
        obtain ⟨a, b⟩ := q
        rw [List.lookup_cons] at hz
        by_cases e : (z == a) = true
        · simp only [e] at hz
          cases hz
          rw [beq_iff_eq.mp e]; exact .head _
        · simp only [Bool.not_eq_true] at e
          simp only [e] at hz
          exact .tail _ (ih hz)
    exact h _ this
theorem HasL.nil {m : Str → Option Value} : HasL [] m := fun _ h => nomatch h
theorem HasL.cons {m : Str → Option Value} {k : Str} {v : Value} {ks : List (Str × Value)} (h : m k = some v) (r : HasL ks m) : HasL ((k, v) :: ks) m := fun q hq => by
  cases hq with
  | head => exact h
  | tail _ hq => exact r q hq

/-- what a call that turns only the objects named leaves of the frame -/
theorem fr_after {h₀ h h' : Heap} {L : Addr} {m : Str → Option Value} {as : List Addr} (F : Fr h₀ L h m) (hk : (hideAll h as).StaysIn h') (h0 : ∀ a ∈ as, h₀.get? a = none) (hL : L ∉ as) : Fr h₀ L h' m := by
  obtain ⟨oL, es, ep, hLo, r⟩ := F.ns
  refine ⟨⟨oL, es, ep, hk _ _ (hideAll_get _ hLo hL), r⟩, fun b o e => hk _ _ (hideAll_get _ (F.keep b o e) fun hb => ?_), F.above⟩
  rw [h0 b hb] at e; cases e
theorem news_after {h₀ h h' : Heap} {L : Addr} {as : List Addr} {news : List (Addr × Obj)} (N : News h₀ L h news) (hk : (hideAll h as).StaysIn h') (ha : ∀ q ∈ news, q.1 ∉ as) : News h₀ L h' news :=
  fun q hq => ⟨hk _ _ (hideAll_get _ (N q hq).1 (ha q hq)), (N q hq).2⟩
theorem news_app {h₀ h : Heap} {L : Addr} {a b : List (Addr × Obj)} (N : News h₀ L h a) (M : News h₀ L h b) : News h₀ L h (a ++ b) :=
  fun q hq => (List.mem_append.mp hq).elim (N q) (M q)
theorem news_sub {h₀ h : Heap} {L : Addr} {a b : List (Addr × Obj)} (N : News h₀ L h a) (hs : ∀ q ∈ b, q ∈ a) : News h₀ L h b := fun q hq => N q (hs q hq)
end Mine
end

-- part L2
section
open PySem PySem.W PySem.Calls PyProof.Rows PyProof.V
namespace Mine
inductive All2 {α β : Type} (R : α → β → Prop) : List α → List β → Prop
  | nil : All2 R [] []
  | cons {a : α} {b : β} {as : List α} {bs : List β} : R a b → All2 R as bs → All2 R (a :: as) (b :: bs)
theorem All2.get {α β : Type} {R : α → β → Prop} {as : List α} {bs : List β} (h : All2 R as bs) : ∀ (i : Nat) (a : α), as[i]? = some a → ∃ b, bs[i]? = some b ∧ R a b := by
  induction h with
  | nil => intro i a h; simp at h
  | cons r _ ih =>
    intro i a h
    cases i with
    | zero => simp at h; subst h; exact ⟨_, rfl, r⟩
    | succ i => simpa using ih i a (by simpa using h)
theorem All2.length {α β : Type} {R : α → β → Prop} {as : List α} {bs : List β} (h : All2 R as bs) : as.length = bs.length := by
  induction h with
  | nil => rfl
  | cons _ _ ih => simp [ih]
theorem All2.mono {α β : Type} {R S : α → β → Prop} {as : List α} {bs : List β} (h : All2 R as bs) (k : ∀ a b, R a b → S a b) : All2 S as bs := by
  induction h with
  | nil => exact .nil
  | cons r _ ih => exact .cons (k _ _ r) ih
theorem All2.snoc {α β : Type} {R : α → β → Prop} {as : List α} {bs : List β} (h : All2 R as bs) {a : α} {b : β} (r : R a b) : All2 R (as ++ [a]) (bs ++ [b]) := by
  induction h with
  | nil => exact .cons r .nil
  | cons r' _ ih => exact .cons r' ih

/-- v is a dict whose word for its kind is ty -/
def TyAt (w : World) (h : Heap) (v : Value) (ty : Str) : Prop :=
  ∃ d kvs t, v = .ref d ∧ h.DictOf (PySem.strKind PySem.Challenge.rw_fe5005_01.row.prog w) d kvs ∧ valueAt kvs (Str.ofString "type") = some (.str ty t)

def paraS : Str := Str.ofString "paragraph"
def blankS : Str := Str.ofString "blank_line"
/-- the law's own reading of looseness -/
def looseB (tys : List Str) : Bool := tys.contains blankS || decide (2 ≤ tys.count paraS)

theorem loose_blank {tys : List Str} {i : Nat} {ty : Str} (h : tys[i]? = some ty) (e : (ty == Str.ofString "blank_line") = true) : looseB tys = true := by
  have m : blankS ∈ tys := by
    have := List.mem_of_getElem? h
    rw [beq_iff_eq.mp e] at this; exact this
  simp [looseB, m]
theorem take_snoc {α : Type} {l : List α} {i : Nat} {a : α} (h : l[i]? = some a) : l.take (i + 1) = l.take i ++ [a] := by
  rw [List.take_add_one, h]; rfl
theorem loose_two {tys : List Str} {i : Nat} {ty : Str} (h : tys[i]? = some ty) (e : (ty == Str.ofString "paragraph") = true) (c : 1 < ((tys.take i).count paraS : Int) + 1) : looseB tys = true := by
  have e' : ty = paraS := beq_iff_eq.mp e
  have hs : (tys.take (i + 1)).count paraS ≤ tys.count paraS := (List.take_sublist _ _).count_le _
  rw [take_snoc h, e', List.count_append, List.count_singleton_self] at hs
  have : 2 ≤ tys.count paraS := by omega
  simp [looseB, this]
theorem loose_none {tys : List Str} {n : Nat} (hn : n = tys.length) (hc : (tys.take n).count paraS ≤ 1) (hb : (tys.take n).contains blankS = false) : looseB tys = false := by
  rw [hn, List.take_length] at hc hb
  have : ¬ 2 ≤ tys.count paraS := by omega
  simp only [looseB, hb, Bool.false_or, decide_eq_false this]
theorem loose_step {tys : List Str} {i : Nat} {ty : Str} (h : tys[i]? = some ty) (hb : (tys.take i).contains blankS = false) (e : (ty == Str.ofString "blank_line") = false) : (tys.take (i + 1)).contains blankS = false := by
  rw [take_snoc h]
  simp only [List.contains_eq_mem, List.mem_append, List.mem_singleton, decide_eq_false_iff_not, not_or] at hb ⊢
  exact ⟨hb, fun q => by rw [← q] at e; simp [blankS] at e⟩
theorem count_step1 {tys : List Str} {i : Nat} {ty : Str} (h : tys[i]? = some ty) (e : (ty == Str.ofString "paragraph") = true) : (tys.take (i + 1)).count paraS = (tys.take i).count paraS + 1 := by
  have e' : ty = paraS := beq_iff_eq.mp e
  rw [take_snoc h, e', List.count_append, List.count_singleton_self]
theorem count_step0 {tys : List Str} {i : Nat} {ty : Str} (h : tys[i]? = some ty) (e : (ty == Str.ofString "paragraph") = false) : (tys.take (i + 1)).count paraS = (tys.take i).count paraS := by
  rw [take_snoc h, List.count_append, List.count_singleton]
  have : (ty == paraS) = false := e
  simp [this]

theorem item_ground {prog : Program} {w : World} {A : Around} {E : Value → Shared → Prop} {s : Shared} {h₀ : Heap} {L d : Addr} {m : Str → Option Value} {kvs : List (Str × Value)} {k : Str} {t : Tok} {v : Value} {value slice : PySem.Expr}
    {Q : Value → Shared → Prop} (F : Fr h₀ L s.heap m) (hd : h₀.DictOf (PySem.strKind prog w) d kvs) (hv : valueAt kvs k = some v) (h : Q v { s with toks := s.toks + 1 })
    (hs : subscripted slice false (.ref d) (.str k t) = operate [.ref d, .str k t] (getItem (.ref d) (.str k t)) := by with_unfolding_all rfl) :
    wpAny (model prog w) A (subscriptTail value slice (.ref d) (.str k t)) Q E s :=
  have hm := (hd.keep F.keep).mapOf
  tail_any hm.typeIs slot_dict_getitem.lookup (wpAny_getItem_of (strKind_is prog w k t) hm hv h) hs

local macro_rules | `(tactic| walk_at "subscriptTail") => `(tactic| (k_here; (with_reducible show wpAny _ _ (subscriptTail _ _ (Value.ref _) (Value.str _ _)) _ _ _); k_dflt (refine' item_ground ?k1 ?k2 ?k3 ?_; (case k1 => k_asm); (case k2 => with_reducible assumption); (case k3 => first | with_reducible assumption | with_unfolding_all rfl); k_whole)))
local macro_rules | `(tactic| walk_at "exec For") => `(tactic| (k_here; (rename Fr _ _ _ _ => lF'); (with_unfolding_all refine' For_invVF lF' ?k1 ?k2 ?_; (case k1 => exact rfl); (case k2 => exact rfl); k_whole)))
local macro_rules | `(tactic| k_steps) => `(tactic| repeat' (first | (k_unfold; (try dsimp only)) | (k_end; wrow_close) | ((fail_if_success (with_reducible show wpAny _ _ (pyIter _) _ _ _)); walk1) | (dsimp only; (fail_if_success (with_reducible show wpAny _ _ (pyIter _) _ _ _)); walk1) | (leave1; walk_say "STEP leave1"; try dsimp only) | fail "no step"))

/-- between the turns of _is_loose_list -/
def LooseJ (tys : List Str) (i : Nat) (m : Str → Option Value) (nx : List (Addr × Obj)) : Prop :=
  nx = [] ∧ ∃ t, HasL [(Str.ofString "paragraph_count", .int ((tys.take i).count paraS : Nat) t)] m ∧ (tys.take i).count paraS ≤ 1 ∧ (tys.take i).contains blankS = false

theorem is_loose_list_spec {w : World} {p : Program} {loose : List Str} {mean : ExcName → Option Value} {mg mb : Str → Option Value} {h₀ : Heap} {dp un : Nat} {fr : Option (List Env)} {gd : Option (List Code)}
    {s : Shared} {l : Addr} {vs : List Value} {tys : List Str} {Q E : Value → Shared → Prop}
    (k0 : h₀.StaysIn s.heap) (X : (Mine.hd.heap_39 w.params).In h₀) (T : Top p loose mean mg mb h₀) (hl : s.heap.IsList l vs.toArray) (ht : All2 (TyAt w s.heap) vs tys) (hd : dp + 10 < recursionLimit) (hu : un + 100 < cLine)
    (ret : ∀ h' tk', s.heap.StaysIn h' → Q (.bool (looseB tys)) { s with heap := h', toks := tk' }) :
    wpAny (model PySem.Challenge.rw_fe5005_01.row.prog w) (ar dp un fr gd) (call (.ref 59) [.ref l]) Q E s := by
  revert X; k_fill; intro X; w_top off
  refine' enter (K := Mine.hd.heap_39 w.params) (binds := [(Str.ofString "tokens", .ref l)]) [] k0 X T ?kN ?kN0 ?ko ?kc ?kr ?kb ?kl ?_ ?c1 ?c2 ?c3 ?c4
  case kN => intro q hq; cases hq
  case kN0 => intro q hq; cases hq
  case ko => k_is
  case kc => k_is
  case kr => show dp < recursionLimit; omega
  case kb => exact BindsTo.of_eq rfl
  case kl => exact locs rfl
  case c1 => exact rfl
  case c2 => exact rfl
  case c3 => exact rfl
  case c4 => decide
  intro g L' h₁ tk₁ hg hL k1 F N Xg Tg
  have hg' : g = s.heap := hg
  subst hg'
  clear hg k1 X T k0
  (try dsimp only)
  (try k_fold)
  k_steps
  (rename Fr _ _ _ _ => F1); (rename News _ _ _ _ => N1)
  refine iter_list (LooseJ tys) rfl hl F1 N1 ⟨rfl, _, HasL.cons rfl HasL.nil, by simp, by simp⟩ ?_ ?_
  · rintro i v m₁ nx h tk own hv hoff ⟨rfl, t, hm, hc, hb⟩ F2 N2
    clear F1 N1
    obtain ⟨u, rfl⟩ := hm.form
    clear hm
    obtain ⟨ty, hty, d, kvs, t', rfl, hdk, hval⟩ := ht.get i v hv
    k_steps
    all_goals ((rename Fr _ _ _ _ => FE); (rename News _ _ _ _ => NE))
    · rw [loose_blank hty (by assumption)] at ret; exact ret _ _ FE.keep
    · rw [loose_two hty (by assumption) (by assumption)] at ret; exact ret _ _ FE.keep
    · have e1 := count_step1 hty (by assumption)
      refine turn_end (nx := []) FE NE (List.forall_mem_nil _) (fun q hq => hq) hoff ⟨rfl, _, HasL.cons (by rw [e1]; rfl) HasL.nil, by omega, loose_step hty hb (by assumption)⟩
    · have e1 := count_step0 hty (by assumption)
      refine turn_end (nx := []) FE NE (List.forall_mem_nil _) (fun q hq => hq) hoff ⟨rfl, _, HasL.cons (by rw [e1]; rfl) HasL.nil, by omega, loose_step hty hb (by assumption)⟩
  · rintro m₁ nx h tk ⟨rfl, t, hm, hc, hb⟩ F2 N2
    clear F1 N1
    rw [loose_none ht.length hc hb] at ret
    k_steps
    all_goals ((rename Fr _ _ _ _ => FE); exact ret _ _ FE.keep)
theorem is_loose_tuple_spec {w : World} {p : Program} {loose : List Str} {mean : ExcName → Option Value} {mg mb : Str → Option Value} {h₀ : Heap} {dp un : Nat} {fr : Option (List Env)} {gd : Option (List Code)}
    {s : Shared} {l : Addr} {vs : List Value} {tys : List Str} {Q E : Value → Shared → Prop}
    (k0 : h₀.StaysIn s.heap) (X : (Mine.hd.heap_39 w.params).In h₀) (T : Top p loose mean mg mb h₀) (hl : s.heap.IsTuple l vs.toArray) (ht : All2 (TyAt w s.heap) vs tys) (hd : dp + 10 < recursionLimit) (hu : un + 100 < cLine)
    (ret : ∀ h' tk', s.heap.StaysIn h' → Q (.bool (looseB tys)) { s with heap := h', toks := tk' }) :
    wpAny (model PySem.Challenge.rw_fe5005_01.row.prog w) (ar dp un fr gd) (call (.ref 59) [.ref l]) Q E s := by
  revert X; k_fill; intro X; w_top off
  refine' enter (K := Mine.hd.heap_39 w.params) (binds := [(Str.ofString "tokens", .ref l)]) [] k0 X T ?kN ?kN0 ?ko ?kc ?kr ?kb ?kl ?_ ?c1 ?c2 ?c3 ?c4
  case kN => intro q hq; cases hq
  case kN0 => intro q hq; cases hq
  case ko => k_is
  case kc => k_is
  case kr => show dp < recursionLimit; omega
  case kb => exact BindsTo.of_eq rfl
  case kl => exact locs rfl
  case c1 => exact rfl
  case c2 => exact rfl
  case c3 => exact rfl
  case c4 => decide
  intro g L' h₁ tk₁ hg hL k1 F N Xg Tg
  have hg' : g = s.heap := hg
  subst hg'
  clear hg k1 X T k0
  (try dsimp only)
  (try k_fold)
  k_steps
  (rename Fr _ _ _ _ => F1); (rename News _ _ _ _ => N1)
  refine iter_tuple (LooseJ tys) rfl hl F1 N1 ⟨rfl, _, HasL.cons rfl HasL.nil, by simp, by simp⟩ ?_ ?_
  · rintro i v m₁ nx h tk own hv hoff ⟨rfl, t, hm, hc, hb⟩ F2 N2
    clear F1 N1
    obtain ⟨u, rfl⟩ := hm.form
    clear hm
    obtain ⟨ty, hty, d, kvs, t', rfl, hdk, hval⟩ := ht.get i v hv
    k_steps
    all_goals ((rename Fr _ _ _ _ => FE); (rename News _ _ _ _ => NE))
    · rw [loose_blank hty (by assumption)] at ret; exact ret _ _ FE.keep
    · rw [loose_two hty (by assumption) (by assumption)] at ret; exact ret _ _ FE.keep
    · have e1 := count_step1 hty (by assumption)
      refine turn_end (nx := []) FE NE (List.forall_mem_nil _) (fun q hq => hq) hoff ⟨rfl, _, HasL.cons (by rw [e1]; rfl) HasL.nil, by omega, loose_step hty hb (by assumption)⟩
    · have e1 := count_step0 hty (by assumption)
      refine turn_end (nx := []) FE NE (List.forall_mem_nil _) (fun q hq => hq) hoff ⟨rfl, _, HasL.cons (by rw [e1]; rfl) HasL.nil, by omega, loose_step hty hb (by assumption)⟩
  · rintro m₁ nx h tk ⟨rfl, t, hm, hc, hb⟩ F2 N2
    clear F1 N1
    rw [loose_none ht.length hc hb] at ret
    k_steps
    all_goals ((rename Fr _ _ _ _ => FE); exact ret _ _ FE.keep)
end Mine
end

-- part L3
section
open PySem PySem.W PySem.Calls PyProof.Rows PyProof.V
namespace Mine

local macro_rules | `(tactic| walk_at "subscriptTail") => `(tactic| (k_here; (with_reducible show wpAny _ _ (subscriptTail _ _ (Value.ref _) (Value.str _ _)) _ _ _); k_dflt (refine' item_ground ?k1 ?k2 ?k3 ?_; (case k1 => k_asm); (case k2 => with_reducible assumption); (case k3 => first | with_reducible assumption | with_unfolding_all rfl); k_whole)))
local macro_rules | `(tactic| walk_at "exec For") => `(tactic| (k_here; (rename Fr _ _ _ _ => lF'); (with_unfolding_all refine' For_invVF lF' ?k1 ?k2 ?_; (case k1 => exact rfl); (case k2 => exact rfl); k_whole)))
local macro_rules | `(tactic| k_steps) => `(tactic| repeat' (first | (k_unfold; (try dsimp only)) | (k_end; wrow_close) | ((fail_if_success (with_reducible show wpAny _ _ (pyIter _) _ _ _)); walk1) | (dsimp only; (fail_if_success (with_reducible show wpAny _ _ (pyIter _) _ _ _)); walk1) | (leave1; walk_say "STEP leave1"; try dsimp only) | fail "no step"))
local macro_rules | `(tactic| k_all) => `(tactic| with_reducible assumption)
local macro_rules | `(tactic| size_fits) => `(tactic| with_reducible assumption)

/-- between the turns of _law_loose -/
def KindsJ (ak : Addr) (tys : List Str) (i : Nat) (m : Str → Option Value) (nx : List (Addr × Obj)) : Prop :=
  ∃ vals k, nx = [(ak, listOf vals.toArray k)] ∧ HasL [(Str.ofString "kinds", .ref ak)] m ∧ StrsAre vals (tys.take i)

theorem loose_any {tys : List Str} (h : (tys.any fun x => x == Str.ofString "blank_line") = true) : looseB tys = true := by
  obtain ⟨x, hx, e⟩ := List.any_eq_true.mp h
  obtain ⟨i, hi⟩ := List.mem_iff_getElem?.mp hx
  exact loose_blank hi e
theorem countIn_count (x : Str) : ∀ l : List Str, PySem.Spec.countIn (.str x) (l.map PyData.str) = (l.count x : Nat)
  | [] => rfl
  | y :: r => by
    have e : PySem.Spec.same (.str y) (.str x) = (y == x) := by
      rw [PyProof.V.same_str, Bool.eq_iff_iff, decide_eq_true_iff, beq_iff_eq]
    rw [List.map_cons, PySem.Spec.countIn, countIn_count x r, e, List.count_cons]
    by_cases h : (y == x) = true
    · simp [h]; omega
    · simp [h]
theorem loose_cnt {tys : List Str} (h : (tys.any fun x => x == Str.ofString "blank_line") = false) : decide ((2 : Int) ≤ PySem.Spec.countIn (.str (Str.ofString "paragraph")) (tys.map PyData.str)) = looseB tys := by
  have hb : tys.contains blankS = false := by
    rw [Bool.eq_false_iff]
    intro q
    have : (tys.any fun x => x == Str.ofString "blank_line") = true := List.any_eq_true.mpr ⟨blankS, by simpa using q, by simp [blankS]⟩
    rw [h] at this; cases this
  rw [countIn_count]
  simp only [looseB, hb, Bool.false_or]
  congr 1
  simp only [eq_iff_iff, paraS]
  omega

theorem law_loose_spec {w : World} {p : Program} {loose : List Str} {mean : ExcName → Option Value} {mg mb : Str → Option Value} {h₀ : Heap} {dp un : Nat} {fr : Option (List Env)} {gd : Option (List Code)}
    {s : Shared} {l : Addr} {vs : List Value} {tys : List Str} {Q E : Value → Shared → Prop}
    (k0 : h₀.StaysIn s.heap) (X : (Mine.hd.heap_39 w.params).In h₀) (T : Top p loose mean mg mb h₀) (hl : s.heap.IsList l vs.toArray) (ht : All2 (TyAt w s.heap) vs tys) (h8 : tys.length ≤ 100) (hd : dp + 10 < recursionLimit)
    (ret : ∀ h' tk', s.heap.StaysIn h' → Q (.bool (looseB tys)) { s with heap := h', toks := tk' }) :
    wpAny (model PySem.Challenge.rw_fe5005_01.row.prog w) (ar dp un fr gd) (call (.ref 445) [.ref l]) Q E s := by
  revert X; k_fill; intro X; w_top off
  refine' enter (K := Mine.hd.heap_39 w.params) (binds := [(Str.ofString "tokens", .ref l)]) [] k0 X T ?kN ?kN0 ?ko ?kc ?kr ?kb ?kl ?_ ?c1 ?c2 ?c3 ?c4
  case kN => intro q hq; cases hq
  case kN0 => intro q hq; cases hq
  case ko => k_is
  case kc => k_is
  case kr => show dp < recursionLimit; omega
  case kb => exact BindsTo.of_eq rfl
  case kl => exact locs rfl
  case c1 => exact rfl
  case c2 => exact rfl
  case c3 => exact rfl
  case c4 => decide
  intro g L' h₁ tk₁ hg hL k1 F N Xg Tg
  have hg' : g = s.heap := hg
  subst hg'
  clear hg k1 X T k0
  (try dsimp only)
  (try k_fold)
  k_steps
  (rename Fr _ _ _ _ => F1); (rename News _ _ _ _ => N1)
  refine iter_list (KindsJ _ tys) rfl hl F1 N1 ⟨[], _, rfl, HasL.cons rfl HasL.nil, StrsAre.nil⟩ ?_ ?_
  · rintro i v m₁ nx h tk own hv hoff ⟨vals, k, rfl, hm, hvals⟩ F2 N2
    clear F1 N1
    obtain ⟨u, rfl⟩ := hm.form
    clear hm
    obtain ⟨ty, hty, d, kvs, t', rfl, hdk, hval⟩ := ht.get i v hv
    simp only [List.nil_append, List.cons_append] at N2
    have hne : ∀ q ∈ own, q.1 ≠ _ := fun q hq => hoff q hq _ (.head _)
    have hsz : vals.toArray.size ≤ sizeLine := by
      have := hvals.length
      have h3 : (tys.take i).length ≤ tys.length := by rw [List.length_take]; omega
      rw [List.size_toArray, sizeLine_eq]; omega
    k_steps
    all_goals ((rename Fr _ _ _ _ => FE); (rename News _ _ _ _ => NE))
    rw [List.push_toArray] at NE
    exact turn_end (nx := [(_, PySem.W.listOf (vals ++ [Value.str ty t']).toArray (k + 1))]) FE NE (fun q hq => by cases hq with | head => exact .head _ | tail _ hq => cases hq) (fun q hq => .tail _ hq)
      (fun q hq r hr => by cases hr with | head => exact hne q hq | tail _ hr => cases hr) ⟨_, _, rfl, HasL.cons rfl HasL.nil, by rw [take_snoc hty]; exact StrsAre.append' hvals (StrsAre.cons _ _ StrsAre.nil)⟩
  · rintro m₁ nx h tk ⟨vals, k, rfl, hm, hvals⟩ F2 N2
    clear F1 N1
    obtain ⟨u, rfl⟩ := hm.form
    clear hm
    rw [ht.length, List.take_length] at hvals
    k_steps
    all_goals ((rename Fr _ _ _ _ => FE))
    · dsimp only
      (rename (List.any _ _ = true) => hA)
      rw [loose_any hA] at ret; rw [hA]; exact ret _ _ FE.keep
    · (rename (List.any _ _ = false) => hA)
      rw [← loose_cnt hA] at ret; exact ret _ _ FE.keep
end Mine
end

-- part T1
section
open PySem PySem.W PySem.Calls PyProof.Rows PyProof.V
namespace Mine
/-- a token: a leaf of a kind, or a list (tight or loose) of items of tokens -/
inductive Tk where
  | leaf (k : LK)
  | lst (tight : Bool) (its : List (List Tk))

inductive All3 {α β γ : Type} (R : α → β → List γ → Prop) : List α → List β → List γ → Prop
  | nil : All3 R [] [] []
  | cons {a : α} {b : β} {o : List γ} {as : List α} {bs : List β} {os : List γ} : R a b o → All3 R as bs os → All3 R (a :: as) (b :: bs) (o ++ os)
section
variable {α β γ : Type} {R S : α → β → List γ → Prop}
theorem All3.length {as : List α} {bs : List β} {os : List γ} (h : All3 R as bs os) : as.length = bs.length := by
  induction h with
  | nil => rfl
  | cons _ _ ih => simp [ih]
theorem All3.mono {as : List α} {bs : List β} {os : List γ} (h : All3 R as bs os) (k : ∀ a b o, R a b o → S a b o) : All3 S as bs os := by
  induction h with
  | nil => exact .nil
  | cons r _ ih => exact .cons (k _ _ _ r) ih
theorem All3.snoc {as : List α} {bs : List β} {os : List γ} (h : All3 R as bs os) {a : α} {b : β} {o : List γ} (r : R a b o) : All3 R (as ++ [a]) (bs ++ [b]) (os ++ o) := by
  induction h with
  | nil => have := All3.cons r .nil; simpa using this
  | cons r' _ ih => have := All3.cons r' ih; simpa [List.append_assoc] using this
/-- the next one out of the rest -/
theorem All3.next {as : List α} {bs : List β} {os : List γ} {i : Nat} {a : α} (h : All3 R (as.drop i) (bs.drop i) os) (ha : as[i]? = some a) :
    ∃ b o os', bs[i]? = some b ∧ os = o ++ os' ∧ R a b o ∧ All3 R (as.drop (i + 1)) (bs.drop (i + 1)) os' := by
  obtain ⟨hlt, rfl⟩ := List.getElem?_eq_some_iff.mp ha
  rw [List.drop_eq_getElem_cons hlt] at h
  generalize hb : bs.drop i = bd at h
  cases h with
  | cons r hr =>
    rename_i b o bs' os'
    have hi : i < bs.length := by
      rcases Nat.lt_or_ge i bs.length with h | h
      · exact h
      · rw [List.drop_eq_nil_of_le h] at hb; cases hb
    rw [List.drop_eq_getElem_cons hi] at hb
    injection hb with h1 h2
    refine ⟨b, o, os', ?_, rfl, r, by rw [h2]; exact hr⟩
    rw [List.getElem?_eq_getElem hi, h1]
end

abbrev K0 (w : World) := PySem.strKind PySem.Challenge.rw_fe5005_01.row.prog w
abbrev S (x : String) : Str := Str.ofString x

/-- an item of a list: its word, its children; os are its leaves, all else stands in G -/
def ItemIn (w : World) (G : Addr → Obj → Prop) (R : Value → Tk → List (Addr × Obj) → Prop) (v : Value) (ts : List Tk) (os : List (Addr × Obj)) : Prop :=
  ∃ d o c vs k t, v = .ref d ∧ G d o ∧ (d == sysModules) = false ∧ o.IsDictOf (K0 w) [(Str.ofString "type", .str (Str.ofString "list_item") t), (Str.ofString "children", .ref c)] ∧ G c (PySem.W.listOf (List.toArray vs) k) ∧ All3 R vs ts os
/-- a list of items -/
def LstIn (w : World) (G : Addr → Obj → Prop) (R : Value → Tk → List (Addr × Obj) → Prop) (v : Value) (b : Bool) (its : List (List Tk)) (os : List (Addr × Obj)) : Prop :=
  ∃ d o c vs k t, v = .ref d ∧ G d o ∧ (d == sysModules) = false ∧
    o.IsDictOf (K0 w) [(Str.ofString "type", .str (Str.ofString "list") t), (Str.ofString "tight", .bool b), (Str.ofString "children", .ref c)] ∧ G c (PySem.W.listOf (List.toArray vs) k) ∧ All3 (ItemIn w G R) vs its os
/-- a token, at most so many lists deep -/
def TkIn (w : World) (G : Addr → Obj → Prop) : Nat → Value → Tk → List (Addr × Obj) → Prop
  | _, v, .leaf l, os => ∃ d o, v = .ref d ∧ os = [(d, o)] ∧ (d == sysModules) = false ∧ LeafObj w o l
  | 0, _, .lst _ _, _ => False
  | n + 1, v, .lst b its, os => LstIn w G (TkIn w G n) v b its os

theorem ItemIn.mono {w : World} {G G' : Addr → Obj → Prop} {R R' : Value → Tk → List (Addr × Obj) → Prop} (hG : ∀ a o, G a o → G' a o) (hR : ∀ v t o, R v t o → R' v t o) {v : Value} {ts : List Tk} {os : List (Addr × Obj)} (h : ItemIn w G R v ts os) : ItemIn w G' R' v ts os :=
  let ⟨d, o, c, vs, k, t, h1, h2, h3, h4, h5, h6⟩ := h
  ⟨d, o, c, vs, k, t, h1, hG _ _ h2, h3, h4, hG _ _ h5, h6.mono hR⟩
theorem LstIn.mono {w : World} {G G' : Addr → Obj → Prop} {R R' : Value → Tk → List (Addr × Obj) → Prop} (hG : ∀ a o, G a o → G' a o) (hR : ∀ v t o, R v t o → R' v t o) {v : Value} {b : Bool} {ts : List (List Tk)} {os : List (Addr × Obj)} (h : LstIn w G R v b ts os) : LstIn w G' R' v b ts os :=
  let ⟨d, o, c, vs, k, t, h1, h2, h3, h4, h5, h6⟩ := h
  ⟨d, o, c, vs, k, t, h1, hG _ _ h2, h3, h4, hG _ _ h5, h6.mono fun _ _ _ => ItemIn.mono hG hR⟩
theorem TkIn.mono {w : World} {G G' : Addr → Obj → Prop} (hG : ∀ a o, G a o → G' a o) : ∀ (n : Nat) (v : Value) (t : Tk) (os : List (Addr × Obj)), TkIn w G n v t os → TkIn w G' n v t os
  | 0, _, .leaf _, _, h => h
  | _ + 1, _, .leaf _, _, h => h
  | 0, _, .lst _ _, _, h => h.elim
  | n + 1, _, .lst _ _, _, h => LstIn.mono hG (TkIn.mono hG n) h

/-- what the two functions make of a token: in a tight list the paragraphs of its items become plain texts, the lists of its items are treated likewise; a loose list stands -/
def settle : Nat → Tk → Tk
  | _, .leaf .para => .leaf .btextP
  | _, .leaf l => .leaf l
  | 0, .lst b its => .lst b its
  | _ + 1, .lst false its => .lst false its
  | n + 1, .lst true its => .lst true (its.map fun ts => ts.map (settle n))

theorem LeafObj.word {w : World} {o : Obj} {l : LK} (h : LeafObj w o l) : ∃ kvs t, o.IsDictOf (K0 w) kvs ∧ FlatPairs PyData.str kvs l.D ∧ valueAt kvs (Str.ofString "type") = some (.str l.ty t) := by
  obtain ⟨kvs, hd, hf⟩ := h
  have hl : PySem.Spec.lookup (.str (Str.ofString "type")) l.D = some (.str l.ty) := by
    cases l <;> simp [LK.D, LK.ty, sd, PySem.Spec.lookup, PySem.Spec.same]
  obtain ⟨v, hv, f⟩ := hf.of_lookup PyProof.V.same_str hl
  obtain ⟨as, q⟩ : ∃ as, Reads {} v (.str l.ty) as := ⟨_, f {}⟩
  cases q with
  | str x t => exact ⟨kvs, t, hd, hf, hv⟩
end Mine
end

-- part T2
section
open PySem PySem.W PySem.Calls PyProof.Rows PyProof.V
namespace Mine
abbrev adr (l : List (Addr × Obj)) : List Addr := l.map (·.1)

theorem mem_adr {l : List (Addr × Obj)} {q : Addr × Obj} (h : q ∈ l) : q.1 ∈ adr l := List.mem_map_of_mem h
theorem adr_mem {l : List (Addr × Obj)} {a : Addr} (h : a ∈ adr l) : ∃ q ∈ l, q.1 = a := by
  obtain ⟨q, hq, e⟩ := List.mem_map.mp h; exact ⟨q, hq, e⟩
theorem tbOff_of {own nx nx' : List (Addr × Obj)} (h : TbOff own nx) (k : ∀ a ∈ adr nx', a ∈ adr nx) : TbOff own nx' := fun p hp q hq e => by
  obtain ⟨r, hr, e'⟩ := adr_mem (k _ (mem_adr hq))
  exact h p hp r hr (by rw [e', e])
/-- what lies apart from the middle -/
theorem apart3 {a b c rest own : List (Addr × Obj)} (hn : (adr (a ++ (b ++ c))).Nodup) (hd : ∀ x ∈ adr (a ++ (b ++ c)), x ∉ adr rest) (ho : TbOff own (a ++ ((b ++ c) ++ rest))) :
    (∀ q ∈ a, ∀ r ∈ b, q.1 ≠ r.1) ∧ (∀ q ∈ c ++ (rest ++ own), ∀ r ∈ b, q.1 ≠ r.1) ∧ (adr b).Nodup := by
  simp only [adr, List.map_append] at hn hd
  obtain ⟨_, h2, h3⟩ := List.nodup_append.mp hn
  obtain ⟨h4, _, h5⟩ := List.nodup_append.mp h2
  refine ⟨fun q hq r hr => h3 _ (mem_adr hq) _ (List.mem_append_left _ (mem_adr hr)), fun q hq r hr e => ?_, h4⟩
  rcases List.mem_append.mp hq with hq | hq
  · exact h5 _ (mem_adr hr) _ (mem_adr hq) e.symm
  rcases List.mem_append.mp hq with hq | hq
  · exact hd r.1 (List.mem_append_right _ (List.mem_append_left _ (mem_adr hr))) (e ▸ mem_adr hq)
  · exact ho q hq r (List.mem_append_right _ (List.mem_append_left _ (List.mem_append_left _ hr))) e

theorem not_adr {a : Addr} {b : List (Addr × Obj)} (h : ∀ r ∈ b, a ≠ r.1) : a ∉ adr b := fun q => by
  obtain ⟨r, hr, e⟩ := adr_mem q
  exact h r hr e.symm
/-- a part of the ledger turned by a call -/
theorem news_swap {g h h' : Heap} {L : Addr} {a o o' c : List (Addr × Obj)} (N : News g L h (a ++ (o ++ c))) (hst : (hideAll h (adr o)).StaysIn h') (ha : adr o' = adr o) (hg : ∀ q ∈ o', h'.get? q.1 = some q.2)
    (q1 : ∀ q ∈ a, ∀ r ∈ o, q.1 ≠ r.1) (q2 : ∀ q ∈ c, ∀ r ∈ o, q.1 ≠ r.1) : News g L h' (a ++ (o' ++ c)) := by
  intro q hq
  rcases List.mem_append.mp hq with hq | hq
  · exact news_after (news_sub N fun x hx => List.mem_append_left _ hx) hst (fun x hx => not_adr (q1 x hx)) q hq
  rcases List.mem_append.mp hq with hq | hq
  · have : q.1 ∈ adr o := by rw [← ha]; exact mem_adr hq
    obtain ⟨r, hr, e⟩ := adr_mem this
    have z := (N r (List.mem_append_right _ (List.mem_append_left _ hr))).2
    rw [e] at z
    exact ⟨hg q hq, z⟩
  · exact news_after (news_sub N fun x hx => List.mem_append_right _ (List.mem_append_right _ hx)) hst (fun x hx => not_adr (q2 x hx)) q hq
theorem fr_swap {g h h' : Heap} {L : Addr} {m : Str → Option Value} {a o c : List (Addr × Obj)} (F : Fr g L h m) (N : News g L h (a ++ (o ++ c))) (hst : (hideAll h (adr o)).StaysIn h') : Fr g L h' m := by
  have hN : ∀ r ∈ o, h.get? r.1 = some r.2 ∧ r.1 ≠ L ∧ g.get? r.1 = none := fun r hr => N r (List.mem_append_right _ (List.mem_append_left _ hr))
  refine fr_after F hst (fun x hx => ?_) fun hx => ?_
  · obtain ⟨r, hr, rfl⟩ := adr_mem hx; exact (hN r hr).2.2
  · obtain ⟨r, hr, e⟩ := adr_mem hx; exact (hN r hr).2.1 e

theorem All3.nil_out {α β γ : Type} {R : α → β → List γ → Prop} {bs : List β} {os : List γ} (h : All3 R [] bs os) : bs = [] ∧ os = [] := by
  cases h; exact ⟨rfl, rfl⟩
theorem All3.whole {α β γ : Type} {R : α → β → List γ → Prop} {as : List α} {bs : List β} {os : List γ} {n : Nat} (h : All3 R (as.take n) (bs.take n) os) (ha : as.length = n) (hb : bs.length = n) : All3 R as bs os := by
  rw [List.take_of_length_le (Nat.le_of_eq ha), List.take_of_length_le (Nat.le_of_eq hb)] at h; exact h
theorem TkIn.leaf {w : World} {G : Addr → Obj → Prop} : ∀ {n : Nat} {v : Value} {l : LK} {os : List (Addr × Obj)}, TkIn w G n v (.leaf l) os → ∃ d o, v = .ref d ∧ os = [(d, o)] ∧ (d == sysModules) = false ∧ LeafObj w o l
  | 0, _, _, _, h => h
  | _ + 1, _, _, _, h => h
theorem TkIn.ofLeaf {w : World} {G : Addr → Obj → Prop} {d : Addr} {o : Obj} {l : LK} (lo : (d == sysModules) = false) (h : LeafObj w o l) : ∀ {n : Nat}, TkIn w G n (.ref d) (.leaf l) [(d, o)]
  | 0 => ⟨d, o, rfl, rfl, lo, h⟩
  | _ + 1 => ⟨d, o, rfl, rfl, lo, h⟩
theorem TkIn.head {w : World} {G : Addr → Obj → Prop} : ∀ {n : Nat} {v : Value} {b : Bool} {its : List (List Tk)} {os : List (Addr × Obj)}, TkIn w G n v (.lst b its) os →
    ∃ d o c t, v = .ref d ∧ G d o ∧ o.IsDictOf (K0 w) [(Str.ofString "type", .str (Str.ofString "list") t), (Str.ofString "tight", .bool b), (Str.ofString "children", .ref c)]
  | 0, _, _, _, _, h => h.elim
  | _ + 1, _, _, _, _, ⟨d, o, c, _, _, t, h1, h2, _, h4, _⟩ => ⟨d, o, c, t, h1, h2, h4⟩
theorem settle_leaf (l : LK) : ∀ n, settle n (.leaf l) = .leaf (if l = .para then .btextP else l)
  | 0 => by cases l <;> rfl
  | _ + 1 => by cases l <;> rfl

theorem putD_para {w : World} {o : Obj} {kvs : List (Str × Value)} {t : Tok} (hd : o.IsDictOf (K0 w) (stored kvs (Str.ofString "type") (.str (Str.ofString "block_text") t)))
    (hf : FlatPairs PyData.str (stored kvs (Str.ofString "type") (.str (Str.ofString "block_text") t)) (putD (.str (Str.ofString "type")) (.str (Str.ofString "block_text")) LK.para.D)) : LeafObj w o .btextP := by
  refine ⟨_, hd, ?_⟩
  have e : putD (.str (Str.ofString "type")) (.str (Str.ofString "block_text")) LK.para.D = LK.btextP.D := by with_unfolding_all rfl
  rw [e] at hf; exact hf
end Mine
end

-- part T3
section
open PySem PySem.W PySem.Calls PyProof.Rows PyProof.V
namespace Mine

theorem set_leaf {w : World} {A : Around} {E : Value → Shared → Prop} {s : Shared} {h₀ : Heap} {L d : Addr} {m : Str → Option Value} {pre post : List (Addr × Obj)} {o : Obj} {kvs : List (Str × Value)} {t t' : Tok} {Q : Unit → Shared → Prop}
    (F : Fr h₀ L s.heap m) (N : News h₀ L s.heap (pre ++ (d, o) :: post)) (h1 : ∀ q ∈ pre, q.1 ≠ d) (h2 : ∀ q ∈ post, q.1 ≠ d) (hd : o.IsDictOf (K0 w) kvs) (hf : FlatPairs PyData.str kvs LK.para.D)
    (h : ∀ h' o', Fr h₀ L h' m → News h₀ L h' (pre ++ (d, o') :: post) → LeafObj w o' .btextP → Q () { s with heap := h', toks := s.toks + 1 }) :
    wpAny (model PySem.Challenge.rw_fe5005_01.row.prog w) A (setItem (.ref d) (.str (Str.ofString "type") t) (.str (Str.ofString "block_text") t')) Q E s :=
  setItem_madeIn (k := Str.ofString "type") PyProof.V.same_str (strKind_is _ _ _ _) (Flat.str _ _) F N h1 h2 hd hf (fun h' o' F' N' a b => h h' o' F' N' (putD_para a b)) (by show LK.para.D.length ≤ sizeLine; rw [sizeLine_eq]; decide)

local macro_rules | `(tactic| walk_at "subscriptTail") => `(tactic| (k_here; (with_reducible show wpAny _ _ (subscriptTail _ _ (Value.ref _) (Value.str _ _)) _ _ _); k_dflt (first | (refine' item_ground ?k1 ?k2 ?k3 ?_; (case k1 => k_asm); (case k2 => with_reducible assumption); (case k3 => first | with_reducible assumption | with_unfolding_all rfl); k_whole) | (refine' kda_item (knd := K0 _) ?k1 ?k2 ?k3 ?k4 ?k5 ?_; (case k1 => k_asm); (case k2 => with_reducible assumption); (case k3 => with_reducible assumption); (case k4 => exact strKind_is _ _ _ _); (case k5 => with_reducible assumption); k_whole))))
local macro_rules | `(tactic| walk_at "setItem ref str") => `(tactic| (k_here; k_dflt (refine' set_leaf ?k1 ?k2 ?k3 ?k4 ?k5 ?k6 ?_; (case k1 => k_asm); (case k2 => k_asm); (case k3 => with_reducible assumption); (case k4 => with_reducible assumption); (case k5 => with_reducible assumption); (case k6 => with_reducible assumption); k_whole); intro h' o' F' N' lf'; (try k_sweep)))
local macro_rules | `(tactic| walk_at "exec For") => `(tactic| (k_here; (rename Fr _ _ _ _ => lF'); (with_unfolding_all refine' For_invVF lF' ?k1 ?k2 ?_; (case k1 => exact rfl); (case k2 => exact rfl); k_whole)))
local macro_rules | `(tactic| k_steps) => `(tactic| repeat' (first | (k_unfold; (try dsimp only)) | (k_end; wrow_close) | ((fail_if_success (with_reducible show wpAny _ _ (pyIter _) _ _ _)); (fail_if_success (with_reducible show wpAny _ _ (call (Value.ref _) _) _ _ _)); walk1) | (dsimp only; (fail_if_success (with_reducible show wpAny _ _ (pyIter _) _ _ _)); (fail_if_success (with_reducible show wpAny _ _ (call (Value.ref _) _) _ _ _)); walk1) | (leave1; walk_say "STEP leave1"; try dsimp only) | fail "no step"))

/-- the word of a def that settles: f its place, res what it hands back -/
def SettleAt (w : World) (p : Program) (loose : List Str) (mean : ExcName → Option Value) (mg mb : Str → Option Value) (f : Addr) (res : Value → Prop) (n : Nat) : Prop :=
  ∀ (h₀ : Heap) (G : Addr → Obj → Prop) (dp un : Nat) (fr : Option (List Env)) (gd : Option (List Code)) (s : Shared) (v : Value) (b : Bool) (its : List (List Tk)) (os : List (Addr × Obj)) (Q E : Value → Shared → Prop),
    h₀.StaysIn s.heap → (Mine.hd.heap_39 w.params).In h₀ → Top p loose mean mg mb h₀ → (∀ a o, G a o → h₀.get? a = some o) → TkIn w G n v (.lst b its) os → (adr os).Nodup → (∀ q ∈ os, s.heap.get? q.1 = some q.2) → (∀ q ∈ os, h₀.get? q.1 = none) →
    dp + 2 * n + 10 < recursionLimit →
    (∀ r os' h' tk', res r → (hideAll s.heap (adr os)).StaysIn h' → TkIn w G n v (settle n (.lst b its)) os' → adr os' = adr os → (∀ q ∈ os', h'.get? q.1 = some q.2) → Q r { s with heap := h', toks := tk' }) →
    wpAny (model PySem.Challenge.rw_fe5005_01.row.prog w) (ar dp un fr gd) (call (.ref f) [v]) Q E s

/-- between the turns over the items -/
def ItemsJ (w : World) (G : Addr → Obj → Prop) (n : Nat) (vs : List Value) (its : List (List Tk)) (os : List (Addr × Obj)) (i : Nat) (m : Str → Option Value) (nx : List (Addr × Obj)) : Prop :=
  ∃ os1 os2 c t, nx = os1 ++ os2 ∧ adr nx = adr os ∧ HasL [(Str.ofString "count", .int c t)] m ∧
    All3 (ItemIn w G (TkIn w G n)) (vs.take i) ((its.map fun ts => ts.map (settle n)).take i) os1 ∧
    All3 (ItemIn w G (TkIn w G n)) (vs.drop i) (its.drop i) os2
/-- between the turns over an item's tokens -/
def ToksJ (w : World) (G : Addr → Obj → Prop) (n : Nat) (vs : List Value) (ts : List Tk) (os rest : List (Addr × Obj)) (j : Nat) (m : Str → Option Value) (nx : List (Addr × Obj)) : Prop :=
  ∃ os1 os2 c t, nx = os1 ++ (os2 ++ rest) ∧ adr (os1 ++ os2) = adr os ∧ HasL [(Str.ofString "count", .int c t)] m ∧
    All3 (TkIn w G n) (vs.take j) ((ts.map (settle n)).take j) os1 ∧
    All3 (TkIn w G n) (vs.drop j) (ts.drop j) os2

theorem settle_step {w : World} {p : Program} {loose : List Str} {mean : ExcName → Option Value} {mg mb : Str → Option Value} {n : Nat}
    (IH : SettleAt w p loose mean mg mb 438 (fun r => ∃ i t, r = .int i t) n) : SettleAt w p loose mean mg mb 438 (fun r => ∃ i t, r = .int i t) (n + 1) := by
  intro h₀ G dp un fr gd s v b its os Q E k0 X T hGh ht hnd hos hos0 hd ret
  revert X; k_fill; intro X; w_top off
  refine' enter (K := Mine.hd.heap_39 w.params) (binds := [(Str.ofString "token", v)]) os k0 X T hos hos0 ?ko ?kc ?kr ?kb ?kl ?_ ?c1 ?c2 ?c3 ?c4
  case ko => k_is
  case kc => k_is
  case kr => show dp < recursionLimit; omega
  case kb => exact BindsTo.of_eq rfl
  case kl => exact locs rfl
  case c1 => exact rfl
  case c2 => exact rfl
  case c3 => exact rfl
  case c4 => decide
  intro g L' h₁ tk₁ hg hL k1 F N Xg Tg
  obtain ⟨d, o, c, vs, k, t, rfl, hG, lo, hD, hGc, hA⟩ := ht
  have hdk : g.DictOf (K0 w) d _ := Heap.dictOf_iff.mpr ⟨o, k1 _ _ (hGh _ _ hG), hD⟩
  have hlc : g.IsList c vs.toArray := ⟨_, k1 _ _ (hGh _ _ hGc), rfl, k, rfl⟩
  (try dsimp only)
  (try k_fold)
  cases b with
  | false =>
    k_steps
    all_goals (
      dsimp only
      (rename Fr _ _ _ _ => FE); (rename News _ _ _ _ => NE)
      exact ret _ os _ _ ⟨_, _, rfl⟩ (fun b o e => FE.keep b o (by rw [hg]; exact e)) ⟨d, o, c, vs, k, t, rfl, hG, lo, hD, hGc, hA⟩ rfl (fun q hq => (NE q hq).1))
  | true =>
    k_steps
    (rename Fr _ _ _ _ => F1); (rename News _ _ _ _ => N1)
    refine iter_list (ItemsJ w G n vs its os) rfl hlc F1 N1 ⟨[], os, _, _, rfl, rfl, HasL.cons rfl HasL.nil, All3.nil, hA⟩ ?_ ?_
    · rintro i v m₁ nx h tk own hv hoff ⟨os1, os2, cn, ct, rfl, hadr, hm, hA1, hA2⟩ F2 N2
      clear F1 N1
      obtain ⟨u, rfl⟩ := hm.form
      clear hm
      obtain ⟨ts, o2, os2', hts, rfl, ⟨d2, ob2, c2, vs2, k2, t2, rfl, hG2, lo2, hD2, hGc2, hA3⟩, hA2'⟩ := hA2.next hv
      have hdk2 : g.DictOf (K0 w) d2 _ := Heap.dictOf_iff.mpr ⟨ob2, k1 _ _ (hGh _ _ hG2), hD2⟩
      have hlc2 : g.IsList c2 vs2.toArray := ⟨_, k1 _ _ (hGh _ _ hGc2), rfl, k2, rfl⟩
      k_steps
      (rename Fr _ _ _ _ => F3); (rename News _ _ _ _ => N3)
      have hn1 : (adr (os1 ++ (o2 ++ os2'))).Nodup := by rw [hadr]; exact hnd
      obtain ⟨rest, hrest⟩ : ∃ rest, rest = os1 ++ (os2' ++ own) := ⟨_, rfl⟩
      have hn2 : (adr o2).Nodup ∧ ∀ x ∈ adr o2, x ∉ adr rest := by
        simp only [adr, List.map_append] at hn1
        obtain ⟨_, e2, e3⟩ := List.nodup_append.mp hn1
        obtain ⟨e4, _, e5⟩ := List.nodup_append.mp e2
        refine ⟨e4, fun x hx hr => ?_⟩
        rw [hrest] at hr
        simp only [adr, List.map_append, List.mem_append] at hr
        rcases hr with hr | hr | hr
        · exact e3 _ hr _ (List.mem_append_left _ hx) rfl
        · exact e5 _ hx _ hr rfl
        · obtain ⟨q, hq, e⟩ := adr_mem hr
          obtain ⟨r, hr', e'⟩ := adr_mem hx
          exact hoff q hq r (List.mem_append_right _ (List.mem_append_left _ hr')) (e.trans e'.symm)
      refine iter_list (ToksJ w G n vs2 ts o2 rest) rfl hlc2 F3 (news := o2 ++ rest) (news_sub N3 ?_) ⟨[], o2, _, _, rfl, rfl, HasL.cons rfl HasL.nil, All3.nil, hA3⟩ ?_ ?_
      · intro q hq
        rw [hrest] at hq
        simp only [List.mem_append] at hq ⊢
        rcases hq with hq | hq | hq | hq <;> simp [hq]
      · rintro j v3 m₃ nx3 h3 tk3 own3 hv3 hoff3 ⟨p1, p2, cn3, ct3, rfl, hadr3, hm3, hB1, hB2⟩ F4 N4
        (try clear F3); (try clear N3); (try clear F2); (try clear N2)
        obtain ⟨u3, rfl⟩ := hm3.form
        clear hm3
        obtain ⟨tk', o3, p2', htk, rfl, hR, hB2'⟩ := hB2.next hv3
        obtain ⟨q1, q2, q3⟩ := apart3 (a := p1) (b := o3) (c := p2') (rest := rest) (own := own3) (by rw [hadr3]; exact hn2.1) (by rw [hadr3]; exact hn2.2) hoff3
        have htk' : (ts.map (settle n))[j]? = some (settle n tk') := by rw [List.getElem?_map, htk]; rfl
        obtain ⟨post, hpost⟩ : ∃ post, post = p2' ++ (rest ++ own3) := ⟨_, rfl⟩
        rw [← hpost] at q2
        have N5 := N4
        have eN : (p1 ++ ((o3 ++ p2') ++ rest)) ++ own3 = p1 ++ (o3 ++ post) := by rw [hpost]; simp only [List.append_assoc]
        rw [eN] at N5
        clear N4
        -- the turn's end, whatever the token has become
        have fin : ∀ {o3' : List (Addr × Obj)} {h' : Heap} {tk9 : Nat} {m9 : Str → Option Value} {c9 : Int} {t9 : Tok} {tk8 : Nat}, Fr g L' h' m9 → News g L' h' (p1 ++ (o3' ++ post)) → adr o3' = adr o3 → m9 (Str.ofString "count") = some (.int c9 t9) →
            TkIn w G n v3 (settle n tk') o3' →
            TbEnd g L' (ToksJ w G n vs2 ts o2 rest (j + 1)) own3 { s with heap := h3, toks := tk8 } { s with heap := h', toks := tk9 } := by
          intro o3' h' tk9 m9 c9 t9 tk8 F9 N9 ha9 hc9 hR9
          refine turn_end (nx := (p1 ++ o3') ++ (p2' ++ rest)) F9 N9 ?_ ?_ ?_ ⟨p1 ++ o3', p2', c9, t9, rfl, ?_, HasL.cons hc9 HasL.nil, ?_, hB2'⟩
          · intro q hq; rw [hpost]; simp only [List.mem_append] at hq ⊢; rcases hq with (hq | hq) | hq | hq <;> simp [hq]
          · intro q hq; rw [hpost]; simp [hq]
          · refine tbOff_of hoff3 fun a ha => ?_
            simp only [adr, List.map_append, List.mem_append] at ha ⊢
            rw [show o3'.map (·.1) = o3.map (·.1) from ha9] at ha
            rcases ha with (ha | ha) | ha | ha <;> simp [ha]
          · rw [← hadr3]; simp only [adr, List.map_append]; rw [show o3'.map (·.1) = o3.map (·.1) from ha9]; simp only [List.append_assoc]
          · rw [take_snoc hv3, take_snoc htk']; exact hB1.snoc hR9
        cases tk' with
        | leaf l =>
          obtain ⟨d3, ob3, rfl, rfl, lo3, hl3⟩ := hR.leaf
          obtain ⟨kvs3, t3, hD3, hf3, hval3⟩ := hl3.word
          have hp3 : (d3, ob3) ∈ p1 ++ (d3, ob3) :: post := by simp
          have q1' : ∀ q ∈ p1, q.1 ≠ d3 := fun q hq => q1 q hq _ (.head _)
          have q2' : ∀ q ∈ post, q.1 ≠ d3 := fun q hq => q2 q hq _ (.head _)
          rw [settle_leaf] at fin
          simp only [List.singleton_append] at N5
          clear eN hpost hR
          cases l <;> simp only [LK.ty] at hval3
          all_goals k_steps
          all_goals ((rename Fr _ _ _ _ => FE); (rename News _ _ _ _ => NE))
          · exact fin (o3' := [(d3, _)]) FE NE rfl rfl (TkIn.ofLeaf lo3 (by assumption))
          all_goals exact fin (o3' := [(d3, ob3)]) FE NE rfl rfl (TkIn.ofLeaf lo3 hl3)
        | lst b3 its3 =>
          obtain ⟨d3, ob3, c3, t3, rfl, hG3, hD3⟩ := hR.head
          have hdk3 : g.DictOf (K0 w) d3 _ := Heap.dictOf_iff.mpr ⟨ob3, k1 _ _ (hGh _ _ hG3), hD3⟩
          k_steps
          (rename Fr _ _ _ _ => F6); (rename News _ _ _ _ => N6)
          refine IH h₀ G _ _ _ _ _ _ _ _ _ _ _ (fun b o e => F6.keep b o (k1 b o e)) X T hGh hR q3 (fun q hq => (N6 q (List.mem_append_right _ (List.mem_append_left _ hq))).1) ?_ ?_ ?_
          · intro q hq
            have z := (N6 q (List.mem_append_right _ (List.mem_append_left _ hq))).2.2
            cases y : h₀.get? q.1 with
            | none => rfl
            | some o => rw [k1 _ _ y] at z; cases z
          · show dp + 1 + 2 * n + 10 < recursionLimit; omega
          · rintro r o3' h' tk9 ⟨ri, rt, rfl⟩ hst hT3 ha3 hg3
            have F7 := fr_swap F6 N6 hst
            have N7 := news_swap N6 hst ha3 hg3 q1 q2
            clear F6 N6 hst
            (try dsimp only)
            k_steps
            all_goals ((rename Fr _ _ _ _ => FE); (rename News _ _ _ _ => NE))
            exact fin FE NE ha3 rfl hT3
      · rintro m₃ nx3 h3 tk3 ⟨p1, p2, cn3, ct3, rfl, hadr3, hm3, hB1, hB2⟩ F4 N4
        (try clear F3); (try clear N3); (try clear F2); (try clear N2)
        obtain ⟨u3, rfl⟩ := hm3.form
        clear hm3
        rw [List.drop_length] at hB2
        obtain ⟨_, rfl⟩ := hB2.nil_out
        rw [List.append_nil] at hadr3
        k_steps
        all_goals ((rename Fr _ _ _ _ => FE); (rename News _ _ _ _ => NE))
        refine turn_end (nx := (os1 ++ p1) ++ os2') FE NE ?_ ?_ ?_ ⟨os1 ++ p1, os2', _, _, rfl, ?_, HasL.cons rfl HasL.nil, ?_, hA2'⟩
        · intro q hq; rw [hrest]; simp only [List.mem_append] at hq ⊢; rcases hq with (hq | hq) | hq <;> simp [hq]
        · intro q hq; rw [hrest]; simp [hq]
        · refine tbOff_of hoff fun a ha => ?_
          simp only [adr, List.map_append, List.mem_append] at ha ⊢
          rw [show p1.map (·.1) = o2.map (·.1) from hadr3] at ha
          rcases ha with (ha | ha) | ha <;> simp [ha]
        · rw [← hadr]; simp only [adr, List.map_append]; rw [show p1.map (·.1) = o2.map (·.1) from hadr3]; simp only [List.append_assoc]
        · rw [take_snoc hv, take_snoc (show (its.map fun ts => ts.map (settle n))[i]? = some (ts.map (settle n)) by rw [List.getElem?_map, hts]; rfl)]
          exact hA1.snoc ⟨d2, ob2, c2, vs2, k2, t2, rfl, hG2, lo2, hD2, hGc2, hB1.whole rfl (by rw [List.length_map]; exact hA3.length.symm)⟩
    · rintro m₁ nx h tk ⟨os1, os2, cn, ct, rfl, hadr, hm, hA1, hA2⟩ F2 N2
      (try clear F1); (try clear N1)
      obtain ⟨u, rfl⟩ := hm.form
      clear hm
      rw [List.drop_length] at hA2
      obtain ⟨_, rfl⟩ := hA2.nil_out
      rw [List.append_nil] at hadr N2
      k_steps
      all_goals (
        dsimp only
        (rename Fr _ _ _ _ => FE); (rename News _ _ _ _ => NE)
        exact ret _ os1 _ _ ⟨_, _, rfl⟩ (fun b o e => FE.keep b o (by rw [hg]; exact e)) ⟨d, o, c, vs, k, t, rfl, hG, lo, hD, hGc, hA1.whole rfl (by rw [List.length_map]; exact hA.length.symm)⟩ hadr (fun q hq => (NE q hq).1))
end Mine
end

-- part T4
section
open PySem PySem.W PySem.Calls PyProof.Rows PyProof.V
namespace Mine
local macro_rules | `(tactic| walk_at "subscriptTail") => `(tactic| (k_here; (with_reducible show wpAny _ _ (subscriptTail _ _ (Value.ref _) (Value.str _ _)) _ _ _); k_dflt (first | (refine' item_ground ?k1 ?k2 ?k3 ?_; (case k1 => k_asm); (case k2 => with_reducible assumption); (case k3 => first | with_reducible assumption | with_unfolding_all rfl); k_whole) | (refine' kda_item (knd := K0 _) ?k1 ?k2 ?k3 ?k4 ?k5 ?_; (case k1 => k_asm); (case k2 => with_reducible assumption); (case k3 => with_reducible assumption); (case k4 => exact strKind_is _ _ _ _); (case k5 => with_reducible assumption); k_whole))))
local macro_rules | `(tactic| walk_at "setItem ref str") => `(tactic| (k_here; k_dflt (refine' set_leaf ?k1 ?k2 ?k3 ?k4 ?k5 ?k6 ?_; (case k1 => k_asm); (case k2 => k_asm); (case k3 => with_reducible assumption); (case k4 => with_reducible assumption); (case k5 => with_reducible assumption); (case k6 => with_reducible assumption); k_whole); intro h' o' F' N' lf'; (try k_sweep)))
local macro_rules | `(tactic| walk_at "exec For") => `(tactic| (k_here; (rename Fr _ _ _ _ => lF'); (with_unfolding_all refine' For_invVF lF' ?k1 ?k2 ?_; (case k1 => exact rfl); (case k2 => exact rfl); k_whole)))
local macro_rules | `(tactic| k_steps) => `(tactic| repeat' (first | (k_unfold; (try dsimp only)) | (k_end; wrow_close) | ((fail_if_success (with_reducible show wpAny _ _ (pyIter _) _ _ _)); (fail_if_success (with_reducible show wpAny _ _ (call (Value.ref _) _) _ _ _)); walk1) | (dsimp only; (fail_if_success (with_reducible show wpAny _ _ (pyIter _) _ _ _)); (fail_if_success (with_reducible show wpAny _ _ (call (Value.ref _) _) _ _ _)); walk1) | (leave1; walk_say "STEP leave1"; try dsimp only) | fail "no step"))
/-- between the turns over the items -/
def ItemsJ2 (w : World) (G : Addr → Obj → Prop) (n : Nat) (vs : List Value) (its : List (List Tk)) (os : List (Addr × Obj)) (i : Nat) (_ : Str → Option Value) (nx : List (Addr × Obj)) : Prop :=
  ∃ os1 os2, nx = os1 ++ os2 ∧ adr nx = adr os ∧
    All3 (ItemIn w G (TkIn w G n)) (vs.take i) ((its.map fun ts => ts.map (settle n)).take i) os1 ∧
    All3 (ItemIn w G (TkIn w G n)) (vs.drop i) (its.drop i) os2
/-- between the turns over an item's tokens -/
def ToksJ2 (w : World) (G : Addr → Obj → Prop) (n : Nat) (vs : List Value) (ts : List Tk) (os rest : List (Addr × Obj)) (j : Nat) (_ : Str → Option Value) (nx : List (Addr × Obj)) : Prop :=
  ∃ os1 os2, nx = os1 ++ (os2 ++ rest) ∧ adr (os1 ++ os2) = adr os ∧
    All3 (TkIn w G n) (vs.take j) ((ts.map (settle n)).take j) os1 ∧
    All3 (TkIn w G n) (vs.drop j) (ts.drop j) os2

theorem transform_step {w : World} {p : Program} {loose : List Str} {mean : ExcName → Option Value} {mg mb : Str → Option Value} {n : Nat}
    (IH : SettleAt w p loose mean mg mb 52 (fun r => r = .none) n) : SettleAt w p loose mean mg mb 52 (fun r => r = .none) (n + 1) := by
  intro h₀ G dp un fr gd s v b its os Q E k0 X T hGh ht hnd hos hos0 hd ret
  revert X; k_fill; intro X; w_top off
  refine' enter (K := Mine.hd.heap_39 w.params) (binds := [(Str.ofString "token", v)]) os k0 X T hos hos0 ?ko ?kc ?kr ?kb ?kl ?_ ?c1 ?c2 ?c3 ?c4
  case ko => k_is
  case kc => k_is
  case kr => show dp < recursionLimit; omega
  case kb => exact BindsTo.of_eq rfl
  case kl => exact locs rfl
  case c1 => exact rfl
  case c2 => exact rfl
  case c3 => exact rfl
  case c4 => decide
  intro g L' h₁ tk₁ hg hL k1 F N Xg Tg
  obtain ⟨d, o, c, vs, k, t, rfl, hG, lo, hD, hGc, hA⟩ := ht
  have hdk : g.DictOf (K0 w) d _ := Heap.dictOf_iff.mpr ⟨o, k1 _ _ (hGh _ _ hG), hD⟩
  have hlc : g.IsList c vs.toArray := ⟨_, k1 _ _ (hGh _ _ hGc), rfl, k, rfl⟩
  (try dsimp only)
  (try k_fold)
  cases b with
  | false =>
    k_steps
    all_goals (
      dsimp only
      (rename Fr _ _ _ _ => FE); (rename News _ _ _ _ => NE)
      exact ret _ os _ _ rfl (fun b o e => FE.keep b o (by rw [hg]; exact e)) ⟨d, o, c, vs, k, t, rfl, hG, lo, hD, hGc, hA⟩ rfl (fun q hq => (NE q hq).1))
  | true =>
    k_steps
    (rename Fr _ _ _ _ => F1); (rename News _ _ _ _ => N1)
    refine iter_list (ItemsJ2 w G n vs its os) rfl hlc F1 N1 ⟨[], os, rfl, rfl, All3.nil, hA⟩ ?_ ?_
    · rintro i v m₁ nx h tk own hv hoff ⟨os1, os2, rfl, hadr, hA1, hA2⟩ F2 N2
      clear F1 N1
      obtain ⟨ts, o2, os2', hts, rfl, ⟨d2, ob2, c2, vs2, k2, t2, rfl, hG2, lo2, hD2, hGc2, hA3⟩, hA2'⟩ := hA2.next hv
      have hdk2 : g.DictOf (K0 w) d2 _ := Heap.dictOf_iff.mpr ⟨ob2, k1 _ _ (hGh _ _ hG2), hD2⟩
      have hlc2 : g.IsList c2 vs2.toArray := ⟨_, k1 _ _ (hGh _ _ hGc2), rfl, k2, rfl⟩
      k_steps
      (rename Fr _ _ _ _ => F3); (rename News _ _ _ _ => N3)
      have hn1 : (adr (os1 ++ (o2 ++ os2'))).Nodup := by rw [hadr]; exact hnd
      obtain ⟨rest, hrest⟩ : ∃ rest, rest = os1 ++ (os2' ++ own) := ⟨_, rfl⟩
      have hn2 : (adr o2).Nodup ∧ ∀ x ∈ adr o2, x ∉ adr rest := by
        simp only [adr, List.map_append] at hn1
        obtain ⟨_, e2, e3⟩ := List.nodup_append.mp hn1
        obtain ⟨e4, _, e5⟩ := List.nodup_append.mp e2
        refine ⟨e4, fun x hx hr => ?_⟩
        rw [hrest] at hr
        simp only [adr, List.map_append, List.mem_append] at hr
        rcases hr with hr | hr | hr
        · exact e3 _ hr _ (List.mem_append_left _ hx) rfl
        · exact e5 _ hx _ hr rfl
        · obtain ⟨q, hq, e⟩ := adr_mem hr
          obtain ⟨r, hr', e'⟩ := adr_mem hx
          exact hoff q hq r (List.mem_append_right _ (List.mem_append_left _ hr')) (e.trans e'.symm)
      refine iter_list (ToksJ2 w G n vs2 ts o2 rest) rfl hlc2 F3 (news := o2 ++ rest) (news_sub N3 ?_) ⟨[], o2, rfl, rfl, All3.nil, hA3⟩ ?_ ?_
      · intro q hq
        rw [hrest] at hq
        simp only [List.mem_append] at hq ⊢
        rcases hq with hq | hq | hq | hq <;> simp [hq]
      · rintro j v3 m₃ nx3 h3 tk3 own3 hv3 hoff3 ⟨p1, p2, rfl, hadr3, hB1, hB2⟩ F4 N4
        (try clear F3); (try clear N3); (try clear F2); (try clear N2)
        obtain ⟨tk', o3, p2', htk, rfl, hR, hB2'⟩ := hB2.next hv3
        obtain ⟨q1, q2, q3⟩ := apart3 (a := p1) (b := o3) (c := p2') (rest := rest) (own := own3) (by rw [hadr3]; exact hn2.1) (by rw [hadr3]; exact hn2.2) hoff3
        have htk' : (ts.map (settle n))[j]? = some (settle n tk') := by rw [List.getElem?_map, htk]; rfl
        obtain ⟨post, hpost⟩ : ∃ post, post = p2' ++ (rest ++ own3) := ⟨_, rfl⟩
        rw [← hpost] at q2
        have N5 := N4
        have eN : (p1 ++ ((o3 ++ p2') ++ rest)) ++ own3 = p1 ++ (o3 ++ post) := by rw [hpost]; simp only [List.append_assoc]
        rw [eN] at N5
        clear N4
        -- the turn's end, whatever the token has become
        have fin : ∀ {o3' : List (Addr × Obj)} {h' : Heap} {tk9 : Nat} {m9 : Str → Option Value} {tk8 : Nat}, Fr g L' h' m9 → News g L' h' (p1 ++ (o3' ++ post)) → adr o3' = adr o3 →
            TkIn w G n v3 (settle n tk') o3' →
            TbEnd g L' (ToksJ2 w G n vs2 ts o2 rest (j + 1)) own3 { s with heap := h3, toks := tk8 } { s with heap := h', toks := tk9 } := by
          intro o3' h' tk9 m9 tk8 F9 N9 ha9 hR9
          refine turn_end (nx := (p1 ++ o3') ++ (p2' ++ rest)) F9 N9 ?_ ?_ ?_ ⟨p1 ++ o3', p2', rfl, ?_, ?_, hB2'⟩
          · intro q hq; rw [hpost]; simp only [List.mem_append] at hq ⊢; rcases hq with (hq | hq) | hq | hq <;> simp [hq]
          · intro q hq; rw [hpost]; simp [hq]
          · refine tbOff_of hoff3 fun a ha => ?_
            simp only [adr, List.map_append, List.mem_append] at ha ⊢
            rw [show o3'.map (·.1) = o3.map (·.1) from ha9] at ha
            rcases ha with (ha | ha) | ha | ha <;> simp [ha]
          · rw [← hadr3]; simp only [adr, List.map_append]; rw [show o3'.map (·.1) = o3.map (·.1) from ha9]; simp only [List.append_assoc]
          · rw [take_snoc hv3, take_snoc htk']; exact hB1.snoc hR9
        cases tk' with
        | leaf l =>
          obtain ⟨d3, ob3, rfl, rfl, lo3, hl3⟩ := hR.leaf
          obtain ⟨kvs3, t3, hD3, hf3, hval3⟩ := hl3.word
          have hp3 : (d3, ob3) ∈ p1 ++ (d3, ob3) :: post := by simp
          have q1' : ∀ q ∈ p1, q.1 ≠ d3 := fun q hq => q1 q hq _ (.head _)
          have q2' : ∀ q ∈ post, q.1 ≠ d3 := fun q hq => q2 q hq _ (.head _)
          rw [settle_leaf] at fin
          simp only [List.singleton_append] at N5
          clear eN hpost hR
          cases l <;> simp only [LK.ty] at hval3
          all_goals k_steps
          all_goals ((rename Fr _ _ _ _ => FE); (rename News _ _ _ _ => NE))
          · exact fin (o3' := [(d3, _)]) FE NE rfl (TkIn.ofLeaf lo3 (by assumption))
          all_goals exact fin (o3' := [(d3, ob3)]) FE NE rfl (TkIn.ofLeaf lo3 hl3)
        | lst b3 its3 =>
          obtain ⟨d3, ob3, c3, t3, rfl, hG3, hD3⟩ := hR.head
          have hdk3 : g.DictOf (K0 w) d3 _ := Heap.dictOf_iff.mpr ⟨ob3, k1 _ _ (hGh _ _ hG3), hD3⟩
          k_steps
          (rename Fr _ _ _ _ => F6); (rename News _ _ _ _ => N6)
          refine IH h₀ G _ _ _ _ _ _ _ _ _ _ _ (fun b o e => F6.keep b o (k1 b o e)) X T hGh hR q3 (fun q hq => (N6 q (List.mem_append_right _ (List.mem_append_left _ hq))).1) ?_ ?_ ?_
          · intro q hq
            have z := (N6 q (List.mem_append_right _ (List.mem_append_left _ hq))).2.2
            cases y : h₀.get? q.1 with
            | none => rfl
            | some o => rw [k1 _ _ y] at z; cases z
          · show dp + 1 + 2 * n + 10 < recursionLimit; omega
          · rintro r o3' h' tk9 rfl hst hT3 ha3 hg3
            have F7 := fr_swap F6 N6 hst
            have N7 := news_swap N6 hst ha3 hg3 q1 q2
            clear F6 N6 hst
            (try dsimp only)
            k_steps
            all_goals ((rename Fr _ _ _ _ => FE); (rename News _ _ _ _ => NE))
            exact fin FE NE ha3 hT3
      · rintro m₃ nx3 h3 tk3 ⟨p1, p2, rfl, hadr3, hB1, hB2⟩ F4 N4
        (try clear F3); (try clear N3); (try clear F2); (try clear N2)
        rw [List.drop_length] at hB2
        obtain ⟨_, rfl⟩ := hB2.nil_out
        rw [List.append_nil] at hadr3
        k_steps
        all_goals ((rename Fr _ _ _ _ => FE); (rename News _ _ _ _ => NE))
        refine turn_end (nx := (os1 ++ p1) ++ os2') FE NE ?_ ?_ ?_ ⟨os1 ++ p1, os2', rfl, ?_, ?_, hA2'⟩
        · intro q hq; rw [hrest]; simp only [List.mem_append] at hq ⊢; rcases hq with (hq | hq) | hq <;> simp [hq]
        · intro q hq; rw [hrest]; simp [hq]
        · refine tbOff_of hoff fun a ha => ?_
          simp only [adr, List.map_append, List.mem_append] at ha ⊢
          rw [show p1.map (·.1) = o2.map (·.1) from hadr3] at ha
          rcases ha with (ha | ha) | ha <;> simp [ha]
        · rw [← hadr]; simp only [adr, List.map_append]; rw [show p1.map (·.1) = o2.map (·.1) from hadr3]; simp only [List.append_assoc]
        · rw [take_snoc hv, take_snoc (show (its.map fun ts => ts.map (settle n))[i]? = some (ts.map (settle n)) by rw [List.getElem?_map, hts]; rfl)]
          exact hA1.snoc ⟨d2, ob2, c2, vs2, k2, t2, rfl, hG2, lo2, hD2, hGc2, hB1.whole rfl (by rw [List.length_map]; exact hA3.length.symm)⟩
    · rintro m₁ nx h tk ⟨os1, os2, rfl, hadr, hA1, hA2⟩ F2 N2
      (try clear F1); (try clear N1)
      rw [List.drop_length] at hA2
      obtain ⟨_, rfl⟩ := hA2.nil_out
      rw [List.append_nil] at hadr N2
      k_steps
      all_goals (
        dsimp only
        (rename Fr _ _ _ _ => FE); (rename News _ _ _ _ => NE)
        exact ret _ os1 _ _ rfl (fun b o e => FE.keep b o (by rw [hg]; exact e)) ⟨d, o, c, vs, k, t, rfl, hG, lo, hD, hGc, hA1.whole rfl (by rw [List.length_map]; exact hA.length.symm)⟩ hadr (fun q hq => (NE q hq).1))
end Mine
end

-- part T5
section
open PySem PySem.W PySem.Calls PyProof.Rows PyProof.V
namespace Mine
theorem settleAt_zero {w : World} {p : Program} {loose : List Str} {mean : ExcName → Option Value} {mg mb : Str → Option Value} {f : Addr} {res : Value → Prop} : SettleAt w p loose mean mg mb f res 0 := by
  intro h₀ G dp un fr gd s v b its os Q E k0 X T hGh ht
  exact ht.elim
theorem settle_spec {w : World} {p : Program} {loose : List Str} {mean : ExcName → Option Value} {mg mb : Str → Option Value} : ∀ n, SettleAt w p loose mean mg mb 438 (fun r => ∃ i t, r = .int i t) n
  | 0 => settleAt_zero
  | n + 1 => settle_step (settle_spec n)
theorem transform_spec {w : World} {p : Program} {loose : List Str} {mean : ExcName → Option Value} {mg mb : Str → Option Value} : ∀ n, SettleAt w p loose mean mg mb 52 (fun r => r = .none) n
  | 0 => settleAt_zero
  | n + 1 => transform_step (transform_spec n)
end Mine
end

-- part Q1
section
open PySem PySem.W PySem.Calls PyProof.Rows PyProof.V
namespace Mine
section
variable {prog : Program} {w : World} {A : Around} {s : Shared}
/-- in this run of this text the two are told equal -/
def EqTo (prog : Program) (w : World) (A : Around) (s : Shared) (v y : Value) : Prop := ∀ (Q : Bool → Shared → Prop) (E : Value → Shared → Prop), Q true s → wpAny (model prog w) A (eqBool v y) Q E s
def RcTo (prog : Program) (w : World) (A : Around) (s : Shared) (v y : Value) : Prop := ∀ (Q : Value → Shared → Prop) (E : Value → Shared → Prop), Q (.bool true) s → wpAny (model prog w) A (richCompare .Eq v y) Q E s

theorem EqTo.ofAt {v y : Value} (h : SeqAt.EqAt A s v y true) : EqTo prog w A s v y := fun Q E q => h prog w E Q q
theorem EqTo.refs {a b : Addr} (h : a ≠ b → RcTo prog w A s (.ref a) (.ref b)) : EqTo prog w A s (.ref a) (.ref b) := by
  by_cases e : a = b
  · rw [e]; exact .ofAt (SeqAt.EqAt.same _)
  · intro Q E q
    unfold eqBool
    refine wpAny_holding (wpAny_ite_split (fun same => ?_) fun _ => wpAny_bind (h e _ E (wpAny_truthy_bool q)))
    injection eq_of_beq same with e'
    exact absurd e' e

/-- the loop over the two lists, all equal -/
theorem seqs_from {a b : Addr} {xs ys : Array Value} {na nb : Nat} (hlen : xs.size = ys.size) : ∀ (k i : Nat), xs.size = i + k →
    MeetsIn prog w (Builtin.«list.__eq__.loop» ⟨[.ref a, .ref b, rawInt i, rawInt 2], []⟩)
      (fun A R s => s.heap.get? a = some { cls := .type "list", data := .seq xs na } ∧ s.heap.get? b = some { cls := .type "list", data := .seq ys nb } ∧
        (∀ j (h1 : j < xs.size) (h2 : j < ys.size), EqTo prog w A.in1 s xs[j] ys[j]) ∧ R (.ok (.ret (.bool true))) s) := by
  intro k
  induction k with
  | zero =>
    intro i hi A R s hyp
    obtain ⟨hp, gn, dr, tk, os⟩ := s
    obtain ⟨ha, hb, _, hR⟩ := hyp
    have h1 : xs[((i : Nat) : Int).toNat]? = none := by simp; omega
    have h2 : ys[((i : Nat) : Int).toNat]? = none := by simp; omega
    wp_walk using wpAny_loadPart' ha, wpAny_loadPart' hb
    rw [h1, h2]
    wp_walk using wpAny_loadPart' ha, wpAny_loadPart' hb
    show R (.ok (.ret (.bool (xs.size == ys.size)))) _
    rw [hlen, beq_self_eq_true]
    exact hR
  | succ k ih =>
    intro i hi A R s hyp
    obtain ⟨hp, gn, dr, tk, os⟩ := s
    obtain ⟨ha, hb, he, hR⟩ := hyp
    have l1 : i < xs.size := by omega
    have l2 : i < ys.size := by omega
    have h1 : xs[((i : Nat) : Int).toNat]? = some xs[i] := by simp [l1]
    have h2 : ys[((i : Nat) : Int).toNat]? = some ys[i] := by simp [l2]
    have hc : ((i : Int) + 1) = ((i + 1 : Nat) : Int) := by omega
    wp_walk using wpAny_loadPart' ha, wpAny_loadPart' hb
    rw [h1, h2]
    refine wpAny_bind (he i l1 l2 _ _ ?_)
    wp_walk
    rw [hc]
    refine ⟨plainId_quiet (by decide +kernel) _, codeAny_builtin (b := Builtin.«list.__eq__.loop») (entryFor_of_fast (by kernel_rfl)) ?_⟩
    rw [Around.under_plainId (by decide +kernel) _]
    exact ih (i + 1) (by omega) A R _ ⟨ha, hb, he, hR⟩

theorem RcTo.lists {a b : Addr} {xs ys : Array Value} {na nb : Nat} (ha : s.heap.get? a = some { cls := .type "list", data := .seq xs na }) (hb : s.heap.get? b = some { cls := .type "list", data := .seq ys nb })
    (hlen : xs.size = ys.size) (hu : A.units < cLine) (he : ∀ j (h1 : j < xs.size) (h2 : j < ys.size), EqTo prog w A.in1 s xs[j] ys[j]) : RcTo prog w A s (.ref a) (.ref b) := by
  intro Q E q
  have whole : MeetsIn prog w (Builtin.«list.__eq__» ⟨[.ref a, .ref b], []⟩)
      (fun A R s => s.heap.get? a = some { cls := .type "list", data := .seq xs na } ∧ s.heap.get? b = some { cls := .type "list", data := .seq ys nb } ∧
        (∀ j (h1 : j < xs.size) (h2 : j < ys.size), EqTo prog w A.in1 s xs[j] ys[j]) ∧ R (.ok (.ret (.bool true))) s) := by
    intro A R s hyp
    obtain ⟨hp, gn, dr, tk, os⟩ := s
    obtain ⟨ha, hb, he, hR⟩ := hyp
    have f3 := AutoSeq1.sub_list_list
    have hne : ¬ (xs.size != ys.size) = true := by simp [hlen]
    wp_walk using wpAny_loadPart' ha, wpAny_loadPart' hb
    refine ⟨plainId_quiet (by decide +kernel) _, codeAny_builtin (b := Builtin.«list.__eq__.loop») (entryFor_of_fast (by kernel_rfl)) ?_⟩
    rw [Around.under_plainId (by decide +kernel) _]
    exact seqs_from hlen xs.size 0 (by omega) A R _ ⟨ha, hb, he, hR⟩
  refine wpAny_richCompare_same_room (op := .Eq) ⟨_, ha, rfl⟩ ⟨_, hb, rfl⟩ F.slot_list_eq (call_meetsIn F.slot_list_eq ⟨_, ha, rfl⟩ F.entry_list_eq (F.args_list_eq_2 _ _) whole ⟨ha, hb, he, ?_⟩) hu
  exact ⟨(fun x => nomatch x), q⟩

/-- the rows of two dicts with the same words, each pair of values told equal -/
theorem rows_same {nm : String} {a b : Addr} {ka kb : List (Str × Value)} {Q : Bool → Shared → Prop} {E : Value → Shared → Prop} (la : (a == sysModules) = false) (lb : (b == sysModules) = false)
    (da : s.heap.DictOf (PySem.strKind prog w) a ka) (db : s.heap.DictOf (PySem.strKind prog w) b kb) (hlen : ka.length = kb.length)
    (he : ∀ q ∈ ka, ∃ y, valueAt kb q.1 = some y ∧ EqTo prog w A s q.2 y) (h : Q true s) : wpAny (model prog w) A (Builtin.Dict.samePairs nm a b) Q E s := by
  obtain ⟨oa, ea, na, hoa, _, hda, hka, hpa, _⟩ := da
  obtain ⟨ob, eb, nb, hob, _, hdb, hkb, hpb, _⟩ := db
  have za : ea.size = ka.length := by rw [← Array.length_toList]; exact hpa.length
  have zb : eb.size = kb.length := by rw [← Array.length_toList]; exact hpb.length
  have zz : ea.size = eb.size := by omega
  unfold Builtin.Dict.samePairs Builtin.Dict.showsAll
  simp only [la, lb, Bool.false_eq_true, if_false]
  refine wpAny_bind (wpAny_pure (wpAny_bind (wpAny_pure (wpAny_bind (wpAny_dictEntries hoa hda (wpAny_bind (wpAny_dictEntries hob hdb ?_)))))))
  simp only [zz, bne_self_eq_false, Bool.false_eq_true, if_false]
  refine wpAny_bind (wpAny_dictEpoch hoa hda (wpAny_bind ?_))
  rw [Std.Legacy.Range.forIn_eq_forIn_range']
  simp only [Std.Legacy.Range.size, Nat.sub_zero, Nat.add_sub_cancel, Nat.div_one]
  refine wpAny_forIn_list _ (fun rest q s' => s' = s ∧ q = (none, ()) ∧ ∃ i, rest = List.range' i (eb.size - i)) _ ?_ ?_ _ _ ⟨rfl, rfl, 0, by simp⟩
  · rintro x rest q s' ⟨rfl, rfl, i, hr⟩
    have hlt : i < eb.size := by
      rcases Nat.lt_or_ge i eb.size with h | h
      · exact h
      · rw [Nat.sub_eq_zero_of_le h] at hr; cases hr
    have hr' : x = i ∧ rest = List.range' (i + 1) (eb.size - (i + 1)) := by
      rw [show eb.size - i = (eb.size - (i + 1)) + 1 by omega, List.range'_succ] at hr
      injection hr with e1 e2
      exact ⟨e1, e2⟩
    obtain ⟨rfl, hrest⟩ := hr'
    have hlt' : x < ea.size := by omega
    have hk : x < ka.length := by omega
    refine wpAny_bind (wpAny_dictEntries hoa hda ?_)
    rw [Array.getElem?_eq_getElem hlt']
    obtain ⟨hkey, hval⟩ := hpa.get? (i := x) (e := ea[x]) (k := ka[x].1) (v := ka[x].2) (by rw [Array.getElem?_toList]; exact Array.getElem?_eq_getElem hlt') (List.getElem?_eq_getElem hk)
    obtain ⟨k', hk', hh⟩ := hka ea[x] (Array.getElem_mem hlt')
    obtain ⟨y, hy, hey⟩ := he ka[x] (List.getElem_mem hk)
    have hfind : findBy (PySem.strKind prog w).is eb ka[x].1 = some y := by
      rw [← hy, ← hpb.find ka[x].1]
      unfold findBy
      rw [← Array.find?_toList]
    dsimp only
    rw [hh, (PySem.strKind prog w).inj _ _ _ hk' hkey]
    refine wpAny_bind (wpAny_holding (wpAny_bind (wpAny_dictFind_of hkey hob hdb hkb ?_)))
    rw [findBy_of_findIdx?] at hfind
    cases hj : eb.findIdx? fun e => (PySem.strKind prog w).is ka[x].1 e.key with
    | none => rw [hj] at hfind; cases hfind
    | some j =>
      rw [hj] at hfind
      obtain ⟨hjlt, _, _⟩ := Array.findIdx?_eq_some_iff_getElem.mp hj
      have ey : eb[j].val = y := by simpa [Array.getElem?_eq_getElem hjlt] using hfind
      refine wpAny_bind (wpAny_dictEntries hob hdb ?_)
      rw [Array.getElem?_eq_getElem hjlt]
      refine wpAny_holding ?_
      rw [ey, hval]
      refine hey _ _ ?_
      show wpAny _ _ (if (!true) = true then _ else _) _ _ _
      rw [if_neg (by decide)]
      refine wpAny_bind (wpAny_dictEpoch hoa hda ?_)
      rw [if_neg (by simp)]
      exact wpAny_pure ⟨rfl, rfl, x + 1, hrest⟩
  · rintro q s' ⟨rfl, rfl, _⟩
    exact wpAny_pure h

theorem RcTo.dicts {a b : Addr} {ka kb : List (Str × Value)} (la : (a == sysModules) = false) (lb : (b == sysModules) = false) (da : s.heap.DictOf (PySem.strKind prog w) a ka) (db : s.heap.DictOf (PySem.strKind prog w) b kb)
    (hlen : ka.length = kb.length) (hu : A.units < cLine) (he : ∀ q ∈ ka, ∃ y, valueAt kb q.1 = some y ∧ EqTo prog w A.in1 s q.2 y) : RcTo prog w A s (.ref a) (.ref b) := by
  intro Q E q
  refine wpAny_richCompare_same_room (op := .Eq) da.typeIs db.typeIs PySem.F.slot_dict_eq (wpAny_call_entry PySem.F.slot_dict_eq da.typeIs PySem.F.entry_dict_eq ?_ (PySem.F.args_dict_eq_2 _ _)) hu
  show wpAny _ _ (Builtin.Dict.dictSlotArgs "__eq__" ⟨[.ref a, .ref b], []⟩ >>= _) _ _ s
  refine wpAny_bind ?_
  unfold Builtin.Dict.dictSlotArgs
  refine wpAny_bind (wpAny_notOrdered_dict da.typeIs (wpAny_pure (wpAny_bind (wpAny_isInstance (T := "dict") db.typeIs PySem.F.sub_dict_dict ?_))))
  simp only [Bool.not_true, Bool.false_eq_true, if_false]
  refine wpAny_bind (wpAny_pure (wpAny_bind (wpAny_pure (wpAny_bind (rows_same la lb da db hlen he (wpAny_pure ⟨_, rfl, (fun x => nomatch x), ?_⟩))))))
  exact q
/-- the dicts asked whether they differ -/
theorem ne_dicts {a b : Addr} {ka kb : List (Str × Value)} {Q : Value → Shared → Prop} {E : Value → Shared → Prop} (la : (a == sysModules) = false) (lb : (b == sysModules) = false) (da : s.heap.DictOf (PySem.strKind prog w) a ka) (db : s.heap.DictOf (PySem.strKind prog w) b kb)
    (hlen : ka.length = kb.length) (hu : A.units < cLine) (he : ∀ q ∈ ka, ∃ y, valueAt kb q.1 = some y ∧ EqTo prog w A.in1 s q.2 y) (q : Q (.bool false) s) :
    wpAny (model prog w) A (compareOp .NotEq (.ref a) (.ref b)) Q E s := by
  refine wpAny_richCompare_same_room (op := .NotEq) da.typeIs db.typeIs PySem.F.slot_dict_ne (wpAny_call_entry PySem.F.slot_dict_ne da.typeIs PySem.F.entry_dict_ne ?_ (PySem.F.args_dict_ne_2 _ _)) hu
  show wpAny _ _ (Builtin.Dict.dictSlotArgs "__ne__" ⟨[.ref a, .ref b], []⟩ >>= _) _ _ s
  refine wpAny_bind ?_
  unfold Builtin.Dict.dictSlotArgs
  refine wpAny_bind (wpAny_notOrdered_dict da.typeIs (wpAny_pure (wpAny_bind (wpAny_isInstance (T := "dict") db.typeIs PySem.F.sub_dict_dict ?_))))
  simp only [Bool.not_true, Bool.false_eq_true, if_false]
  refine wpAny_bind (wpAny_pure (wpAny_bind (wpAny_pure (wpAny_bind (rows_same la lb da db hlen he (wpAny_pure ⟨_, rfl, (fun x => nomatch x), ?_⟩))))))
  exact q
end

section
variable {w : World} {s : Shared}
abbrev P0 : Program := PySem.Challenge.rw_fe5005_01.row.prog
abbrev AtH (h : Heap) : Addr → Obj → Prop := fun a o => h.get? a = some o

theorem EqTo.str (A : Around) (x : Str) (t u : Tok) : EqTo P0 w A s (.str x t) (.str x u) := .ofAt (by have := SeqAt.EqAt.str_str (A := A) (s := s) x t x u; rw [beq_self_eq_true] at this; exact this)
theorem EqTo.bool (A : Around) (b : Bool) : EqTo P0 w A s (.bool b) (.bool b) := .ofAt (SeqAt.EqAt.same _)

theorem leaf_rows {A : Around} {D : List (PyData × PyData)} (hD : ∀ q ∈ D, ∃ x y, q = (PyData.str x, PyData.str y)) : ∀ {ka kb : List (Str × Value)}, FlatPairs PyData.str ka D → FlatPairs PyData.str kb D → (ka.map (·.1)).Nodup → (kb.map (·.1)).Nodup →
    ka.length = kb.length ∧ ∀ q ∈ ka, ∃ y, valueAt kb q.1 = some y ∧ EqTo P0 w A s q.2 y := by
  intro ka kb fa fb na nb
  refine ⟨fa.length.symm.trans fb.length, ?_⟩
  have both : ∀ {D : List (PyData × PyData)} {ka kb : List (Str × Value)}, (∀ q ∈ D, ∃ x y, q = (PyData.str x, PyData.str y)) → FlatPairs PyData.str ka D → FlatPairs PyData.str kb D → ∀ q ∈ ka, ∃ y, (q.1, y) ∈ kb ∧ EqTo P0 w A s q.2 y := by
    intro D ka kb hD fa
    induction fa generalizing kb with
    | nil => intro _ q hq; cases hq
    | cons f _ ih =>
      intro fb q hq
      cases fb with
      | cons f' r' =>
        cases hq with
        | head =>
          refine ⟨_, .head _, ?_⟩
          obtain ⟨x, y, e⟩ := hD _ (.head _)
          cases e
          obtain ⟨as, p⟩ : ∃ as, Reads {} _ (PyData.str y) as := ⟨_, f {}⟩
          obtain ⟨bs, p'⟩ : ∃ bs, Reads {} _ (PyData.str y) bs := ⟨_, f' {}⟩
          cases p with
          | str y t =>
            cases p' with
            | str y u => exact EqTo.str A y t u
        | tail _ hq =>
          obtain ⟨y, hy, e⟩ := ih (fun q hq => hD q (.tail _ hq)) r' q hq
          exact ⟨y, .tail _ hy, e⟩
  intro q hq
  obtain ⟨y, hy, e⟩ := both hD fa fb q hq
  obtain ⟨i, hi⟩ := List.mem_iff_getElem?.mp hy
  exact ⟨y, valueAt_of_get nb hi, e⟩
end
end Mine
end

-- part Q2
section
open PySem PySem.W PySem.Calls PyProof.Rows PyProof.V
namespace Mine
theorem All3.at {α β γ : Type} {R : α → β → List γ → Prop} {as : List α} {bs : List β} {os : List γ} (h : All3 R as bs os) : ∀ {j : Nat} {a : α}, as[j]? = some a → ∃ b o, bs[j]? = some b ∧ R a b o ∧ ∀ q ∈ o, q ∈ os := by
  induction h with
  | nil => intro j a h; simp at h
  | cons r _ ih =>
    intro j a h
    cases j with
    | zero =>
      simp at h; subst h
      exact ⟨_, _, rfl, r, fun q hq => List.mem_append_left _ hq⟩
    | succ j =>
      obtain ⟨b, o, h1, h2, h3⟩ := ih (j := j) (by simpa using h)
      exact ⟨b, o, by simpa using h1, h2, fun q hq => List.mem_append_right _ (h3 q hq)⟩

section
variable {w : World} {s : Shared}
/-- two lists of the heap, the same data in each place -/
theorem lists_eq {β : Type} {A : Around} {R : Value → β → List (Addr × Obj) → Prop} {bs : List β} {c c' : Addr} {vs us : List Value} {k k' : Nat} {os os' : List (Addr × Obj)}
    (hc : s.heap.get? c = some (PySem.W.listOf vs.toArray k)) (hc' : s.heap.get? c' = some (PySem.W.listOf us.toArray k')) (h : All3 R vs bs os) (h' : All3 R us bs os') (hu : A.units < cLine)
    (he : ∀ v u b o o', R v b o → R u b o' → (∀ q ∈ o, q ∈ os) → (∀ q ∈ o', q ∈ os') → EqTo P0 w A.in1 s v u) : EqTo P0 w A s (.ref c) (.ref c') := by
  refine EqTo.refs fun _ => RcTo.lists hc hc' (by simp [h.length, h'.length]) hu fun j h1 h2 => ?_
  obtain ⟨b, o, e1, r1, m1⟩ := h.at (j := j) (a := vs.toArray[j]) (by simp at h1; simp [h1])
  obtain ⟨b', o', e2, r2, m2⟩ := h'.at (j := j) (a := us.toArray[j]) (by simp at h2; simp [h2])
  rw [e1] at e2
  cases e2
  exact he _ _ _ _ _ r1 r2 m1 m2

theorem item_rows {A : Around} {t t' : Tok} {c c' : Addr} (he : EqTo P0 w A s (.ref c) (.ref c')) :
    ∀ q ∈ [(Str.ofString "type", Value.str (Str.ofString "list_item") t), (Str.ofString "children", Value.ref c)], ∃ y, valueAt [(Str.ofString "type", Value.str (Str.ofString "list_item") t'), (Str.ofString "children", Value.ref c')] q.1 = some y ∧ EqTo P0 w A s q.2 y := by
  intro q hq
  simp only [List.mem_cons, List.not_mem_nil, or_false] at hq
  rcases hq with rfl | rfl
  · exact ⟨_, by with_unfolding_all rfl, EqTo.str A _ _ _⟩
  · exact ⟨_, by with_unfolding_all rfl, he⟩
theorem list_rows {A : Around} {t t' : Tok} {b : Bool} {c c' : Addr} (he : EqTo P0 w A s (.ref c) (.ref c')) :
    ∀ q ∈ [(Str.ofString "type", Value.str (Str.ofString "list") t), (Str.ofString "tight", Value.bool b), (Str.ofString "children", Value.ref c)],
      ∃ y, valueAt [(Str.ofString "type", Value.str (Str.ofString "list") t'), (Str.ofString "tight", Value.bool b), (Str.ofString "children", Value.ref c')] q.1 = some y ∧ EqTo P0 w A s q.2 y := by
  intro q hq
  simp only [List.mem_cons, List.not_mem_nil, or_false] at hq
  rcases hq with rfl | rfl | rfl
  · exact ⟨_, by with_unfolding_all rfl, EqTo.str A _ _ _⟩
  · exact ⟨_, by with_unfolding_all rfl, EqTo.bool A b⟩
  · exact ⟨_, by with_unfolding_all rfl, he⟩

theorem leafD_strs (l : LK) : ∀ q ∈ l.D, ∃ x y, q = (PyData.str x, PyData.str y) := by
  intro q hq
  cases l <;> simp only [LK.D, sd, List.mem_cons, List.not_mem_nil, or_false] at hq <;> (try rcases hq with rfl | rfl) <;> (try subst hq) <;> exact ⟨_, _, rfl⟩

theorem leaf_eq {A : Around} {d d' : Addr} {o o' : Obj} {l : LK} (hd : s.heap.get? d = some o) (hd' : s.heap.get? d' = some o') (lo : (d == sysModules) = false) (lo' : (d' == sysModules) = false) (h : LeafObj w o l) (h' : LeafObj w o' l) (hu : A.units < cLine) :
    EqTo P0 w A s (.ref d) (.ref d') := by
  obtain ⟨ka, da, fa⟩ := h
  obtain ⟨kb, db, fb⟩ := h'
  have hda : s.heap.DictOf (K0 w) d ka := Heap.dictOf_iff.mpr ⟨o, hd, da⟩
  have hdb : s.heap.DictOf (K0 w) d' kb := Heap.dictOf_iff.mpr ⟨o', hd', db⟩
  obtain ⟨_, _, _, _, _, _, na⟩ := da
  obtain ⟨_, _, _, _, _, _, nb⟩ := db
  obtain ⟨h1, h2⟩ := leaf_rows (A := A.in1) (w := w) (s := s) (leafD_strs l) fa fb na nb
  exact EqTo.refs fun _ => RcTo.dicts lo lo' hda hdb h1 hu h2

theorem item_eq {A : Around} {R : Value → Tk → List (Addr × Obj) → Prop} {v u : Value} {ts : List Tk} {os os' : List (Addr × Obj)} (h : ItemIn w (AtH s.heap) R v ts os) (h' : ItemIn w (AtH s.heap) R u ts os') (hu : A.units + 3 < cLine)
    (he : ∀ v u b o o', R v b o → R u b o' → (∀ q ∈ o, q ∈ os) → (∀ q ∈ o', q ∈ os') → EqTo P0 w A.in1.in1 s v u) : EqTo P0 w A s v u := by
  obtain ⟨d, o, c, vs, k, t, rfl, hd, lo, hD, hc, hA⟩ := h
  obtain ⟨d', o', c', us, k', t', rfl, hd', lo', hD', hc', hA'⟩ := h'
  refine EqTo.refs fun _ => RcTo.dicts lo lo' (Heap.dictOf_iff.mpr ⟨o, hd, hD⟩) (Heap.dictOf_iff.mpr ⟨o', hd', hD'⟩) rfl (by omega) (item_rows (lists_eq hc hc' hA hA' (by show A.units + 1 < cLine; omega) he))

theorem lst_rows {A : Around} {R : Value → Tk → List (Addr × Obj) → Prop} {d d' : Addr} {b : Bool} {its : List (List Tk)} {os os' : List (Addr × Obj)} (h : LstIn w (AtH s.heap) R (.ref d) b its os) (h' : LstIn w (AtH s.heap) R (.ref d') b its os') (hu : A.units + 5 < cLine)
    (he : ∀ v u b o o', R v b o → R u b o' → (∀ q ∈ o, q ∈ os) → (∀ q ∈ o', q ∈ os') → EqTo P0 w A.in1.in1.in1.in1 s v u) :
    (d == sysModules) = false ∧ (d' == sysModules) = false ∧ ∃ ka kb, s.heap.DictOf (K0 w) d ka ∧ s.heap.DictOf (K0 w) d' kb ∧ ka.length = kb.length ∧ ∀ q ∈ ka, ∃ y, valueAt kb q.1 = some y ∧ EqTo P0 w A.in1 s q.2 y := by
  obtain ⟨d1, o, c, vs, k, t, e, hd, lo, hD, hc, hA⟩ := h
  obtain ⟨d2, o', c', us, k', t', e', hd', lo', hD', hc', hA'⟩ := h'
  cases e; cases e'
  refine ⟨lo, lo', _, _, Heap.dictOf_iff.mpr ⟨o, hd, hD⟩, Heap.dictOf_iff.mpr ⟨o', hd', hD'⟩, rfl, list_rows (lists_eq hc hc' hA hA' (by show A.units + 1 < cLine; omega) ?_)⟩
  intro v u ts o1 o2 r1 r2 m1 m2
  exact item_eq r1 r2 (by show A.units + 1 + 1 + 3 < cLine; omega) fun v u b p p' x x' y y' => he v u b p p' x x' (fun q hq => m1 q (y q hq)) (fun q hq => m2 q (y' q hq))

theorem tk_eq : ∀ (n : Nat) (A : Around) (T : Tk) (v u : Value) (os os' : List (Addr × Obj)), TkIn w (AtH s.heap) n v T os → TkIn w (AtH s.heap) n u T os' → (∀ q ∈ os, s.heap.get? q.1 = some q.2) → (∀ q ∈ os', s.heap.get? q.1 = some q.2) →
    A.units + 4 * n + 5 < cLine → EqTo P0 w A s v u := by
  intro n
  induction n with
  | zero =>
    intro A T v u os os' h h' m m' hu
    cases T with
    | lst b its => exact h.elim
    | leaf l =>
      obtain ⟨d, o, rfl, rfl, lo, hl⟩ := h.leaf
      obtain ⟨d', o', rfl, rfl, lo', hl'⟩ := h'.leaf
      exact leaf_eq (m _ (.head _)) (m' _ (.head _)) lo lo' hl hl' (by omega)
  | succ n ih =>
    intro A T v u os os' h h' m m' hu
    cases T with
    | leaf l =>
      obtain ⟨d, o, rfl, rfl, lo, hl⟩ := h.leaf
      obtain ⟨d', o', rfl, rfl, lo', hl'⟩ := h'.leaf
      exact leaf_eq (m _ (.head _)) (m' _ (.head _)) lo lo' hl hl' (by omega)
    | lst b its =>
      obtain ⟨d, _, _, _, rfl, _, _⟩ := h.head
      obtain ⟨d', _, _, _, rfl, _, _⟩ := h'.head
      obtain ⟨lo, lo', ka, kb, da, db, hl, hr⟩ := lst_rows (A := A) h h' (by omega) fun v u b o o' r r' x x' => ih _ b v u o o' r r' (fun q hq => m q (x q hq)) (fun q hq => m' q (x' q hq)) (by show A.units + 1 + 1 + 1 + 1 + 4 * n + 5 < cLine; omega)
      exact EqTo.refs fun _ => RcTo.dicts lo lo' da db hl (by omega) hr

/-- the two lists asked whether they differ -/
theorem tk_ne {A : Around} {n : Nat} {b : Bool} {its : List (List Tk)} {d d' : Addr} {os os' : List (Addr × Obj)} {Q : Value → Shared → Prop} {E : Value → Shared → Prop} (h : TkIn w (AtH s.heap) n (.ref d) (.lst b its) os) (h' : TkIn w (AtH s.heap) n (.ref d') (.lst b its) os')
    (m : ∀ q ∈ os, s.heap.get? q.1 = some q.2) (m' : ∀ q ∈ os', s.heap.get? q.1 = some q.2) (hu : A.units + 4 * n + 5 < cLine) (q : Q (.bool false) s) : wpAny (model PySem.Challenge.rw_fe5005_01.row.prog w) A (compareOp .NotEq (.ref d) (.ref d')) Q E s := by
  cases n with
  | zero => exact h.elim
  | succ n =>
    obtain ⟨lo, lo', ka, kb, da, db, hl, hr⟩ := lst_rows (A := A) h h' (by omega) fun v u b o o' r r' x x' => tk_eq n _ b v u o o' r r' (fun q hq => m q (x q hq)) (fun q hq => m' q (x' q hq)) (by show A.units + 1 + 1 + 1 + 1 + 4 * n + 5 < cLine; omega)
    exact ne_dicts lo lo' da db hl (by omega) hr q
end
end Mine
end

-- part A1
section
open PySem PySem.W PySem.Calls PyProof.Rows PyProof.V
namespace Mine
theorem LeafObj.para {w : World} {o : Obj} {kvs : List (Str × Value)} (hd : o.IsDictOf (PySem.strKind PySem.Challenge.rw_fe5005_01.row.prog w) kvs) {D : List (PyData × PyData)} (hf : FlatPairs PyData.str kvs D) (e : D = LK.para.D) : LeafObj w o .para := ⟨kvs, hd, e ▸ hf⟩
section
variable {w : World} {p : Program} {loose : List Str} {mean : ExcName → Option Value} {mg mb : Str → Option Value} {g : Heap} {dp un : Nat} {fr : Option (List Env)} {gd : Option (List Code)} {L : Addr} {m : Str → Option Value} {s : Shared}
  {news : List (Addr × Obj)} {gF : Obj → List (Addr × Obj)}
/-- a draw, over the ledger -/
theorem draw_K {box script : Addr} {place seed bud : Int} {t1 t2 t3 : Tok} {n : Nat} {vs : List Value} {ns : List Int} {size : Int} {tk : Tok} {Q E : Value → Shared → Prop}
    (F : Fr g L s.heap m) (N : News g L s.heap news) (X : (Mine.hd.heap_39 w.params).In g) (T : Top p loose mean mg mb g) (hS : g.IsList script vs.toArray) (hI : IntsAre vs ns) (hn : ns.length ≤ 63)
    (U : UpdF box (boxObj script place seed bud t1 t2 t3 n) news gF) (hs0 : 0 ≤ seed) (hs1 : seed < 2147483647) (hz0 : 1 ≤ size) (hz1 : size ≤ 9) (hd : dp + 10 < recursionLimit)
    (ret : ∀ (r seed' : Int) (tr t1' t2' : Tok) (n' : Nat) h' tk', Fr g L h' m → News g L h' (gF (boxObj script (place + 1) seed' bud t1' t2' t3 n')) → 0 ≤ seed' → seed' < 2147483647 → 0 ≤ r → r < size →
      Q (.int r tr) { s with heap := h', toks := tk' }) :
    wpAny (model PySem.Challenge.rw_fe5005_01.row.prog w) (ar dp un fr gd) (call (.ref 417) [.ref box, .int size tk]) Q E s := by
  obtain ⟨pre, post, rfl, hg, h1, h2⟩ := U.split
  have hb := N (box, boxObj script place seed bud t1 t2 t3 n) (by simp)
  refine draw_spec F.keep X T hS hI hn hb.1 hb.2.2 hs0 hs1 hz0 hz1 hd ?_
  intro r seed' tr t1' t2' n' h' tk' hst hbx a b c d
  refine ret r seed' tr t1' t2' n' h' tk' (fr_after F hst (fun a ha => ?_) fun ha => ?_) ?_ a b c d
  · rw [List.mem_singleton.mp ha]; exact hb.2.2
  · exact hb.2.1 (List.mem_singleton.mp ha).symm
  · rw [hg]
    intro q hq
    rcases List.mem_append.mp hq with hq | hq
    · exact news_after (news_sub N fun x hx => List.mem_append_left _ hx) hst (fun x hx hx' => h1 x hx (List.mem_singleton.mp hx')) q hq
    rcases List.mem_cons.mp hq with rfl | hq
    · exact ⟨hbx, hb.2⟩
    · exact news_after (news_sub N fun x hx => List.mem_append_right _ (.tail _ hx)) hst (fun x hx hx' => h2 x hx (List.mem_singleton.mp hx')) q hq

/-- a plain token, over the ledger -/
theorem plain_K {box : Value} {k : Int} {tk : Tok} {Q E : Value → Shared → Prop} (F : Fr g L s.heap m) (N : News g L s.heap news) (X : (Mine.hd.heap_39 w.params).In g) (T : Top p loose mean mg mb g) (hk0 : 0 ≤ k) (hk1 : k ≤ 4) (hd : dp + 10 < recursionLimit)
    (ret : ∀ d o h' tk', Fr g L h' m → News g L h' ((d, o) :: news) → (∀ q ∈ news, q.1 < d) → (d == sysModules) = false → LeafObj w o (LK.of k) → Q (.ref d) { s with heap := h', toks := tk' }) :
    wpAny (model PySem.Challenge.rw_fe5005_01.row.prog w) (ar dp un fr gd) (call (.ref 424) [box, .int k tk]) Q E s := by
  refine plain_spec F.keep X T hk0 hk1 hd ?_
  intro d o h' tk' hst hsz hd0 hd1 lo hl
  have hf : Fr g L h' m := fr_after (as := []) F hst (fun _ h => nomatch h) (fun h => nomatch h)
  have hne : ∀ q ∈ news, q.1 < d := fun q hq => Nat.lt_of_lt_of_le (Heap.lt_size (N q hq).1) hsz
  refine ret d o h' tk' hf (fun q hq => ?_) hne lo hl
  rcases List.mem_cons.mp hq with rfl | hq
  · refine ⟨hd1, fun e => ?_, ?_⟩
    · obtain ⟨oL, _, _, hLo, _⟩ := F.ns
      rw [← show (d, o).1 = d from rfl, e] at hd0
      rw [hLo] at hd0; cases hd0
    · cases y : g.get? d with
      | none => rfl
      | some o' => rw [F.keep _ _ y] at hd0; cases hd0
  · exact ⟨hst _ _ (N q hq).1, (N q hq).2⟩
end
end Mine
end

-- part A3
section
open PySem PySem.W PySem.Calls PyProof.Rows PyProof.V
namespace Mine
/-- a fact laid by for later -/
structure Hid (P : Prop) : Prop where
  out : P
/-- the end of a turn that adds a pair of leaves, laid by -/
structure HidF (P : Prop) : Prop where
  out : P
theorem fresh_news {g h : Heap} {L a : Addr} {m : Str → Option Value} (F : Fr g L h m) (e : h.get? a = none) : a ≠ L ∧ g.get? a = none := by
  refine ⟨fun q => ?_, ?_⟩
  · obtain ⟨oL, _, _, hLo, _⟩ := F.ns
    rw [q, hLo] at e; cases e
  · cases y : g.get? a with
    | none => rfl
    | some o => rw [F.keep _ _ y] at e; cases e
theorem gone_of {g h : Heap} {L : Addr} {news : List (Addr × Obj)} (N : News g L h news) {a : Addr} (e : h.get? a = none) : ∀ q ∈ news, a ≠ q.1 := fun q hq x => by
  have z := (N q hq).1
  rw [← x, e] at z; cases z
theorem news_tail {g h h' : Heap} {L : Addr} {x : Addr × Obj} {news : List (Addr × Obj)} (N : News g L h (x :: news)) (hst : (hideAll h [x.1]).StaysIn h') (hne : ∀ q ∈ news, q.1 ≠ x.1) : News g L h' news :=
  news_after (news_sub N fun _ hq => .tail _ hq) hst fun q hq hx => hne q hq (List.mem_singleton.mp hx)
/-- is it that place -/
def one (a b : Addr) : Nat := if a = b then 1 else 0
/-- how often a place is named in a ledger -/
def cnt (a : Addr) : List (Addr × Obj) → Nat
  | [] => 0
  | q :: r => one a q.1 + cnt a r
theorem cnt_append (a : Addr) : ∀ l r : List (Addr × Obj), cnt a (l ++ r) = cnt a l + cnt a r
  | [], r => by simp [cnt]
  | q :: l, r => by rw [List.cons_append, cnt, cnt, cnt_append a l r]; omega
theorem cnt_cons (a : Addr) (q : Addr × Obj) (r : List (Addr × Obj)) : cnt a (q :: r) = one a q.1 + cnt a r := rfl
theorem cnt_nil (a : Addr) : cnt a [] = 0 := rfl
theorem one_le (a b : Addr) : one a b ≤ 1 := by unfold one; split <;> omega
theorem one_self (a : Addr) : one a a = 1 := if_pos rfl
theorem cnt_pos {a : Addr} : ∀ {l : List (Addr × Obj)}, a ∈ adr l → 1 ≤ cnt a l
  | q :: r, h => by
    rw [cnt_cons]
    rcases List.mem_cons.mp h with e | h
    · rw [e, one_self]; omega
    · have := cnt_pos h; omega
theorem cnt_zero {a : Addr} : ∀ {l : List (Addr × Obj)}, a ∉ adr l → cnt a l = 0
  | [], _ => rfl
  | q :: r, h => by
    rw [cnt_cons, cnt_zero (fun x => h (.tail _ x))]
    have : a ≠ q.1 := fun e => h (by rw [e]; exact .head _)
    simp [one, this]
/-- each place is named once at most -/
def Uni (l : List (Addr × Obj)) : Prop := ∀ a, cnt a l ≤ 1
/-- no place is named in both -/
def Dis (l r : List (Addr × Obj)) : Prop := ∀ a, cnt a l = 0 ∨ cnt a r = 0
theorem Dis.of {l r : List (Addr × Obj)} (h : ∀ q ∈ l, ∀ x ∈ r, q.1 ≠ x.1) : Dis l r := fun a => by
  by_cases hl : a ∈ adr l
  · refine .inr (cnt_zero fun hr => ?_)
    obtain ⟨q, hq, e⟩ := adr_mem hl
    obtain ⟨x, hx, e'⟩ := adr_mem hr
    exact h q hq x hx (e.trans e'.symm)
  · exact .inl (cnt_zero hl)
theorem Dis.ne {l r : List (Addr × Obj)} (h : Dis l r) : ∀ q ∈ l, ∀ x ∈ r, q.1 ≠ x.1 := fun q hq x hx e => by
  have h1 := cnt_pos (mem_adr hq)
  have h2 := cnt_pos (mem_adr hx)
  rw [← e] at h2
  rcases h q.1 with h | h <;> omega
theorem Uni.nodup : ∀ {l : List (Addr × Obj)}, Uni l → (adr l).Nodup
  | [], _ => List.nodup_nil
  | q :: r, h => by
    refine List.nodup_cons.mpr ⟨fun hm => ?_, Uni.nodup fun a => by have := h a; rw [cnt_cons] at this; omega⟩
    have h1 := h q.1
    have h2 : 1 ≤ cnt q.1 r := cnt_pos hm
    rw [cnt_cons, one_self] at h1
    omega
theorem Uni.of_nodup : ∀ {l : List (Addr × Obj)}, (adr l).Nodup → Uni l
  | [], _ => fun _ => by rw [cnt_nil]; omega
  | q :: r, h => fun a => by
    obtain ⟨h1, h2⟩ := List.nodup_cons.mp h
    have := Uni.of_nodup h2 a
    rw [cnt_cons]
    by_cases e : a = q.1
    · rw [e, cnt_zero h1, one_self]; omega
    · have : one a q.1 = 0 := by simp [one, e]
      omega
theorem Uni.head {q : Addr × Obj} {r : List (Addr × Obj)} (h : Uni (q :: r)) : ∀ x ∈ r, x.1 ≠ q.1 := fun x hx e => by
  have h1 := h q.1
  have h2 := cnt_pos (mem_adr hx)
  rw [cnt_cons, one_self] at h1
  rw [e] at h2
  omega
theorem Uni.single (q : Addr × Obj) : Uni [q] := fun a => by rw [cnt_cons, cnt_nil]; have := one_le a q.1; omega
theorem one_ne {a b : Addr} (h : a ≠ b) : one a b = 0 := if_neg h
theorem Uni.three {a b c : Addr} {x y z : Obj} (h1 : a ≠ b) (h2 : a ≠ c) (h3 : b ≠ c) : Uni [(a, x), (b, y), (c, z)] := fun d => by
  simp only [cnt_cons, cnt_nil]
  by_cases e : d = a
  · subst e; rw [one_self, one_ne h1, one_ne h2]; omega
  · rw [one_ne e]
    by_cases e : d = b
    · subst e; rw [one_self, one_ne h3]; omega
    · rw [one_ne e]; have := one_le d c; omega
/-- one ledger within another, as far as places go -/
theorem Uni.sub {l r : List (Addr × Obj)} (h : Uni r) (k : ∀ a, cnt a l ≤ cnt a r) : Uni l := fun a => Nat.le_trans (k a) (h a)
theorem Uni.push {l : List (Addr × Obj)} {a : Addr} {o : Obj} (h : Uni l) (k : ∀ q ∈ l, q.1 ≠ a) : Uni ((a, o) :: l) := fun d => by
  rw [cnt_cons]
  by_cases e : d = a
  · subst e
    rw [cnt_zero (l := l) (fun hm => by obtain ⟨q, hq, e⟩ := adr_mem hm; exact k q hq e)]
    have := one_le d d
    show one d d + 0 ≤ 1; omega
  · have := h d
    rw [show one d (a, o).1 = 0 from one_ne e]; omega
theorem Uni.tail {q : Addr × Obj} {r : List (Addr × Obj)} (h : Uni (q :: r)) : Uni r := fun a => by have := h a; rw [cnt_cons] at this; omega
theorem Uni.join {l r : List (Addr × Obj)} (h : Uni l) (h' : Uni r) (d : Dis l r) : Uni (l ++ r) := fun a => by
  rw [cnt_append]
  have := h a; have := h' a
  rcases d a with d | d <;> omega
end Mine
end

-- part A4
section
open PySem PySem.W PySem.Calls PyProof.Rows PyProof.V
namespace Mine

local macro_rules | `(tactic| walk_at "call ref") => `(tactic| (k_here; (with_reducible show wpAny _ _ (call (Value.ref 417) _) _ _ _); k_dflt (refine' draw_K ?kF ?kN ?kX ?kT ?kS ?kI ?kn ?kU ?k0 ?k1 ?k2 ?k3 ?kd ?_; (case kF => k_asm); (case kN => k_asm); (case kX => k_asm); (case kT => k_asm); (case kS => with_reducible assumption); (case kI => with_reducible assumption); (case kn => with_reducible assumption); (case kU => k_updF); (case k0 => with_reducible assumption); (case k1 => with_reducible assumption); (case k2 => decide); (case k3 => decide); (case kd => (dsimp only; omega)); k_whole); intro r' seed' tr' t1' t2' n' h' tk' F' N' hs0' hs1' hr0' hr1'; (try dsimp only at N'); (try k_sweep)))
local macro_rules | `(tactic| walk_at "call ref") => `(tactic| (k_here; (with_reducible show wpAny _ _ (call (Value.ref 424) _) _ _ _); k_dflt (refine' plain_K ?kF ?kN ?kX ?kT ?k0 ?k1 ?kd ?_; (case kF => k_asm); (case kN => k_asm); (case kX => k_asm); (case kT => k_asm); (case k0 => omega); (case k1 => omega); (case kd => (dsimp only; omega)); k_whole); intro d' o' h' tk' F' N' l1 lo' hl'; (try k_lt l1); (try k_sweep)))
local macro_rules | `(tactic| walk_at "ite") => `(tactic| (k_openite; first | with_reducible refine ite_tt ?_ | with_reducible refine ite_ff ?_ | (with_reducible refine split_ine ?_ ?_ <;> intro _) | (with_reducible refine split_ieq ?_ ?_ <;> intro _) | with_reducible refine split_not ?_ | (refine split_dec ?_ ?_ <;> intro _) | (refine split_bool ?_ ?_ <;> intro _)))
local macro_rules | `(tactic| walk_at "callWith") => `(tactic| ((with_reducible show wpAny _ _ (callWith _ (Prod.fst _) (Prod.snd _) _ _) _ _ _); refine PyProof.Rows.callWith_method1 ?_))
local macro_rules | `(tactic| size_fits) => `(tactic| with_reducible assumption)
local macro_rules | `(tactic| k_all) => `(tactic| with_reducible assumption)
local macro_rules | `(tactic| walk_at "call type:range") => `(tactic| (k_here; (with_reducible show wpAny _ _ (call _ [_]) _ _ _); k_dflt (refine' range1_rows ?kF ?kN ?_; (case kF => k_asm); (case kN => k_asm); k_whole); intro h' tk' u1' u2' u3' rg' F' N' hk'; clear hk'))
local macro_rules | `(tactic| walk_at "exec For") => `(tactic| (k_here; (rename Fr _ _ _ _ => lF'); (with_unfolding_all refine' For_invVF lF' ?k1 ?k2 ?_; (case k1 => exact rfl); (case k2 => exact rfl); k_whole)))
local macro_rules | `(tactic| k_steps) => `(tactic| repeat' (first | (k_unfold; (try dsimp only)) | (k_end; wrow_close) | ((fail_if_success (with_reducible show wpAny _ _ (pyIter _) _ _ _)); (fail_if_success (with_reducible show wpAny _ _ (call (Value.ref 431) _) _ _ _)); walk1) | (dsimp only; (fail_if_success (with_reducible show wpAny _ _ (pyIter _) _ _ _)); (fail_if_success (with_reducible show wpAny _ _ (call (Value.ref 431) _) _ _ _)); walk1) | (leave1; walk_say "STEP leave1"; try dsimp only) | fail "no step"))

local macro_rules | `(tactic| ktr_units) => `(tactic| first | with_reducible assumption | (refine LeafObj.para (by with_reducible assumption) (by with_reducible assumption) ?_; with_unfolding_all rfl))
local macro_rules | `(tactic| ktr_room) => `(tactic| (
  (rename HidF _ => hf); (rename Fr _ _ _ _ => FE); (rename News _ _ _ _ => NE)
  (simp only [List.push_toArray] at NE)
  refine' hf.out FE NE ?m1 ?m2 ?m3 ?m4 ?m5 ?m6 ?ne ?r1 ?r2 ?lo1 ?lo2 ?s0 ?s1 ?l1 ?l2 ?hl
  (case m1 => k_mem); (case m2 => k_mem); (case m3 => k_mem); (case m5 => k_mem); (case m6 => k_mem)
  (case m4 => intro q hq; repeat (first | exact hq | refine List.Mem.tail _ ?_))
  (case ne => exact ⟨by k_ne, by k_ne, by k_ne, by k_ne, by k_ne, by k_ne, by k_ne⟩)
  (case r1 => tbn_find); (case r2 => tbn_find)
  (case lo1 => with_reducible assumption); (case lo2 => with_reducible assumption)
  (case s0 => with_reducible assumption); (case s1 => with_reducible assumption)
  (case l1 => ktr_units); (case l2 => ktr_units)
  (case hl => exact HasL.cons rfl (HasL.cons rfl (HasL.cons rfl (HasL.cons rfl (HasL.cons rfl (HasL.cons rfl (HasL.cons rfl HasL.nil)))))))))

/-- the word of _law_list at a depth: two like trees, each made anew, apart from each other and from all that stood -/
def ListAt (w : World) (p : Program) (loose : List Str) (mean : ExcName → Option Value) (mg mb : Str → Option Value) (n : Nat) : Prop :=
  ∀ (h₀ : Heap) (dp un : Nat) (fr : Option (List Env)) (gd : Option (List Code)) (s : Shared) (box script : Addr) (place seed bud : Int) (t1 t2 t3 : Tok) (k : Nat) (vs : List Value) (ns : List Int) (dz : Int) (tk : Tok) (Q E : Value → Shared → Prop),
    h₀.StaysIn s.heap → (Mine.hd.heap_39 w.params).In h₀ → Top p loose mean mg mb h₀ → h₀.IsList script vs.toArray → IntsAre vs ns → ns.length ≤ 63 → s.heap.get? box = some (boxObj script place seed bud t1 t2 t3 k) → h₀.get? box = none →
    0 ≤ seed → seed < 2147483647 → dz = (n : Int) → dp + 2 * n + 20 < recursionLimit →
    (∀ (tup a1 a2 : Addr) (b : Bool) (its : List (List Tk)) (st os1 os2 : List (Addr × Obj)) (place' seed' bud' : Int) (t1' t2' t3' : Tok) (k' kt : Nat) (h' : Heap) (tk' : Nat),
      (hideAll s.heap [box]).StaysIn h' → h'.get? box = some (boxObj script place' seed' bud' t1' t2' t3' k') → 0 ≤ seed' → seed' < 2147483647 →
      h'.get? tup = some { cls := .type "tuple", data := .seq [.ref a1, .ref a2].toArray kt } → s.heap.get? tup = none →
      TkIn w (fun a o => (a, o) ∈ st) (n + 1) (.ref a1) (.lst b its) os1 → TkIn w (fun a o => (a, o) ∈ st) (n + 1) (.ref a2) (.lst b its) os2 →
      (∀ q ∈ st ++ (os1 ++ os2), h'.get? q.1 = some q.2 ∧ s.heap.get? q.1 = none) → (adr (st ++ (os1 ++ os2))).Nodup →
      Q (.ref tup) { s with heap := h', toks := tk' }) →
    wpAny (model PySem.Challenge.rw_fe5005_01.row.prog w) (ar dp un fr gd) (call (.ref 431) [.ref box, .int dz tk]) Q E s


abbrev TkL (w : World) (st : List (Addr × Obj)) (n : Nat) : Value → Tk → List (Addr × Obj) → Prop := TkIn w (fun a o => (a, o) ∈ st) n
abbrev ItL (w : World) (st : List (Addr × Obj)) (n : Nat) : Value → List Tk → List (Addr × Obj) → Prop := ItemIn w (fun a o => (a, o) ∈ st) (TkL w st n)
abbrev lst (vs : List Value) (k : Nat) : Obj := PySem.W.listOf (List.toArray vs) k

/-- between the turns that make the items -/
def ItemsB (w : World) (n : Nat) (box script ah ad : Addr) (dz : Int) (td : Tok) (b : Bool) (i : Nat) (m : Str → Option Value) (nx : List (Addr × Obj)) : Prop :=
  ∃ vs1 vs2 k1 k2 its st os1 os2 place seed bud t1 t2 t3 kb,
    nx = (box, boxObj script place seed bud t1 t2 t3 kb) :: (ah, lst vs1 k1) :: (ad, lst vs2 k2) :: (st ++ (os1 ++ os2)) ∧ Uni nx ∧ 0 ≤ seed ∧ seed < 2147483647 ∧ its.length = i ∧
    All3 (ItL w st n) vs1 its os1 ∧ All3 (ItL w st n) vs2 its os2 ∧
    HasL [(Str.ofString "box", .ref box), (Str.ofString "depth", .int dz td), (Str.ofString "tight", .bool b), (Str.ofString "handed", .ref ah), (Str.ofString "due", .ref ad)] m
/-- between the turns that make the tokens of an item -/
def ToksB (w : World) (n : Nat) (box script ah ad ai aw : Addr) (dz : Int) (td : Tok) (b : Bool) (rest own : List (Addr × Obj)) (j : Nat) (m : Str → Option Value) (nx : List (Addr × Obj)) : Prop :=
  ∃ vs1 vs2 k1 k2 ts st os1 os2 place seed bud t1 t2 t3 kb,
    nx = (box, boxObj script place seed bud t1 t2 t3 kb) :: (ai, lst vs1 k1) :: (aw, lst vs2 k2) :: (st ++ (os1 ++ (os2 ++ (rest ++ own)))) ∧
    Uni ((box, boxObj script place seed bud t1 t2 t3 kb) :: (ai, lst vs1 k1) :: (aw, lst vs2 k2) :: (st ++ (os1 ++ (os2 ++ rest)))) ∧
    Dis own ((box, boxObj script place seed bud t1 t2 t3 kb) :: (ai, lst vs1 k1) :: (aw, lst vs2 k2) :: (st ++ (os1 ++ (os2 ++ rest)))) ∧ 0 ≤ seed ∧ seed < 2147483647 ∧ ts.length = j ∧
    All3 (TkL w st n) vs1 ts os1 ∧ All3 (TkL w st n) vs2 ts os2 ∧
    HasL [(Str.ofString "box", .ref box), (Str.ofString "depth", .int dz td), (Str.ofString "tight", .bool b), (Str.ofString "handed", .ref ah), (Str.ofString "due", .ref ad), (Str.ofString "inner", .ref ai), (Str.ofString "wanted", .ref aw)] m

theorem list_step {w : World} {p : Program} {loose : List Str} {mean : ExcName → Option Value} {mg mb : Str → Option Value} {n : Nat} (IH : ∀ k, n = k + 1 → ListAt w p loose mean mg mb k) : ListAt w p loose mean mg mb n := by
  intro h₀ dp un fr gd s box script place seed bud t1 t2 t3 kb vs ns dz tdp Q E k0 X T hS hI hn hb hb0 hs0 hs1 hz hd ret
  revert X; k_fill; intro X; w_top off
  refine' enter (K := Mine.hd.heap_39 w.params) (binds := [(Str.ofString "box", .ref box), (Str.ofString "depth", .int dz tdp)]) [(box, boxObj script place seed bud t1 t2 t3 kb)] k0 X T ?kN ?kN0 ?ko ?kc ?kr ?kb ?kl ?_ ?c1 ?c2 ?c3 ?c4
  case kN => intro q hq; cases hq with | head => exact hb | tail _ h => cases h
  case kN0 => intro q hq; cases hq with | head => exact hb0 | tail _ h => cases h
  case ko => k_is
  case kc => k_is
  case kr => show dp < recursionLimit; omega
  case kb => exact BindsTo.of_eq rfl
  case kl => exact locs rfl
  case c1 => exact rfl
  case c2 => exact rfl
  case c3 => exact rfl
  case c4 => decide
  intro g L' h₁ tk₁ hg hL k1 F N Xg Tg
  have hSg : g.IsList script vs.toArray := stays_list k1 hS
  (try dsimp only)
  (try k_fold)
  k_steps
  (rename Fr _ _ _ _ => F1); (rename News _ _ _ _ => N1); (rename IsRange _ _ _ _ _ _ _ _ => R1)
  rename_i rt _ _ _ _ _ _ _ hA0 hA1 hA2 hA3 _ _ ah _ hl1 _ _ ad _ hl2 _ r1 seed1 _ ta tb nb _ _ Fo No hs10 hs11 hr10 hr11 _ _ _ _ _
  clear Fo No
  refine tbr_invG (ItemsB w n box script ah ad dz tdp (rt != 0)) rfl R1 (small_one (by decide) (by decide) (by omega) (by omega)) (rangeSize_nat 0 (1 + r1)) F1
    (news := [(box, boxObj script (place + 1 + 1) seed1 bud ta tb t3 nb), (ah, lst [] 0), (ad, lst [] 0)]) (news_sub N1 ?_)
    ⟨[], [], 0, 0, [], [], [], [], _, _, _, _, _, _, _, rfl, Uni.three (a := box) (b := ah) (c := ad) (Nat.ne_of_lt hl1) (Nat.ne_of_lt hl2.2) (Nat.ne_of_lt hl2.1), hs10, hs11, rfl, All3.nil, All3.nil, HasL.cons rfl (HasL.cons rfl (HasL.cons rfl (HasL.cons rfl (HasL.cons rfl HasL.nil))))⟩ ?_ ?_
  · intro q hq
    simp only [List.mem_cons, List.not_mem_nil, or_false] at hq ⊢
    rcases hq with hq | hq | hq <;> simp [hq]
  · rintro i kz tz m₁ nx h tk9 own hkz hoff ⟨vs1, vs2, k1', k2', its, st, os1, os2, place', seed', bud', t1', t2', t3', kb', rfl, hU, hs0', hs1', hlen, hA1', hA2', hm⟩ F2 N2
    clear F1 N1 R1
    obtain ⟨u, rfl⟩ := hm.form
    clear hm
    have hi4 : i < 4 := by
      obtain ⟨hlt, _⟩ := List.getElem?_eq_some_iff.mp hkz
      rw [rangeKs_length] at hlt
      omega
    have hRb : ∀ q ∈ (st ++ (os1 ++ os2)) ++ own, q.1 ≠ box := by
      intro q hq
      rcases List.mem_append.mp hq with hq | hq
      · exact hU.head q (.tail _ (.tail _ hq))
      · exact hoff q hq _ (.head _)
    simp only [List.cons_append] at N2
    obtain ⟨R, hR⟩ : ∃ R, R = (st ++ (os1 ++ os2)) ++ own := ⟨_, rfl⟩
    rw [← hR] at N2 hRb
    k_steps
    (rename Fr _ _ _ _ => F3); (rename News _ _ _ _ => N3); (rename IsRange _ _ _ _ _ _ _ _ => R3)
    rename_i ai _ Fa Na hl3 _ _ aw _ hl4 _ r2 seed2 _ tc td2 nc _ _ Fo No hs20 hs21 hr20 hr21 _ _ _ _ _
    clear Fa Na Fo No
    obtain ⟨rest, hrest⟩ : ∃ rest, rest = (ah, lst vs1 k1') :: (ad, lst vs2 k2') :: (st ++ (os1 ++ os2)) := ⟨_, rfl⟩
    have hUr : Uni ((box, boxObj script (place' + 1) seed2 bud' tc td2 t3' nc) :: (ai, lst [] 0) :: (aw, lst [] 0) :: rest) := by
      have lt1 := tb_ltOf (show AllLt ai ((box, boxObj script place' seed' bud' t1' t2' t3' kb') :: (ah, lst vs1 k1') :: (ad, lst vs2 k2') :: R) from hl3)
      have lt2 := tb_ltOf (show AllLt aw ((ai, lst [] 0) :: (box, boxObj script place' seed' bud' t1' t2' t3' kb') :: (ah, lst vs1 k1') :: (ad, lst vs2 k2') :: R) from hl4)
      have hin : ∀ q ∈ (box, boxObj script place' seed' bud' t1' t2' t3' kb') :: (ah, lst vs1 k1') :: (ad, lst vs2 k2') :: (st ++ (os1 ++ os2)), q ∈ (box, boxObj script place' seed' bud' t1' t2' t3' kb') :: (ah, lst vs1 k1') :: (ad, lst vs2 k2') :: R := by
        intro q hq
        rw [hR]
        simp only [List.mem_cons, List.mem_append] at hq ⊢
        rcases hq with hq | hq | hq | hq <;> simp [hq]
      have u1 := hU.push (a := ai) (o := lst [] 0) fun q hq => Nat.ne_of_lt (lt1 q (hin q hq))
      have u2 := u1.push (a := aw) (o := lst [] 0) fun q hq => by
        rcases List.mem_cons.mp hq with rfl | hq
        · exact Nat.ne_of_lt (lt2 _ (.head _))
        · exact Nat.ne_of_lt (lt2 q (.tail _ (hin q hq)))
      exact u2.sub fun a => by rw [hrest]; simp only [cnt_cons]; omega
    have hDr : Dis own ((box, boxObj script (place' + 1) seed2 bud' tc td2 t3' nc) :: (ai, lst [] 0) :: (aw, lst [] 0) :: rest) := by
      have lt1 := tb_ltOf (show AllLt ai ((box, boxObj script place' seed' bud' t1' t2' t3' kb') :: (ah, lst vs1 k1') :: (ad, lst vs2 k2') :: R) from hl3)
      have lt2 := tb_ltOf (show AllLt aw ((ai, lst [] 0) :: (box, boxObj script place' seed' bud' t1' t2' t3' kb') :: (ah, lst vs1 k1') :: (ad, lst vs2 k2') :: R) from hl4)
      have hinR : ∀ q ∈ own, q ∈ R := fun q hq => by rw [hR]; exact List.mem_append_right _ hq
      refine Dis.of fun q hq x hx => ?_
      rw [hrest] at hx
      rcases List.mem_cons.mp hx with rfl | hx
      · exact hoff q hq (box, boxObj script place' seed' bud' t1' t2' t3' kb') (.head _)
      rcases List.mem_cons.mp hx with rfl | hx
      · exact Nat.ne_of_lt (lt1 q (.tail _ (.tail _ (.tail _ (hinR q hq)))))
      rcases List.mem_cons.mp hx with rfl | hx
      · exact Nat.ne_of_lt (lt2 q (.tail _ (.tail _ (.tail _ (.tail _ (hinR q hq))))))
      · exact hoff q hq x (.tail _ hx)
    refine tbr_invG (ToksB w n box script ah ad ai aw dz tdp (rt != 0) rest own) rfl R3 (small_one (by decide) (by decide) (by omega) (by omega)) (rangeSize_nat 0 (1 + r2)) F3
      (news := (box, boxObj script (place' + 1) seed2 bud' tc td2 t3' nc) :: (ai, lst [] 0) :: (aw, lst [] 0) :: ([] ++ ([] ++ ([] ++ (rest ++ own))))) (news_sub N3 ?_)
      ⟨[], [], 0, 0, [], [], [], [], _, _, _, _, _, _, _, rfl, hUr, hDr, hs20, hs21, rfl, All3.nil, All3.nil, HasL.cons rfl (HasL.cons rfl (HasL.cons rfl (HasL.cons rfl (HasL.cons rfl (HasL.cons rfl (HasL.cons rfl HasL.nil))))))⟩ ?_ ?_
    · intro q hq
      rw [hrest] at hq; rw [hR]
      simp only [List.mem_cons, List.mem_append, List.nil_append] at hq ⊢
      rcases hq with hq | hq | hq | (hq | hq | hq | hq | hq) | hq <;> simp [hq]
    · rintro j kz3 tz3 m₃ nx3 h3 tk3 own3 hkz3 hoff3 ⟨ws1, ws2, c1, c2, ts, su, p1, p2, place3, seed3, bud3, x1, x2, x3, kb3, rfl, hU3, hD3, hs30, hs31, hlen3, hB1, hB2, hm3⟩ F4 N4
      (try clear F3); (try clear N3); (try clear R3); (try clear F2); (try clear N2)
      obtain ⟨u3, rfl⟩ := hm3.form
      clear hm3
      have hj4 : j < 4 := by
        obtain ⟨hlt, _⟩ := List.getElem?_eq_some_iff.mp hkz3
        rw [rangeKs_length] at hlt
        omega
      obtain ⟨RR, hRR⟩ : ∃ RR, RR = (su ++ (p1 ++ (p2 ++ (rest ++ own)))) ++ own3 := ⟨_, rfl⟩
      have hRx : ∀ x ∈ [(box, boxObj script place3 seed3 bud3 x1 x2 x3 kb3), (ai, lst ws1 c1), (aw, lst ws2 c2)], ∀ q ∈ RR, q.1 ≠ x.1 := by
        intro x hx q hq
        have inU : ∀ q ∈ su ++ (p1 ++ (p2 ++ rest)), q.1 ≠ x.1 := by
          intro q hq
          simp only [List.mem_cons, List.not_mem_nil, or_false] at hx
          rcases hx with rfl | rfl | rfl
          · exact hU3.head q (.tail _ (.tail _ hq))
          · exact hU3.tail.head q (.tail _ hq)
          · exact hU3.tail.tail.head q hq
        have xin : ∀ l, x ∈ (box, boxObj script place3 seed3 bud3 x1 x2 x3 kb3) :: (ai, lst ws1 c1) :: (aw, lst ws2 c2) :: l := fun l => by
          simp only [List.mem_cons, List.not_mem_nil, or_false] at hx ⊢
          rcases hx with rfl | rfl | rfl <;> simp
        rw [hRR] at hq
        simp only [List.mem_append] at hq
        rcases hq with (hq | hq | hq | hq | hq) | hq
        · exact inU q (by simp [hq])
        · exact inU q (by simp [hq])
        · exact inU q (by simp [hq])
        · exact inU q (by simp [hq])
        · exact hD3.ne q hq x (xin _)
        · exact hoff3 q hq x (xin _)
      have hRb3 : ∀ q ∈ RR, q.1 ≠ box := hRx _ (.head _)
      have hRi3 : ∀ q ∈ RR, q.1 ≠ ai := hRx _ (.tail _ (.head _))
      have hRw3 : ∀ q ∈ RR, q.1 ≠ aw := hRx _ (.tail _ (.tail _ (.head _)))
      have e1 : @LT.lt Nat _ box ai := hl3.1
      have e2 : @LT.lt Nat _ box aw := hl4.2.1
      have e3 : @LT.lt Nat _ ai aw := hl4.1
      have hz1 : (List.toArray ws1).size ≤ sizeLine := by rw [List.size_toArray, hB1.length, hlen3, sizeLine_eq]; omega
      have hz2 : (List.toArray ws2).size ≤ sizeLine := by rw [List.size_toArray, hB2.length, hlen3, sizeLine_eq]; omega
      simp only [List.cons_append] at N4
      rw [← hRR] at N4
      -- the turn's end, whatever the new pair of tokens is
      have fin : ∀ {h' : Heap} {tk9' tk8 : Nat} {m9 : Str → Option Value} {news9 : List (Addr × Obj)} {pl sd bd : Int} {y1 y2 y3 : Tok} {ky d1 d2 : Nat} {v1 v2 : Value} {tk0 : Tk} {sN o1 o2 : List (Addr × Obj)},
          Fr g L' h' m9 → News g L' h' news9 → (box, boxObj script pl sd bd y1 y2 y3 ky) ∈ news9 → (ai, lst (ws1 ++ [v1]) d1) ∈ news9 → (aw, lst (ws2 ++ [v2]) d2) ∈ news9 → (∀ q ∈ RR, q ∈ news9) → (∀ q ∈ sN ++ (o1 ++ o2), q ∈ news9) →
          Uni (sN ++ (o1 ++ o2)) → (∀ q ∈ sN ++ (o1 ++ o2), q.1 ≠ box ∧ q.1 ≠ ai ∧ q.1 ≠ aw ∧ ∀ r ∈ RR, q.1 ≠ r.1) → 0 ≤ sd → sd < 2147483647 → TkL w sN n v1 tk0 o1 → TkL w sN n v2 tk0 o2 →
          HasL [(Str.ofString "box", .ref box), (Str.ofString "depth", .int dz tdp), (Str.ofString "tight", .bool (rt != 0)), (Str.ofString "handed", .ref ah), (Str.ofString "due", .ref ad), (Str.ofString "inner", .ref ai), (Str.ofString "wanted", .ref aw)] m9 →
          TbEnd g L' (ToksB w n box script ah ad ai aw dz tdp (rt != 0) rest own (j + 1)) own3 { s with heap := h3, toks := tk8 } { s with heap := h', toks := tk9' } := by
        intro h' tk9' tk8 m9 news9 pl sd bd y1 y2 y3 ky d1 d2 v1 v2 tk0 sN o1 o2 F9 N9 mb mi mw mR mN uN aN s0 s1 T1 T2 hl9
        have inRR : ∀ q, q ∈ su ∨ q ∈ p1 ∨ q ∈ p2 ∨ q ∈ rest ∨ q ∈ own ∨ q ∈ own3 → q ∈ RR := fun q hq => by
          rw [hRR]; simp only [List.mem_append]; rcases hq with hq | hq | hq | hq | hq | hq <;> simp [hq]
        have inN : ∀ q, q ∈ sN ∨ q ∈ o1 ∨ q ∈ o2 → q ∈ sN ++ (o1 ++ o2) := fun q hq => by simp only [List.mem_append]; exact hq
        have dON : Dis ((box, boxObj script place3 seed3 bud3 x1 x2 x3 kb3) :: (ai, lst ws1 c1) :: (aw, lst ws2 c2) :: (su ++ (p1 ++ (p2 ++ rest)))) (sN ++ (o1 ++ o2)) := Dis.of fun q hq x hx => by
          obtain ⟨n1, n2, n3, n4⟩ := aN x hx
          rcases List.mem_cons.mp hq with rfl | hq
          · exact Ne.symm n1
          rcases List.mem_cons.mp hq with rfl | hq
          · exact Ne.symm n2
          rcases List.mem_cons.mp hq with rfl | hq
          · exact Ne.symm n3
          · refine Ne.symm (n4 q (inRR q ?_))
            simp only [List.mem_append] at hq
            rcases hq with hq | hq | hq | hq <;> simp [hq]
        refine turn_end (nx := (box, boxObj script pl sd bd y1 y2 y3 ky) :: (ai, lst (ws1 ++ [v1]) d1) :: (aw, lst (ws2 ++ [v2]) d2) :: ((su ++ sN) ++ ((p1 ++ o1) ++ ((p2 ++ o2) ++ (rest ++ own))))) F9 N9 ?_ (fun q hq => mR q (inRR q (by simp [hq]))) ?_
          ⟨ws1 ++ [v1], ws2 ++ [v2], d1, d2, ts ++ [tk0], su ++ sN, p1 ++ o1, p2 ++ o2, pl, sd, bd, y1, y2, y3, ky, rfl, ?_, ?_, s0, s1, by rw [List.length_append, hlen3]; rfl, ?_, ?_, hl9⟩
        · intro q hq
          rcases List.mem_cons.mp hq with rfl | hq
          · exact mb
          rcases List.mem_cons.mp hq with rfl | hq
          · exact mi
          rcases List.mem_cons.mp hq with rfl | hq
          · exact mw
          simp only [List.mem_append] at hq
          rcases hq with (hq | hq) | (hq | hq) | (hq | hq) | hq | hq
          · exact mR q (inRR q (by simp [hq]))
          · exact mN q (inN q (by simp [hq]))
          · exact mR q (inRR q (by simp [hq]))
          · exact mN q (inN q (by simp [hq]))
          · exact mR q (inRR q (by simp [hq]))
          · exact mN q (inN q (by simp [hq]))
          · exact mR q (inRR q (by simp [hq]))
          · exact mR q (inRR q (by simp [hq]))
        · intro q hq x hx
          have hqR : q ∈ RR := inRR q (by simp [hq])
          rcases List.mem_cons.mp hx with rfl | hx
          · exact hRx _ (.head _) q hqR
          rcases List.mem_cons.mp hx with rfl | hx
          · exact hRx _ (.tail _ (.head _)) q hqR
          rcases List.mem_cons.mp hx with rfl | hx
          · exact hRx _ (.tail _ (.tail _ (.head _))) q hqR
          simp only [List.mem_append] at hx
          rcases hx with (hx | hx) | (hx | hx) | (hx | hx) | hx | hx
          · exact hoff3 q hq x (by simp [hx])
          · exact Ne.symm ((aN x (inN x (by simp [hx]))).2.2.2 q hqR)
          · exact hoff3 q hq x (by simp [hx])
          · exact Ne.symm ((aN x (inN x (by simp [hx]))).2.2.2 q hqR)
          · exact hoff3 q hq x (by simp [hx])
          · exact Ne.symm ((aN x (inN x (by simp [hx]))).2.2.2 q hqR)
          · exact hoff3 q hq x (by simp [hx])
          · exact hoff3 q hq x (by simp [hx])
        · exact (hU3.join uN dON).sub fun a => by simp only [cnt_cons, cnt_append]; omega
        · refine Dis.of fun q hq x hx => ?_
          have hqR : q ∈ RR := inRR q (by simp [hq])
          rcases List.mem_cons.mp hx with rfl | hx
          · exact hRx _ (.head _) q hqR
          rcases List.mem_cons.mp hx with rfl | hx
          · exact hRx _ (.tail _ (.head _)) q hqR
          rcases List.mem_cons.mp hx with rfl | hx
          · exact hRx _ (.tail _ (.tail _ (.head _))) q hqR
          simp only [List.mem_append] at hx
          rcases hx with (hx | hx) | (hx | hx) | (hx | hx) | hx
          · exact hD3.ne q hq x (by simp [hx])
          · exact Ne.symm ((aN x (inN x (by simp [hx]))).2.2.2 q hqR)
          · exact hD3.ne q hq x (by simp [hx])
          · exact Ne.symm ((aN x (inN x (by simp [hx]))).2.2.2 q hqR)
          · exact hD3.ne q hq x (by simp [hx])
          · exact Ne.symm ((aN x (inN x (by simp [hx]))).2.2.2 q hqR)
          · exact hD3.ne q hq x (by simp [hx])
        · exact (hB1.mono fun v t o h => TkIn.mono (fun a o h => List.mem_append_left _ h) n v t o h).snoc (TkIn.mono (fun a o h => List.mem_append_right _ h) n v1 tk0 o1 T1)
        · exact (hB2.mono fun v t o h => TkIn.mono (fun a o h => List.mem_append_left _ h) n v t o h).snoc (TkIn.mono (fun a o h => List.mem_append_right _ h) n v2 tk0 o2 T2)
      have fin1 : ∀ {h' : Heap} {tk9' tk8 : Nat} {m9 : Str → Option Value} {news9 : List (Addr × Obj)} {pl sd bd : Int} {y1 y2 y3 : Tok} {ky d1 d2 : Nat} {a1 a2 : Addr} {b1 b2 : Obj} {l : LK},
          Fr g L' h' m9 → News g L' h' news9 → (box, boxObj script pl sd bd y1 y2 y3 ky) ∈ news9 → (ai, lst (ws1 ++ [.ref a1]) d1) ∈ news9 → (aw, lst (ws2 ++ [.ref a2]) d2) ∈ news9 → (∀ q ∈ RR, q ∈ news9) → (a1, b1) ∈ news9 → (a2, b2) ∈ news9 →
          (a1 ≠ a2 ∧ a1 ≠ box ∧ a1 ≠ ai ∧ a1 ≠ aw ∧ a2 ≠ box ∧ a2 ≠ ai ∧ a2 ≠ aw) → AllLt a1 RR → AllLt a2 RR → (a1 == sysModules) = false → (a2 == sysModules) = false → 0 ≤ sd → sd < 2147483647 → LeafObj w b1 l → LeafObj w b2 l →
          HasL [(Str.ofString "box", .ref box), (Str.ofString "depth", .int dz tdp), (Str.ofString "tight", .bool (rt != 0)), (Str.ofString "handed", .ref ah), (Str.ofString "due", .ref ad), (Str.ofString "inner", .ref ai), (Str.ofString "wanted", .ref aw)] m9 →
          TbEnd g L' (ToksB w n box script ah ad ai aw dz tdp (rt != 0) rest own (j + 1)) own3 { s with heap := h3, toks := tk8 } { s with heap := h', toks := tk9' } := by
        intro h' tk9' tk8 m9 news9 pl sd bd y1 y2 y3 ky d1 d2 a1 a2 b1 b2 l F9 N9 mb mi mw mR m1 m2 ⟨n0, n1, n2, n3, n4, n5, n6⟩ r1 r2 lo1 lo2 s0 s1 l1 l2 hl9
        refine fin (sN := []) (o1 := [(a1, b1)]) (o2 := [(a2, b2)]) F9 N9 mb mi mw mR ?_ ?_ ?_ s0 s1 (TkIn.ofLeaf lo1 l1) (TkIn.ofLeaf lo2 l2) hl9
        · intro q hq
          simp only [List.nil_append, List.singleton_append, List.mem_cons, List.not_mem_nil, or_false] at hq
          rcases hq with rfl | rfl
          · exact m1
          · exact m2
        · exact Uni.push (Uni.single _) fun q hq => by rw [List.mem_singleton.mp hq]; exact Ne.symm n0
        · intro q hq
          simp only [List.nil_append, List.singleton_append, List.mem_cons, List.not_mem_nil, or_false] at hq
          rcases hq with rfl | rfl
          · exact ⟨n1, n2, n3, fun r hr => Nat.ne_of_gt (tb_ltOf r1 r hr)⟩
          · exact ⟨n4, n5, n6, fun r hr => Nat.ne_of_gt (tb_ltOf r2 r hr)⟩
      replace fin := Hid.mk @fin; replace fin1 := HidF.mk @fin1
      replace IH := Hid.mk IH; replace ret := Hid.mk ret; replace hU3 := Hid.mk hU3; replace hD3 := Hid.mk hD3; replace hB1 := Hid.mk hB1; replace hB2 := Hid.mk hB2; replace hRR := Hid.mk hRR; replace hrest := Hid.mk hrest; replace hR := Hid.mk hR
      replace hoff := Hid.mk hoff; replace hoff3 := Hid.mk hoff3; replace hA1' := Hid.mk hA1'; replace hA2' := Hid.mk hA2'; replace hU := Hid.mk hU; replace hlen := Hid.mk hlen; replace hlen3 := Hid.mk hlen3; replace hg := Hid.mk hg; replace hL := Hid.mk hL
      replace hb := Hid.mk hb; replace hb0 := Hid.mk hb0; replace hS := Hid.mk hS; replace T := Hid.mk T; replace X := Hid.mk X; replace k0 := Hid.mk k0; replace k1 := Hid.mk k1; replace hl1 := Hid.mk hl1; replace hl2 := Hid.mk hl2
      clear hRx hUr hDr hRb hkz hkz3
      replace hl3 := Hid.mk hl3; replace hl4 := Hid.mk hl4
      k_steps
      · (rename Fr _ _ _ _ => F6); (rename News _ _ _ _ => N6)
        obtain ⟨k, hk⟩ : ∃ k, n = k + 1 := ⟨n - 1, by omega⟩
        refine IH.out k hk g _ _ _ _ _ box script _ _ _ _ _ _ _ vs ns (dz - 1) _ _ _ F6.keep Xg Tg hSg hI hn (N6 _ (List.Mem.head _)).1 (N6 _ (List.Mem.head _)).2.2 (by assumption) (by assumption) (by omega) ?_ ?_
        · show dp + 1 + 2 * k + 20 < recursionLimit; omega
        rintro tup a1 a2 b6 its6 st6 q1 q2 pl6 sd6 bd6 y1 y2 y3 ky6 kt6 h6 tk6 hst hbx s60 s61 htup htup0 T1 T2 hnew hUn
        have F7 := fr_after F6 hst (fun a ha => by rw [List.mem_singleton.mp ha]; exact (N6 _ (.head _)).2.2) (fun ha => (N6 _ (.head _)).2.1 (List.mem_singleton.mp ha).symm)
        have new0 : ∀ q ∈ st6 ++ (q1 ++ q2), q.1 ≠ box ∧ q.1 ≠ ai ∧ q.1 ≠ aw ∧ ∀ r ∈ RR, q.1 ≠ r.1 := fun q hq => by
          have gn := gone_of N6 (hnew q hq).2
          exact ⟨gn _ (.head _), gn _ (.tail _ (.head _)), gn _ (.tail _ (.tail _ (.head _))), fun r hr => gn r (.tail _ (.tail _ (.tail _ hr)))⟩
        have z0 : @Ne Nat tup box ∧ @Ne Nat tup ai ∧ @Ne Nat tup aw := by
          have gn := gone_of N6 htup0
          exact ⟨gn _ (.head _), gn _ (.tail _ (.head _)), gn _ (.tail _ (.tail _ (.head _)))⟩
        obtain ⟨RN, hRN⟩ : ∃ RN, RN = RR ++ (st6 ++ (q1 ++ q2)) := ⟨_, rfl⟩
        have N7 : News g L' h6 ((tup, { cls := .type "tuple", data := .seq [.ref a1, .ref a2].toArray kt6 }) :: (box, boxObj script pl6 sd6 bd6 y1 y2 y3 ky6) :: (ai, lst ws1 c1) :: (aw, lst ws2 c2) :: RN) := by
          have No := news_tail N6 hst fun q hq => by
            rcases List.mem_cons.mp hq with rfl | hq
            · exact Nat.ne_of_gt e1
            rcases List.mem_cons.mp hq with rfl | hq
            · exact Nat.ne_of_gt e2
            · exact hRb3 q hq
          intro q hq
          rcases List.mem_cons.mp hq with rfl | hq
          · exact ⟨htup, fresh_news F6 htup0⟩
          rcases List.mem_cons.mp hq with rfl | hq
          · exact ⟨hbx, (N6 _ (.head _)).2⟩
          rcases List.mem_cons.mp hq with rfl | hq
          · exact No _ (.head _)
          rcases List.mem_cons.mp hq with rfl | hq
          · exact No _ (.tail _ (.head _))
          rw [hRN] at hq
          rcases List.mem_append.mp hq with hq | hq
          · exact No _ (.tail _ (.tail _ hq))
          · exact ⟨(hnew q hq).1, fresh_news F6 (hnew q hq).2⟩
        have zi : ∀ q ∈ RN, q.1 ≠ ai := fun q hq => by
          rw [hRN] at hq
          rcases List.mem_append.mp hq with hq | hq
          · exact hRi3 q hq
          · exact (new0 q hq).2.1
        have zw : ∀ q ∈ RN, q.1 ≠ aw := fun q hq => by
          rw [hRN] at hq
          rcases List.mem_append.mp hq with hq | hq
          · exact hRw3 q hq
          · exact (new0 q hq).2.2.1
        clear F6 N6 hst hbx htup htup0 hnew
        replace new0 := Hid.mk new0; replace hRN := Hid.mk hRN; replace T1 := Hid.mk T1; replace T2 := Hid.mk T2; replace hUn := Hid.mk hUn; replace hk := Hid.mk hk
        (try dsimp only)
        k_steps
        (rename Fr _ _ _ _ => FE); (rename News _ _ _ _ => NE)
        simp only [List.push_toArray] at NE
        refine fin.out (sN := st6) (o1 := q1) (o2 := q2) (v1 := .ref a1) (v2 := .ref a2) (tk0 := .lst b6 its6) FE NE (by k_mem) (by k_mem) (by k_mem) ?_ ?_ (Uni.of_nodup hUn.out) new0.out s60 s61 (by rw [hk.out]; exact T1.out) (by rw [hk.out]; exact T2.out)
          (HasL.cons rfl (HasL.cons rfl (HasL.cons rfl (HasL.cons rfl (HasL.cons rfl (HasL.cons rfl (HasL.cons rfl HasL.nil)))))))
        · intro q hq
          refine .tail _ (.tail _ (.tail _ (.tail _ ?_)))
          rw [hRN.out]; exact List.mem_append_left _ hq
        · intro q hq
          refine .tail _ (.tail _ (.tail _ (.tail _ ?_)))
          rw [hRN.out]; exact List.mem_append_right _ hq
      all_goals ktr_room
    · rintro m₃ nx3 h3 tk3 ⟨ws1, ws2, c1, c2, ts, su, p1, p2, place3, seed3, bud3, x1, x2, x3, kb3, rfl, hU3, hD3, hs30, hs31, hlen3, hB1, hB2, hm3⟩ F4 N4
      (try clear F3); (try clear N3); (try clear R3); (try clear F2); (try clear N2)
      obtain ⟨u3, rfl⟩ := hm3.form
      clear hm3
      obtain ⟨RZ, hRZ⟩ : ∃ RZ, RZ = su ++ (p1 ++ (p2 ++ (st ++ (os1 ++ (os2 ++ own))))) := ⟨_, rfl⟩
      have e1 : @LT.lt Nat _ box ah := hl1
      have e2 : @LT.lt Nat _ ah ad ∧ @LT.lt Nat _ box ad := hl2
      have e3 : @LT.lt Nat _ box ai ∧ @LT.lt Nat _ ah ai ∧ @LT.lt Nat _ ad ai := ⟨hl3.1, hl3.2.1, hl3.2.2.1⟩
      have e4 : @LT.lt Nat _ ai aw ∧ @LT.lt Nat _ box aw ∧ @LT.lt Nat _ ah aw ∧ @LT.lt Nat _ ad aw := ⟨hl4.1, hl4.2.1, hl4.2.2.1, hl4.2.2.2.1⟩
      have inRZ : ∀ q, q ∈ su ∨ q ∈ p1 ∨ q ∈ p2 ∨ q ∈ st ∨ q ∈ os1 ∨ q ∈ os2 ∨ q ∈ own → q ∈ RZ := fun q hq => by
        rw [hRZ]; simp only [List.mem_append]; exact hq
      have hUall : Uni ((ah, lst vs1 k1') :: (ad, lst vs2 k2') :: (box, boxObj script place3 seed3 bud3 x1 x2 x3 kb3) :: (ai, lst ws1 c1) :: (aw, lst ws2 c2) :: (su ++ (p1 ++ (p2 ++ (st ++ (os1 ++ os2)))))) := hU3.sub fun a => by rw [hrest]; simp only [cnt_cons, cnt_append]; omega
      have hz : (∀ q ∈ RZ, q.1 ≠ ah) ∧ (∀ q ∈ RZ, q.1 ≠ ad) := by
        have hw : ∀ q ∈ RZ, q ∈ su ++ (p1 ++ (p2 ++ (st ++ (os1 ++ os2)))) ∨ q ∈ own := fun q hq => by
          rw [hRZ] at hq; simp only [List.mem_append] at hq ⊢
          rcases hq with hq | hq | hq | hq | hq | hq | hq <;> simp [hq]
        have hin1 : (ah, lst vs1 k1') ∈ rest := by rw [hrest]; exact .head _
        have hin2 : (ad, lst vs2 k2') ∈ rest := by rw [hrest]; exact .tail _ (.head _)
        refine ⟨fun q hq => ?_, fun q hq => ?_⟩
        · rcases hw q hq with h | h
          · exact hUall.head q (.tail _ (.tail _ (.tail _ (.tail _ h))))
          · exact hD3.ne q h (ah, lst vs1 k1') (by simp [hin1])
        · rcases hw q hq with h | h
          · exact hUall.tail.head q (.tail _ (.tail _ (.tail _ h)))
          · exact hD3.ne q h (ad, lst vs2 k2') (by simp [hin2])
      obtain ⟨hza, hzd⟩ := hz
      have N5 : News g L' h3 ((box, boxObj script place3 seed3 bud3 x1 x2 x3 kb3) :: (ah, lst vs1 k1') :: (ad, lst vs2 k2') :: (ai, lst ws1 c1) :: (aw, lst ws2 c2) :: RZ) := news_sub N4 fun q hq => by
        rw [hRZ] at hq; rw [hrest]
        simp only [List.mem_cons, List.mem_append] at hq ⊢
        rcases hq with hq | hq | hq | hq | hq | hq | hq | hq | hq | hq | hq | hq <;> simp [hq]
      have hz1 : (List.toArray vs1).size ≤ sizeLine := by rw [List.size_toArray, hA1'.length, hlen, sizeLine_eq]; omega
      have hz2 : (List.toArray vs2).size ≤ sizeLine := by rw [List.size_toArray, hA2'.length, hlen, sizeLine_eq]; omega
      have fin : ∀ {h' : Heap} {tk9' tk8 : Nat} {m9 : Str → Option Value} {news9 : List (Addr × Obj)} {d1 d2 : Nat} {a1 a2 : Addr} {b1 b2 : Obj} {y1 y2 : Tok},
          Fr g L' h' m9 → News g L' h' news9 → (box, boxObj script place3 seed3 bud3 x1 x2 x3 kb3) ∈ news9 → (ah, lst (vs1 ++ [.ref a1]) d1) ∈ news9 → (ad, lst (vs2 ++ [.ref a2]) d2) ∈ news9 → (ai, lst ws1 c1) ∈ news9 → (aw, lst ws2 c2) ∈ news9 →
          (∀ q ∈ RZ, q ∈ news9) → (a1, b1) ∈ news9 → (a2, b2) ∈ news9 → (a1 ≠ a2 ∧ a1 ≠ box ∧ a1 ≠ ah ∧ a1 ≠ ad ∧ a1 ≠ ai ∧ a1 ≠ aw ∧ a2 ≠ box ∧ a2 ≠ ah ∧ a2 ≠ ad ∧ a2 ≠ ai ∧ a2 ≠ aw) → AllLt a1 RZ → AllLt a2 RZ →
          (a1 == sysModules) = false → (a2 == sysModules) = false → b1.IsDictOf (K0 w) [(Str.ofString "type", .str (Str.ofString "list_item") y1), (Str.ofString "children", .ref ai)] →
          b2.IsDictOf (K0 w) [(Str.ofString "type", .str (Str.ofString "list_item") y2), (Str.ofString "children", .ref aw)] →
          HasL [(Str.ofString "box", .ref box), (Str.ofString "depth", .int dz tdp), (Str.ofString "tight", .bool (rt != 0)), (Str.ofString "handed", .ref ah), (Str.ofString "due", .ref ad)] m9 →
          TbEnd g L' (ItemsB w n box script ah ad dz tdp (rt != 0) (i + 1)) own { s with heap := h, toks := tk8 } { s with heap := h', toks := tk9' } := by
        intro h' tk9' tk8 m9 news9 d1 d2 a1 a2 b1 b2 y1 y2 F9 N9 mb mh md mi mw mR m1 m2 ⟨n0, n1, n2, n3, n4, n5, n6, n7, n8, n9, n10⟩ r1 r2 lo1 lo2 b1d b2d hl9
        have r1' := tb_ltOf r1
        have r2' := tb_ltOf r2
        have u1 : Uni ((a1, b1) :: (ah, lst vs1 k1') :: (ad, lst vs2 k2') :: (box, boxObj script place3 seed3 bud3 x1 x2 x3 kb3) :: (ai, lst ws1 c1) :: (aw, lst ws2 c2) :: (su ++ (p1 ++ (p2 ++ (st ++ (os1 ++ os2)))))) := hUall.push fun q hq => by
          rcases List.mem_cons.mp hq with rfl | hq
          · exact Ne.symm n2
          rcases List.mem_cons.mp hq with rfl | hq
          · exact Ne.symm n3
          rcases List.mem_cons.mp hq with rfl | hq
          · exact Ne.symm n1
          rcases List.mem_cons.mp hq with rfl | hq
          · exact Ne.symm n4
          rcases List.mem_cons.mp hq with rfl | hq
          · exact Ne.symm n5
          · refine Nat.ne_of_lt (r1' q (inRZ q ?_))
            simp only [List.mem_append] at hq
            rcases hq with hq | hq | hq | hq | hq | hq <;> simp [hq]
        have u2 := u1.push (a := a2) (o := b2) fun q hq => by
          rcases List.mem_cons.mp hq with rfl | hq
          · exact n0
          rcases List.mem_cons.mp hq with rfl | hq
          · exact Ne.symm n7
          rcases List.mem_cons.mp hq with rfl | hq
          · exact Ne.symm n8
          rcases List.mem_cons.mp hq with rfl | hq
          · exact Ne.symm n6
          rcases List.mem_cons.mp hq with rfl | hq
          · exact Ne.symm n9
          rcases List.mem_cons.mp hq with rfl | hq
          · exact Ne.symm n10
          · refine Nat.ne_of_lt (r2' q (inRZ q ?_))
            simp only [List.mem_append] at hq
            rcases hq with hq | hq | hq | hq | hq | hq <;> simp [hq]
        have mem1 : ∀ q, q ∈ su → q ∈ st ++ ((a1, b1) :: (a2, b2) :: (ai, lst ws1 c1) :: (aw, lst ws2 c2) :: su) := fun q hq => by simp [hq]
        have mem0 : ∀ q, q ∈ st → q ∈ st ++ ((a1, b1) :: (a2, b2) :: (ai, lst ws1 c1) :: (aw, lst ws2 c2) :: su) := fun q hq => by simp [hq]
        refine turn_end (nx := (box, boxObj script place3 seed3 bud3 x1 x2 x3 kb3) :: (ah, lst (vs1 ++ [.ref a1]) d1) :: (ad, lst (vs2 ++ [.ref a2]) d2) :: ((st ++ ((a1, b1) :: (a2, b2) :: (ai, lst ws1 c1) :: (aw, lst ws2 c2) :: su)) ++ ((os1 ++ p1) ++ (os2 ++ p2)))) F9 N9 ?_ (fun q hq => mR q (inRZ q (by simp [hq]))) ?_
          ⟨vs1 ++ [.ref a1], vs2 ++ [.ref a2], d1, d2, its ++ [ts], st ++ ((a1, b1) :: (a2, b2) :: (ai, lst ws1 c1) :: (aw, lst ws2 c2) :: su), os1 ++ p1, os2 ++ p2, place3, seed3, bud3, x1, x2, x3, kb3, rfl, ?_, hs30, hs31, by rw [List.length_append, hlen]; rfl, ?_, ?_, hl9⟩
        · intro q hq
          rcases List.mem_cons.mp hq with rfl | hq
          · exact mb
          rcases List.mem_cons.mp hq with rfl | hq
          · exact mh
          rcases List.mem_cons.mp hq with rfl | hq
          · exact md
          simp only [List.mem_append, List.mem_cons] at hq
          rcases hq with (hq | rfl | rfl | rfl | rfl | hq) | (hq | hq) | hq | hq
          · exact mR q (inRZ q (by simp [hq]))
          · exact m1
          · exact m2
          · exact mi
          · exact mw
          · exact mR q (inRZ q (by simp [hq]))
          · exact mR q (inRZ q (by simp [hq]))
          · exact mR q (inRZ q (by simp [hq]))
          · exact mR q (inRZ q (by simp [hq]))
          · exact mR q (inRZ q (by simp [hq]))
        · intro q hq x hx
          have hqR : q ∈ RZ := inRZ q (by simp [hq])
          rcases List.mem_cons.mp hx with rfl | hx
          · exact hD3.ne q hq _ (.head _)
          rcases List.mem_cons.mp hx with rfl | hx
          · exact hza q hqR
          rcases List.mem_cons.mp hx with rfl | hx
          · exact hzd q hqR
          simp only [List.mem_append, List.mem_cons] at hx
          have inr : ∀ x, x ∈ st ∨ x ∈ os1 ∨ x ∈ os2 → x ∈ rest := fun x hx => by rw [hrest]; simp only [List.mem_cons, List.mem_append]; rcases hx with hx | hx | hx <;> simp [hx]
          rcases hx with (hx | rfl | rfl | rfl | rfl | hx) | (hx | hx) | hx | hx
          · exact hD3.ne q hq x (by simp [inr x (by simp [hx])])
          · exact Nat.ne_of_lt (r1' q hqR)
          · exact Nat.ne_of_lt (r2' q hqR)
          · exact hD3.ne q hq _ (.tail _ (.head _))
          · exact hD3.ne q hq _ (.tail _ (.tail _ (.head _)))
          · exact hD3.ne q hq x (by simp [hx])
          · exact hD3.ne q hq x (by simp [inr x (by simp [hx])])
          · exact hD3.ne q hq x (by simp [hx])
          · exact hD3.ne q hq x (by simp [inr x (by simp [hx])])
          · exact hD3.ne q hq x (by simp [hx])
        · exact u2.sub fun a => by simp only [cnt_cons, cnt_append]; omega
        · exact (hA1'.mono fun v t o h => ItemIn.mono (fun a o h => mem0 _ h) (fun v t o h => TkIn.mono (fun a o h => mem0 _ h) n v t o h) h).snoc
            ⟨a1, b1, ai, ws1, c1, y1, rfl, by simp, lo1, b1d, by simp, hB1.mono fun v t o h => TkIn.mono (fun a o h => mem1 _ h) n v t o h⟩
        · exact (hA2'.mono fun v t o h => ItemIn.mono (fun a o h => mem0 _ h) (fun v t o h => TkIn.mono (fun a o h => mem0 _ h) n v t o h) h).snoc
            ⟨a2, b2, aw, ws2, c2, y2, rfl, by simp, lo2, b2d, by simp, hB2.mono fun v t o h => TkIn.mono (fun a o h => mem1 _ h) n v t o h⟩
      replace fin := Hid.mk @fin
      clear IH ret hU3 hD3 hB1 hB2 hRZ hrest hR hoff hA1' hA2' hU hUall hlen hlen3 hg hL hb hb0 hS T X k0 k1 hl1 hl2 hl3 hl4 hUr hDr hRb N4 inRZ
      k_steps
      (rename Fr _ _ _ _ => FE); (rename News _ _ _ _ => NE)
      simp only [List.push_toArray] at NE
      refine' fin.out FE NE ?m1 ?m2 ?m3 ?m4 ?m5 ?m6 ?m7 ?m8 ?ne ?r1 ?r2 ?lo1 ?lo2 ?d1 ?d2 ?hl
      (case m1 => k_mem); (case m2 => k_mem); (case m3 => k_mem); (case m4 => k_mem); (case m5 => k_mem); (case m7 => k_mem); (case m8 => k_mem)
      (case m6 => intro q hq; repeat (first | exact hq | refine List.Mem.tail _ ?_))
      (case ne => exact ⟨by k_ne, by k_ne, by k_ne, by k_ne, by k_ne, by k_ne, by k_ne, by k_ne, by k_ne, by k_ne, by k_ne⟩)
      (case r1 => tbn_find); (case r2 => tbn_find)
      (case lo1 => with_reducible assumption); (case lo2 => with_reducible assumption)
      (case d1 => assumption); (case d2 => assumption)
      (case hl => exact HasL.cons rfl (HasL.cons rfl (HasL.cons rfl (HasL.cons rfl (HasL.cons rfl HasL.nil)))))
  · rintro m₁ nx h tk9 ⟨vs1, vs2, k1', k2', its, st, os1, os2, place', seed', bud', t1', t2', t3', kb', rfl, hU, hs0', hs1', hlen, hA1', hA2', hm⟩ F2 N2
    (try clear F1); (try clear N1); (try clear R1)
    obtain ⟨u, rfl⟩ := hm.form
    clear hm
    obtain ⟨R, hR⟩ : ∃ R, R = st ++ (os1 ++ os2) := ⟨_, rfl⟩
    rw [← hR] at N2
    have hab : @LT.lt Nat _ box ah := hl1
    have hcd : @LT.lt Nat _ ah ad ∧ @LT.lt Nat _ box ad := hl2
    have fin : ∀ {h' : Heap} {tk9' : Nat} {m9 : Str → Option Value} {news9 : List (Addr × Obj)} {tup a1 a2 : Addr} {b1 b2 : Obj} {y1 y2 : Tok} {kt : Nat},
        Fr g L' h' m9 → News g L' h' news9 → (tup, { cls := .type "tuple", data := .seq [.ref a1, .ref a2].toArray kt }) ∈ news9 → (box, boxObj script place' seed' bud' t1' t2' t3' kb') ∈ news9 → (ah, lst vs1 k1') ∈ news9 → (ad, lst vs2 k2') ∈ news9 → (∀ q ∈ R, q ∈ news9) →
        (a1, b1) ∈ news9 → (a2, b2) ∈ news9 → (a1 ≠ a2 ∧ a1 ≠ box ∧ a1 ≠ ah ∧ a1 ≠ ad ∧ a2 ≠ box ∧ a2 ≠ ah ∧ a2 ≠ ad ∧ tup ≠ box) → AllLt a1 R → AllLt a2 R → (a1 == sysModules) = false → (a2 == sysModules) = false →
        b1.IsDictOf (K0 w) [(Str.ofString "type", .str (Str.ofString "list") y1), (Str.ofString "tight", .bool (rt != 0)), (Str.ofString "children", .ref ah)] →
        b2.IsDictOf (K0 w) [(Str.ofString "type", .str (Str.ofString "list") y2), (Str.ofString "tight", .bool (rt != 0)), (Str.ofString "children", .ref ad)] →
        Q (.ref tup) { s with heap := h', toks := tk9' } := by
      intro h' tk9' m9 news9 tup a1 a2 b1 b2 y1 y2 kt F9 N9 mt mb mh md mR m1 m2 ⟨n0, n1, n2, n3, n4, n5, n6, n7⟩ r1 r2 lo1 lo2 b1d b2d
      have r1' := tb_ltOf r1
      have r2' := tb_ltOf r2
      have gone : ∀ q ∈ news9, q.1 ≠ box → s.heap.get? q.1 = none := fun q hq hne => by
        have z := (N9 q hq).2.2
        cases y : s.heap.get? q.1 with
        | none => rfl
        | some o =>
          rw [hg] at z
          have z' := hideAll_get [box] y (fun hm => hne (List.mem_singleton.mp hm))
          change (hideAll s.heap [box]).get? q.1 = none at z
          rw [z'] at z
          cases z
      have hUh := hU.tail
      have mem0 : ∀ q, q ∈ st → q ∈ (a1, b1) :: (a2, b2) :: (ah, lst vs1 k1') :: (ad, lst vs2 k2') :: st := fun q hq => by simp [hq]
      refine ret tup a1 a2 (rt != 0) its ((a1, b1) :: (a2, b2) :: (ah, lst vs1 k1') :: (ad, lst vs2 k2') :: st) os1 os2 place' seed' bud' t1' t2' t3' kb' kt h' tk9' (fun b o e => F9.keep b o (by rw [hg]; exact e)) (N9 _ mb).1 hs0' hs1' (N9 _ mt).1 (gone _ mt n7)
        ⟨a1, b1, ah, vs1, k1', y1, rfl, by simp, lo1, b1d, by simp, hA1'.mono fun v t o h => ItemIn.mono (fun a o h => mem0 _ h) (fun v t o h => TkIn.mono (fun a o h => mem0 _ h) n v t o h) h⟩
        ⟨a2, b2, ad, vs2, k2', y2, rfl, by simp, lo2, b2d, by simp, hA2'.mono fun v t o h => ItemIn.mono (fun a o h => mem0 _ h) (fun v t o h => TkIn.mono (fun a o h => mem0 _ h) n v t o h) h⟩ ?_ (Uni.nodup ?_)
      · have each : ∀ q, q ∈ news9 → q.1 ≠ box → h'.get? q.1 = some q.2 ∧ s.heap.get? q.1 = none := fun q hq hne => ⟨(N9 q hq).1, gone q hq hne⟩
        intro q hq
        simp only [List.mem_append, List.mem_cons] at hq
        rcases hq with (rfl | rfl | rfl | rfl | hq) | hq | hq
        · exact each _ m1 n1
        · exact each _ m2 n4
        · exact each _ mh (hU.head _ (.head _))
        · exact each _ md (hU.head _ (.tail _ (.head _)))
        · have hin : q ∈ st ++ (os1 ++ os2) := by simp [hq]
          exact each q (mR q (by rw [hR]; exact hin)) (hU.head q (.tail _ (.tail _ hin)))
        · have hin : q ∈ st ++ (os1 ++ os2) := by simp [hq]
          exact each q (mR q (by rw [hR]; exact hin)) (hU.head q (.tail _ (.tail _ hin)))
        · have hin : q ∈ st ++ (os1 ++ os2) := by simp [hq]
          exact each q (mR q (by rw [hR]; exact hin)) (hU.head q (.tail _ (.tail _ hin)))
      · have u1 := hUh.push (a := a1) (o := b1) fun q hq => by
          rcases List.mem_cons.mp hq with rfl | hq
          · exact Ne.symm n2
          rcases List.mem_cons.mp hq with rfl | hq
          · exact Ne.symm n3
          · exact Nat.ne_of_lt (r1' q (by rw [hR]; exact hq))
        have u2 := u1.push (a := a2) (o := b2) fun q hq => by
          rcases List.mem_cons.mp hq with rfl | hq
          · exact n0
          rcases List.mem_cons.mp hq with rfl | hq
          · exact Ne.symm n5
          rcases List.mem_cons.mp hq with rfl | hq
          · exact Ne.symm n6
          · exact Nat.ne_of_lt (r2' q (by rw [hR]; exact hq))
        exact u2.sub fun a => by simp only [cnt_cons, cnt_append]; omega
    replace fin := Hid.mk @fin
    clear IH ret hA1' hA2' hU hlen hg hL hb hb0 hS T X k0 k1 hl1 hl2 hR
    k_steps
    all_goals (
      dsimp only
      (rename Fr _ _ _ _ => FE); (rename News _ _ _ _ => NE)
      refine' fin.out FE NE ?m1 ?m2 ?m3 ?m4 ?m6 ?m7 ?m8 ?ne ?r1 ?r2 ?lo1 ?lo2 ?d1 ?d2
      (case m1 => k_mem); (case m2 => k_mem); (case m3 => k_mem); (case m4 => k_mem); (case m7 => k_mem); (case m8 => k_mem)
      (case m6 => intro q hq; repeat (first | exact hq | refine List.Mem.tail _ ?_))
      (case ne => exact ⟨by k_ne, by k_ne, by k_ne, by k_ne, by k_ne, by k_ne, by k_ne, by k_ne⟩)
      (case r1 => tbn_find); (case r2 => tbn_find)
      (case lo1 => with_reducible assumption); (case lo2 => with_reducible assumption)
      (case d1 => assumption); (case d2 => assumption))
end Mine
end

-- part A5
section
open PySem PySem.W PySem.Calls PyProof.Rows PyProof.V
namespace Mine
theorem list_spec {w : World} {p : Program} {loose : List Str} {mean : ExcName → Option Value} {mg mb : Str → Option Value} : ∀ n, ListAt w p loose mean mg mb n
  | 0 => list_step fun k e => nomatch e
  | n + 1 => list_step fun k e => by cases e; exact list_spec n
end Mine
end

-- part A6
section
open PySem PySem.W PySem.Calls PyProof.Rows PyProof.V
namespace Mine
section
variable {w : World} {p : Program} {loose : List Str} {mean : ExcName → Option Value} {mg mb : Str → Option Value} {g : Heap} {dp un : Nat} {fr : Option (List Env)} {gd : Option (List Code)} {L : Addr} {m : Str → Option Value} {s : Shared}
  {news : List (Addr × Obj)} {Q E : Value → Shared → Prop}
/-- a def that settles, over the ledger -/
theorem settle_K {f : Addr} {res : Value → Prop} {n : Nat} (C : SettleAt w p loose mean mg mb f res n) {pre os post st : List (Addr × Obj)} {v : Value} {b : Bool} {its : List (List Tk)}
    (F : Fr g L s.heap m) (N : News g L s.heap (pre ++ (os ++ post))) (X : (Mine.hd.heap_39 w.params).In g) (T : Top p loose mean mg mb g) (hU : Uni (pre ++ (os ++ post))) (hst : ∀ q ∈ st, q ∈ pre ++ post) (T2 : TkL w st n v (.lst b its) os)
    (hd : dp + 2 * n + 10 < recursionLimit)
    (ret : ∀ r os' h' tk', res r → Fr g L h' m → News g L h' (pre ++ (os' ++ post)) → TkL w st n v (settle n (.lst b its)) os' → adr os' = adr os → Q r { s with heap := h', toks := tk' }) :
    wpAny (model PySem.Challenge.rw_fe5005_01.row.prog w) (ar dp un fr gd) (call (.ref f) [v]) Q E s := by
  have hos : ∀ q ∈ os, s.heap.get? q.1 = some q.2 ∧ q.1 ≠ L ∧ g.get? q.1 = none := fun q hq => N q (List.mem_append_right _ (List.mem_append_left _ hq))
  have hdis : ∀ q ∈ pre ++ post, q.1 ∉ adr os := fun q hq hm => by
    have h1 := hU q.1
    have h2 := cnt_pos hm
    have h3 := cnt_pos (mem_adr hq)
    rw [cnt_append] at h3
    rw [cnt_append, cnt_append] at h1
    omega
  have stay : g.StaysIn (hideAll s.heap (adr os)) := fun a o e => hideAll_get _ (F.keep a o e) fun hm => by
    obtain ⟨q, hq, rfl⟩ := adr_mem hm
    rw [(hos q hq).2.2] at e; cases e
  have hUo : Uni os := hU.sub fun a => by rw [cnt_append, cnt_append]; omega
  refine C (hideAll s.heap (adr os)) (fun a o => (a, o) ∈ st) dp un fr gd s v b its os Q E (fun a o e => of_hideAll _ e) (X.keeps stay) (T.keeps stay) (fun a o hm => ?_) T2 hUo.nodup (fun q hq => (hos q hq).1) (fun q hq => hideAll_none _ (mem_adr hq)) hd ?_
  · have hm' := hst _ hm
    refine hideAll_get _ (N (a, o) ?_).1 (hdis _ hm')
    rcases List.mem_append.mp hm' with h | h
    · exact List.mem_append_left _ h
    · exact List.mem_append_right _ (List.mem_append_right _ h)
  · intro r os' h' tk' hr hst' hT ha hg
    refine ret r os' h' tk' hr (fr_swap F N hst') (news_swap N hst' ha hg (fun q hq x hx e => hdis q (List.mem_append_left _ hq) (by rw [e]; exact mem_adr hx)) (fun q hq x hx e => hdis q (List.mem_append_right _ hq) (by rw [e]; exact mem_adr hx))) hT ha

/-- the def that makes two like trees, over the ledger -/
theorem list_K {n : Nat} (C : ListAt w p loose mean mg mb n) {box script : Addr} {place seed bud : Int} {t1 t2 t3 : Tok} {k : Nat} {vs : List Value} {ns : List Int} {dz : Int} {tk : Tok}
    (F : Fr g L s.heap m) (N : News g L s.heap ((box, boxObj script place seed bud t1 t2 t3 k) :: news)) (hne : ∀ q ∈ news, q.1 ≠ box) (X : (Mine.hd.heap_39 w.params).In g) (T : Top p loose mean mg mb g) (hS : g.IsList script vs.toArray) (hI : IntsAre vs ns) (hn : ns.length ≤ 63)
    (hs0 : 0 ≤ seed) (hs1 : seed < 2147483647) (hz : dz = (n : Int)) (hd : dp + 2 * n + 20 < recursionLimit)
    (ret : ∀ (tup a1 a2 : Addr) (b : Bool) (its : List (List Tk)) (st os1 os2 : List (Addr × Obj)) (pl sd bd : Int) (y1 y2 y3 : Tok) (ky kt : Nat) (h' : Heap) (tk' : Nat), Fr g L h' m →
      News g L h' ((tup, { cls := .type "tuple", data := .seq [.ref a1, .ref a2].toArray kt }) :: (box, boxObj script pl sd bd y1 y2 y3 ky) :: (news ++ (st ++ (os1 ++ os2)))) →
      (∀ q ∈ (box, boxObj script pl sd bd y1 y2 y3 ky) :: news, tup ≠ q.1) → (∀ q ∈ st ++ (os1 ++ os2), ∀ x ∈ (box, boxObj script pl sd bd y1 y2 y3 ky) :: news, q.1 ≠ x.1) → 0 ≤ sd → sd < 2147483647 →
      TkL w st (n + 1) (.ref a1) (.lst b its) os1 → TkL w st (n + 1) (.ref a2) (.lst b its) os2 → Uni (st ++ (os1 ++ os2)) → Q (.ref tup) { s with heap := h', toks := tk' }) :
    wpAny (model PySem.Challenge.rw_fe5005_01.row.prog w) (ar dp un fr gd) (call (.ref 431) [.ref box, .int dz tk]) Q E s := by
  refine C g dp un fr gd s box script place seed bud t1 t2 t3 k vs ns dz tk Q E F.keep X T hS hI hn (N _ (.head _)).1 (N _ (.head _)).2.2 hs0 hs1 hz hd ?_
  intro tup a1 a2 b its st os1 os2 pl sd bd y1 y2 y3 ky kt h' tk' hst hbx s0 s1 htup htup0 T1 T2 hnew hUn
  have F2 := fr_after F hst (fun a ha => by rw [List.mem_singleton.mp ha]; exact (N _ (.head _)).2.2) (fun ha => (N _ (.head _)).2.1 (List.mem_singleton.mp ha).symm)
  have No := news_tail N hst hne
  refine ret tup a1 a2 b its st os1 os2 pl sd bd y1 y2 y3 ky kt h' tk' F2 (fun q hq => ?_) (fun q hq => ?_) (fun q hq x hx => ?_) s0 s1 T1 T2 (Uni.of_nodup hUn)
  · rcases List.mem_cons.mp hq with rfl | hq
    · exact ⟨htup, fresh_news F htup0⟩
    rcases List.mem_cons.mp hq with rfl | hq
    · exact ⟨hbx, (N _ (.head _)).2⟩
    rcases List.mem_append.mp hq with hq | hq
    · exact No q hq
    · exact ⟨(hnew q hq).1, fresh_news F (hnew q hq).2⟩
  · rcases List.mem_cons.mp hq with rfl | hq
    · exact gone_of N htup0 (box, boxObj script place seed bud t1 t2 t3 k) (.head _)
    · exact gone_of N htup0 q (.tail _ hq)
  · rcases List.mem_cons.mp hx with rfl | hx
    · exact gone_of N (hnew q hq).2 (box, boxObj script place seed bud t1 t2 t3 k) (.head _)
    · exact gone_of N (hnew q hq).2 x (.tail _ hx)

/-- a dict of the ledger whose word for its kind is ty -/
def TyL (w : World) (st : List (Addr × Obj)) (v : Value) (ty : Str) : Prop :=
  ∃ d o kvs t, v = .ref d ∧ (d, o) ∈ st ∧ o.IsDictOf (K0 w) kvs ∧ valueAt kvs (Str.ofString "type") = some (.str ty t)
theorem TyL.mono {st st' : List (Addr × Obj)} (h : ∀ q ∈ st, q ∈ st') {v : Value} {ty : Str} (x : TyL w st v ty) : TyL w st' v ty :=
  let ⟨d, o, kvs, t, h1, h2, h3⟩ := x; ⟨d, o, kvs, t, h1, h _ h2, h3⟩
theorem TyL.at {g h : Heap} {st : List (Addr × Obj)} (N : News g L h st) {v : Value} {ty : Str} (x : TyL w st v ty) : TyAt w h v ty :=
  let ⟨d, o, kvs, t, h1, h2, h3, h4⟩ := x
  ⟨d, kvs, t, h1, Heap.dictOf_iff.mpr ⟨o, (N _ h2).1, h3⟩, h4⟩

theorem back_K {h' : Heap} (F : Fr g L s.heap m) (N : News g L s.heap news) (hst : s.heap.StaysIn h') : Fr g L h' m ∧ News g L h' news :=
  ⟨fr_after (as := []) F hst (fun _ h => nomatch h) (fun h => nomatch h), fun q hq => ⟨hst _ _ (N q hq).1, (N q hq).2⟩⟩

theorem is_loose_list_K {l : Addr} {vs : List Value} {k : Nat} {tys : List Str} (F : Fr g L s.heap m) (N : News g L s.heap news) (X : (Mine.hd.heap_39 w.params).In g) (T : Top p loose mean mg mb g)
    (hl : (l, lst vs k) ∈ news) {st : List (Addr × Obj)} (hst : ∀ q ∈ st, q ∈ news) (ht : All2 (TyL w st) vs tys) (hd : dp + 10 < recursionLimit) (hu : un + 100 < cLine)
    (ret : ∀ h' tk', Fr g L h' m → News g L h' news → Q (.bool (looseB tys)) { s with heap := h', toks := tk' }) :
    wpAny (model PySem.Challenge.rw_fe5005_01.row.prog w) (ar dp un fr gd) (call (.ref 59) [.ref l]) Q E s :=
  is_loose_list_spec F.keep X T ⟨_, (N _ hl).1, rfl, k, rfl⟩ (ht.mono fun _ _ h => (h.mono hst).at N) hd hu fun h' tk' h => let ⟨a, b⟩ := back_K F N h; ret h' tk' a b
theorem is_loose_tuple_K {l : Addr} {vs : List Value} {tys : List Str} (F : Fr g L s.heap m) (N : News g L s.heap news) (X : (Mine.hd.heap_39 w.params).In g) (T : Top p loose mean mg mb g)
    (hl : s.heap.IsTuple l vs.toArray) {st : List (Addr × Obj)} (hst : ∀ q ∈ st, q ∈ news) (ht : All2 (TyL w st) vs tys) (hd : dp + 10 < recursionLimit) (hu : un + 100 < cLine)
    (ret : ∀ h' tk', Fr g L h' m → News g L h' news → Q (.bool (looseB tys)) { s with heap := h', toks := tk' }) :
    wpAny (model PySem.Challenge.rw_fe5005_01.row.prog w) (ar dp un fr gd) (call (.ref 59) [.ref l]) Q E s :=
  is_loose_tuple_spec F.keep X T hl (ht.mono fun _ _ h => (h.mono hst).at N) hd hu fun h' tk' h => let ⟨a, b⟩ := back_K F N h; ret h' tk' a b
theorem law_loose_K {l : Addr} {vs : List Value} {k : Nat} {tys : List Str} (F : Fr g L s.heap m) (N : News g L s.heap news) (X : (Mine.hd.heap_39 w.params).In g) (T : Top p loose mean mg mb g)
    (hl : (l, lst vs k) ∈ news) {st : List (Addr × Obj)} (hst : ∀ q ∈ st, q ∈ news) (ht : All2 (TyL w st) vs tys) (h8 : tys.length ≤ 100) (hd : dp + 10 < recursionLimit)
    (ret : ∀ h' tk', Fr g L h' m → News g L h' news → Q (.bool (looseB tys)) { s with heap := h', toks := tk' }) :
    wpAny (model PySem.Challenge.rw_fe5005_01.row.prog w) (ar dp un fr gd) (call (.ref 445) [.ref l]) Q E s :=
  law_loose_spec F.keep X T ⟨_, (N _ hl).1, rfl, k, rfl⟩ (ht.mono fun _ _ h => (h.mono hst).at N) h8 hd fun h' tk' h => let ⟨a, b⟩ := back_K F N h; ret h' tk' a b
theorem settle_lst (b : Bool) (its : List (List Tk)) : ∀ n, ∃ its', settle n (.lst b its) = .lst b its'
  | 0 => ⟨its, rfl⟩
  | n + 1 => by cases b <;> exact ⟨_, rfl⟩
end
end Mine
end

-- part R1
section
open PySem PySem.W PySem.Calls PyProof.Rows PyProof.V
namespace Mine
theorem super_K {prog : Program} {w : World} {A : Around} {E : Value → Shared → Prop} {s : Shared} {h₀ : Heap} {L x C D : Addr} {m : Str → Option Value} {news : List (Addr × Obj)} {K : Frag} {ox : Obj} {odx : Option Obj} {cdD : ClassData} {Q : Value → Shared → Prop}
    (F : Fr h₀ L s.heap m) (X₀ : K.In h₀) (N : News h₀ L s.heap news) (I : InstAt s.heap x ox C odx) (hD : clsIn K D = some cdD) (hsub : mroIn K C (.ref D) = some true)
    (h : ∀ so h', Fr h₀ L h' m → News h₀ L h' ((so, ks_superObj D x C) :: news) → (∀ q ∈ news, q.1 < so) → Q (.ref so) { s with heap := h' }) : wpAny (model prog w) A (call (.type "super") [.ref D, .ref x]) Q E s := by
  have X : K.In s.heap := X₀.keeps F.keep
  obtain ⟨oD, hD1, hD2⟩ : ∃ oD, s.heap.get? D = some oD ∧ oD.data = .cls cdD := by
    unfold clsIn at hD
    split at hD
    · rename_i ho
      cases hD
      exact ⟨_, X _ _ ho, rfl⟩
    · cases hD
  obtain ⟨hh, gn, dr, tk, os⟩ := s
  refine ks_wpAny_call_super hD1 hD2 I.at_ I.cls (fun c e => ?_) (looks_mroIn X hsub) fun h' e k => ?_
  · have := I.no
    unfold notCls at this
    rw [e] at this
    exact Bool.noConfusion this
  · obtain ⟨F', N', l'⟩ := ks_newsPush (s := ⟨hh, gn, dr, tk, os⟩) F N rfl e k
    exact h _ _ F' N' l'

local macro_rules | `(tactic| walk_at "eval Name") => `(tactic| (k_here; (with_reducible show wpAny _ _ (eval (PySem.Expr.Name (PySem.Str.ofString "super") _) _) _ _ _); k_dflt (refine' nameX_B ?F ?X ?T ?e ?v ?n ?_ ?a ?b; (case F => k_asm); (case X => k_asm); (case T => k_asm); (case a => rfl); (case b => rfl); (case e => k_is); (case v => first | boot_by_name | rfl | kernel_rfl); (case n => decide); k_whole)))
local macro_rules | `(tactic| walk_at "call type:super") => `(tactic| (k_here; k_dflt (refine' super_K ?k1 ?k2 ?k3 ?k4 ?k5 ?k6 ?_; (case k1 => k_asm); (case k2 => k_asm); (case k3 => k_asm); (case k4 => k_inst); (case k5 => k_is); (case k6 => k_is); k_whole); intro so' h' F' N' l1; (try k_lt l1)))
local macro_rules | `(tactic| ktr_room) => `(tactic| (refine' ks_code_super ?k1 ?k2 ?k3 ?k4 ?k5 ?kA ?kF ?kK ?k6 ?k7 ?k8 ?k9 ?kB ?_ ?c1 ?c2 ?c3 ?c4; (case kA => exact rfl); (case kF => exact rfl); (case kK => first | exact rfl | assumption); (case k1 => k_asm); (case k2 => k_asm); (case k3 => k_asm); (case k4 => k_asm); (case k5 => k_asm); (case k6 => k_is); (case k7 => k_is); (case k8 => first | k_room | (exact Nat.le_of_ble_eq_true rfl)); (case k9 => first | exact BindsTo.of_eq rfl | exact binds_K (by k_in) rfl (by k_is) rfl rfl rfl); (case kB => exact locs rfl); (case c1 => decide); (case c2 => exact rfl); (case c3 => exact rfl); (case c4 => exact rfl); intro g' L' h' FG' F' N' B' X' T' l1; (try k_lt l1); (try dsimp only); (try k_lift B')))
local macro_rules | `(tactic| walk_at "call ref") => `(tactic| (k_here; k_dflt (refine' call_cls ?k1 ?k2 ?k3 ?k4 ?k5 ?k6 ?_; (case k1 => k_asm); (case k2 => k_asm); (case k3 => k_asm); (case k4 => k_is); (case k5 => k_is); (case k6 => k_is); intro x' d' h' F' N' l1 l2; (try k_lt l1); (try k_lt2 l2); ktr_room)))
theorem render_spec {w : World} {p : Program} {loose : List Str} {mean : ExcName → Option Value} {mg mb : Str → Option Value} {h₀ base : Heap} {cn : Str} {cs : Scope} {L a : Addr} {ccd : Value} {m : Str → Option Value} {s : Shared}
    {news : List (Addr × Obj)} {Q E : Value → Shared → Prop} (B : Below callerA base [] h₀) (F : Fr h₀ L s.heap m) (N : News h₀ L s.heap news) (X : (Mine.hd.heap_39 w.params).In h₀) (T : Top p loose mean mg mb h₀) (hk : cs.kind = .function)
    (ret : ∀ x d es n h' tk', Fr h₀ L h' m → News h₀ L h' ((x, instObj 394 d) :: (d, dictOf es n) :: news) → getL (Str.ofString "list_item") es = some none → Q (.ref x) { s with heap := h', toks := tk' }) :
    wpAny (model PySem.Challenge.rw_fe5005_01.row.prog w) (callerA.deeper (envOf cn cs L a ccd)) (call (.ref 394) []) Q E s := by
  revert X; k_fill; intro X; w_top off
  replace ret := Hid.mk ret
  iterate 70 (all_goals (try walk1))
  (rename Fr _ _ _ _ => FE); (rename News _ _ _ _ => NE)
  exact ret.out _ _ _ _ _ _ FE (news_sub NE fun q hq => by
    rcases List.mem_cons.mp hq with rfl | hq
    · k_mem
    rcases List.mem_cons.mp hq with rfl | hq
    · k_mem
    · repeat (first | exact hq | refine List.Mem.tail _ ?_)) (by k_get)
/-- an item's text -/
theorem item_spec {w : World} {p : Program} {loose : List Str} {mean : ExcName → Option Value} {mg mb : Str → Option Value} {h₀ : Heap} {dp un : Nat} {fr : Option (List Env)} {gd : Option (List Code)}
    {s : Shared} {x : Addr} {t : Str} {tk : Tok} {Q E : Value → Shared → Prop} (k0 : h₀.StaysIn s.heap) (X : (Mine.hd.heap_39 w.params).In h₀) (T : Top p loose mean mg mb h₀) (ht : t.length ≤ 100) (hd : dp + 10 < recursionLimit)
    (ret : ∀ h' tk' tr, s.heap.StaysIn h' → Q (.str (Str.ofString "<li>" ++ t ++ Str.ofString "</li>\n") tr) { s with heap := h', toks := tk' }) :
    wpAny (model PySem.Challenge.rw_fe5005_01.row.prog w) (ar dp un fr gd) (call (.ref 391) [.ref x, .str t tk]) Q E s := by
  revert X; k_fill; intro X; w_top off
  refine' enter (K := Mine.hd.heap_39 w.params) (binds := [(Str.ofString "self", .ref x), (Str.ofString "text", .str t tk)]) [] k0 X T ?kN ?kN0 ?ko ?kc ?kr ?kb ?kl ?_ ?c1 ?c2 ?c3 ?c4
  case kN => intro q hq; cases hq
  case kN0 => intro q hq; cases hq
  case ko => k_is
  case kc => k_is
  case kr => show dp < recursionLimit; omega
  case kb => exact BindsTo.of_eq rfl
  case kl => exact locs rfl
  case c1 => exact rfl
  case c2 => exact rfl
  case c3 => exact rfl
  case c4 => decide
  intro g L' h₁ tk₁ hg hL k1 F N Xg Tg
  (try dsimp only)
  (try k_fold)
  k_steps
  all_goals (
    dsimp only
    (rename Fr _ _ _ _ => FE)
    exact ret _ _ _ (fun b o e => FE.keep b o (by rw [hg]; exact e)))
theorem item_K {w : World} {p : Program} {loose : List Str} {mean : ExcName → Option Value} {mg mb : Str → Option Value} {g : Heap} {dp un : Nat} {fr : Option (List Env)} {gd : Option (List Code)} {L : Addr} {m : Str → Option Value} {news : List (Addr × Obj)}
    {s : Shared} {x : Addr} {t : Str} {tk : Tok} {Q E : Value → Shared → Prop} (F : Fr g L s.heap m) (N : News g L s.heap news) (X : (Mine.hd.heap_39 w.params).In g) (T : Top p loose mean mg mb g) (ht : t.length ≤ 100) (hd : dp + 10 < recursionLimit)
    (ret : ∀ h' tk' tr, Fr g L h' m → News g L h' news → Q (.str (Str.ofString "<li>" ++ t ++ Str.ofString "</li>\n") tr) { s with heap := h', toks := tk' }) :
    wpAny (model PySem.Challenge.rw_fe5005_01.row.prog w) (ar dp un fr gd) (call (.ref 391) [.ref x, .str t tk]) Q E s :=
  item_spec F.keep X T ht hd fun h' tk' tr h => let ⟨a, b⟩ := back_K F N h; ret h' tk' tr a b
end Mine
end

-- part W2
section
open PySem PySem.W PySem.Calls PyProof.Rows PyProof.V
namespace Mine
local macro_rules | `(tactic| walk_at "call ref") => `(tactic| (k_here; (with_reducible show wpAny _ _ (call (Value.ref 417) _) _ _ _); k_dflt (refine' draw_K ?kF ?kN ?kX ?kT ?kS ?kI ?kn ?kU ?k0 ?k1 ?k2 ?k3 ?kd ?_; (case kF => k_asm); (case kN => k_asm); (case kX => k_asm); (case kT => k_asm); (case kS => with_reducible assumption); (case kI => with_reducible assumption); (case kn => with_reducible assumption); (case kU => k_updF); (case k0 => with_reducible assumption); (case k1 => with_reducible assumption); (case k2 => decide); (case k3 => decide); (case kd => exact Nat.le_of_ble_eq_true rfl); k_whole); intro r' seed' tr' t1' t2' n' h' tk' F' N' hs0' hs1' hr0' hr1'; (try dsimp only at N'); (try k_sweep)))
local macro_rules | `(tactic| walk_at "call ref") => `(tactic| (k_here; (with_reducible show wpAny _ _ (call (Value.ref 424) _) _ _ _); k_dflt (refine' plain_K ?kF ?kN ?kX ?kT ?k0 ?k1 ?kd ?_; (case kF => k_asm); (case kN => k_asm); (case kX => k_asm); (case kT => k_asm); (case k0 => omega); (case k1 => omega); (case kd => exact Nat.le_of_ble_eq_true rfl); k_whole); intro d' o' h' tk' F' N' l1 lo' hl'; (try k_lt l1); (try k_sweep)))
local macro_rules | `(tactic| walk_at "callWith") => `(tactic| ((with_reducible show wpAny _ _ (callWith _ (Prod.fst _) (Prod.snd _) _ _) _ _ _); refine PyProof.Rows.callWith_method1 ?_))
local macro_rules | `(tactic| walk_at "call ref") => `(tactic| (k_here; (with_reducible show wpAny _ _ (call (Value.ref 394) _) _ _ _); (try dsimp only [List.nil_append]); k_dflt (refine' render_spec ?kB ?kF ?kN ?kX ?kT ?kh ?_; (case kB => k_asm); (case kF => k_asm); (case kN => k_asm); (case kX => k_asm); (case kT => k_asm); (case kh => exact rfl); k_whole); intro x' d' es' n' h' tk' F' N' gl'; (try k_sweep)))
local macro_rules | `(tactic| walk_at "call ref") => `(tactic| (k_here; (with_reducible show wpAny _ _ (call (Value.ref 391) _) _ _ _); (try dsimp only [List.nil_append, List.cons_append]); k_dflt (refine' item_K ?kF ?kN ?kX ?kT ?kt ?kd ?_; (case kF => k_asm); (case kN => k_asm); (case kX => k_asm); (case kT => k_asm); (case kt => decide); (case kd => exact Nat.le_of_ble_eq_true rfl); k_whole); intro h' tk' tr' F' N'; (try k_sweep)))
local macro_rules | `(tactic| walk_at "getMethod ref") => `(tactic| (k_here; k_dflt (refine' method_inst ?k1 ?k2 ?k3 ?k4 ?k5 ?k6 ?k7 ?_; (case k1 => k_asm); (case k2 => k_asm); (case k3 => k_inst); (case k4 => k_is); (case k5 => k_is); (case k6 => k_is); (case k7 => with_reducible assumption); k_whole)))
local macro_rules | `(tactic| walk_at "callWith ref") => `(tactic| (k_here; (with_reducible show wpAny _ _ (callWith _ (Value.ref 394) _ _ _) _ _ _); k_dflt (refine' callWith_K0 ?k1 ?k2 ?_; (case k1 => k_in); (case k2 => k_is); k_whole)))
local macro_rules | `(tactic| size_fits) => `(tactic| with_reducible assumption)
local macro_rules | `(tactic| k_all) => `(tactic| with_reducible assumption)
local macro_rules | `(tactic| walk_at "call type:range") => `(tactic| (k_here; (with_reducible show wpAny _ _ (call _ [_]) _ _ _); k_dflt (refine' range1_rows ?kF ?kN ?_; (case kF => k_asm); (case kN => k_asm); k_whole); intro h' tk' u1' u2' u3' rg' F' N' hk'; clear hk'))
local macro_rules | `(tactic| walk_at "exec For") => `(tactic| (k_here; (rename Fr _ _ _ _ => lF'); (with_unfolding_all refine' For_invVF lF' ?k1 ?k2 ?_; (case k1 => exact rfl); (case k2 => exact rfl); k_whole)))
local macro_rules | `(tactic| k_steps) => `(tactic| repeat' (first | (k_unfold; (try dsimp only)) | (k_end; wrow_close) | ((fail_if_success (with_reducible show wpAny _ _ (pyIter _) _ _ _)); (fail_if_success (with_reducible show wpAny _ _ (call (Value.ref 431) _) _ _ _)); (fail_if_success (with_reducible show wpAny _ _ (call (Value.ref 438) _) _ _ _)); (fail_if_success (with_reducible show wpAny _ _ (call (Value.ref 52) _) _ _ _)); (fail_if_success (with_reducible show wpAny _ _ (call (Value.ref 59) _) _ _ _)); (fail_if_success (with_reducible show wpAny _ _ (call (Value.ref 445) _) _ _ _)); (fail_if_success (with_reducible show wpAny _ _ (compareOp CmpOp.NotEq (Value.ref _) (Value.ref _)) _ _ _)); walk1) | (dsimp only; (fail_if_success (with_reducible show wpAny _ _ (pyIter _) _ _ _)); (fail_if_success (with_reducible show wpAny _ _ (call (Value.ref 431) _) _ _ _)); (fail_if_success (with_reducible show wpAny _ _ (call (Value.ref 438) _) _ _ _)); (fail_if_success (with_reducible show wpAny _ _ (call (Value.ref 52) _) _ _ _)); (fail_if_success (with_reducible show wpAny _ _ (call (Value.ref 59) _) _ _ _)); (fail_if_success (with_reducible show wpAny _ _ (call (Value.ref 445) _) _ _ _)); (fail_if_success (with_reducible show wpAny _ _ (compareOp CmpOp.NotEq (Value.ref _) (Value.ref _)) _ _ _)); walk1) | (leave1; walk_say "STEP leave1"; try dsimp only) | fail "no step"))
local macro_rules | `(tactic| ktr_rel) => `(tactic| (first | (k_unfold; (try dsimp only)) | (k_end; wrow_close) | ((fail_if_success (with_reducible show wpAny _ _ (pyIter _) _ _ _)); (fail_if_success (with_reducible show wpAny _ _ (call (Value.ref 431) _) _ _ _)); (fail_if_success (with_reducible show wpAny _ _ (call (Value.ref 438) _) _ _ _)); (fail_if_success (with_reducible show wpAny _ _ (call (Value.ref 52) _) _ _ _)); (fail_if_success (with_reducible show wpAny _ _ (call (Value.ref 59) _) _ _ _)); (fail_if_success (with_reducible show wpAny _ _ (call (Value.ref 445) _) _ _ _)); (fail_if_success (with_reducible show wpAny _ _ (compareOp CmpOp.NotEq (Value.ref _) (Value.ref _)) _ _ _)); walk1) | (dsimp only; (fail_if_success (with_reducible show wpAny _ _ (pyIter _) _ _ _)); (fail_if_success (with_reducible show wpAny _ _ (call (Value.ref 431) _) _ _ _)); (fail_if_success (with_reducible show wpAny _ _ (call (Value.ref 438) _) _ _ _)); (fail_if_success (with_reducible show wpAny _ _ (call (Value.ref 52) _) _ _ _)); (fail_if_success (with_reducible show wpAny _ _ (call (Value.ref 59) _) _ _ _)); (fail_if_success (with_reducible show wpAny _ _ (call (Value.ref 445) _) _ _ _)); (fail_if_success (with_reducible show wpAny _ _ (compareOp CmpOp.NotEq (Value.ref _) (Value.ref _)) _ _ _)); walk1) | (leave1; walk_say "STEP leave1"; try dsimp only) | fail "no step"))

/-- between the turns that make the row -/
def RowJ (w : World) (sc bx rw : Addr) (i : Nat) (m : Str → Option Value) (nx : List (Addr × Obj)) : Prop :=
  ∃ vs k tys st pl sd bd y1 y2 y3 ky, nx = (bx, boxObj sc pl sd bd y1 y2 y3 ky) :: (rw, lst vs k) :: (176, tabObj #[]) :: st ∧ 0 ≤ sd ∧ sd < 2147483647 ∧ tys.length = i ∧ All2 (TyL w st) vs tys ∧
    (∀ q ∈ st, q.1 ≠ bx ∧ q.1 ≠ rw) ∧ HasL [(Str.ofString "box", .ref bx), (Str.ofString "row", .ref rw)] m

theorem law_holds : PySem.Challenge.rw_fe5005_01.Holds := Mine.hd (by
  k_go0
  (all_goals try k_fold)
  k_steps
  (rename Fr _ _ _ _ => F1); (rename News _ _ _ _ => N1); (rename IntsAre _ _ => hI); (rename (¬ (_ < (List.length _ : Int))) => hc63)
  have hn := Int.ofNat_le.mp (Int.not_lt.mp hc63)
  rename_i wd sh₀ sh₁ mg mb G Y fa ob pm cd doc kV ho hcd hg X V T B TE TW nsc hss hlay0 hLy hrr hl2 ww1 ww2 sc vsc ww3 hLs ra w1 r0 hr hTrue hDf hh1 X' T' K' l0 bx _ hl1 _
  refine list_K (n := 2) (list_spec 2) (script := sc) F1 N1 (fun q hq => ?_) X' T' lifted hI hn (by decide) (by decide) rfl (Nat.le_of_ble_eq_true rfl) ?_
  · rw [List.mem_singleton.mp hq]; exact Nat.ne_of_lt hl1
  rintro tup a1 a2 b its st os1 os2 pl sd bd y1 y2 y3 ky kt h2 tk2 F2 N2 hn1 hn2 s0 s1 T1 T2 hUn
  have hlt : @LT.lt Nat _ 176 bx := hl1
  have hU : Uni ((bx, boxObj sc pl sd bd y1 y2 y3 ky) :: (176, tabObj #[]) :: (st ++ (os1 ++ os2))) := by
    refine (hUn.push fun q hq => ?_).push fun q hq => ?_
    · exact hn2 q hq _ (.tail _ (.head _))
    · rcases List.mem_cons.mp hq with rfl | hq
      · exact Nat.ne_of_lt hlt
      · exact hn2 q hq _ (.head _)
  obtain ⟨RN, hRN⟩ : ∃ RN, RN = st ++ (os1 ++ os2) := ⟨_, rfl⟩
  simp only [List.singleton_append] at N2
  rw [← hRN] at N2
  clear F1 N1 hn1 hn2
  replace hRN := Hid.mk hRN; replace T1 := Hid.mk T1; replace T2 := Hid.mk T2; replace hUn := Hid.mk hUn; replace hU := Hid.mk hU
  (try dsimp only)
  k_steps
  (rename Fr _ _ _ _ => F3); (rename News _ _ _ _ => N3)
  refine settle_K (n := 3) (settle_spec 3) (pre := (bx, boxObj sc pl sd bd y1 y2 y3 ky) :: (176, tabObj #[]) :: (st ++ os1)) (os := os2) (post := []) (st := st) F3 (news_sub N3 fun q hq => ?_) X' T' (hU.out.sub fun a => by simp only [cnt_cons, cnt_append, cnt_nil]; omega) (fun q hq => by simp [hq]) T2.out (Nat.le_of_ble_eq_true rfl) ?_
  · rw [hRN.out]
    simp only [List.mem_cons, List.mem_append, List.append_nil] at hq ⊢
    rcases hq with (hq | hq | hq | hq) | hq <;> simp [hq]
  rintro r os2' h4 tk4 ⟨ri, rt, rfl⟩ F4 N4 T2' ha2
  clear F3 N3
  obtain ⟨RM, hRM⟩ : ∃ RM, RM = st ++ (os1 ++ os2') := ⟨_, rfl⟩
  have N5 := news_sub (b := (bx, boxObj sc pl sd bd y1 y2 y3 ky) :: (176, tabObj #[]) :: RM) N4 fun q hq => by
    rw [hRM] at hq
    simp only [List.mem_cons, List.mem_append, List.append_nil] at hq ⊢
    rcases hq with hq | hq | hq | hq | hq <;> simp [hq]
  clear N4
  replace hRM := Hid.mk hRM; replace T2' := Hid.mk T2'; replace ha2 := Hid.mk ha2
  (try dsimp only)
  k_steps
  (rename Fr _ _ _ _ => F6); (rename News _ _ _ _ => N6)
  refine settle_K (n := 3) (transform_spec 3) (pre := (bx, boxObj sc pl sd bd y1 y2 y3 ky) :: (176, tabObj #[]) :: st) (os := os1) (post := os2') (st := st) F6 (news_sub N6 fun q hq => ?_) X' T' ?_ (fun q hq => by simp [hq]) T1.out (Nat.le_of_ble_eq_true rfl) ?_
  · rw [hRM.out]
    simp only [List.mem_cons, List.mem_append] at hq ⊢
    rcases hq with (hq | hq | hq) | hq | hq <;> simp [hq]
  · refine Uni.of_nodup ?_
    have e : adr ((bx, boxObj sc pl sd bd y1 y2 y3 ky) :: (176, tabObj #[]) :: st ++ (os1 ++ os2')) = adr ((bx, boxObj sc pl sd bd y1 y2 y3 ky) :: (176, tabObj #[]) :: (st ++ (os1 ++ os2))) := by
      simp only [adr, List.map_append, List.map_cons, List.cons_append]
      rw [show os2'.map (·.1) = os2.map (·.1) from ha2.out]
    rw [e]; exact hU.out.nodup
  rintro r os1' h7 tk7 rfl F7 N7 T1' ha1
  clear F6 N6
  obtain ⟨RQ, hRQ⟩ : ∃ RQ, RQ = st ++ (os1' ++ os2') := ⟨_, rfl⟩
  have N8 := news_sub (b := (bx, boxObj sc pl sd bd y1 y2 y3 ky) :: (176, tabObj #[]) :: RQ) N7 fun q hq => by
    rw [hRQ] at hq
    simp only [List.mem_cons, List.mem_append] at hq ⊢
    rcases hq with hq | hq | hq | hq | hq <;> simp [hq]
  clear N7
  replace hRQ := Hid.mk hRQ; replace T1' := Hid.mk T1'; replace ha1 := Hid.mk ha1
  (try dsimp only)
  k_steps
  (rename Fr _ _ _ _ => F9); (rename News _ _ _ _ => N9)
  obtain ⟨its', hits⟩ := settle_lst b its 3
  have T1q := T1'.out
  have T2q := T2'.out
  rw [hits] at T1q T2q
  have m0 : ∀ q ∈ st, q ∈ RQ := fun q hq => by rw [hRQ.out]; exact List.mem_append_left _ hq
  have m1 : ∀ q ∈ os1', q ∈ RQ := fun q hq => by rw [hRQ.out]; exact List.mem_append_right _ (List.mem_append_left _ hq)
  have m2 : ∀ q ∈ os2', q ∈ RQ := fun q hq => by rw [hRQ.out]; exact List.mem_append_right _ (List.mem_append_right _ hq)
  refine tk_ne (n := 3) (os := os1') (os' := os2') (TkIn.mono (fun a o hm => (N9 (a, o) (.tail _ (.tail _ (m0 _ hm)))).1) _ _ _ _ T1q) (TkIn.mono (fun a o hm => (N9 (a, o) (.tail _ (.tail _ (m0 _ hm)))).1) _ _ _ _ T2q)
    (fun q hq => (N9 q (.tail _ (.tail _ (m1 q hq)))).1) (fun q hq => (N9 q (.tail _ (.tail _ (m2 q hq)))).1) (Nat.le_of_ble_eq_true rfl) ?_
  have N10 := news_sub (b := [(bx, boxObj sc pl sd bd y1 y2 y3 ky), (176, tabObj #[])]) N9 fun q hq => by
    simp only [List.mem_cons, List.not_mem_nil, or_false] at hq ⊢
    rcases hq with hq | hq <;> simp [hq]
  clear N9 m0 m1 m2 T1q T2q hits T1 T2 T1' T2' ha1 ha2 hRQ hRM hRN hU hUn
  (try dsimp only)
  k_steps
  (rename Fr _ _ _ _ => F11); (rename News _ _ _ _ => N11); (rename IsRange _ _ _ _ _ _ _ _ => R11)
  rename_i rw0 _ hl5 _ r9 seed9 _ ta tb nb _ _ Fo No hs90 hs91 hr90 hr91 _ _ _ _ _
  clear Fo No
  have hl6 : @LT.lt Nat _ bx rw0 ∧ @LT.lt Nat _ 176 rw0 := hl5
  refine tbr_invG (RowJ wd sc bx rw0) rfl R11 (small_one (by decide) (by decide) (by omega) (by omega)) (rangeSize_nat 0 r9) F11
    (news := [(bx, boxObj sc (pl + 1) seed9 bd ta tb y3 nb), (rw0, lst [] 0), (176, tabObj #[])]) (news_sub N11 fun q hq => ?_)
    ⟨[], 0, [], [], _, _, _, _, _, _, _, rfl, hs90, hs91, rfl, All2.nil, List.forall_mem_nil _, HasL.cons rfl (HasL.cons rfl HasL.nil)⟩ ?_ ?_
  · simp only [List.mem_cons, List.not_mem_nil, or_false] at hq ⊢
    rcases hq with hq | hq | hq <;> simp [hq]
  · rintro i kz tz m₁ nx h tk9 own hkz hoff ⟨vs, k, tys, st, pl, sd, bd, y1, y2, y3, ky, rfl, hsd0, hsd1, hlen, hty, hst, hm⟩ F12 N12
    clear F11 N11 R11
    obtain ⟨u, rfl⟩ := hm.form
    clear hm
    have hi9 : i < 9 := by
      obtain ⟨hlt, _⟩ := List.getElem?_eq_some_iff.mp hkz
      rw [rangeKs_length] at hlt
      omega
    obtain ⟨R, hR⟩ : ∃ R, R = st ++ own := ⟨_, rfl⟩
    have hRb : ∀ q ∈ R, q.1 ≠ bx := fun q hq => by
      rw [hR] at hq
      rcases List.mem_append.mp hq with hq | hq
      · exact (hst q hq).1
      · exact hoff q hq _ (.head _)
    have hRr : ∀ q ∈ R, q.1 ≠ rw0 := fun q hq => by
      rw [hR] at hq
      rcases List.mem_append.mp hq with hq | hq
      · exact (hst q hq).2
      · exact hoff q hq _ (.tail _ (.head _))
    simp only [List.cons_append] at N12
    rw [← hR] at N12
    have hz1 : (List.toArray vs).size ≤ sizeLine := by rw [List.size_toArray, hty.length, hlen, sizeLine_eq]; omega
    have fin : ∀ {h' : Heap} {tk9' tk8 : Nat} {m9 : Str → Option Value} {news9 : List (Addr × Obj)} {pl' sd' : Int} {y1' y2' y3' : Tok} {ky' k' : Nat} {bd' : Int} {d : Addr} {o : Obj} {kvs : List (Str × Value)} {t : Tok} {ty : Str},
        Fr (ghostOf sh₁.heap [(180, 176)]) sh₁.heap.objs.size h' m9 → News (ghostOf sh₁.heap [(180, 176)]) sh₁.heap.objs.size h' news9 → (bx, boxObj sc pl' sd' bd' y1' y2' y3' ky') ∈ news9 → (rw0, lst (vs ++ [.ref d]) k') ∈ news9 → (176, tabObj #[]) ∈ news9 → (∀ q ∈ R, q ∈ news9) →
        (d, o) ∈ news9 → (d ≠ bx ∧ d ≠ rw0) → AllLt d R → 0 ≤ sd' → sd' < 2147483647 → o.IsDictOf (K0 wd) kvs → valueAt kvs (Str.ofString "type") = some (.str ty t) → HasL [(Str.ofString "box", .ref bx), (Str.ofString "row", .ref rw0)] m9 →
        TbEnd (ghostOf sh₁.heap [(180, 176)]) sh₁.heap.objs.size (RowJ wd sc bx rw0 (i + 1)) own { sh₁ with heap := h, toks := tk8 } { sh₁ with heap := h', toks := tk9' } := by
      intro h' tk9' tk8 m9 news9 pl' sd' y1' y2' y3' ky' k' bd' d o kvs t ty F9 N9 mb mr m176 mR md ⟨n1, n2⟩ lt s0 s1 hd9 hv9 hl9
      have lt' := tb_ltOf lt
      refine turn_end (nx := (bx, boxObj sc pl' sd' bd' y1' y2' y3' ky') :: (rw0, lst (vs ++ [.ref d]) k') :: (176, tabObj #[]) :: ((d, o) :: st)) F9 N9 ?_ (fun q hq => mR q (by rw [hR]; exact List.mem_append_right _ hq)) ?_
        ⟨vs ++ [.ref d], k', tys ++ [ty], (d, o) :: st, pl', sd', bd', y1', y2', y3', ky', rfl, s0, s1, by rw [List.length_append, hlen]; rfl, (hty.mono fun _ _ h => h.mono fun _ hq => .tail _ hq).snoc ⟨d, o, kvs, t, rfl, .head _, hd9, hv9⟩, ?_, hl9⟩
      · intro q hq
        rcases List.mem_cons.mp hq with rfl | hq
        · exact mb
        rcases List.mem_cons.mp hq with rfl | hq
        · exact mr
        rcases List.mem_cons.mp hq with rfl | hq
        · exact m176
        rcases List.mem_cons.mp hq with rfl | hq
        · exact md
        · exact mR q (by rw [hR]; exact List.mem_append_left _ hq)
      · intro q hq x hx
        rcases List.mem_cons.mp hx with rfl | hx
        · exact hoff q hq (bx, boxObj sc pl sd bd y1 y2 y3 ky) (.head _)
        rcases List.mem_cons.mp hx with rfl | hx
        · exact hoff q hq (rw0, lst vs k) (.tail _ (.head _))
        rcases List.mem_cons.mp hx with rfl | hx
        · exact hoff q hq _ (.tail _ (.tail _ (.head _)))
        rcases List.mem_cons.mp hx with rfl | hx
        · exact Nat.ne_of_lt (lt' q (by rw [hR]; exact List.mem_append_right _ hq))
        · exact hoff q hq x (.tail _ (.tail _ (.tail _ hx)))
      · intro q hq
        rcases List.mem_cons.mp hq with rfl | hq
        · exact ⟨n1, n2⟩
        · exact hst q hq
    replace fin := Hid.mk @fin; replace hty := Hid.mk hty; replace hst := Hid.mk hst; replace hR := Hid.mk hR; replace hoff := Hid.mk hoff; replace hlen := Hid.mk hlen
    k_steps
    · (rename Fr _ _ _ _ => FE); (rename News _ _ _ _ => NE)
      simp only [List.push_toArray] at NE
      refine' fin.out FE NE ?m1 ?m2 ?m3 ?m4 ?m5 ?ne ?lt ?s0 ?s1 ?dd ?vv ?hl
      (case m1 => k_mem); (case m2 => k_mem); (case m3 => k_mem); (case m5 => k_mem)
      (case m4 => intro q hq; repeat (first | exact hq | refine List.Mem.tail _ ?_))
      (case ne => exact ⟨by k_ne, by k_ne⟩)
      (case lt => tbn_find)
      (case s0 => with_reducible assumption); (case s1 => with_reducible assumption)
      (case dd => assumption)
      (case vv => with_unfolding_all exact rfl)
      (case hl => exact HasL.cons rfl (HasL.cons rfl HasL.nil))
    · (rename Fr _ _ _ _ => FE); (rename News _ _ _ _ => NE); (rename LeafObj _ _ _ => lf)
      simp only [List.push_toArray] at NE
      obtain ⟨kvs, t, hd9, _, hv9⟩ := lf.word
      refine' fin.out FE NE ?m1 ?m2 ?m3 ?m4 ?m5 ?ne ?lt ?s0 ?s1 hd9 hv9 ?hl
      (case m1 => k_mem); (case m2 => k_mem); (case m3 => k_mem); (case m5 => k_mem)
      (case m4 => intro q hq; repeat (first | exact hq | refine List.Mem.tail _ ?_))
      (case ne => exact ⟨by k_ne, by k_ne⟩)
      (case lt => tbn_find)
      (case s0 => with_reducible assumption); (case s1 => with_reducible assumption)
      (case hl => exact HasL.cons rfl (HasL.cons rfl HasL.nil))
  · rintro m₁ nx h tk9 ⟨vs, k, tys, st, pl, sd, bd, y1, y2, y3, ky, rfl, hsd0, hsd1, hlen, hty, hst, hm⟩ F12 N12
    clear F11 N11 R11
    obtain ⟨u, rfl⟩ := hm.form
    clear hm
    have h8 : tys.length ≤ 100 := by omega
    have hz1 : (List.toArray vs).size ≤ sizeLine := by rw [List.size_toArray, hty.length, sizeLine_eq]; omega
    have hRb : ∀ q ∈ st, q.1 ≠ bx := fun q hq => (hst q hq).1
    have hRr : ∀ q ∈ st, q.1 ≠ rw0 := fun q hq => (hst q hq).2
    replace hty := Hid.mk hty; replace hst := Hid.mk hst
    k_steps
    (rename Fr _ _ _ _ => F13); (rename News _ _ _ _ => N13)
    refine is_loose_list_K (vs := vs) (tys := tys) (st := st) F13 N13 X' T' (by k_mem) (fun q hq => by repeat (first | exact hq | refine List.Mem.tail _ ?_)) hty.out (Nat.le_of_ble_eq_true rfl) (Nat.le_of_ble_eq_true rfl) ?_
    intro h14 tk14 F14 N14
    clear F13 N13
    (try dsimp only)
    k_steps
    (rename Fr _ _ _ _ => F15); (rename News _ _ _ _ => N15)
    refine law_loose_K (vs := vs) (tys := tys) (st := st) F15 N15 X' T' (by k_mem) (fun q hq => by repeat (first | exact hq | refine List.Mem.tail _ ?_)) hty.out h8 (Nat.le_of_ble_eq_true rfl) ?_
    intro h16 tk16 F16 N16
    clear F15 N15
    (try dsimp only)
    k_steps
    (rename Fr _ _ _ _ => F17); (rename News _ _ _ _ => N17)
    refine is_loose_tuple_K (vs := vs) (tys := tys) (st := st) F17 N17 X' T' ⟨_, (N17 _ (List.Mem.head _)).1, rfl, _, rfl⟩ (fun q hq => by repeat (first | exact hq | refine List.Mem.tail _ ?_)) hty.out (Nat.le_of_ble_eq_true rfl) (Nat.le_of_ble_eq_true rfl) ?_
    intro h18 tk18 F18 N18
    clear F17 N17
    (try dsimp only)
    k_steps
    (rename Fr _ _ _ _ => F19); (rename News _ _ _ _ => N19)
    refine law_loose_K (vs := vs) (tys := tys) (st := st) F19 N19 X' T' (by k_mem) (fun q hq => by repeat (first | exact hq | refine List.Mem.tail _ ?_)) hty.out h8 (Nat.le_of_ble_eq_true rfl) ?_
    intro h20 tk20 F20 N20
    clear F19 N19
    have N21 := news_sub (b := [(bx, boxObj sc pl sd bd y1 y2 y3 ky), (176, tabObj #[])]) N20 fun q hq => by
      simp only [List.mem_cons, List.not_mem_nil, or_false] at hq
      rcases hq with rfl | rfl <;> k_mem
    clear N20 hz1 hRb hRr hty hst h8 hlen
    (try dsimp only)
    k_steps)
end Mine
end

set_option maxHeartbeats 0 in
theorem PySem.Challenge.cw_fe5005_01_holds : PySem.Challenge.rw_fe5005_01.Holds :=
  Mine.law_holds
