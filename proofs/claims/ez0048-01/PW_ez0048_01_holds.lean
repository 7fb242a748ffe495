import PyProof.Rows.All
import Wide.All
import OpenK.AllK
import Wide.FinOn
import PySem.Challenge.RW_ez0048_01
open PySem PySem.W PyProof.Rows
set_option Elab.async false
namespace Mine
set_option maxRecDepth 100000 in
set_option maxHeartbeats 8000000 in
open_top hd for PySem.Challenge.rw_ez0048_01
open PySem.Calls PySem.Spec
set_option maxRecDepth 100000

abbrev A0 (dp un : Nat) (gd : Option (List Code)) (frs : List Env) : Around := { handled := none, depth := dp, frames := some frs, guards := gd, units := un }

def Has (h : Heap) (l : List (Addr × Obj)) : Prop := ∀ q ∈ l, h.get? q.1 = some q.2
def But (l : List (Addr × Obj)) (h h' : Heap) : Prop := ∀ b o, h.get? b = some o → b ∉ l.map (·.1) → h'.get? b = some o
def Offs (base : Heap) (frs : List Env) (l : List (Addr × Obj)) : Prop := ∀ q ∈ l, base.get? q.1 = none ∧ ∀ env ∈ frs, env.frame ≠ some q.1

/-- a call's contract: what it reads (ro), what it changes (ch), what it leaves of that (upd), what it makes (tl), what it gives (val) -/
def Con (w : World) (f : Addr) (args : List Value) (kw : List (Str × Value)) (ro ch : List (Addr × Obj)) (dn uk : Nat) {X : Type} (P : X → Prop) (upd tl : X → List (Addr × Obj)) (val : X → Value) : Prop :=
  ∀ (dp un : Nat) (gd : Option (List Code)) (frs : List Env) (base : Heap) (p : Program) (loose : List Str) (mean : ExcName → Option Value) (mg mb : Str → Option Value) (s : Shared) (R : Result → Shared → Prop),
    Below (A0 dp un gd frs) base frs s.heap → (Mine.hd.heap_39 w.params).In base → Top p loose mean mg mb base → Has s.heap (ch ++ ro) → Offs base frs (ch ++ ro) → dp + dn < recursionLimit → un + uk < cLine →
    (∀ x h' tk', P x → But ch s.heap h' → Has h' (upd x ++ tl x) → (∀ q ∈ tl x, s.heap.get? q.1 = none) → R (.ok (.ret (val x))) { s with heap := h', toks := tk' }) →
    codeAny (model PySem.Challenge.rw_ez0048_01.row.prog w) (A0 dp un gd frs) (.call (.ref f) ⟨args, kw⟩) R s

/-- the way out of a body that is walked for its contract -/
def LeaveM (s : Shared) (ro ch : List (Addr × Obj)) {X : Type} (P : X → Prop) (upd tl : X → List (Addr × Obj)) (val : X → Value) (g : Heap) (v : Value) (s' : Shared) : Prop :=
  ∃ L' m' news' x, Fr g L' s'.heap m' ∧ News g L' s'.heap news' ∧ s' = { s with heap := s'.heap, toks := s'.toks } ∧ P x ∧ v = val x ∧ (∀ q ∈ upd x ++ (tl x ++ ro), q ∈ news') ∧ ∀ q ∈ tl x, q.1 ∉ (ch ++ ro).map (·.1)

theorem leaveM_ {s : Shared} {ro ch : List (Addr × Obj)} {X : Type} {P : X → Prop} {upd tl : X → List (Addr × Obj)} {val : X → Value} {g : Heap} {v : Value} {s' : Shared} {L' : Addr} {m' : Str → Option Value} {news' : List (Addr × Obj)}
    (F : Fr g L' s'.heap m') (N : News g L' s'.heap news') (e : s' = { s with heap := s'.heap, toks := s'.toks }) (x : X) (hP : P x) (hv : v = val x) (hs : ∀ q ∈ upd x ++ (tl x ++ ro), q ∈ news') (ho : ∀ q ∈ tl x, q.1 ∉ (ch ++ ro).map (·.1)) :
    LeaveM s ro ch P upd tl val g v s' := ⟨L', m', news', x, F, N, e, hP, hv, hs, ho⟩

/-- the first list without the second's entries -/
inductive Out (q : Addr × Obj) : List (Addr × Obj) → List (Addr × Obj) → Prop
  | head {r} : Out q (q :: r) r
  | tail {p r r'} : Out q r r' → Out q (p :: r) (p :: r')
inductive Pick : List (Addr × Obj) → List (Addr × Obj) → List (Addr × Obj) → Prop
  | nil {news} : Pick news [] news
  | cons {q l news news' rest} : Out q news news' → Pick news' l rest → Pick news (q :: l) rest
theorem Out.mem {q : Addr × Obj} {l l' : List (Addr × Obj)} (h : Out q l l') : q ∈ l ∧ ∀ p ∈ l', p ∈ l := by
  induction h with
  | head => exact ⟨List.mem_cons_self, fun _ h => List.mem_cons_of_mem _ h⟩
  | tail _ ih =>
    refine ⟨List.mem_cons_of_mem _ ih.1, fun p hp => ?_⟩
    rcases List.mem_cons.mp hp with rfl | h
    · exact List.mem_cons_self
    · exact List.mem_cons_of_mem _ (ih.2 p h)
theorem Pick.mem {l news rest : List (Addr × Obj)} (h : Pick news l rest) : (∀ q ∈ l, q ∈ news) ∧ ∀ q ∈ rest, q ∈ news := by
  induction h with
  | nil => exact ⟨fun _ h => (nomatch h), fun _ h => h⟩
  | cons o _ ih =>
    refine ⟨fun q hq => ?_, fun q hq => o.mem.2 _ (ih.2 q hq)⟩
    rcases List.mem_cons.mp hq with rfl | h
    · exact o.mem.1
    · exact o.mem.2 _ (ih.1 q h)

def NeOne (a : Nat) : List (Addr × Obj) → Prop
  | [] => True
  | q :: r => @Ne Nat q.1 a ∧ NeOne a r
def NeAll (news : List (Addr × Obj)) : List (Addr × Obj) → Prop
  | [] => True
  | q :: r => NeOne q.1 news ∧ NeAll news r
theorem neOne_of {a : Nat} : ∀ {l : List (Addr × Obj)}, (∀ r ∈ l, r.1 ≠ a) → NeOne a l
  | [], _ => trivial
  | _ :: _, h => ⟨h _ (.head _), neOne_of fun r hr => h r (.tail _ hr)⟩
theorem neAll_of {news : List (Addr × Obj)} : ∀ {l : List (Addr × Obj)}, (∀ r ∈ news, ∀ q ∈ l, r.1 ≠ q.1) → NeAll news l
  | [], _ => trivial
  | _ :: _, h => ⟨neOne_of fun r hr => h r hr _ (.head _), neAll_of fun r hr q hq => h r hr q (.tail _ hq)⟩
theorem NeOne.mem {a : Nat} {l : List (Addr × Obj)} (h : NeOne a l) : ∀ r ∈ l, r.1 ≠ a := by
  induction l with
  | nil => intro r hr; cases hr
  | cons q l ih =>
    intro r hr
    rcases List.mem_cons.mp hr with rfl | hr
    · exact h.1
    · exact ih h.2 r hr
theorem NeAll.mem {news l : List (Addr × Obj)} (h : NeAll news l) : ∀ r ∈ news, ∀ q ∈ l, r.1 ≠ q.1 := by
  induction l with
  | nil => intro r _ q hq; cases hq
  | cons p l ih =>
    intro r hr q hq
    rcases List.mem_cons.mp hq with rfl | hq
    · exact h.1.mem r hr
    · exact ih h.2 r hr q hq

section
variable {w : World} {f : Addr} {args : List Value} {kw : List (Str × Value)} {ro ch : List (Addr × Obj)} {dn uk : Nat} {X : Type} {P : X → Prop} {upd tl : X → List (Addr × Obj)} {val : X → Value}

theorem con_enter
    {name qual : Str} {params : Arguments} {body : List Stmt} {scope : Scope} {dV kV doc pm cdv ct oc : Value} {an od : Option Addr} {osl : Array (Option Value)} {binds : List (Str × Value)}
    (ho : (Mine.hd.heap_39 w.params).lookup f = some ⟨oc, od, .func (fnOf name qual params body scope dV kV doc pm an cdv ct), osl⟩) (hcd : codeIn (Mine.hd.heap_39 w.params) cdv qual = true) (hdn : 0 < dn)
    (hbind : ∀ s : Shared, (Mine.hd.heap_39 w.params).In s.heap → BindsTo s (fnOf name qual params body scope dV kV doc pm an cdv ct) ⟨args, kw⟩ binds) (hloc : ∀ y ∈ binds, scope.names.lookup y.1 = some .local)
    (h : ∀ (dp un : Nat) (gd : Option (List Code)) (frs : List Env) (base : Heap) (p : Program) (loose : List Str) (mean : ExcName → Option Value) (mg mb : Str → Option Value) (s : Shared) (g : Heap) (L' : Addr) (h₁ : Heap),
      (Mine.hd.heap_39 w.params).In base → Top p loose mean mg mb base →
      Fr g L' h₁ (fun y => binds.reverse.lookup y) → News g L' h₁ (ch ++ ro) → Below (A0 dp un gd frs) base frs g → (Mine.hd.heap_39 w.params).In g → Top p loose mean mg mb g → dp + dn < recursionLimit → un + uk < cLine → AllLt L' (ch ++ ro) →
      wpAny (model PySem.Challenge.rw_ez0048_01.row.prog w) ((A0 dp un gd frs).deeper (envOf qual scope L' f cdv)) (execs body (envOf qual scope L' f cdv))
        (fun fl s' => LeaveM s ro ch P upd tl val g (match fl with | .ret v => v | _ => .none) s')
        (fun _ _ => False)
        { s with heap := h₁, toks := s.toks + binds.length })
    (hco : scope.isCoroutine = false) (hgen : scope.isGenerator = false) (hk : scope.kind = .function) (hcell : ∀ x ∈ scope.names, x.2 ≠ .cell) : Con w f args kw ro ch dn uk P upd tl val := by
  intro dp un gd frs base p loose mean mg mb s R B X₀ T hH hO hdp hun hR
  have hroom : (A0 dp un gd frs).depth < recursionLimit := by show dp < recursionLimit; omega
  have X₁ := X₀.keeps B.stays
  have T₁ := T.keeps B.stays
  refine codeAny_call_def (fd := fnX name qual params body scope [] dV kV doc pm an cdv ct) (body := body) (binds := binds) hroom (X₁ _ _ ho) rfl T₁.nolimit (codeRec_of X₁ hcd) rfl (hbind s X₁) hcell hloc (fun h₁ hns hk₁ => ?_) hco hgen hk
  have st : base.StaysIn (hideAll s.heap ((ch ++ ro).map (·.1))) := fun b o e => hideAll_get _ (B.stays b o e) fun q => by
    obtain ⟨r, hr, rfl⟩ := List.mem_map.mp q
    rw [(hO r hr).1] at e; cases e
  have F' : Fr (hideAll s.heap ((ch ++ ro).map (·.1))) s.heap.objs.size h₁ (fun y => binds.reverse.lookup y) := ⟨hns, fun b o e => hk₁ b o (of_hideAll _ e), Nat.le_of_eq (hideAll_size _ _)⟩
  have N' : News (hideAll s.heap ((ch ++ ro).map (·.1))) s.heap.objs.size h₁ (ch ++ ro) := fun q hq => ⟨hk₁ _ _ (hH q hq), Nat.ne_of_lt (Heap.lt_size (hH q hq)), hideAll_none _ (List.mem_map_of_mem hq)⟩
  have B' : Below (A0 dp un gd frs) base frs (hideAll s.heap ((ch ++ ro).map (·.1))) := ⟨B.stack, st, funFrames_hideAll B.frames fun env he b hb hf => by
    obtain ⟨r, hr, rfl⟩ := List.mem_map.mp hb
    exact (hO r hr).2 env he hf⟩
  refine wpAny_mono (h dp un gd frs base p loose mean mg mb s _ _ h₁ X₀ T F' N' B' (X₀.keeps st) (T.keeps st) hdp hun (allLt_of fun q hq => Heap.lt_size (hH q hq))) (fun fl s' hl => ?_) fun _ _ y => y.elim
  obtain ⟨L', m', news', x, F₂, N₂, e, hP, hv, hs, htl⟩ := hl
  rw [e]
  have := hR x s'.heap s'.toks hP (fun b o eb hb => ?_) (fun q hq => (N₂ q (hs q ?_)).1) fun q hq => ?_
  · rw [← hv] at this; exact this
  · by_cases hr : b ∈ ro.map (·.1)
    · obtain ⟨q, hq, rfl⟩ := List.mem_map.mp hr
      have h1 := hH q (List.mem_append_right _ hq)
      rw [eb] at h1
      cases h1
      exact (N₂ q (hs q (List.mem_append_right _ (List.mem_append_right _ hq)))).1
    · exact F₂.keep b o (hideAll_get _ eb (by rw [List.map_append]; exact fun hm => (List.mem_append.mp hm).elim hb hr))
  · rcases List.mem_append.mp hq with hq | hq
    · exact List.mem_append_left _ hq
    · exact List.mem_append_right _ (List.mem_append_left _ hq)
  · have h1 := (N₂ q (hs q (List.mem_append_right _ (List.mem_append_left _ hq)))).2.2
    cases h2 : s.heap.get? q.1 with
    | none => rfl
    | some o => rw [hideAll_get _ h2 (htl q hq)] at h1; cases h1

/-- a call by its contract, in a body that is walked -/
theorem con_code {dp un : Nat} {gd : Option (List Code)} {env : Env} {outer : List Env} {A₀ : Around} {base h₀ : Heap} {L : Addr} {m : Str → Option Value} {news rest : List (Addr × Obj)} {s : Shared} {R : Result → Shared → Prop}
    {p : Program} {loose : List Str} {mean : ExcName → Option Value} {mg mb : Str → Option Value}
    (C : Con w f args kw ro ch dn uk P upd tl val) (B : Below A₀ base outer h₀) (Xb : (Mine.hd.heap_39 w.params).In base) (Tb : Top p loose mean mg mb base) (F : Fr h₀ L s.heap m) (N : News h₀ L s.heap news)
    (hf : env.frame = some L) (hke : env.scope.kind = .function) (hd : dp + dn < recursionLimit) (hu : un + uk < cLine)
    (hro : ∀ q ∈ ro, q ∈ news) (hpick : Pick news ch rest) (hoff : ∀ r ∈ ch, ∀ q ∈ rest, q.1 ≠ r.1) (hup : ∀ x, ∀ q ∈ upd x, q.1 ∈ ch.map (·.1))
    (k : ∀ x h' tk', P x → Fr h₀ L h' m → News h₀ L h' (upd x ++ (tl x ++ rest)) → NeAll news (tl x) → R (.ok (.ret (val x))) { s with heap := h', toks := tk' }) :
    codeAny (model PySem.Challenge.rw_ez0048_01.row.prog w) (A0 dp un gd (env :: outer)) (.call (.ref f) ⟨args, kw⟩) R s := by
  have B₁ := pushX B F hf hke
  have B₂ : Below (A0 dp un gd (env :: outer)) base (env :: outer) s.heap := ⟨rfl, fun b o e => F.keep b o (B.stays b o e), B₁.frames⟩
  have hsub : ∀ q ∈ ch ++ ro, q ∈ news := fun q hq => (List.mem_append.mp hq).elim (hpick.mem.1 q) (hro q)
  have nL : ∀ q ∈ ch ++ ro, q.1 ≠ L := fun q hq => (N q (hsub q hq)).2.1
  have h0 : ∀ q ∈ ch ++ ro, h₀.get? q.1 = none := fun q hq => (N q (hsub q hq)).2.2
  refine C dp un gd (env :: outer) base p loose mean mg mb s _ B₂ Xb Tb (fun q hq => (N q (hsub q hq)).1) (fun q hq => ⟨?_, fun env' he hf' => ?_⟩) hd hu fun x h' tk' hP hB hH hN => ?_
  · cases e : base.get? q.1 with
    | none => rfl
    | some o => have := B.stays _ _ e; rw [h0 q hq] at this; cases this
  · rcases List.mem_cons.mp he with rfl | he
    · rw [hf] at hf'; exact nL q hq (Option.some.inj hf').symm
    · obtain ⟨L₁, o₁, hf₁, ho₁⟩ := funFrames_in B.frames env' he
      rw [hf₁] at hf'
      have := h0 q hq
      rw [← Option.some.inj hf', ho₁] at this; cases this
  · obtain ⟨oL, es, ep, hL, hLr⟩ := F.ns
    have nm : ∀ b, (∀ r ∈ ch, b ≠ r.1) → b ∉ ch.map (·.1) := fun b hb hq => by
      obtain ⟨r, hr, e⟩ := List.mem_map.mp hq
      exact hb r hr e.symm
    have keep0 : ∀ b o, h₀.get? b = some o → h'.get? b = some o := fun b o e => hB b o (F.keep b o e) (nm b fun r hr q => by rw [q, h0 r (List.mem_append_left _ hr)] at e; cases e)
    refine k x h' tk' hP ⟨⟨oL, es, ep, hB _ _ hL (nm L fun r hr q => nL r (List.mem_append_left _ hr) q.symm), hLr⟩, keep0, F.above⟩ (fun q hq => ?_) (neAll_of fun r hr q hq e => ?_)
    · rcases List.mem_append.mp hq with hq | hq
      · obtain ⟨r, hr, e⟩ := List.mem_map.mp (hup x q hq)
        exact ⟨hH q (List.mem_append_left _ hq), e ▸ nL r (List.mem_append_left _ hr), e ▸ h0 r (List.mem_append_left _ hr)⟩
      · rcases List.mem_append.mp hq with hq | hq
        · have hn := hN q hq
          refine ⟨hH q (List.mem_append_right _ hq), fun e => ?_, ?_⟩
          · rw [e, hL] at hn; cases hn
          · cases e : h₀.get? q.1 with
            | none => rfl
            | some o => rw [F.keep _ _ e] at hn; cases hn
        · have y := N q (hpick.mem.2 q hq)
          exact ⟨hB _ _ y.1 (nm _ fun r hr => hoff r hr q hq), y.2⟩
    · have h1 := (N r hr).1
      have h2 := hN q hq
      rw [e, h2] at h1; cases h1
theorem con_use {dp un : Nat} {gd : Option (List Code)} {env : Env} {outer : List Env} {A₀ : Around} {base h₀ : Heap} {L : Addr} {m : Str → Option Value} {news rest : List (Addr × Obj)} {s : Shared} {Q E : Value → Shared → Prop}
    {p : Program} {loose : List Str} {mean : ExcName → Option Value} {mg mb : Str → Option Value}
    (C : Con w f args kw ro ch dn uk P upd tl val) (B : Below A₀ base outer h₀) (Xb : (Mine.hd.heap_39 w.params).In base) (Tb : Top p loose mean mg mb base) (F : Fr h₀ L s.heap m) (N : News h₀ L s.heap news)
    (hf : env.frame = some L) (hke : env.scope.kind = .function) (hd : dp + dn < recursionLimit) (hu : un + uk < cLine)
    (hro : ∀ q ∈ ro, q ∈ news) (hpick : Pick news ch rest) (hoff : ∀ r ∈ ch, ∀ q ∈ rest, q.1 ≠ r.1) (hup : ∀ x, ∀ q ∈ upd x, q.1 ∈ ch.map (·.1))
    (k : ∀ x h' tk', P x → Fr h₀ L h' m → News h₀ L h' (upd x ++ (tl x ++ rest)) → NeAll news (tl x) → Q (val x) { s with heap := h', toks := tk' }) :
    wpAny (model PySem.Challenge.rw_ez0048_01.row.prog w) (A0 dp un gd (env :: outer)) (call (.ref f) args kw) Q E s :=
  wpAny_call (con_code C B Xb Tb F N hf hke hd hu hro hpick hoff hup k)
end

structure Stop (p : Prop) : Prop where
  out : p
theorem stop_in {p : Prop} (h : Stop p) : p := h.out

/-- making an iterator of a value: it is a new object, and it walks n items -/
def IterOf (prog : Program) (w : World) (A : Around) (s : Shared) (xv : Value) (n : Nat) (P : Nat → Value → Prop) (ex : List Addr) : Prop :=
  ∀ (Q : Value → Shared → Prop) (E : Value → Shared → Prop), (∀ (o : Obj) (St : Nat → Heap → Prop), Walks prog w A s.heap.objs.size (s.heap.objs.size :: ex) [s.heap.objs.size] n P St → (∀ i h, St i h → ∃ o', h.get? s.heap.objs.size = some o') →
    St 0 (s.heap.push o) → o.isFreed = false → Q (.ref s.heap.objs.size) { s with heap := s.heap.push o }) → wpAny (model prog w) A (pyIter xv) Q E s
section
variable {prog : Program} {w : World} {A : Around} {s : Shared}
theorem iterOf_list {l : Addr} {items : Array Value} (hh : A.handled = none) (hl : s.heap.IsList l items) : IterOf prog w A s (.ref l) items.size (fun i v => items[i]? = some v) [l] := by
  intro Q E k
  obtain ⟨o, ho, _⟩ := id hl
  have hlt := Heap.lt_size ho
  refine wpAny_pyIter_list hl (k _ _ (Walks.list hh _ l (Nat.ne_of_lt hlt) items) (fun i h st => ?_) ⟨⟨_, Heap.get?_push_size _ rfl, rfl, rfl⟩, hl.at fun o e => Heap.get?_push_of_some _ e⟩ rfl)
  obtain ⟨o', ho', _⟩ := st.1
  exact ⟨o', ho'⟩
theorem iterOf_range {r : Addr} {a b : Int} {t u v : Tok} {n : Nat} (hh : A.handled = none) (hr : IsRange s.heap r a b 1 t u v) (hs : Builtin.Range.small a b 1 = true) (hn : Builtin.Range.rangeSize a b 1 = (n : Int)) :
    IterOf prog w A s (.ref r) n (fun i v => ∃ t, v = .int (a + i) t) [] := by
  intro Q E k
  refine wpAny_pyIter_range hr hs (k _ (fun i h => IsRangeIter h s.heap.objs.size (a + (i : Nat) * 1) ((n : Int) - (i : Nat)) 1) ?_ (fun i h st => ⟨_, st⟩) (by show IsRangeIter _ _ _ _ _; rw [hn]; simpa using Heap.get?_push_size _ rfl) rfl)
  have W := Walks.range (prog := prog) (w := w) hh s.heap.objs.size a 1 n
  simpa using W
theorem iterOf_str {x : Str} {t : Tok} (hh : A.handled = none) (ha : x.cps.all (· < 128) = true) : IterOf prog w A s (.str x t) x.cps.size (SignAt x) [] := by
  intro Q E k
  refine wpAny_pyIter_ascii ha (k _ _ (Walks.strAscii hh _ x t) (fun i h st => ?_) ⟨_, Heap.get?_push_size _ rfl, rfl, rfl⟩ rfl)
  obtain ⟨o', ho', _⟩ := st
  exact ⟨o', ho'⟩
end

/-- how a loop's turn ends -/
def TurnM (h₀ : Heap) (L I : Addr) (s₁ : Shared) (J : (Str → Option Value) → List (Addr × Obj) → Prop) (oI : Obj) (Q : Flow → Shared → Prop) (f : Flow) (s₂ : Shared) : Prop :=
  match f with
  | .ret v => Q (.ret v) s₂
  | .brk => Q .next s₂
  | _ => ∃ h' tk' m' news' nx, s₂ = { s₁ with heap := h', toks := tk' } ∧ Fr h₀ L h' m' ∧ News h₀ L h' news' ∧ (I, oI) ∈ news' ∧ (∀ q ∈ nx, q ∈ news') ∧ (∀ q ∈ nx, q.1 ≠ I) ∧ J m' nx

section
variable {prog : Program} {w : World} {A : Around} {E : Value → Shared → Prop} {s : Shared} {env : Env} {h₀ : Heap} {x : Str} {body : List Stmt} {Q : Flow → Shared → Prop}
theorem turnM_next {L I : Addr} {s₁ : Shared} {J : (Str → Option Value) → List (Addr × Obj) → Prop} {oI : Obj} {h' : Heap} {tk' : Nat} {m' : Str → Option Value} {news' : List (Addr × Obj)} (nx : List (Addr × Obj))
    (F : Fr h₀ L h' m') (N : News h₀ L h' news') (hI : (I, oI) ∈ news') (hs : ∀ q ∈ nx, q ∈ news') (ho : ∀ q ∈ nx, q.1 ≠ I) (hJ : J m' nx) : TurnM h₀ L I s₁ J oI Q .next { s₁ with heap := h', toks := tk' } :=
  ⟨h', tk', m', news', nx, rfl, F, N, hI, hs, ho, hJ⟩

theorem loop_M {xv : Value} {n : Nat} {P : Nat → Value → Prop} {ex : List Addr} {m : Str → Option Value} {news : List (Addr × Obj)} (J : Nat → (Str → Option Value) → List (Addr × Obj) → Prop)
    (hit : IterOf prog w A s xv n P ex) (F : Fr h₀ env.locals s.heap m) (N : News h₀ env.locals s.heap news)
    (hex : ∀ b ∈ ex, b ≠ env.locals ∧ ((∃ o, h₀.get? b = some o) ∨ ∃ o, ∀ i m l, J i m l → (b, o) ∈ l)) (h0 : J 0 m news)
    (turn : ∀ i v m₁ news₁ I oI h tk, i < n → P i v → J i m₁ news₁ → NeOne I news₁ → Fr h₀ env.locals h (fun y => if y = x then some v else m₁ y) → News h₀ env.locals h ((I, oI) :: news₁) →
      wpAny (model prog w) A (execs body env) (TurnM h₀ env.locals I { s with heap := h, toks := tk } (J (i + 1)) oI Q) E { s with heap := h, toks := tk })
    (done : ∀ m₁ news₁ h tk, J n m₁ news₁ → Fr h₀ env.locals h m₁ → News h₀ env.locals h news₁ → Q .next { s with heap := h, toks := tk }) :
    wpAny (model prog w) A (pyIter xv) (fun it s₂ => LoopAtV prog w A h₀ env x body Q E it s₂) E s := by
  refine hit _ _ fun o St W hob hst hf => ?_
  have hI0 : h₀.get? s.heap.objs.size = none := next_is_new F
  have hLI : env.locals ≠ s.heap.objs.size := Nat.ne_of_lt F.ns.lt
  have F' := F.push o
  have N' : News h₀ env.locals (s.heap.push o) news := fun p hp => ⟨Heap.get?_push_of_some _ (N p hp).1, (N p hp).2⟩
  refine ⟨s.heap.objs.size, _, _, n, P, St, m, news, J, rfl, W, ?_, ?_, ?_, hst, F', N', h0, ?_, ?_⟩
  · intro hm
    rcases List.mem_cons.mp hm with e | hm
    · exact hLI e
    · exact (hex _ hm).1 rfl
  · intro b hb; rw [List.mem_singleton.mp hb]; exact hI0
  · intro p hp hI
    exact absurd (Heap.lt_size (N p hp).1) ((List.mem_singleton.mp hI) ▸ Nat.lt_irrefl _)
  · rintro i v m₁ news₁ s₁ own ⟨h, tk, rfl⟩ hi hP hJ hoff hown hget hall hst₁ F₁ N₁
    obtain ⟨oI, hoI⟩ := hob _ _ hst₁
    have hIown : (s.heap.objs.size, oI) ∈ own := hall _ (List.mem_cons_self) hI0 _ hoI
    have N₂ : News h₀ env.locals h ((s.heap.objs.size, oI) :: news₁) := fun q hq => by
      rcases List.mem_cons.mp hq with rfl | hq
      · exact N₁ _ (List.mem_append_left _ hIown)
      · exact N₁ _ (List.mem_append_right _ hq)
    have hne : NeOne s.heap.objs.size news₁ := neOne_of fun q hq e => hoff q hq (by rw [e]; exact List.mem_singleton.mpr rfl)
    refine wpAny_mono (turn i v m₁ news₁ s.heap.objs.size oI h tk hi hP hJ hne F₁ N₂) (fun f s₂ ht => ?_) fun _ _ e => e
    have fin : (∃ h' tk' m' news' nx, s₂ = { ({ s with heap := h, toks := tk } : Shared) with heap := h', toks := tk' } ∧ Fr h₀ env.locals h' m' ∧ News h₀ env.locals h' news' ∧ (s.heap.objs.size, oI) ∈ news' ∧ (∀ q ∈ nx, q ∈ news') ∧ (∀ q ∈ nx, q.1 ≠ s.heap.objs.size) ∧ J (i + 1) m' nx) →
        LoopStepU h₀ env.locals [s.heap.objs.size] own (J (i + 1)) { ({ s with heap := s.heap.push o } : Shared) with heap := h, toks := tk } .next s₂ := by
      rintro ⟨h', tk', m', news', nx, e, F₃, N₃, hI3, hs3, ho3, hJ3⟩
      refine ⟨rfl, h', tk', m', nx, e, F₃, fun q hq => ?_, fun q hq hm => ho3 q hq (List.mem_singleton.mp hm), hJ3⟩
      rcases List.mem_append.mp hq with hq | hq
      · have hq1 := hown q hq
        have hg := hget q hq
        rcases List.mem_cons.mp hq1 with e1 | hq1
        · have : q = (s.heap.objs.size, oI) := Prod.ext e1 (by rw [e1] at hg; exact Option.some.inj (hg.symm.trans hoI))
          rw [this]; exact N₃ _ hI3
        · rcases (hex _ hq1).2 with ⟨o', ho'⟩ | ⟨o', ho'⟩
          · have := (N₁ q (List.mem_append_left _ hq)).2.2
            rw [ho'] at this; cases this
          · have h1 := (N₁ _ (List.mem_append_right _ (ho' i m₁ news₁ hJ))).1
            have : q = (q.1, o') := Prod.ext rfl (Option.some.inj (hg.symm.trans h1))
            rw [this]; exact N₃ _ (hs3 _ (ho' _ _ _ hJ3))
      · exact N₃ _ (hs3 q hq)
    cases f with
    | ret v => exact .ret ht
    | brk => exact .brk ht
    | next => exact .next (fin ht)
    | cont => exact .cont (fin ht)
  · intro h' tk' m' news' F₃ N₃ _ hJ
    exact done m' news' h' tk' hJ F₃ N₃
end

/-- an object that is a name table, whatever the heap about it -/
def TabObj (C : Addr) (oC : Obj) (mc : Str → Option Value) : Prop := ∀ h : Heap, h.get? C = some oC → h.Ns C mc
theorem tabObj_of {h : Heap} {C : Addr} {oC : Obj} {mc : Str → Option Value} (hn : h.Ns C mc) (e : h.get? C = some oC) : TabObj C oC mc := by
  obtain ⟨o, es, ep, ho, r⟩ := hn
  rw [e] at ho; cases ho
  exact fun h' e' => ⟨_, es, ep, e', r⟩

/-- how an element of a comprehension ends -/
def EltM (h₀ : Heap) (L : Addr) (m : Str → Option Value) (three : List (Addr × Obj)) (s₁ : Shared) (J : Value → List (Addr × Obj) → Prop) (y : Value) (s₂ : Shared) : Prop :=
  ∃ h' tk' news' nx, s₂ = { s₁ with heap := h', toks := tk' } ∧ Fr h₀ L h' m ∧ News h₀ L h' news' ∧ (∀ q ∈ three, q ∈ news') ∧ (∀ q ∈ nx, q ∈ news') ∧ (∀ q ∈ nx, ∀ r ∈ three, q.1 ≠ r.1) ∧ J y nx

section
variable {prog : Program} {w : World} {A : Around} {E : Value → Shared → Prop} {s : Shared} {env : Env} {h₀ : Heap} {Q : Value → Shared → Prop}
theorem eltM_ {L : Addr} {m : Str → Option Value} {three : List (Addr × Obj)} {s₁ : Shared} {J : Value → List (Addr × Obj) → Prop} {y : Value} {h' : Heap} {tk' : Nat} {news' : List (Addr × Obj)} (nx : List (Addr × Obj))
    (F : Fr h₀ L h' m) (N : News h₀ L h' news') (h3 : ∀ q ∈ three, q ∈ news') (hs : ∀ q ∈ nx, q ∈ news') (ho : ∀ q ∈ nx, ∀ r ∈ three, q.1 ≠ r.1) (hJ : J y nx) : EltM h₀ L m three s₁ J y { s₁ with heap := h', toks := tk' } :=
  ⟨h', tk', news', nx, rfl, F, N, h3, hs, ho, hJ⟩

/-- the source of a comprehension is in hand -/
def CompAt (prog : Program) (w : World) (A : Around) (h₀ : Heap) (env : Env) (scope : Scope) (cl : List (Str × Addr)) (x : Str) (elt : Expr) (Q : Value → Shared → Prop) (xv : Value) (s : Shared) : Prop :=
  ∃ (n : Nat) (P : Nat → Value → Prop) (ex : List Addr) (m : Str → Option Value) (news : List (Addr × Obj)) (J : Nat → List Value → List (Addr × Obj) → Prop), IterOf prog w A s xv n P ex ∧ n ≤ sizeLine ∧ (∀ i ys l, J i ys l → ys.length = i) ∧
    Fr h₀ env.locals s.heap m ∧ News h₀ env.locals s.heap news ∧ (∀ b ∈ ex, b ≠ env.locals ∧ ((∃ o, h₀.get? b = some o) ∨ ∃ o, (∀ i ys l, J i ys l → (b, o) ∈ l))) ∧ J 0 [] news ∧
    (∀ i v ys news₁ C oC mc D oD I oI h tk, i < n → P i v → J i ys news₁ → NeAll news₁ [(C, oC), (D, oD), (I, oI)] → TabObj C oC mc → mc x = some v → Fr h₀ env.locals h m → News h₀ env.locals h ((C, oC) :: (D, oD) :: (I, oI) :: news₁) →
      wpAny (model prog w) A (eval elt (compEnvC scope cl C env)) (EltM h₀ env.locals m [(C, oC), (D, oD), (I, oI)] { s with heap := h, toks := tk } (fun y l => J (i + 1) (ys ++ [y]) l)) (fun _ _ => False) { s with heap := h, toks := tk }) ∧
    (∀ D ep ys news₁ h tk, J n ys news₁ → NeOne D news₁ → Fr h₀ env.locals h m → News h₀ env.locals h ((D, listOf ys.toArray ep) :: news₁) → Q (.ref D) { s with heap := h, toks := tk })

theorem comp_M {elt iter : Expr} {x : Str} {px : Pos} {scope : Scope} {cl : List (Str × Addr)} {pos : Pos}
    (hclos : closureFor scope env = pure cl) (hcell : ∀ y ∈ scope.names, y.2 ≠ .cell) (hkind : scope.kind = .function)
    (hnames : ∀ y ∈ scope.names, y.2 = .local → scope.names.lookup y.1 = some .local) (hx : scope.names.lookup x = some .local)
    (h : wpAny (model prog w) A (eval iter env) (fun xv s₁ => CompAt prog w A h₀ env scope cl x elt Q xv s₁) E s)
    (hs : ∀ x, foldedSetIterable iter env x = pure x := by intro _; rfl) :
    wpAny (model prog w) A (eval (.ListComp elt [⟨.Name x px, iter, [], 0⟩] scope pos) env) Q E s := by
  rw [eval_ListComp]
  refine wpAny_comprehension_free (use := none) rfl hs hclos hkind hnames (wpAny_mono h (fun xv s₁ h₁ => ?_) fun _ _ e => e)
  obtain ⟨n, P, ex, m, news, J, hit, hsz, hlen, F, N, hex, h0, turn, done⟩ := h₁
  refine hit _ _ fun o St W hob hst hf => ?_
  have hI0 : h₀.get? s₁.heap.objs.size = none := next_is_new F
  have hLI : env.locals ≠ s₁.heap.objs.size := Nat.ne_of_lt F.ns.lt
  have F₂ := F.push o
  have N₂ : News h₀ env.locals (s₁.heap.push o) news := fun p hp => ⟨Heap.get?_push_of_some _ (N p hp).1, (N p hp).2⟩
  have hnI : ∀ q ∈ news, q.1 ≠ s₁.heap.objs.size := fun q hq => Nat.ne_of_lt (Heap.lt_size (N q hq).1)
  obtain ⟨oI₀, hoI₀⟩ := hob _ _ hst
  generalize hI : s₁.heap.objs.size = I at *
  generalize hH : s₁.heap.push o = H₂ at *
  have hID : I ≠ H₂.objs.size := Nat.ne_of_lt (Heap.lt_size hoI₀)
  refine wpAny_newObj_type (wpAny_newFunctionEnv hcell (by intro y hy; simp at hy) (fun h₁ hns₁ hsb₁ => ?_) hkind)
  dsimp only at hns₁ hsb₁ ⊢
  generalize hD : H₂.objs.size = D at hns₁ hsb₁ hID ⊢
  generalize hH3 : H₂.push { cls := .type "list", dict := none, data := .seq ([] : List Value).toArray } = H₃ at hns₁ hsb₁ ⊢
  have hC : H₃.objs.size = D + 1 := by rw [← hH3, Heap.size_push, hD]
  generalize hCe : H₃.objs.size = C at hns₁ hsb₁ hC ⊢
  have lt₂ : ∀ {b ob}, H₂.get? b = some ob → b < D := fun e => hD ▸ Heap.lt_size e
  have hDC : D ≠ C := by rw [hC]; exact Nat.ne_of_lt (Nat.lt_succ_self _)
  have hIC : I ≠ C := by rw [hC]; exact Nat.ne_of_lt (Nat.lt_succ_of_lt (lt₂ hoI₀))
  have old : ∀ b ob, H₂.get? b = some ob → h₁.get? b = some ob := fun b ob e => hsb₁.extBut b ob (by rw [hC]; exact Nat.ne_of_lt (Nat.lt_succ_of_lt (lt₂ e))) (Heap.get?_push_of_some _ (hH3 ▸ Heap.get?_push_of_some _ e))
  have hacc : h₁.PlainList D #[] := ⟨0, hsb₁.extBut _ _ hDC (Heap.get?_push_of_some _ (hH3 ▸ hD ▸ Heap.get?_push_size _ rfl))⟩
  have h0D : h₀.get? D = none := by
    cases e : h₀.get? D with
    | none => rfl
    | some ob => exact absurd (lt₂ (F₂.keep _ _ e)) (Nat.lt_irrefl _)
  have h0C : h₀.get? C = none := by
    cases e : h₀.get? C with
    | none => rfl
    | some ob => have := lt₂ (F₂.keep _ _ e); rw [hC] at this; exact absurd (Nat.lt_of_succ_lt this) (Nat.lt_irrefl _)
  obtain ⟨oL, _, _, hoL, _⟩ := F₂.ns
  have hLD : D ≠ env.locals := fun e => absurd (e ▸ lt₂ hoL) (Nat.lt_irrefl _)
  have hLC : C ≠ env.locals := fun e => by have := lt₂ hoL; rw [← e, hC] at this; exact absurd (Nat.lt_of_succ_lt this) (Nat.lt_irrefl _)
  have F₁ : Fr h₀ env.locals h₁ m := ⟨F₂.ns.keeps old, fun b ob e => old b ob (F₂.keep b ob e), F₂.above⟩
  have N₁ : News h₀ env.locals h₁ news := fun q hq => ⟨old _ _ (N₂ q hq).1, (N₂ q hq).2⟩
  have hnD : ∀ q ∈ news, q.1 ≠ D := fun q hq => Nat.ne_of_lt (lt₂ (N₂ q hq).1)
  have hnC : ∀ q ∈ news, q.1 ≠ C := fun q hq => by rw [hC]; exact Nat.ne_of_lt (Nat.lt_succ_of_lt (lt₂ (N₂ q hq).1))
  have hexb : ∀ b ∈ ex, ∀ i ys l, J i ys l → ∀ h' : Heap, Fr h₀ env.locals h' m → News h₀ env.locals h' l → ∃ ob, h'.get? b = some ob ∧ ((∃ ob', h₀.get? b = some ob') ∨ (b, ob) ∈ l) := fun b hb i ys l hJ h' F' N' => by
    rcases (hex b hb).2 with ⟨ob, hob⟩ | ⟨ob, hob⟩
    · exact ⟨ob, F'.keep _ _ hob, .inl ⟨ob, hob⟩⟩
    · exact ⟨ob, (N' _ (hob _ _ _ hJ)).1, .inr (hob _ _ _ hJ)⟩
  have hst₁ : St 0 h₁ := W.frame _ _ _ hst fun b _ ob e => old b ob e
  have loop : ∀ s₃ : Shared, s₃ = { s₁ with heap := h₁, toks := s₁.toks + ([] : List (Str × Value)).length } →
      codeAny (model prog w) A (.compLoop (.ListComp elt [⟨.Name x px, iter, [], 0⟩] scope pos) 0 (.ref I) (.ref D) (compEnvC scope cl C env))
        (compPost (model prog w) A E none Q (.ref D) C) s₃ := by
    rintro s₃ rfl
    refine codeAny_compLoop_list
      (fun k s' => ∃ h' tk m' ys l i, s' = { s₁ with heap := h', toks := tk } ∧ St i h' ∧ h'.PlainList D ys ∧ h'.Ns C m' ∧ Fr h₀ env.locals h' m ∧ News h₀ env.locals h' l ∧ (∀ q ∈ l, q.1 ≠ I ∧ q.1 ≠ D ∧ q.1 ≠ C) ∧ J i ys.toList l ∧ i ≤ n ∧ k = n + 1 - i) ?_ (n + 1)
      ⟨h₁, _, _, #[], news, 0, rfl, hst₁, hacc, hns₁, F₁, N₁, fun q hq => ⟨hnI q hq, hnD q hq, hnC q hq⟩, h0, Nat.zero_le _, rfl⟩
    rintro k s' ⟨h', tk, m', ys, l, i, rfl, hst', hacc', hn', F', N', hoff, hJ, hi, rfl⟩
    have next : ∀ h₂ : Heap, (∀ b ob, b ∉ [I] → h'.get? b = some ob → h₂.get? b = some ob) → Fr h₀ env.locals h₂ m ∧ News h₀ env.locals h₂ l ∧ h₂.PlainList D ys ∧ h₂.Ns C m' := fun h₂ hk =>
      ⟨⟨F'.ns.at' fun ob e => hk _ ob (by simp only [List.mem_singleton]; exact hLI) e, fun b ob e => hk b ob (by simp only [List.mem_singleton]; rintro rfl; rw [hI0] at e; cases e) (F'.keep b ob e), F'.above⟩,
        fun q hq => ⟨hk _ _ (by simp only [List.mem_singleton]; exact (hoff q hq).1) (N' q hq).1, (N' q hq).2⟩, hacc'.at fun ob e => hk _ ob (by simp only [List.mem_singleton]; exact hID.symm) e, hn'.at' fun ob e => hk _ ob (by simp only [List.mem_singleton]; exact hIC.symm) e⟩
    by_cases hlt : i < n
    · refine W.item i _ _ _ hlt hst' fun v h₂ tk₂ hP hst₂ hk₂ => ?_
      obtain ⟨F₂', N₂', hacc₂, hn₂⟩ := next h₂ hk₂
      refine wpAny_assign_Name (wpAny_storeName_local (lookup_relabel_local hx) hn₂ (fun h₃ hn₃ hs₃ => ?_) (by simp [compEnvC, relabel, hkind]))
      have F₃ : Fr h₀ env.locals h₃ m := ⟨F₂'.ns.sameBut hs₃ hLC.symm, fun b ob e => (hs₃.2 b (fun hb => by have hb : b = C := hb; rw [hb, h0C] at e; cases e)).trans (F₂'.keep b ob e), F₂'.above⟩
      have N₃ : News h₀ env.locals h₃ l := fun q hq => ⟨(hs₃.2 q.1 (hoff q hq).2.2).trans (N₂' q hq).1, (N₂' q hq).2⟩
      have hst₃ : St (i + 1) h₃ := W.frame _ _ _ hst₂ fun b hb ob e => (hs₃.2 b (by
        show b ≠ C
        rcases List.mem_cons.mp hb with rfl | hb
        · exact hIC
        · obtain ⟨ob', he, hor⟩ := hexb b hb _ _ _ hJ _ F₂' N₂'
          rcases hor with ⟨ob'', h1⟩ | h1
          · rintro rfl; rw [h0C] at h1; cases h1
          · exact (hoff _ h1).2.2)).trans e
      have hacc₃ : h₃.PlainList D ys := hacc₂.at fun ob e => (hs₃.2 D hDC).trans e
      obtain ⟨oI, hoI⟩ := hob _ _ hst₃
      obtain ⟨epD, hoD⟩ := id hacc₃
      obtain ⟨oC, esC, epC, hoC, rC⟩ := id hn₃
      have hoC : h₃.get? C = some oC := hoC
      have hTab : TabObj C oC (fun y => if y = x then some v else m' y) := tabObj_of hn₃ hoC
      refine wpAny_mono (turn i v ys.toList l C oC _ D (listOf ys epD) I oI h₃ (tk₂ + 1) hlt hP hJ (neAll_of fun r hr q hq => ?_) hTab (by simp) F₃ (fun q hq => ?_)) (fun y s₄ h₄ => ?_) fun _ _ e => e.elim
      · rcases List.mem_cons.mp hq with rfl | hq
        · exact (hoff r hr).2.2
        · rcases List.mem_cons.mp hq with rfl | hq
          · exact (hoff r hr).2.1
          · rw [List.mem_singleton.mp hq]; exact (hoff r hr).1
      · rcases List.mem_cons.mp hq with rfl | hq
        · exact ⟨hoC, hLC, h0C⟩
        · rcases List.mem_cons.mp hq with rfl | hq
          · exact ⟨hoD, hLD, h0D⟩
          · rcases List.mem_cons.mp hq with rfl | hq
            · exact ⟨hoI, hLI.symm, hI0⟩
            · exact N₃ q hq
      · obtain ⟨h₄, tk₄, news₄, nx, rfl, F₄, N₄, h3, hs4, ho4, hJ4⟩ := h₄
        have gC : h₄.get? C = some oC := (N₄ _ (h3 (C, oC) (by simp))).1
        have gD := (N₄ _ (h3 (D, _) (List.mem_cons_of_mem _ List.mem_cons_self))).1
        have gI : h₄.get? I = some oI := (N₄ _ (h3 (I, oI) (by simp))).1
        have hl4 : ys.size = i := by have := hlen _ _ _ hJ; simpa using this
        refine wpAny_list_append_plain (hsz := by rw [hl4]; exact Nat.le_trans (Nat.le_of_lt hlt) hsz) ⟨epD, gD⟩ fun h₅ hl₅ hs₅ => ?_
        refine ⟨n + 1 - (i + 1), by omega, h₅, tk₄, _, ys.push y, nx, i + 1, rfl, ?_, hl₅, (hTab _ gC).sameBut hs₅ hDC.symm, ⟨F₄.ns.sameBut hs₅ hLD.symm, fun b ob e => (hs₅.2 b (by rintro rfl; rw [h0D] at e; cases e)).trans (F₄.keep b ob e), F₄.above⟩,
          fun q hq => ⟨(hs₅.2 q.1 (ho4 q hq (D, _) (List.mem_cons_of_mem _ List.mem_cons_self))).trans (N₄ q (hs4 q hq)).1, (N₄ q (hs4 q hq)).2⟩, fun q hq => ⟨ho4 q hq (I, oI) (by simp), ho4 q hq (D, _) (List.mem_cons_of_mem _ List.mem_cons_self), ho4 q hq (C, oC) (by simp)⟩, by simpa using hJ4, hlt, rfl⟩
        refine W.frame _ _ _ hst₃ fun b hb ob e => ?_
        rcases List.mem_cons.mp hb with rfl | hb
        · rw [hoI] at e; cases e
          exact (hs₅.2 _ hID).trans gI
        · obtain ⟨ob', he, hor⟩ := hexb b hb _ _ _ hJ _ F₃ N₃
          rw [e] at he; cases he
          have hbD : b ≠ D := by
            rcases hor with ⟨ob'', h1⟩ | h1
            · rintro rfl; rw [h0D] at h1; cases h1
            · exact (hoff _ h1).2.1
          rw [hs₅.2 b hbD]
          rcases (hex b hb).2 with ⟨ob', h1⟩ | ⟨ob', h1⟩
          · have := F₃.keep _ _ h1; rw [e] at this; cases this; exact F₄.keep _ _ h1
          · have := (N₃ _ (h1 _ _ _ hJ)).1; rw [e] at this; cases this; exact (N₄ _ (hs4 _ (h1 _ _ _ hJ4))).1
    · have hin : i = n := by omega
      subst hin
      refine W.done _ _ _ hst' fun h₂ tk₂ hk₂ => ?_
      obtain ⟨F₂', N₂', ⟨ep, hoD⟩, hn₂⟩ := next h₂ hk₂
      refine ⟨m', hn₂, fun h₃ hs₃ => ?_⟩
      refine done D ep ys.toList l h₃ tk₂ hJ (neOne_of fun q hq => (hoff q hq).2.1) ⟨F₂'.ns.sameBut hs₃ hLC.symm, fun b ob e => (hs₃.2 b (by rintro rfl; rw [h0C] at e; cases e)).trans (F₂'.keep b ob e), F₂'.above⟩ fun q hq => ?_
      rcases List.mem_cons.mp hq with rfl | hq
      · exact ⟨(hs₃.2 D hDC).trans (by simpa using hoD), hLD, h0D⟩
      · exact ⟨(hs₃.2 q.1 (hoff q hq).2.2).trans (N₂' q hq).1, (N₂' q hq).2⟩
  exact codeAny_compStart_list (loop _ rfl) (W.self 0 _ _ _ hst₁ (loop _ rfl))
end
section
variable {w : World} {f : Addr} {args : List Value} {kw : List (Str × Value)} {ro ch : List (Addr × Obj)} {dn uk : Nat} {X : Type} {P : X → Prop} {upd tl : X → List (Addr × Obj)} {val : X → Value}
theorem con_enterC
    {name qual : Str} {params : Arguments} {body : List Stmt} {scope : Scope} {dV kV doc pm cdv ct oc : Value} {an od : Option Addr} {osl : Array (Option Value)} {binds : List (Str × Value)}
    (ho : (Mine.hd.heap_39 w.params).lookup f = some ⟨oc, od, .func (fnOf name qual params body scope dV kV doc pm an cdv ct), osl⟩) (hcd : codeIn (Mine.hd.heap_39 w.params) cdv qual = true) (hdn : 0 < dn)
    (hbind : ∀ s : Shared, (Mine.hd.heap_39 w.params).In s.heap → BindsTo s (fnOf name qual params body scope dV kV doc pm an cdv ct) ⟨args, kw⟩ binds)
    (hkind : (binds.all fun y => scope.names.lookup y.1 == some .local || scope.names.lookup y.1 == some .cell) = true)
    (hnd : ((cellsFrom 0 scope.names []).map (·.1)).Nodup)
    (h : ∀ (dp un : Nat) (gd : Option (List Code)) (frs : List Env) (base : Heap) (p : Program) (loose : List Str) (mean : ExcName → Option Value) (mg mb : Str → Option Value) (s : Shared) (g : Heap) (L' : Addr) (h₁ : Heap) (tk : Nat) (cells : List (Addr × Obj)),
      (Mine.hd.heap_39 w.params).In base → Top p loose mean mg mb base →
      Fr g L' h₁ (bindL (envOfC qual scope L' f cdv).kindOf binds fun _ => none) → News g L' h₁ (cells ++ (ch ++ ro)) →
      CellsAre (bindC (envOfC qual scope L' f cdv).kindOf binds fun _ => none) (cellsFrom (L' + 1) scope.names []) cells → Below (A0 dp un gd frs) base frs g → (Mine.hd.heap_39 w.params).In g → Top p loose mean mg mb g → dp + dn < recursionLimit → un + uk < cLine → AllLt L' (ch ++ ro) →
      wpAny (model PySem.Challenge.rw_ez0048_01.row.prog w) ((A0 dp un gd frs).deeper (envOfC qual scope L' f cdv)) (execs body (envOfC qual scope L' f cdv))
        (fun fl s' => LeaveM s ro ch P upd tl val g (match fl with | .ret v => v | _ => .none) s')
        (fun _ _ => False)
        { s with heap := h₁, toks := tk })
    (hco : scope.isCoroutine = false) (hgen : scope.isGenerator = false) (hk : scope.kind = .function) : Con w f args kw ro ch dn uk P upd tl val := by
  intro dp un gd frs base p loose mean mg mb s R B X₀ T hH hO hdp hun hR
  have hroom : (A0 dp un gd frs).depth < recursionLimit := by show dp < recursionLimit; omega
  have X₁ := X₀.keeps B.stays
  have T₁ := T.keeps B.stays
  refine codeAny_call_function (fd := fnX name qual params body scope [] dV kV doc pm an cdv ct) hroom (X₁ _ _ ho) rfl hco hgen rfl (codeRec_of X₁ hcd) (hbind s X₁ _ _ _ _ ?_)
  refine wpAny_newFunctionEnv_cells hk (kindsX hkind _) fun env' he s' x => ?_
  subst he
  refine ⟨T₁.nolimit.keeps x.toInCall.keep, codeAny_func ?_⟩
  obtain ⟨h₁, tk, rfl, _⟩ := x.done
  have hk₁ := x.toInCall.keep
  obtain ⟨cells, NC, Y⟩ := Cl.news (h₀ := s.heap) (Nat.le_refl _) fun n c hm => ⟨x.cell n c (lookup_of_mem_nodup (cellsFrom_names scope.names 0 (s.heap.objs.size + 1) [] [] rfl ▸ hnd) hm), x.above n c hm⟩
  have st : base.StaysIn (hideAll s.heap ((ch ++ ro).map (·.1))) := fun b o e => hideAll_get _ (B.stays b o e) fun q => by
    obtain ⟨r, hr, rfl⟩ := List.mem_map.mp q
    rw [(hO r hr).1] at e; cases e
  have F' : Fr (hideAll s.heap ((ch ++ ro).map (·.1))) s.heap.objs.size h₁ _ := ⟨x.toInCall.ns, fun b o e => hk₁ b o (of_hideAll _ e), Nat.le_of_eq (hideAll_size _ _)⟩
  have N' : News (hideAll s.heap ((ch ++ ro).map (·.1))) s.heap.objs.size h₁ (cells ++ (ch ++ ro)) := fun q hq => by
    rcases List.mem_append.mp hq with hq | hq
    · refine ⟨(NC q hq).1, (NC q hq).2.1, ?_⟩
      cases e : (hideAll s.heap ((ch ++ ro).map (·.1))).get? q.1 with
      | none => rfl
      | some o => have := of_hideAll _ e; rw [(NC q hq).2.2] at this; cases this
    · exact ⟨hk₁ _ _ (hH q hq), Nat.ne_of_lt (Heap.lt_size (hH q hq)), hideAll_none _ (List.mem_map_of_mem hq)⟩
  have B' : Below (A0 dp un gd frs) base frs (hideAll s.heap ((ch ++ ro).map (·.1))) := ⟨B.stack, st, funFrames_hideAll B.frames fun env he b hb hf => by
    obtain ⟨r, hr, rfl⟩ := List.mem_map.mp hb
    exact (hO r hr).2 env he hf⟩
  refine wpAny_mono (h dp un gd frs base p loose mean mg mb s _ _ h₁ tk cells X₀ T F' N' Y B' (X₀.keeps st) (T.keeps st) hdp hun (allLt_of fun q hq => Heap.lt_size (hH q hq))) (fun fl s' hl => ?_) fun _ _ y => y.elim
  obtain ⟨L', m', news', y, F₂, N₂, e, hP, hv, hs, htl⟩ := hl
  rw [e]
  have := hR y s'.heap s'.toks hP (fun b o eb hb => ?_) (fun q hq => (N₂ q (hs q ?_)).1) fun q hq => ?_
  · rw [← hv] at this; exact this
  · by_cases hr : b ∈ ro.map (·.1)
    · obtain ⟨q, hq, rfl⟩ := List.mem_map.mp hr
      have h1 := hH q (List.mem_append_right _ hq)
      rw [eb] at h1
      cases h1
      exact (N₂ q (hs q (List.mem_append_right _ (List.mem_append_right _ hq)))).1
    · exact F₂.keep b o (hideAll_get _ eb (by rw [List.map_append]; exact fun hm => (List.mem_append.mp hm).elim hb hr))
  · rcases List.mem_append.mp hq with hq | hq
    · exact List.mem_append_left _ hq
    · exact List.mem_append_right _ (List.mem_append_left _ hq)
  · have h1 := (N₂ q (hs q (List.mem_append_right _ (List.mem_append_left _ hq)))).2.2
    cases h2 : s.heap.get? q.1 with
    | none => rfl
    | some o => rw [hideAll_get _ h2 (htl q hq)] at h1; cases h1
end
set_option maxHeartbeats 4000000
theorem fill_top (w : World) : (Mine.hd.heap_39 w.params).In ⟨#[], default⟩ → PySem.Challenge.rw_ez0048_01.row.prog = PySem.Challenge.rw_ez0048_01.row.prog := by
  k_fill
  w_top off
  intro _; rfl
/-- a line of the walk whose names are the proof's own -/
def loose (m : Lean.MacroM (Lean.TSyntax `tactic)) : Lean.MacroM Lean.Syntax := do
  let t ← m
  return t.raw.rewriteBottomUp fun
    | .ident i r n p => .ident i r n.eraseMacroScopes p
    | s => s
theorem not_in {a : Nat} {l : List (Addr × Obj)} (h : NeOne a l) : a ∉ l.map (·.1) := fun hm => by
  obtain ⟨r, hr, e⟩ := List.mem_map.mp hm
  exact h.mem r hr e
theorem forall_nil {α : Type} {p : α → Prop} : ∀ x ∈ ([] : List α), p x := fun _ h => nomatch h
section
variable {M : Model} {A : Around} {E : Value → Shared → Prop} {s : Shared} {h₀ : Heap} {L : Addr} {news : List (Addr × Obj)}
theorem blk_cell {sc : Scope} {cl : List (Str × Addr)} {C : Addr} {env : Env} {n : Str} {pos : Pos} {c : Addr} {o : Obj} {v : Value} {Q : Value → Shared → Prop} (N : News h₀ L s.heap news) (hc : cl.lookup n = some c) (hm : (c, o) ∈ news) (hd : o.data = .cell (some v)) (h : Q v s)
    (hk : (compEnvC sc cl C env).scope.kind = .function) (hl : (compEnvC sc cl C env).kindOf n = some .cell) (hb : (n == ("__debug__" : Str)) = false) : wpAny M A (eval (.Name n pos) (compEnvC sc cl C env)) Q E s :=
  wpAny_Name (wpAny_loadName_cell hk hl hc ⟨o, N.get hm, hd⟩ h) hb
theorem blk_local {sc : Scope} {cl : List (Str × Addr)} {C : Addr} {env : Env} {n : Str} {pos : Pos} {oC : Obj} {mc : Str → Option Value} {v : Value} {Q : Value → Shared → Prop} (hT : TabObj C oC mc) (N : News h₀ L s.heap news) (hm : (C, oC) ∈ news) (hv : mc n = some v) (h : Q v s)
    (hk : (compEnvC sc cl C env).scope.kind = .function) (hl : (compEnvC sc cl C env).kindOf n = some .local) (hb : (n == ("__debug__" : Str)) = false) : wpAny M A (eval (.Name n pos) (compEnvC sc cl C env)) Q E s :=
  wpAny_Name (wpAny_loadName_local hk hl (hT _ (N.get hm)) hv h) hb
end
theorem allLt_ne {d : Addr} {l : List (Addr × Obj)} (h : AllLt d l) : ∀ p ∈ l, p.1 ≠ d := by
  induction l with
  | nil => intro p hp; cases hp
  | cons q l ih =>
    intro p hp
    rcases List.mem_cons.mp hp with rfl | hp
    · exact Nat.ne_of_lt h.1
    · exact ih h.2 p hp
theorem allLt_neOne {d : Addr} {l : List (Addr × Obj)} (h : AllLt d l) : NeOne d l := neOne_of (allLt_ne h)
theorem with_cons {m m' : Str → Option Value} {x : Str} {v : Value} (e : m x = some v) (h : m = m') : m = fun z => if z = x then some v else m' z := by
  funext z
  by_cases hz : z = x
  · subst hz; simp [e]
  · simp only [if_neg hz]; rw [← h]
local macro_rules | `(tactic| k_room) => `(tactic| ((try simp only [depth_mark, depth_under_make, depth_under_kw, depth_in1, depth_deeper, depth_caller]); (try dsimp only); omega))
local macro_rules | `(tactic| k_units) => `(tactic| ((try simp only [units_in1, units_deeper, units_under_make, Around.mark_units, units_caller]); (try dsimp only); omega))
local macro_rules | `(tactic| walk_at "m comp") => `(tactic| (
  (case hclos => with_unfolding_all rfl); (case hcell => decide); (case hkind => rfl); (case hnames => decide); (case hx => rfl)))
local macro_rules | `(tactic| k_ne) => `(tactic| (refine neN ?_; (try dsimp only); first | with_reducible assumption | (refine Ne.symm ?_; with_reducible assumption) | (refine Nat.ne_of_lt ?_; with_reducible assumption) | (refine Nat.ne_of_gt ?_; with_reducible assumption) | omega))
-- into a body
local macro_rules | `(tactic| walk_at "m enter") => loose `(tactic| (
  refine' con_enter ?k6 ?k7 ?k8 ?k9 ?kB ?_ ?c2 ?c3 ?c4 ?c5;
  (case k6 => k_is); (case k7 => k_is); (case k8 => first | decide | omega); (case k9 => exact fun _ _ => BindsTo.of_eq rfl); (case kB => exact locs rfl); (case c2 => exact rfl); (case c3 => exact rfl); (case c4 => exact rfl); (case c5 => decide);
  intro dp un gd frs base p loose mean mg mb s g L' h₁ Xb Tb F' N' B' X' T' hdp hun hlt;
  (simp only [AllLt, List.cons_append, List.nil_append, and_true] at hlt);
  (try dsimp only [List.cons_append, List.nil_append] at N');
  (try dsimp only); (try k_fold)))
local macro_rules | `(tactic| walk_at "m enterC") => loose `(tactic| (
  refine' con_enterC ?k6 ?k7 ?k8 ?k9 ?kB ?kD ?_ ?c2 ?c3 ?c4;
  (case k6 => k_is); (case k7 => k_is); (case k8 => first | decide | omega); (case k9 => exact fun _ _ => BindsTo.of_eq rfl); (case kB => exact rfl); (case kD => decide +kernel); (case c2 => exact rfl); (case c3 => exact rfl); (case c4 => exact rfl);
  intro dp un gd frs base p loose mean mg mb s g L' h₁ tk₀ cells' Xb Tb F' N' Y' B' X' T' hdp hun hlt;
  (k_cells Y');
  (simp only [AllLt, List.cons_append, List.nil_append, and_true] at hlt);
  (try simp only [List.cons_append, List.nil_append] at N');
  (try dsimp only); (try k_fold)))
local macro_rules | `(tactic| walk_at "m enterK") => loose `(tactic| (
  refine' con_enter ?k6 ?k7 ?k8 ?k9 ?kB ?_ ?c2 ?c3 ?c4 ?c5;
  (case k6 => k_is); (case k7 => k_is); (case k8 => first | decide | omega); (case k9 => exact fun _ X => binds_K X rfl (by k_is) rfl rfl rfl); (case kB => exact locs rfl); (case c2 => exact rfl); (case c3 => exact rfl); (case c4 => exact rfl); (case c5 => decide);
  intro dp un gd frs base p loose mean mg mb s g L' h₁ Xb Tb F' N' B' X' T' hdp hun hlt;
  (simp only [AllLt, List.cons_append, List.nil_append, and_true] at hlt);
  (try dsimp only [List.cons_append, List.nil_append] at N');
  (try dsimp only); (try k_fold)))
-- out of it
local macro_rules | `(tactic| walk_at "m out") => `(tactic| ((try dsimp only); k_unfold; dsimp only))
local macro_rules | `(tactic| walk_at "m outw") => `(tactic| ((try dsimp only [WhileStep2, TurnM]); (try k_unfold); (try dsimp only); (try k_unfold); (try dsimp only)))
local macro_rules | `(tactic| walk_at "m tail") => `(tactic| first | assumption | (refine List.mem_cons_of_mem _ ?_; walk_at "m tail") | (refine List.mem_append_left _ ?_; assumption) | (refine List.mem_append_right _ ?_; walk_at "m tail"))
local macro_rules | `(tactic| walk_at "m has") => `(tactic| first | exact forall_nil | (refine List.forall_mem_cons.mpr (And.intro ?a ?b); (case a => exact ⟨_, by k_memK⟩); (case b => walk_at "m has")) | (intro r9 hr9; refine ⟨r9.2, ?_⟩; show r9 ∈ _; walk_at "m tail"))
local macro_rules | `(tactic| walk_at "m inn") => `(tactic| first | exact forall_nil | (refine List.forall_mem_cons.mpr (And.intro ?a ?b); (case a => k_memK); (case b => walk_at "m inn")) | (refine List.forall_mem_append.mpr (And.intro ?a ?b); (case a => walk_at "m inn"); (case b => walk_at "m inn")) | (intro q9 hq9; walk_at "m tail"))
local macro_rules | `(tactic| walk_at "m in") => `(tactic| ((try dsimp only [List.cons_append, List.nil_append, List.append_nil]); walk_at "m inn"))
local macro_rules | `(tactic| walk_at "m all") => `(tactic| first | exact forall_nil | (refine List.forall_mem_cons.mpr (And.intro ?a ?b); (case a => k_ne); (case b => walk_at "m all")) | (refine NeOne.mem ?_; assumption) | (refine allLt_ne ?_; assumption))
local macro_rules | `(tactic| k_all) => `(tactic| walk_at "m all")
local macro_rules | `(tactic| walk_at "m ne") => `(tactic| first | exact trivial | assumption | (refine allLt_neOne ?_; assumption) | (refine And.intro ?a ?b; (case a => k_ne); (case b => walk_at "m ne")))
local macro_rules | `(tactic| walk_at "m off") => `(tactic| ((try dsimp only [List.cons_append, List.nil_append, List.append_nil]); first | exact forall_nil | (refine List.forall_mem_cons.mpr (And.intro (not_in ?a) ?b); (case a => walk_at "m ne"); (case b => walk_at "m off"))))
local macro_rules | `(tactic| walk_at "m end0") => `(tactic| ((try walk_at "m out"); refine' leaveM_ (by assumption) (by assumption) rfl () ?P rfl ?M ?O; (case M => walk_at "m in"); (case O => walk_at "m off")))
local macro_rules | `(tactic| walk_at "m end1") => `(tactic| ((try walk_at "m out"); refine' leaveM_ (by assumption) (by assumption) rfl _ ?P rfl ?M ?O; (case M => walk_at "m in"); (case O => walk_at "m off")))
local macro_rules | `(tactic| walk_at "m end2") => `(tactic| ((try walk_at "m out"); refine' leaveM_ (by assumption) (by assumption) rfl ⟨_, _⟩ ?P rfl ?M ?O; (case M => walk_at "m in"); (case O => walk_at "m off")))
local macro_rules | `(tactic| walk_at "m end3") => `(tactic| ((try walk_at "m out"); refine' leaveM_ (by assumption) (by assumption) rfl ⟨_, _, _⟩ ?P rfl ?M ?O; (case M => walk_at "m in"); (case O => walk_at "m off")))
local macro_rules | `(tactic| walk_at "m end4") => `(tactic| ((try walk_at "m out"); refine' leaveM_ (by assumption) (by assumption) rfl ⟨_, _, _, _⟩ ?P rfl ?M ?O; (case M => walk_at "m in"); (case O => walk_at "m off")))
local macro_rules | `(tactic| walk_at "m end5") => `(tactic| ((try walk_at "m out"); refine' leaveM_ (by assumption) (by assumption) rfl ⟨_, _, _, _, _⟩ ?P rfl ?M ?O; (case M => walk_at "m in"); (case O => walk_at "m off")))
local macro_rules | `(tactic| walk_at "m end6") => `(tactic| ((try walk_at "m out"); refine' leaveM_ (by assumption) (by assumption) rfl ⟨_, _, _, _, _, _⟩ ?P rfl ?M ?O; (case M => walk_at "m in"); (case O => walk_at "m off")))
-- a call by its contract
local macro_rules | `(tactic| walk_at "m out1") => `(tactic| first | exact Out.head | (apply Out.tail; walk_at "m out1"))
local macro_rules | `(tactic| walk_at "m pick") => `(tactic| first | exact Pick.nil | (refine' Pick.cons ?a ?b; (case a => walk_at "m out1"); (case b => walk_at "m pick")))
local macro_rules | `(tactic| walk_at "m offs") => `(tactic| ((try dsimp only); first | exact forall_nil | (refine List.forall_mem_cons.mpr (And.intro ?a ?b); (case a => k_all); (case b => walk_at "m offs"))))
local macro_rules | `(tactic| walk_at "m ups") => `(tactic| (intro x9; (try dsimp only); first | exact forall_nil | (intro q9 hq9; (simp only [List.mem_cons, List.not_mem_nil, or_false, List.map_cons, List.map_nil] at hq9 ⊢); (first | (subst hq9; simp) | (rcases hq9 with rfl | rfl <;> simp) | (rcases hq9 with rfl | rfl | rfl <;> simp)))))
local macro_rules | `(tactic| walk_at "m num") => `(tactic| ((try simp only [depth_deeper, depth_in1, depth_under_make, depth_under_kw, depth_mark, units_deeper, units_in1, units_under_make, Around.mark_units]); (try dsimp only); omega))
local macro_rules | `(tactic| walk_at "m use") => `(tactic| (
  (case B => k_asm); (case Xb => k_asm); (case Tb => k_asm); (case F => k_asm); (case N => k_asm); (case hf => rfl); (case hke => rfl); (case hd => walk_at "m num"); (case hu => walk_at "m num"); (case hpick => walk_at "m pick"); (case hro => walk_at "m in"); (case hoff => walk_at "m offs"); (case hup => walk_at "m ups")))
local macro_rules | `(tactic| walk_at "m got") => `(tactic| (
  intro x9 h9 tk9 hP9 F9 N9 hne9; (try dsimp only [List.cons_append, List.nil_append] at N9); (simp only [NeAll, NeOne, and_true] at hne9); (try dsimp only); (try dsimp only at hP9); (try k_sweep); (try k_fold)))
local macro_rules | `(tactic| walk_at "eval Name") => `(tactic| (k_here; k_inBlock; k_dflt (first
  | (refine' blk_cell ?N ?c ?m ?d ?_ ?k ?l ?b; (case k => rfl); (case l => rfl); (case b => decide); (case N => k_asm); (case c => rfl); (case m => k_mem); (case d => k_asm); k_whole)
  | (refine' blk_local ?T ?N ?m ?v ?_ ?k ?l ?b; (case k => rfl); (case l => rfl); (case b => decide); (case T => k_asm); (case N => k_asm); (case m => k_mem); (case v => k_asm); k_whole))))

local macro_rules | `(tactic| walk_at "ite") => `(tactic| (k_closed; k_dflt (first | refine ite_pos (by decide +kernel) ?_ | refine ite_neg (by decide +kernel) ?_)))
local macro_rules | `(tactic| walk_at "m upd") => `(tactic| first | (refine' Upd.head ?a; (case a => walk_at "m all")) | (refine' Upd.tail ?a ?b; (case a => k_ne); (case b => walk_at "m upd")))
local macro_rules | `(tactic| walk_at "m size") => `(tactic| first | (rw [sizeLine_eq]; decide) | (rw [sizeLine_eq]; (simp only [List.size_toArray, Array.size_append, Array.size_push, List.length_cons, List.length_nil, List.length_append, List.length_map]); omega) | size_fits)
local macro_rules | `(tactic| walk_at "call builtin:list.append") => `(tactic| (
  k_here; (with_reducible show wpAny _ _ (call (Value.builtin _) [Value.ref _, _]) _ _ _); k_dflt (
  (refine' append_K ?k1 ?k2 ?k3 ?_ ?z); (case k1 => k_asm); (case k2 => k_asm); (case k3 => walk_at "m upd"); (case z => walk_at "m size"); k_whole); intro h' F' N'; (try k_sweep)))
local macro_rules | `(tactic| walk_at "m fit63") => `(tactic| first | ((try simp only [List.size_toArray, Array.size_push, Array.size_append, List.length_cons, List.length_nil, List.length_append, List.length_map]); first | decide | omega))
local macro_rules | `(tactic| walk_at "truthy ref") => `(tactic| (
  k_here; (with_reducible show wpAny _ _ (truthy (Value.ref _)) _ _ _); k_dflt (refine' wpAny_truthy_list (items := _) ?k1 ?k2 ?_; (case k1 => (refine' News.isList ?N ?m; (case N => k_asm); (case m => k_mem))); (case k2 => walk_at "m fit63"); k_whole; (try simp only [List.isEmpty_toArray, List.isEmpty_cons, List.isEmpty_nil, Array.isEmpty_push, Bool.not_false, Bool.not_true]))))

section
theorem next_con (w : World) {a sc : Addr} {vs : List Value} {ns : List Int} {n ep : Nat} {i l : Int} {t t' : Tok} (hi : 0 ≤ i) (hi' : i < 1000) (hl : 0 < l) (hl' : l < 1000) (hns : ns.length < 1000) (hI : IntsAre vs ns) (hne : @Ne Nat a sc) :
    Con w 286 [.ref a, .int l t] [] [(sc, listOf vs.toArray ep)] [(a, listOf #[.ref sc, .int i t'] n)] 5 50
      (fun (x : Int × Tok × Tok) => 0 ≤ x.1 ∧ x.1 < l) (fun x => [(a, listOf #[.ref sc, .int (i + 1) x.2.1] n)]) (fun _ => []) (fun x => .int x.1 x.2.2) := by
  walk_at "m enter"
  k_steps
  · walk_at "m end3"
    exact ⟨Int.le_refl _, hl⟩
  · walk_at "m end3"
    exact ⟨fmod_lo _ (by omega), fmod_hi _ (by omega)⟩

end
section
local macro_rules | `(tactic| walk_at "call ref") => `(tactic| (
  k_here; (with_reducible show wpAny _ _ (call (Value.ref 286) _ _) _ _ _);
  k_dflt (
  (with_unfolding_all refine' con_use (next_con _ ?a1 ?a2 ?a3 ?a4 ?a5 ?a6 ?a7) ?B ?Xb ?Tb ?F ?N ?hf ?hke ?hd ?hu ?hro ?hpick ?hoff ?hup ?_);
  walk_at "m use"; (case a6 => assumption); (case a1 => omega); (case a2 => omega); (case a3 => omega); (case a4 => omega); (case a5 => omega); (case a7 => omega); k_whole;
  intro x9 h9 tk9 hP9 F9 N9 hne9; obtain ⟨r9, u9, v9⟩ := x9; (try dsimp only [List.cons_append, List.nil_append] at N9); (try dsimp only at hP9); obtain ⟨lo9, hi9⟩ := hP9; (simp only [NeAll, NeOne, and_true] at hne9); (try dsimp only); (try k_sweep); (try k_fold); walk_say "CONTRACT next")))

local macro_rules | `(tactic| walk_at "eval ListComp") => `(tactic| (k_here; refine stop_in ?_))
theorem intsAre_snoc {r : Int} {t : Tok} : ∀ {vs : List Value} {ns : List Int}, IntsAre vs ns → IntsAre (vs ++ [.int r t]) (ns ++ [r])
  | [], [], _ => .cons _ _ .nil
  | _ :: _, _ :: _, .cons _ _ h => .cons _ _ (intsAre_snoc h)
theorem row_con (w : World) {a sc : Addr} {vs : List Value} {ns : List Int} {n ep : Nat} {i l : Int} {t t' : Tok} (hi : 0 ≤ i) (hi' : i < 900) (hl : 0 < l) (hl' : l < 1000) (hns : ns.length < 1000) (hI : IntsAre vs ns) (hne : @Ne Nat a sc) :
    Con w 291 [.ref a, .int l t] [] [(sc, listOf vs.toArray ep)] [(a, listOf #[.ref sc, .int i t'] n)] 20 100
      (fun (x : Int × Tok × Addr × Nat × List Value × List Int) => i ≤ x.1 ∧ x.1 ≤ i + 5 ∧ IntsAre x.2.2.2.2.1 x.2.2.2.2.2 ∧ x.2.2.2.2.2.length ≤ 4 ∧ ∀ r ∈ x.2.2.2.2.2, 0 ≤ r ∧ r < l)
      (fun x => [(a, listOf #[.ref sc, .int x.1 x.2.1] n)]) (fun x => [(x.2.2.1, listOf x.2.2.2.2.1.toArray x.2.2.2.1)]) (fun x => .ref x.2.2.1) := by
  walk_at "m enterC"
  k_steps
  refine ⟨?_⟩
  with_unfolding_all refine' comp_M (h₀ := g) ?hclos ?hcell ?hkind ?hnames ?hx ?_
  walk_at "m comp"
  k_steps
  rename IsRange _ _ _ _ _ _ _ _ => R9
  rename Fr _ _ _ _ => F9
  rename News _ _ _ _ => N9
  refine ⟨_, _, [], _, _, fun i' ys ledger => ∃ o1 o2 j tk rs, o1.data = Data.cell (some (.int l t)) ∧ o2.data = Data.cell (some (.ref a)) ∧ ledger = [(a, listOf #[.ref sc, .int j tk] n), (L' + 1 + 1, o1), (L' + 1, o2), (sc, listOf vs.toArray ep)] ∧ j = i + 1 + i' ∧ IntsAre ys rs ∧ rs.length = i' ∧ ∀ r ∈ rs, 0 ≤ r ∧ r < l,
    iterOf_range rfl R9 (small_one (by omega) (by omega) (by omega) (by omega)) (rangeSize_nat _ _), ?_, ?_, F9, N9, ?_, ?_, ?_, ?_⟩
  · rw [sizeLine_eq]; omega
  · rintro i' ys ledger ⟨o1, o2, j, tk, rs, _, _, _, _, h1, h2, _⟩
    rw [h1.length, h2]
  · intro b hb; cases hb
  · exact ⟨_, _, _, _, [], by assumption, by assumption, rfl, by omega, .nil, rfl, fun _ h => nomatch h⟩
  · rintro i' v ys ledger C oC mc D oD I oI h tk hi' hP ⟨o1, o2, j, tk', rs, d1, d2, rfl, hj, h1, h2, h3⟩ hne hT hm F8 N8
    simp only [NeAll, NeOne, and_true] at hne
    k_steps
    refine' eltM_ _ (by assumption) (by assumption) ?h3 ?hs ?ho ⟨o1, o2, _, _, _, d1, d2, rfl, ?e1, ?e2, ?e3, ?e4⟩
    (case hs => walk_at "m in")
    (case h3 => walk_at "m in")
    (case ho => walk_at "m offs")
    (case e2 => exact intsAre_snoc h1)
    (case e1 => omega)
    (case e3 => rw [List.length_append, h2]; rfl)
    (case e4 =>
      intro r hr
      rcases List.mem_append.mp hr with hr | hr
      · exact h3 r hr
      · rw [List.mem_singleton.mp hr]; exact ⟨by assumption, by assumption⟩)
  · rintro D ep' ys ledger h tk ⟨o1, o2, j, tk', rs, d1, d2, rfl, hj, h1, h2, h3⟩ hne F8 N8
    simp only [NeAll, NeOne, and_true] at hne
    k_steps
    refine' leaveM_ (by assumption) (by assumption) rfl ⟨_, _, _, _, ys, rs⟩ ?P rfl ?M ?O
    (case M => walk_at "m in")
    (case O => walk_at "m off")
    refine ⟨?_, ?_, h1, ?_, h3⟩
    all_goals (try dsimp only)
    all_goals omega

end
section
local macro_rules | `(tactic| walk_at "eval ListComp") => `(tactic| (k_here; refine stop_in ?_))
def part (n : Int) : List Nat := if n = 0 then [91, 48, 93] else if n = 1 then [91, 49, 93] else if n = 2 then [91, 39, 97, 39, 93] else if n = 3 then [91, 39, 42, 39, 93] else if n = 4 then [91, 42, 93] else if n = 5 then [91, 42, 42, 93] else [91, 39, 49, 39, 93]
def body (ns : List Int) : List Nat := ns.flatMap part
def wr (ns : List Int) : Str := ⟨(114 :: 111 :: 111 :: 116 :: body ns).toArray⟩
def partS (n : Int) : Str := ⟨(part n).toArray⟩
theorem strsAre_snoc {r : Str} {t : Tok} : ∀ {vs : List Value} {ns : List Str}, StrsAre vs ns → StrsAre (vs ++ [.str r t]) (ns ++ [r])
  | [], [], _ => .cons _ _ .nil
  | _ :: _, _ :: _, .cons _ _ h => .cons _ _ (strsAre_snoc h)
theorem strsAre_len : ∀ {vs : List Value} {ns : List Str}, StrsAre vs ns → vs.length = ns.length
  | [], [], _ => rfl
  | _ :: _, _ :: _, .cons _ _ h => by simp [strsAre_len h]
theorem intsAre_at {vs : List Value} {ns : List Int} (h : IntsAre vs ns) {i : Nat} {v : Value} (e : vs.toArray[i]? = some v) : ∃ n t, v = .int n t ∧ ns[i]? = some n := h.at i v (by simpa using e)
theorem seven {n : Int} (h : 0 ≤ n ∧ n < 7) : n = 0 ∨ n = 1 ∨ n = 2 ∨ n = 3 ∨ n = 4 ∨ n = 5 ∨ n = 6 := by omega
theorem take_part {ns : List Int} {i : Nat} {n : Int} {r : Str} (hn : ns[i]? = some n) (hr : r = partS n) : (ns.take (i + 1)).map partS = (ns.take i).map partS ++ [r] := by
  rw [List.take_add_one, hn, hr]; simp
theorem part_len (n : Int) : (partS n).length ≤ 5 := by
  unfold partS part Str.length
  repeat' split
  all_goals decide
theorem joinfits : ∀ {ns : List Int}, ns.length ≤ 4 → ((ns.map partS).map (·.length)).sum + (ns.map partS).length * (Str.ofString "").length ≤ 16777216 := by
  intro ns h
  have e : (Str.ofString "").length = 0 := by decide +kernel
  have : ((ns.map partS).map (·.length)).sum ≤ 5 * ns.length := by
    clear h
    induction ns with
    | nil => simp
    | cons n r ih => simp only [List.map_cons, List.sum_cons, List.length_cons]; have := part_len n; omega
  rw [e]; omega
theorem str_nil : Str.ofString "" = ⟨#[]⟩ := by decide +kernel
theorem str_root : Str.ofString "root" = ⟨#[114, 111, 111, 116]⟩ := by decide +kernel
theorem str_app (a b : Array Nat) : (⟨a⟩ : Str) ++ (⟨b⟩ : Str) = ⟨a ++ b⟩ := rfl
theorem join_parts (ns : List Int) : Txt.join (Str.ofString "") (ns.map partS) = ⟨(body ns).toArray⟩ := by
  unfold Txt.join
  rw [StrLaws.glued_eq_join, str_nil]
  induction ns with
  | nil => rfl
  | cons n r ih =>
    cases r with
    | nil => simp [Str.join, body, partS]
    | cons m r =>
      have e : Str.join ⟨#[]⟩ ((n :: m :: r).map partS) = partS n ++ ⟨#[]⟩ ++ Str.join ⟨#[]⟩ ((m :: r).map partS) := rfl
      rw [e, ih]
      simp [partS, str_app, body]
theorem body_len : ∀ ns : List Int, (body ns).length ≤ 5 * ns.length
  | [] => by simp [body]
  | n :: r => by
    have h1 := body_len r
    have h2 := part_len n
    have h3 : (partS n).length = (part n).length := by simp [partS, Str.length]
    rw [h3] at h2
    simp only [body, List.flatMap_cons, List.length_append, List.length_cons] at h1 ⊢
    omega
theorem written_eq (ns : List Int) : Str.ofString "root" ++ (⟨(body ns).toArray⟩ : Str) = wr ns := by
  rw [str_root, str_app]
  simp [wr]
theorem written_con (w : World) {a : Addr} {vs : List Value} {ns : List Int} {ep : Nat} (hI : IntsAre vs ns) (h4 : ns.length ≤ 4) (h7 : ∀ n ∈ ns, 0 ≤ n ∧ n < 7) :
    Con w 296 [.ref a] [] [(a, listOf vs.toArray ep)] [] 20 100 (fun (_ : Tok) => True) (fun _ => []) (fun _ => []) (fun x => .str (wr ns) x) := by
  walk_at "m enter"
  k_steps
  refine ⟨?_⟩
  with_unfolding_all refine' comp_M (h₀ := g) ?hclos ?hcell ?hkind ?hnames ?hx ?_
  walk_at "m comp"
  k_steps
  refine ⟨_, _, [a], _, _, fun i' ys ledger => ∃ ss, StrsAre ys ss ∧ i' ≤ ns.length ∧ ss = (ns.take i').map partS ∧ ledger = [(a, listOf vs.toArray ep)],
    iterOf_list rfl (News.isList N' (.head _)), ?_, ?_, by assumption, by assumption, ?_, ?_, ?_, ?_⟩
  · have := hI.length
    rw [sizeLine_eq, List.size_toArray]; omega
  · rintro i' ys ledger ⟨ss, h1, h2, rfl, _⟩
    rw [strsAre_len h1, List.length_map, List.length_take]; omega
  · intro b hb
    rw [List.mem_singleton.mp hb]
    exact ⟨Nat.ne_of_lt hlt, .inr ⟨_, fun i ys l ⟨_, _, _, _, e⟩ => by rw [e]; exact List.mem_singleton.mpr rfl⟩⟩
  · exact ⟨[], .nil, Nat.zero_le _, rfl, rfl⟩
  · rintro i' v ys ledger C oC mc D oD I oI h tk hi' hP ⟨ss, h1, h2, rfl, rfl⟩ hne hT hm F8 N8
    simp only [NeAll, NeOne, and_true] at hne
    obtain ⟨n, t, rfl, hn⟩ := intsAre_at hI hP
    have hlt' : i' < ns.length := (List.getElem?_eq_some_iff.mp hn).1
    rcases seven (h7 n (List.mem_of_getElem? hn)) with rfl | rfl | rfl | rfl | rfl | rfl | rfl
    all_goals (
      k_steps
      refine' eltM_ _ (by assumption) (by assumption) ?h3 ?hs ?ho ⟨_, strsAre_snoc h1, hlt', ?e2, rfl⟩
      (case hs => walk_at "m in")
      (case h3 => walk_at "m in")
      (case ho => walk_at "m offs")
      (case e2 => exact (take_part hn (by decide +kernel)).symm))
  · rintro D ep' ys ledger h tk ⟨ss, h1, h2, rfl, rfl⟩ hne F8 N8
    simp only [NeOne, and_true] at hne
    k_steps
    have hlen : (ns.take vs.toArray.size) = ns := by rw [List.size_toArray, hI.length, List.take_length]
    rw [hlen] at h1
    refine join_list (News.isList N8 (.head _)) (by simpa using h1) ?_ fun t' k => ?_
    · exact joinfits h4
    rw [join_parts]
    refine PyProof.Rows.add_str (fun t'' k' => ?_) ?_
    · k_steps
      refine' leaveM_ (by assumption) (by assumption) rfl _ trivial ?V ?M ?O
      (case V => exact congrArg (Value.str · t'') (written_eq ns))
      (case M => walk_at "m in")
      (case O => walk_at "m off")
    · have := body_len ns
      rw [str_root, sizeLine_eq]
      simp only [Str.length, List.size_toArray, Array.size]
      simp only [List.length_cons, List.length_nil]
      omega

end
section
abbrev tupOf (xs : Array Value) : Obj := { cls := .type "tuple", data := .seq xs }
def elemT (k : Int) : Str := if k = 0 then Str.ofString "0" else if k = 1 then Str.ofString "1" else if k = 2 then Str.ofString "'a'" else if k = 3 then Str.ofString "'*'" else if k = 4 then Str.ofString "*" else if k = 5 then Str.ofString "**" else Str.ofString "'1'"
def IsElem (k : Int) (v : Value) : Prop := if k = 0 then ∃ t, v = .int 0 t else if k = 1 then ∃ t, v = .int 1 t else if k = 2 then ∃ t, v = .str (Str.ofString "a") t else if k = 3 then ∃ t, v = .str (Str.ofString "*") t else if k = 4 then v = .ref 178 else if k = 5 then v = .ref 181 else ∃ t, v = .str (Str.ofString "1") t
theorem add_con (w : World) {e : Addr} {vs : Array Value} {n : Nat} {t t2 : Tok} {k : Int} (hvs : vs.size ≤ 100) (hk : 0 ≤ k ∧ k < 7) :
    Con w 189 [.ref e, .str (elemT k) t, .str (Str.ofString "[") t2] [] [] [(e, listOf vs n)] 20 100
      (fun (x : Addr × Value × Value) => IsElem k x.2.1) (fun x => [(e, listOf (vs.push (Value.ref x.1)) (n + 1))]) (fun x => [(x.1, tupOf #[x.2.1, x.2.2])]) (fun _ => .none) := by
  rcases seven hk with rfl | rfl | rfl | rfl | rfl | rfl | rfl
  all_goals (
    unfold elemT
    simp only [if_true, if_false, Int.reduceEq]
    walk_at "m enter"
    k_steps
    walk_at "m end3"
    first | exact ⟨_, rfl⟩ | exact rfl)
theorem add_con_nil (w : World) {e : Addr} {vs : Array Value} {n : Nat} {t t2 : Tok} :
    Con w 189 [.ref e, .str (Str.ofString "") t, .str (Str.ofString "[") t2] [] [(e, listOf vs n)] [] 20 100 (fun (_ : Unit) => True) (fun _ => []) (fun _ => []) (fun _ => .none) := by
  walk_at "m enter"
  k_steps
  (try walk_at "m out")
  refine' leaveM_ (by assumption) (by assumption) rfl () trivial rfl ?M ?O
  (case M => walk_at "m in")
  (case O => walk_at "m off")

end
section
local macro_rules | `(tactic| walk_at "exec For") => `(tactic| (k_here; refine stop_in ?_))
local macro_rules | `(tactic| walk_at "exec For Name Name cons nil") => `(tactic| (k_here; refine stop_in ?_))
theorem wr_len {ns : List Int} (h4 : ns.length ≤ 4) : (wr ns).length ≤ 24 := by
  have := body_len ns
  simp only [wr, Str.length, List.size_toArray, List.length_cons]
  omega
theorem slice4 (ns : List Int) : Txt.slice (wr ns) (some 4) none = ⟨(body ns).toArray⟩ := by
  show StrLaws.sliceText (wr ns) (some 4) none = _
  rw [StrLaws.sliceText_from ⟨by decide, by simp [wr]; omega⟩]
  simp [wr]
  exact List.take_of_length_le (by omega)
theorem fr_with {h₀ h : Heap} {L : Addr} {m : Str → Option Value} (F : Fr h₀ L h m) {x : Str} {v : Value} (e : m x = some v) : Fr h₀ L h (fun z => if z = x then some v else m z) := by
  have : (fun z => if z = x then some v else m z) = m := by
    funext z
    by_cases hz : z = x
    · simp [hz, e]
    · simp [hz]
  rw [this]; exact F
theorem body_ascii (ns : List Int) : (body ns).toArray.all (· < 128) = true := by
  simp only [body, List.all_toArray, List.all_flatMap]
  rw [List.all_eq_true]
  intro n _
  simp only [part]
  repeat' split
  all_goals decide
def prevV (prev : Option Str) (t : Tok) : Value := match prev with | none => .none | some c => .str c t
/-- the parser's names -/
structure FrP (m : Str → Option Value) (e b : Addr) (cu : Str) (iq is : Bool) (pv : Option Str) : Prop where
  els : m (Str.ofString "elements") = some (.ref e)
  brs : m (Str.ofString "brackets") = some (.ref b)
  cur : ∃ t, m (Str.ofString "elem") = some (.str cu t)
  ins : ∃ t, m (Str.ofString "inside") = some (if is = true then .str (Str.ofString "[") t else .bool false)
  prev : ∃ t, m (Str.ofString "prev_char") = some (prevV pv t)
  inq : m (Str.ofString "inside_quotes") = some (.bool iq)
  quo : ∃ t, m (Str.ofString "quote_used") = some (.str (if iq = true then Str.ofString "'" else Str.ofString "") t)
/-- where in the text the parser stands -/
inductive Whr (ns : List Int) (i : Nat) : List Int → Str → Bool → Bool → Option Str → Prop
  | out {els post prev} : ns = els ++ post → i = (body els).length → (prev = none ∨ prev = some (Str.ofString "]")) → Whr ns i els (Str.ofString "") false false prev
  | opn {els k post} : ns = els ++ k :: post → i = (body els).length + 1 → Whr ns i els (Str.ofString "") false true (some (Str.ofString "["))
  | rdy {els k post pr} : ns = els ++ k :: post → i + 1 = (body (els ++ [k])).length → (part k)[(part k).length - 1]? = some 93 → ¬ (pr == Str.ofString "𝆺𝅥𝅯") = true → Whr ns i els (elemT k) false true (some pr)
  | str {els post} : ns = els ++ 5 :: post → i = (body els).length + 2 → Whr ns i els (Str.ofString "*") false true (some (Str.ofString "*"))
  | q1 {els k post} : ns = els ++ k :: post → i = (body els).length + 2 → (k = 2 ∨ k = 3 ∨ k = 6) → Whr ns i els (Str.ofString "'") true true (some (Str.ofString "'"))
  | q2 {els k post c d} : ns = els ++ k :: post → i = (body els).length + 3 → (k = 2 ∧ c = Str.ofString "'a" ∧ d = Str.ofString "a" ∨ k = 3 ∧ c = Str.ofString "'*" ∧ d = Str.ofString "*" ∨ k = 6 ∧ c = Str.ofString "'1" ∧ d = Str.ofString "1") → Whr ns i els c true true (some d)
  | q3 {els post} : ns = els ++ post → i + 1 = (body els).length → (body els)[i]? = some 93 → Whr ns i els (Str.ofString "") false true (some (Str.ofString "'"))
/-- element tuples of the codes -/
inductive ElsIn (l : List (Addr × Obj)) : List Int → List Value → Prop
  | nil : ElsIn l [] []
  | cons {k ks a v x vs} : (a, tupOf #[v, x]) ∈ l → IsElem k v → ElsIn l ks vs → ElsIn l (k :: ks) (.ref a :: vs)
theorem ElsIn.mono {l l' : List (Addr × Obj)} {ks : List Int} {vs : List Value} (h : ElsIn l ks vs) (hs : ∀ q ∈ l, q ∈ l') : ElsIn l' ks vs := by
  induction h with
  | nil => exact .nil
  | cons hm he _ ih => exact .cons (hs _ hm) he ih
theorem ElsIn.snoc {l : List (Addr × Obj)} {ks : List Int} {vs : List Value} (h : ElsIn l ks vs) {k : Int} {a : Addr} {v x : Value} (hm : (a, tupOf #[v, x]) ∈ l) (he : IsElem k v) : ElsIn l (ks ++ [k]) (vs ++ [.ref a]) := by
  induction h with
  | nil => exact .cons hm he .nil
  | cons hm' he' _ ih => exact .cons hm' he' ih
theorem ElsIn.length {l : List (Addr × Obj)} {ks : List Int} {vs : List Value} (h : ElsIn l ks vs) : vs.length = ks.length := by
  induction h with
  | nil => rfl
  | cons _ _ _ ih => simp [ih]
theorem body_app (a b : List Int) : body (a ++ b) = body a ++ body b := by simp [body]
theorem body_cons (k : Int) (b : List Int) : body (k :: b) = part k ++ body b := by simp [body]
theorem body_at {ns els post : List Int} {k : Int} {j c : Nat} (e : ns = els ++ k :: post) (h : (part k)[j]? = some c) {i c' : Nat} (hi : i = (body els).length + j) (hc : (body ns).toArray[i]? = some c') : c' = c := by
  subst e hi
  have h1 : (body (els ++ k :: post))[(body els).length + j]? = some c := by
    rw [body_app, body_cons, List.getElem?_append_right (by omega), Nat.add_sub_cancel_left, List.getElem?_append_left (List.getElem?_eq_some_iff.mp h).1, h]
  have h2 : (body (els ++ k :: post))[(body els).length + j]? = some c' := by simpa using hc
  rw [h1] at h2
  exact (Option.some.inj h2).symm
theorem part_0 (k : Int) : (part k)[0]? = some 91 := by
  unfold part
  repeat' split
  all_goals rfl
/-- the parser between two signs -/
def JP (ns : List Int) (rt : Addr) (u0 u1 : Value) (i : Nat) (m : Str → Option Value) (l : List (Addr × Obj)) : Prop :=
  ∃ e b D oD cur inq ins prev els vs nE nb bs tups, FrP m e b cur inq ins prev ∧ Whr ns i els cur inq ins prev ∧ ElsIn tups els vs ∧ (∃ t, bs = if ins = true then #[Value.str (Str.ofString "[") t] else #[]) ∧
    l = (b, listOf bs nb) :: (e, listOf (#[Value.ref rt] ++ vs.toArray) nE) :: (D, oD) :: (rt, tupOf #[u0, u1]) :: tups ∧ @Ne Nat b e ∧ @Ne Nat b D ∧ @Ne Nat b rt ∧ @Ne Nat e D ∧ @Ne Nat e rt ∧ NeOne b tups ∧ NeOne e tups ∧ NeOne rt tups
local macro_rules | `(tactic| walk_at "p cur") => `(tactic| first | exact ⟨0, rfl⟩ | exact ⟨_, rfl⟩ | (with_unfolding_all exact ⟨_, congrArg (fun x => some (Value.str x _)) (by decide +kernel)⟩))
theorem quote_in {w : World} {dp un : Nat} {gd : Option (List Code)} {frs : List Env} {nm : Str} {sc : Scope} {L f : Addr} {g : Heap} {m : Str → Option Value} {news : List (Addr × Obj)} {s : Shared} {x : Str} {u : Tok} {R : Bool → Shared → Prop} {E : Value → Shared → Prop}
    {p : Program} {loose : List Str} {mean : ExcName → Option Value} {mg mb : Str → Option Value}
    (hk : sc.kind = .function) (hl : (envOf nm sc L f (.ref 197)).kindOf (Str.ofString "char") = some .local) (F : Fr g L s.heap m) (N : News g L s.heap news) (X : (Mine.hd.heap_39 w.params).In g) (T : Top p loose mean mg mb g)
    (hv : m (Str.ofString "char") = some (.str x u)) (h : ∀ h' tk', Fr g L h' m → News g L h' news → R (decide (x = Str.ofString "\"") || decide (x = Str.ofString "'")) { s with heap := h', toks := tk' }) :
    wpAny (model PySem.Challenge.rw_ez0048_01.row.prog w) (A0 dp un gd frs) (isTrue (.Compare (.Name (Str.ofString "char") ⟨122, 13, 122, 17⟩) [.In] [.Set [.Constant (.str (Str.ofString "\"")) 0 ⟨122, 22, 122, 25⟩, .Constant (.str (Str.ofString "'")) 0 ⟨122, 27, 122, 30⟩] 0 ⟨122, 21, 122, 31⟩] ⟨122, 13, 122, 31⟩) (envOf nm sc L f (.ref 197)) (eval (.Compare (.Name (Str.ofString "char") ⟨122, 13, 122, 17⟩) [.In] [.Set [.Constant (.str (Str.ofString "\"")) 0 ⟨122, 22, 122, 25⟩, .Constant (.str (Str.ofString "'")) 0 ⟨122, 27, 122, 30⟩] 0 ⟨122, 21, 122, 31⟩] ⟨122, 13, 122, 31⟩) (envOf nm sc L f (.ref 197)))) R E s := by
  refine kdi_test (by first | rfl | kernel_rfl!) ?_
  refine nameX_L F hv ?_ hk hl
  k_steps
  rename Fr _ _ _ _ => F9
  rename News _ _ _ _ => N9
  have := h _ (s.toks + 1 + 1 + 1 + 1 + 1) F9 fun q hq => N9 q (List.mem_cons_of_mem _ hq)
  simpa only [Bool.false_or] using this
local macro_rules | `(tactic| walk_at "isTrue Compare") => `(tactic| (
  k_here; (with_reducible show wpAny _ _ (isTrue (PySem.Expr.Compare _ [_] [PySem.Expr.Set _ _ _] _) _ _) _ _ _); k_dflt (
  refine' quote_in ?k ?l ?F ?N ?X ?T ?v ?_; (case k => rfl); (case l => rfl); (case F => k_asm); (case N => k_asm); (case X => k_asm); (case T => k_asm); (case v => rfl); k_whole; intro h9 tk9 F9 N9; (try dsimp only); (try k_sweep); walk_say "QUOTE")))
theorem push_app {r z : Value} {vs : List Value} : (#[r] ++ vs.toArray).push z = #[r] ++ (vs ++ [z]).toArray := by simp
theorem add_c0 (w : World) {e : Addr} {vs : Array Value} {n : Nat} {t t2 : Tok} (hvs : vs.size ≤ 100) :
    Con w 189 [.ref e, .str (Str.ofString "0") t, .str (Str.ofString "[") t2] [] [] [(e, listOf vs n)] 20 100
      (fun (x : Addr × Value × Value) => IsElem 0 x.2.1) (fun x => [(e, listOf (vs.push (Value.ref x.1)) (n + 1))]) (fun x => [(x.1, tupOf #[x.2.1, x.2.2])]) (fun _ => .none) := add_con w (k := 0) hvs (by decide)
theorem add_c1 (w : World) {e : Addr} {vs : Array Value} {n : Nat} {t t2 : Tok} (hvs : vs.size ≤ 100) :
    Con w 189 [.ref e, .str (Str.ofString "1") t, .str (Str.ofString "[") t2] [] [] [(e, listOf vs n)] 20 100
      (fun (x : Addr × Value × Value) => IsElem 1 x.2.1) (fun x => [(e, listOf (vs.push (Value.ref x.1)) (n + 1))]) (fun x => [(x.1, tupOf #[x.2.1, x.2.2])]) (fun _ => .none) := add_con w (k := 1) hvs (by decide)
theorem add_c2 (w : World) {e : Addr} {vs : Array Value} {n : Nat} {t t2 : Tok} (hvs : vs.size ≤ 100) :
    Con w 189 [.ref e, .str (Str.ofString "'a'") t, .str (Str.ofString "[") t2] [] [] [(e, listOf vs n)] 20 100
      (fun (x : Addr × Value × Value) => IsElem 2 x.2.1) (fun x => [(e, listOf (vs.push (Value.ref x.1)) (n + 1))]) (fun x => [(x.1, tupOf #[x.2.1, x.2.2])]) (fun _ => .none) := add_con w (k := 2) hvs (by decide)
theorem add_c3 (w : World) {e : Addr} {vs : Array Value} {n : Nat} {t t2 : Tok} (hvs : vs.size ≤ 100) :
    Con w 189 [.ref e, .str (Str.ofString "'*'") t, .str (Str.ofString "[") t2] [] [] [(e, listOf vs n)] 20 100
      (fun (x : Addr × Value × Value) => IsElem 3 x.2.1) (fun x => [(e, listOf (vs.push (Value.ref x.1)) (n + 1))]) (fun x => [(x.1, tupOf #[x.2.1, x.2.2])]) (fun _ => .none) := add_con w (k := 3) hvs (by decide)
theorem add_c4 (w : World) {e : Addr} {vs : Array Value} {n : Nat} {t t2 : Tok} (hvs : vs.size ≤ 100) :
    Con w 189 [.ref e, .str (Str.ofString "*") t, .str (Str.ofString "[") t2] [] [] [(e, listOf vs n)] 20 100
      (fun (x : Addr × Value × Value) => IsElem 4 x.2.1) (fun x => [(e, listOf (vs.push (Value.ref x.1)) (n + 1))]) (fun x => [(x.1, tupOf #[x.2.1, x.2.2])]) (fun _ => .none) := add_con w (k := 4) hvs (by decide)
theorem add_c5 (w : World) {e : Addr} {vs : Array Value} {n : Nat} {t t2 : Tok} (hvs : vs.size ≤ 100) :
    Con w 189 [.ref e, .str (Str.ofString "**") t, .str (Str.ofString "[") t2] [] [] [(e, listOf vs n)] 20 100
      (fun (x : Addr × Value × Value) => IsElem 5 x.2.1) (fun x => [(e, listOf (vs.push (Value.ref x.1)) (n + 1))]) (fun x => [(x.1, tupOf #[x.2.1, x.2.2])]) (fun _ => .none) := add_con w (k := 5) hvs (by decide)
theorem add_c6 (w : World) {e : Addr} {vs : Array Value} {n : Nat} {t t2 : Tok} (hvs : vs.size ≤ 100) :
    Con w 189 [.ref e, .str (Str.ofString "'1'") t, .str (Str.ofString "[") t2] [] [] [(e, listOf vs n)] 20 100
      (fun (x : Addr × Value × Value) => IsElem 6 x.2.1) (fun x => [(e, listOf (vs.push (Value.ref x.1)) (n + 1))]) (fun x => [(x.1, tupOf #[x.2.1, x.2.2])]) (fun _ => .none) := add_con w (k := 6) hvs (by decide)
local macro_rules | `(tactic| walk_at "p add") => `(tactic| (first | (with_unfolding_all refine' con_use (add_c0 _ ?a1) ?B ?Xb ?Tb ?F ?N ?hf ?hke ?hd ?hu ?hro ?hpick ?hoff ?hup ?_) | (with_unfolding_all refine' con_use (add_c1 _ ?a1) ?B ?Xb ?Tb ?F ?N ?hf ?hke ?hd ?hu ?hro ?hpick ?hoff ?hup ?_) | (with_unfolding_all refine' con_use (add_c2 _ ?a1) ?B ?Xb ?Tb ?F ?N ?hf ?hke ?hd ?hu ?hro ?hpick ?hoff ?hup ?_) | (with_unfolding_all refine' con_use (add_c3 _ ?a1) ?B ?Xb ?Tb ?F ?N ?hf ?hke ?hd ?hu ?hro ?hpick ?hoff ?hup ?_) | (with_unfolding_all refine' con_use (add_c4 _ ?a1) ?B ?Xb ?Tb ?F ?N ?hf ?hke ?hd ?hu ?hro ?hpick ?hoff ?hup ?_) | (with_unfolding_all refine' con_use (add_c5 _ ?a1) ?B ?Xb ?Tb ?F ?N ?hf ?hke ?hd ?hu ?hro ?hpick ?hoff ?hup ?_) | (with_unfolding_all refine' con_use (add_c6 _ ?a1) ?B ?Xb ?Tb ?F ?N ?hf ?hke ?hd ?hu ?hro ?hpick ?hoff ?hup ?_)))
local macro_rules | `(tactic| walk_at "call ref") => `(tactic| (
  k_here; (with_reducible show wpAny _ _ (call (Value.ref 189) _ _) _ _ _); k_dflt (
  (with_unfolding_all refine' con_use (add_con_nil _) ?B ?Xb ?Tb ?F ?N ?hf ?hke ?hd ?hu ?hro ?hpick ?hoff ?hup ?_);
  walk_at "m use"; k_whole; intro x9 h9 tk9 hP9 F9 N9 hne9; clear hne9; (try dsimp only [List.cons_append, List.nil_append] at N9); (try dsimp only); (try k_sweep); (try k_fold); walk_say "CONTRACT add nil")))
local macro_rules | `(tactic| walk_at "call ref") => loose `(tactic| (
  k_here; (with_reducible show wpAny _ _ (call (Value.ref 189) [_, Value.str (PySem.Str.ofString "0") _, _] _) _ _ _); k_dflt (
  (with_unfolding_all refine' con_use (add_c0 _ ?a1) ?B ?Xb ?Tb ?F ?N ?hf ?hke ?hd ?hu ?hro ?hpick ?hoff ?hup ?_);
  walk_at "m use"; (case a1 => (simp only [Array.size_append, List.size_toArray, List.length_cons, List.length_nil]; omega)); k_whole;
  intro x9 h9 tk9 hP9 F9 N9 hne9; obtain ⟨a9, v9, y9⟩ := x9; (try dsimp only [List.cons_append, List.nil_append] at N9); (try dsimp only at hP9); (simp only [NeAll, NeOne, and_true] at hne9); (simp only [push_app] at N9); (try dsimp only); (try k_sweep); (try k_fold); walk_say "CONTRACT add 0")))
local macro_rules | `(tactic| walk_at "call ref") => loose `(tactic| (
  k_here; (with_reducible show wpAny _ _ (call (Value.ref 189) [_, Value.str (PySem.Str.ofString "1") _, _] _) _ _ _); k_dflt (
  (with_unfolding_all refine' con_use (add_c1 _ ?a1) ?B ?Xb ?Tb ?F ?N ?hf ?hke ?hd ?hu ?hro ?hpick ?hoff ?hup ?_);
  walk_at "m use"; (case a1 => (simp only [Array.size_append, List.size_toArray, List.length_cons, List.length_nil]; omega)); k_whole;
  intro x9 h9 tk9 hP9 F9 N9 hne9; obtain ⟨a9, v9, y9⟩ := x9; (try dsimp only [List.cons_append, List.nil_append] at N9); (try dsimp only at hP9); (simp only [NeAll, NeOne, and_true] at hne9); (simp only [push_app] at N9); (try dsimp only); (try k_sweep); (try k_fold); walk_say "CONTRACT add 1")))
local macro_rules | `(tactic| walk_at "call ref") => loose `(tactic| (
  k_here; (with_reducible show wpAny _ _ (call (Value.ref 189) [_, Value.str (PySem.Str.ofString "'a'") _, _] _) _ _ _); k_dflt (
  (with_unfolding_all refine' con_use (add_c2 _ ?a1) ?B ?Xb ?Tb ?F ?N ?hf ?hke ?hd ?hu ?hro ?hpick ?hoff ?hup ?_);
  walk_at "m use"; (case a1 => (simp only [Array.size_append, List.size_toArray, List.length_cons, List.length_nil]; omega)); k_whole;
  intro x9 h9 tk9 hP9 F9 N9 hne9; obtain ⟨a9, v9, y9⟩ := x9; (try dsimp only [List.cons_append, List.nil_append] at N9); (try dsimp only at hP9); (simp only [NeAll, NeOne, and_true] at hne9); (simp only [push_app] at N9); (try dsimp only); (try k_sweep); (try k_fold); walk_say "CONTRACT add 2")))
local macro_rules | `(tactic| walk_at "call ref") => loose `(tactic| (
  k_here; (with_reducible show wpAny _ _ (call (Value.ref 189) [_, Value.str (PySem.Str.ofString "'*'") _, _] _) _ _ _); k_dflt (
  (with_unfolding_all refine' con_use (add_c3 _ ?a1) ?B ?Xb ?Tb ?F ?N ?hf ?hke ?hd ?hu ?hro ?hpick ?hoff ?hup ?_);
  walk_at "m use"; (case a1 => (simp only [Array.size_append, List.size_toArray, List.length_cons, List.length_nil]; omega)); k_whole;
  intro x9 h9 tk9 hP9 F9 N9 hne9; obtain ⟨a9, v9, y9⟩ := x9; (try dsimp only [List.cons_append, List.nil_append] at N9); (try dsimp only at hP9); (simp only [NeAll, NeOne, and_true] at hne9); (simp only [push_app] at N9); (try dsimp only); (try k_sweep); (try k_fold); walk_say "CONTRACT add 3")))
local macro_rules | `(tactic| walk_at "call ref") => loose `(tactic| (
  k_here; (with_reducible show wpAny _ _ (call (Value.ref 189) [_, Value.str (PySem.Str.ofString "*") _, _] _) _ _ _); k_dflt (
  (with_unfolding_all refine' con_use (add_c4 _ ?a1) ?B ?Xb ?Tb ?F ?N ?hf ?hke ?hd ?hu ?hro ?hpick ?hoff ?hup ?_);
  walk_at "m use"; (case a1 => (simp only [Array.size_append, List.size_toArray, List.length_cons, List.length_nil]; omega)); k_whole;
  intro x9 h9 tk9 hP9 F9 N9 hne9; obtain ⟨a9, v9, y9⟩ := x9; (try dsimp only [List.cons_append, List.nil_append] at N9); (try dsimp only at hP9); (simp only [NeAll, NeOne, and_true] at hne9); (simp only [push_app] at N9); (try dsimp only); (try k_sweep); (try k_fold); walk_say "CONTRACT add 4")))
local macro_rules | `(tactic| walk_at "call ref") => loose `(tactic| (
  k_here; (with_reducible show wpAny _ _ (call (Value.ref 189) [_, Value.str (PySem.Str.ofString "**") _, _] _) _ _ _); k_dflt (
  (with_unfolding_all refine' con_use (add_c5 _ ?a1) ?B ?Xb ?Tb ?F ?N ?hf ?hke ?hd ?hu ?hro ?hpick ?hoff ?hup ?_);
  walk_at "m use"; (case a1 => (simp only [Array.size_append, List.size_toArray, List.length_cons, List.length_nil]; omega)); k_whole;
  intro x9 h9 tk9 hP9 F9 N9 hne9; obtain ⟨a9, v9, y9⟩ := x9; (try dsimp only [List.cons_append, List.nil_append] at N9); (try dsimp only at hP9); (simp only [NeAll, NeOne, and_true] at hne9); (simp only [push_app] at N9); (try dsimp only); (try k_sweep); (try k_fold); walk_say "CONTRACT add 5")))
local macro_rules | `(tactic| walk_at "call ref") => loose `(tactic| (
  k_here; (with_reducible show wpAny _ _ (call (Value.ref 189) [_, Value.str (PySem.Str.ofString "'1'") _, _] _) _ _ _); k_dflt (
  (with_unfolding_all refine' con_use (add_c6 _ ?a1) ?B ?Xb ?Tb ?F ?N ?hf ?hke ?hd ?hu ?hro ?hpick ?hoff ?hup ?_);
  walk_at "m use"; (case a1 => (simp only [Array.size_append, List.size_toArray, List.length_cons, List.length_nil]; omega)); k_whole;
  intro x9 h9 tk9 hP9 F9 N9 hne9; obtain ⟨a9, v9, y9⟩ := x9; (try dsimp only [List.cons_append, List.nil_append] at N9); (try dsimp only at hP9); (simp only [NeAll, NeOne, and_true] at hne9); (simp only [push_app] at N9); (try dsimp only); (try k_sweep); (try k_fold); walk_say "CONTRACT add 6")))
local macro_rules | `(tactic| walk_at "call ref") => loose `(tactic| (
  k_here; (with_reducible show wpAny _ _ (call (Value.ref 189) [_, Value.str (elemT _) _, _] _) _ _ _); k_dflt (
  (with_unfolding_all refine' con_use (add_con _ ?a1 ?a2) ?B ?Xb ?Tb ?F ?N ?hf ?hke ?hd ?hu ?hro ?hpick ?hoff ?hup ?_);
  walk_at "m use"; (case a1 => (simp only [Array.size_append, List.size_toArray, List.length_cons, List.length_nil]; omega)); (case a2 => assumption); k_whole;
  intro x9 h9 tk9 hP9 F9 N9 hne9; obtain ⟨a9, v9, y9⟩ := x9; (try dsimp only [List.cons_append, List.nil_append] at N9); (try dsimp only at hP9); (simp only [NeAll, NeOne, and_true] at hne9); (simp only [push_app] at N9); (try dsimp only); (try k_sweep); (try k_fold); walk_say "CONTRACT add k")))
local macro_rules | `(tactic| walk_at "ite") => `(tactic| (k_here; k_dflt (refine' ite_neg ?a ?_; (case a => with_reducible assumption))))
local macro_rules | `(tactic| walk_at "m offx") => `(tactic| ((try dsimp only [List.cons_append, List.nil_append, List.append_nil]); refine List.forall_mem_cons.mpr (And.intro (not_in ?a) ?b); (case a => walk_at "m ne"); (case b => (intro q9 hq9; refine not_in ?_; refine And.intro ?_ trivial; exact fun e9 => NeOne.mem (by assumption) q9 hq9 e9.symm))))
local macro_rules | `(tactic| walk_at "call type:tuple") => `(tactic| (
  k_here; (with_reducible show wpAny _ _ (call (Value.type "tuple") [Value.ref _]) _ _ _); k_dflt (
  (refine' kde_tupleOf ?F ?N ?l ?z ?e ?_; (case F => k_asm); (case N => k_asm); (case l => (refine' News.isList ?N ?m; (case N => k_asm); (case m => k_mem))); (case z => ((try simp only [Array.size_append, List.size_toArray, List.length_cons, List.length_nil]); omega)); (case e => rfl)); k_whole); intro D' h' F' N' l1; (try k_lt l1); (try k_sweep)))
theorem part_3 (k : Int) : 3 ≤ (part k).length := by
  unfold part
  repeat' split
  all_goals decide
theorem body_nil {ns : List Int} (h : (body ns).length = 0) : ns = [] := by
  cases ns with
  | nil => rfl
  | cons k r => rw [body_cons, List.length_append] at h; have := part_3 k; omega
theorem Whr.done {ns els : List Int} {cur : Str} {iq is : Bool} {pv : Option Str} {i : Nat} (h : Whr ns i els cur iq is pv) (hi : i = (body ns).length) : els = ns ∧ cur = Str.ofString "" ∧ iq = false ∧ is = false := by
  have key : ∀ {els : List Int} {k : Int} {post : List Int}, ns = els ++ k :: post → (body ns).length = (body els).length + (part k).length + (body post).length := fun e => by rw [e, body_app, body_cons]; simp [Nat.add_assoc]
  cases h with
  | @out post _ h1 h2 h3 =>
    have : (body post).length = 0 := by rw [hi, h1, body_app, List.length_append] at h2; omega
    rw [body_nil this, List.append_nil] at h1
    exact ⟨h1.symm, rfl, rfl, rfl⟩
  | @opn k post h1 h2 => have := key h1; have := part_3 k; omega
  | @rdy k post pr h1 h2 h3 h4 =>
    have h8 := key h1
    rw [body_app, List.length_append, show body [k] = part k from by simp [body]] at h2
    omega
  | str h1 h2 => have := key h1; have := part_3 5; omega
  | @q1 k post h1 h2 h3 => have := key h1; have := part_3 k; omega
  | @q2 k post _ _ h1 h2 h3 =>
    have h8 := key h1
    have : (part k).length = 5 := by rcases h3 with ⟨rfl, _⟩ | ⟨rfl, _⟩ | ⟨rfl, _⟩ <;> rfl
    omega
  | q3 h1 h2 h3 => rw [h1, body_app, List.length_append] at hi; omega
theorem body_at' {els : List Int} {k : Int} {j c : Nat} (h : (part k)[j]? = some c) {i : Nat} (hi : i = (body els).length + j) : (body (els ++ [k]))[i]? = some c := by
  subst hi
  rw [body_app, List.getElem?_append_right (by omega), Nat.add_sub_cancel_left, show body [k] = part k from by simp [body], h]
theorem body_at3 {ns els post : List Int} {c i c' : Nat} (e : ns = els ++ post) (h : (body els)[i]? = some c) (hc : (body ns).toArray[i]? = some c') : c' = c := by
  subst e
  have h2 : (body (els ++ post))[i]? = some c' := by simpa using hc
  rw [body_app, List.getElem?_append_left (List.getElem?_eq_some_iff.mp h).1, h] at h2
  exact (Option.some.inj h2).symm
theorem part_pos (k : Int) : 0 < (part k).length := by
  unfold part
  repeat' split
  all_goals decide
theorem blen (els : List Int) (k : Int) : (body (els ++ [k])).length = (body els).length + (part k).length := by simp [body]
theorem path_con (w : World) {rt : Addr} {u0 u1 : Value} {ns : List Int} {t : Tok} (h4 : ns.length ≤ 4) (h7 : ∀ n ∈ ns, 0 ≤ n ∧ n < 7) :
    Con w 198 [.str (wr ns) t] [(Str.ofString "root_element", .ref rt)] [(rt, tupOf #[u0, u1])] [] 40 200
      (fun (x : Addr × List Value × List (Addr × Obj)) => ElsIn x.2.2 ns x.2.1) (fun _ => []) (fun x => (x.1, tupOf (#[Value.ref rt] ++ x.2.1.toArray)) :: x.2.2) (fun x => .ref x.1) := by
  have hlen : (wr ns).length ≤ 24 := wr_len h4
  walk_at "m enterK"
  k_steps
  refine ⟨?_⟩
  with_unfolding_all refine' For_invV g ?k1 ?k2 ?_
  (case k1 => rfl)
  (case k2 => rfl)
  k_steps
  rw [slice4]
  rename Fr _ _ _ _ => F5
  rename News _ _ _ _ => N5
  refine loop_M (JP ns rt u0 u1) (iterOf_str rfl (body_ascii ns)) F5 N5 (fun _ h => nomatch h) ?_ ?_ ?_
  · refine ⟨_, _, _, _, Str.ofString "", false, false, none, [], [], _, _, _, [], ⟨rfl, rfl, ⟨_, rfl⟩, ⟨0, rfl⟩, ⟨0, rfl⟩, rfl, ⟨_, rfl⟩⟩, .out (post := ns) rfl rfl (.inl rfl), .nil, ⟨0, rfl⟩, rfl, by omega, by omega, by omega, by omega, by omega, trivial, trivial, trivial⟩
  · rintro i v m₁ l I oI h tk hi hP ⟨e, b, D, oD, cur, inq, ins, prev, els, vs, nE, nb, bs, tups, ⟨f1, f2, ⟨t3, f3⟩, ⟨t4, f4⟩, ⟨t5, f5⟩, f6, ⟨t7, f7⟩⟩, hw, hE, ⟨t8, hbs⟩, rfl, d1, d2, d3, d4, d5, d6, d7, d8⟩ hne F8 N8
    simp only [NeOne] at hne
    obtain ⟨n1, n2, n3, n4, n5⟩ := hne
    obtain ⟨c', u, hc, rfl⟩ := hP
    have hm := with_cons f1 (with_cons f2 (with_cons f3 (with_cons f4 (with_cons f5 (with_cons f6 (with_cons f7 rfl))))))
    rw [hm] at F8
    replace F8 : Fr g L' _ _ := F8
    replace N8 : News g L' _ _ := N8
    clear hm f1 f2 f3 f4 f5 f6 f7
    cases hw with
    | out h1 h2 h3 =>
      rename_i post
      cases post with
      | nil => exfalso; rw [h1, h2] at hi; simp at hi
      | cons k post =>
        have := body_at h1 (part_0 k) h2 hc
        subst this
        rcases h3 with rfl | rfl
        · simp only [Bool.false_eq_true, if_false, if_true, prevV] at F8 hbs
          subst hbs
          k_steps
          refine turnM_next ((b, _) :: (e, _) :: (D, oD) :: (rt, tupOf #[u0, u1]) :: tups) (by assumption) (by assumption) (by k_memK) (by walk_at "m in") (by walk_at "m all") ⟨e, b, D, oD, (Str.ofString ""), false, true, some (Str.ofString "["), els, vs, _, _, _, tups, ⟨by with_unfolding_all rfl, by with_unfolding_all rfl, by walk_at "p cur", by walk_at "p cur", by walk_at "p cur", by with_unfolding_all rfl, by walk_at "p cur"⟩, .opn h1 (by omega), hE, ⟨_, rfl⟩, rfl, d1, d2, d3, d4, d5, by walk_at "m ne", by walk_at "m ne", by walk_at "m ne"⟩
        · simp only [Bool.false_eq_true, if_false, if_true, prevV] at F8 hbs
          subst hbs
          k_steps
          refine turnM_next ((b, _) :: (e, _) :: (D, oD) :: (rt, tupOf #[u0, u1]) :: tups) (by assumption) (by assumption) (by k_memK) (by walk_at "m in") (by walk_at "m all") ⟨e, b, D, oD, (Str.ofString ""), false, true, some (Str.ofString "["), els, vs, _, _, _, tups, ⟨by with_unfolding_all rfl, by with_unfolding_all rfl, by walk_at "p cur", by walk_at "p cur", by walk_at "p cur", by with_unfolding_all rfl, by walk_at "p cur"⟩, .opn h1 (by omega), hE, ⟨_, rfl⟩, rfl, d1, d2, d3, d4, d5, by walk_at "m ne", by walk_at "m ne", by walk_at "m ne"⟩
    | opn h1 h2 =>
      rename_i k post
      have hk7 := h7 k (by rw [h1]; simp)
      have hq : (k = 0 ∨ k = 1 ∨ k = 4 ∨ k = 5) ∨ (k = 2 ∨ k = 3 ∨ k = 6) := by omega
      rcases hq with (rfl | rfl | rfl | rfl) | hq
      · have := body_at h1 (show (part 0)[1]? = some 48 from rfl) h2 hc
        subst this
        simp only [Bool.false_eq_true, if_false, if_true, prevV] at F8 hbs
        subst hbs
        k_steps
        refine turnM_next ((b, _) :: (e, _) :: (D, oD) :: (rt, tupOf #[u0, u1]) :: tups) (by assumption) (by assumption) (by k_memK) (by walk_at "m in") (by walk_at "m all") ⟨e, b, D, oD, elemT 0, false, true, some (Str.ofString "0"), els, vs, _, _, _, tups, ⟨by with_unfolding_all rfl, by with_unfolding_all rfl, by walk_at "p cur", by walk_at "p cur", by walk_at "p cur", by with_unfolding_all rfl, by walk_at "p cur"⟩, .rdy h1 (by rw [blen, h2]; rfl) rfl (by decide +kernel), hE, ⟨_, rfl⟩, rfl, d1, d2, d3, d4, d5, by walk_at "m ne", by walk_at "m ne", by walk_at "m ne"⟩
      · have := body_at h1 (show (part 1)[1]? = some 49 from rfl) h2 hc
        subst this
        simp only [Bool.false_eq_true, if_false, if_true, prevV] at F8 hbs
        subst hbs
        k_steps
        refine turnM_next ((b, _) :: (e, _) :: (D, oD) :: (rt, tupOf #[u0, u1]) :: tups) (by assumption) (by assumption) (by k_memK) (by walk_at "m in") (by walk_at "m all") ⟨e, b, D, oD, elemT 1, false, true, some (Str.ofString "1"), els, vs, _, _, _, tups, ⟨by with_unfolding_all rfl, by with_unfolding_all rfl, by walk_at "p cur", by walk_at "p cur", by walk_at "p cur", by with_unfolding_all rfl, by walk_at "p cur"⟩, .rdy h1 (by rw [blen, h2]; rfl) rfl (by decide +kernel), hE, ⟨_, rfl⟩, rfl, d1, d2, d3, d4, d5, by walk_at "m ne", by walk_at "m ne", by walk_at "m ne"⟩
      · have := body_at h1 (show (part 4)[1]? = some 42 from rfl) h2 hc
        subst this
        simp only [Bool.false_eq_true, if_false, if_true, prevV] at F8 hbs
        subst hbs
        k_steps
        refine turnM_next ((b, _) :: (e, _) :: (D, oD) :: (rt, tupOf #[u0, u1]) :: tups) (by assumption) (by assumption) (by k_memK) (by walk_at "m in") (by walk_at "m all") ⟨e, b, D, oD, elemT 4, false, true, some (Str.ofString "*"), els, vs, _, _, _, tups, ⟨by with_unfolding_all rfl, by with_unfolding_all rfl, by walk_at "p cur", by walk_at "p cur", by walk_at "p cur", by with_unfolding_all rfl, by walk_at "p cur"⟩, .rdy h1 (by rw [blen, h2]; rfl) rfl (by decide +kernel), hE, ⟨_, rfl⟩, rfl, d1, d2, d3, d4, d5, by walk_at "m ne", by walk_at "m ne", by walk_at "m ne"⟩
      · have := body_at h1 (show (part 5)[1]? = some 42 from rfl) h2 hc
        subst this
        simp only [Bool.false_eq_true, if_false, if_true, prevV] at F8 hbs
        subst hbs
        k_steps
        refine turnM_next ((b, _) :: (e, _) :: (D, oD) :: (rt, tupOf #[u0, u1]) :: tups) (by assumption) (by assumption) (by k_memK) (by walk_at "m in") (by walk_at "m all") ⟨e, b, D, oD, (Str.ofString "*"), false, true, some (Str.ofString "*"), els, vs, _, _, _, tups, ⟨by with_unfolding_all rfl, by with_unfolding_all rfl, by walk_at "p cur", by walk_at "p cur", by walk_at "p cur", by with_unfolding_all rfl, by walk_at "p cur"⟩, .str h1 (by omega), hE, ⟨_, rfl⟩, rfl, d1, d2, d3, d4, d5, by walk_at "m ne", by walk_at "m ne", by walk_at "m ne"⟩
      · have := body_at h1 (show (part k)[1]? = some 39 by rcases hq with rfl | rfl | rfl <;> rfl) h2 hc
        subst this
        simp only [Bool.false_eq_true, if_false, if_true, prevV] at F8 hbs
        subst hbs
        k_steps
        refine turnM_next ((b, _) :: (e, _) :: (D, oD) :: (rt, tupOf #[u0, u1]) :: tups) (by assumption) (by assumption) (by k_memK) (by walk_at "m in") (by walk_at "m all") ⟨e, b, D, oD, (Str.ofString "'"), true, true, some (Str.ofString "'"), els, vs, _, _, _, tups, ⟨by with_unfolding_all rfl, by with_unfolding_all rfl, by walk_at "p cur", by walk_at "p cur", by walk_at "p cur", by with_unfolding_all rfl, by walk_at "p cur"⟩, .q1 h1 (by omega) hq, hE, ⟨_, rfl⟩, rfl, d1, d2, d3, d4, d5, by walk_at "m ne", by walk_at "m ne", by walk_at "m ne"⟩
    | rdy h1 h2 h3 hpr =>
      rename_i k post pr
      have hk7 := h7 k (by rw [h1]; simp)
      have := body_at h1 h3 (by rw [blen] at h2; have := part_pos k; omega) hc
      subst this
      have hvl : vs.length ≤ 4 := by
        have h8 := hE.length
        have h9 := congrArg List.length h1
        simp only [List.length_append, List.length_cons] at h9
        omega
      simp only [Bool.false_eq_true, if_false, if_true, prevV] at F8 hbs
      subst hbs
      k_steps
      obtain ⟨na, nb1, nc, nd, ne1, nf⟩ := hne9
      refine turnM_next ((b, _) :: (e, _) :: (D, oD) :: (rt, tupOf #[u0, u1]) :: (a9, tupOf #[v9, y9]) :: tups) (by assumption) (by assumption) (by k_memK) (by walk_at "m in") (by walk_at "m all") ⟨e, b, D, oD, (Str.ofString ""), false, false, some (Str.ofString "]"), els ++ [k], vs ++ [.ref a9], _, _, #[], (a9, tupOf #[v9, y9]) :: tups, ⟨by with_unfolding_all rfl, by with_unfolding_all rfl, by walk_at "p cur", by walk_at "p cur", by walk_at "p cur", by with_unfolding_all rfl, by walk_at "p cur"⟩, .out (post := post) (by rw [h1]; simp) h2 (.inr rfl), (hE.mono fun q hq => List.mem_cons_of_mem _ hq).snoc (.head _) hP9, ⟨0, rfl⟩, rfl, d1, d2, d3, d4, d5, ⟨nb1.symm, d6⟩, ⟨nc.symm, d7⟩, ⟨ne1.symm, d8⟩⟩
    | str h1 h2 =>
      have := body_at h1 (show (part 5)[2]? = some 42 from rfl) h2 hc
      subst this
      simp only [Bool.false_eq_true, if_false, if_true, prevV] at F8 hbs
      subst hbs
      k_steps
      refine turnM_next ((b, _) :: (e, _) :: (D, oD) :: (rt, tupOf #[u0, u1]) :: tups) (by assumption) (by assumption) (by k_memK) (by walk_at "m in") (by walk_at "m all") ⟨e, b, D, oD, elemT 5, false, true, some (Str.ofString "*"), els, vs, _, _, _, tups, ⟨by with_unfolding_all rfl, by with_unfolding_all rfl, by walk_at "p cur", by walk_at "p cur", by walk_at "p cur", by with_unfolding_all rfl, by walk_at "p cur"⟩, .rdy h1 (by rw [blen, h2]; rfl) rfl (by decide +kernel), hE, ⟨_, rfl⟩, rfl, d1, d2, d3, d4, d5, by walk_at "m ne", by walk_at "m ne", by walk_at "m ne"⟩
    | q1 h1 h2 h3 =>
      rename_i k post
      rcases h3 with rfl | rfl | rfl
      · have := body_at h1 (show (part 2)[2]? = some 97 from rfl) h2 hc
        subst this
        simp only [Bool.false_eq_true, if_false, if_true, prevV] at F8 hbs
        subst hbs
        k_steps
        refine turnM_next ((b, _) :: (e, _) :: (D, oD) :: (rt, tupOf #[u0, u1]) :: tups) (by assumption) (by assumption) (by k_memK) (by walk_at "m in") (by walk_at "m all") ⟨e, b, D, oD, (Str.ofString "'a"), true, true, some (Str.ofString "a"), els, vs, _, _, _, tups, ⟨by with_unfolding_all rfl, by with_unfolding_all rfl, by walk_at "p cur", by walk_at "p cur", by walk_at "p cur", by with_unfolding_all rfl, by walk_at "p cur"⟩, .q2 h1 (by omega) (by simp), hE, ⟨_, rfl⟩, rfl, d1, d2, d3, d4, d5, by walk_at "m ne", by walk_at "m ne", by walk_at "m ne"⟩
      · have := body_at h1 (show (part 3)[2]? = some 42 from rfl) h2 hc
        subst this
        simp only [Bool.false_eq_true, if_false, if_true, prevV] at F8 hbs
        subst hbs
        k_steps
        refine turnM_next ((b, _) :: (e, _) :: (D, oD) :: (rt, tupOf #[u0, u1]) :: tups) (by assumption) (by assumption) (by k_memK) (by walk_at "m in") (by walk_at "m all") ⟨e, b, D, oD, (Str.ofString "'*"), true, true, some (Str.ofString "*"), els, vs, _, _, _, tups, ⟨by with_unfolding_all rfl, by with_unfolding_all rfl, by walk_at "p cur", by walk_at "p cur", by walk_at "p cur", by with_unfolding_all rfl, by walk_at "p cur"⟩, .q2 h1 (by omega) (by simp), hE, ⟨_, rfl⟩, rfl, d1, d2, d3, d4, d5, by walk_at "m ne", by walk_at "m ne", by walk_at "m ne"⟩
      · have := body_at h1 (show (part 6)[2]? = some 49 from rfl) h2 hc
        subst this
        simp only [Bool.false_eq_true, if_false, if_true, prevV] at F8 hbs
        subst hbs
        k_steps
        refine turnM_next ((b, _) :: (e, _) :: (D, oD) :: (rt, tupOf #[u0, u1]) :: tups) (by assumption) (by assumption) (by k_memK) (by walk_at "m in") (by walk_at "m all") ⟨e, b, D, oD, (Str.ofString "'1"), true, true, some (Str.ofString "1"), els, vs, _, _, _, tups, ⟨by with_unfolding_all rfl, by with_unfolding_all rfl, by walk_at "p cur", by walk_at "p cur", by walk_at "p cur", by with_unfolding_all rfl, by walk_at "p cur"⟩, .q2 h1 (by omega) (by simp), hE, ⟨_, rfl⟩, rfl, d1, d2, d3, d4, d5, by walk_at "m ne", by walk_at "m ne", by walk_at "m ne"⟩
    | @q2 k post c d h1 h2 h3 =>
      rcases h3 with ⟨rfl, rfl, rfl⟩ | ⟨rfl, rfl, rfl⟩ | ⟨rfl, rfl, rfl⟩
      · have := body_at h1 (show (part 2)[3]? = some 39 from rfl) h2 hc
        subst this
        have hvl : vs.length ≤ 4 := by
          have h8 := hE.length
          have h9 := congrArg List.length h1
          simp only [List.length_append, List.length_cons] at h9
          omega
        simp only [Bool.false_eq_true, if_false, if_true, prevV] at F8 hbs
        subst hbs
        k_steps
        obtain ⟨na, nb1, nc, nd, ne1, nf⟩ := hne9
        refine turnM_next ((b, _) :: (e, _) :: (D, oD) :: (rt, tupOf #[u0, u1]) :: (a9, tupOf #[v9, y9]) :: tups) (by assumption) (by assumption) (by k_memK) (by walk_at "m in") (by walk_at "m all") ⟨e, b, D, oD, (Str.ofString ""), false, true, some (Str.ofString "'"), els ++ [2], vs ++ [.ref a9], _, _, _, (a9, tupOf #[v9, y9]) :: tups, ⟨by with_unfolding_all rfl, by with_unfolding_all rfl, by walk_at "p cur", by walk_at "p cur", by walk_at "p cur", by with_unfolding_all rfl, by walk_at "p cur"⟩, .q3 (post := post) (by rw [h1]; simp) (by rw [blen, h2]; rfl) (body_at' (show (part 2)[4]? = some 93 from rfl) (by omega)), (hE.mono fun q hq => List.mem_cons_of_mem _ hq).snoc (.head _) hP9, ⟨_, rfl⟩, rfl, d1, d2, d3, d4, d5, ⟨nb1.symm, d6⟩, ⟨nc.symm, d7⟩, ⟨ne1.symm, d8⟩⟩
      · have := body_at h1 (show (part 3)[3]? = some 39 from rfl) h2 hc
        subst this
        have hvl : vs.length ≤ 4 := by
          have h8 := hE.length
          have h9 := congrArg List.length h1
          simp only [List.length_append, List.length_cons] at h9
          omega
        simp only [Bool.false_eq_true, if_false, if_true, prevV] at F8 hbs
        subst hbs
        k_steps
        obtain ⟨na, nb1, nc, nd, ne1, nf⟩ := hne9
        refine turnM_next ((b, _) :: (e, _) :: (D, oD) :: (rt, tupOf #[u0, u1]) :: (a9, tupOf #[v9, y9]) :: tups) (by assumption) (by assumption) (by k_memK) (by walk_at "m in") (by walk_at "m all") ⟨e, b, D, oD, (Str.ofString ""), false, true, some (Str.ofString "'"), els ++ [3], vs ++ [.ref a9], _, _, _, (a9, tupOf #[v9, y9]) :: tups, ⟨by with_unfolding_all rfl, by with_unfolding_all rfl, by walk_at "p cur", by walk_at "p cur", by walk_at "p cur", by with_unfolding_all rfl, by walk_at "p cur"⟩, .q3 (post := post) (by rw [h1]; simp) (by rw [blen, h2]; rfl) (body_at' (show (part 3)[4]? = some 93 from rfl) (by omega)), (hE.mono fun q hq => List.mem_cons_of_mem _ hq).snoc (.head _) hP9, ⟨_, rfl⟩, rfl, d1, d2, d3, d4, d5, ⟨nb1.symm, d6⟩, ⟨nc.symm, d7⟩, ⟨ne1.symm, d8⟩⟩
      · have := body_at h1 (show (part 6)[3]? = some 39 from rfl) h2 hc
        subst this
        have hvl : vs.length ≤ 4 := by
          have h8 := hE.length
          have h9 := congrArg List.length h1
          simp only [List.length_append, List.length_cons] at h9
          omega
        simp only [Bool.false_eq_true, if_false, if_true, prevV] at F8 hbs
        subst hbs
        k_steps
        obtain ⟨na, nb1, nc, nd, ne1, nf⟩ := hne9
        refine turnM_next ((b, _) :: (e, _) :: (D, oD) :: (rt, tupOf #[u0, u1]) :: (a9, tupOf #[v9, y9]) :: tups) (by assumption) (by assumption) (by k_memK) (by walk_at "m in") (by walk_at "m all") ⟨e, b, D, oD, (Str.ofString ""), false, true, some (Str.ofString "'"), els ++ [6], vs ++ [.ref a9], _, _, _, (a9, tupOf #[v9, y9]) :: tups, ⟨by with_unfolding_all rfl, by with_unfolding_all rfl, by walk_at "p cur", by walk_at "p cur", by walk_at "p cur", by with_unfolding_all rfl, by walk_at "p cur"⟩, .q3 (post := post) (by rw [h1]; simp) (by rw [blen, h2]; rfl) (body_at' (show (part 6)[4]? = some 93 from rfl) (by omega)), (hE.mono fun q hq => List.mem_cons_of_mem _ hq).snoc (.head _) hP9, ⟨_, rfl⟩, rfl, d1, d2, d3, d4, d5, ⟨nb1.symm, d6⟩, ⟨nc.symm, d7⟩, ⟨ne1.symm, d8⟩⟩
    | q3 h1 h2 h3 =>
      have := body_at3 h1 h3 hc
      subst this
      simp only [Bool.false_eq_true, if_false, if_true, prevV] at F8 hbs
      subst hbs
      k_steps
      refine turnM_next ((b, _) :: (e, _) :: (D, oD) :: (rt, tupOf #[u0, u1]) :: tups) (by assumption) (by assumption) (by k_memK) (by walk_at "m in") (by walk_at "m all") ⟨e, b, D, oD, (Str.ofString ""), false, false, some (Str.ofString "]"), els, vs, _, _, #[], tups, ⟨by with_unfolding_all rfl, by with_unfolding_all rfl, by walk_at "p cur", by walk_at "p cur", by walk_at "p cur", by with_unfolding_all rfl, by walk_at "p cur"⟩, .out h1 h2 (.inr rfl), hE, ⟨0, rfl⟩, rfl, d1, d2, d3, d4, d5, by walk_at "m ne", by walk_at "m ne", by walk_at "m ne"⟩
  · intro m₁ l h tk ⟨e, b, D, oD, cur, inq, ins, prev, els, vs, nE, nb, bs, tups, ⟨f1, f2, ⟨t3, f3⟩, ⟨t4, f4⟩, ⟨t5, f5⟩, f6, ⟨t7, f7⟩⟩, hw, hE, ⟨t8, hbs⟩, e8, d1, d2, d3, d4, d5, d6, d7, d8⟩ F8 N8
    subst e8
    obtain ⟨rfl, rfl, rfl, rfl⟩ := hw.done rfl
    have hm := with_cons f1 (with_cons f2 (with_cons f3 (with_cons f4 (with_cons f5 (with_cons f6 (with_cons f7 rfl))))))
    rw [hm] at F8
    replace F8 : Fr g L' _ _ := F8
    replace N8 : News g L' _ _ := N8
    clear hm f1 f2 f3 f4 f5 f6 f7
    have hvl : vs.length ≤ 4 := by rw [hE.length]; exact h4
    simp only [Bool.false_eq_true, if_false, prevV] at F8 hbs
    subst hbs
    k_steps
    refine' leaveM_ (by assumption) (by assumption) rfl ⟨_, vs, tups⟩ hE rfl ?M ?O
    (case M => walk_at "m in")
    (case O => walk_at "m offx")

end
section
theorem news_swap {h₀ h : Heap} {L : Addr} {q : Addr × Obj} {l r : List (Addr × Obj)} (N : News h₀ L h ([] ++ ((q :: l) ++ r))) : News h₀ L h (q :: (r ++ l)) := fun p hp => N p (by
  simp only [List.nil_append, List.cons_append, List.mem_cons, List.mem_append] at hp ⊢
  rcases hp with h | h | h
  · exact .inl h
  · exact .inr (.inr h)
  · exact .inr (.inl h))
theorem neAll_nilL : ∀ {l : List (Addr × Obj)}, NeAll [] l
  | [] => trivial
  | _ :: _ => ⟨trivial, neAll_nilL⟩
theorem neAll_consL {q : Addr × Obj} {r : List (Addr × Obj)} : ∀ {l : List (Addr × Obj)}, NeAll (q :: r) l ↔ NeOne q.1 l ∧ NeAll r l
  | [] => by simp [NeAll, NeOne]
  | p :: l => by
    simp only [NeAll, NeOne, neAll_consL (l := l)]
    constructor
    · rintro ⟨⟨a, b⟩, c, d⟩; exact ⟨⟨a.symm, c⟩, b, d⟩
    · rintro ⟨⟨a, c⟩, b, d⟩; exact ⟨⟨a.symm, b⟩, c, d⟩
theorem neAll_nil_iff {l : List (Addr × Obj)} : NeAll [] l ↔ True := iff_true_intro neAll_nilL
section
variable {prog : Program} {w : World} {A : Around} {E : Value → Shared → Prop} {s : Shared} {h₀ : Heap} {L : Addr} {m : Str → Option Value} {news : List (Addr × Obj)}
theorem slice1 {value slice : PySem.Expr} {t : Addr} {v : Value} {vs : List Value} {u : Tok} {Q : Value → Shared → Prop}
    (F : Fr h₀ L s.heap m) (N : News h₀ L s.heap news) (ht : (t, tupOf (#[v] ++ vs.toArray)) ∈ news) (hv : vs.length ≤ 100)
    (h : ∀ D h', Fr h₀ L h' m → News h₀ L h' ((D, tupOf vs.toArray) :: news) → (∀ p ∈ news, p.1 < D) → Q (.ref D) { s with heap := h' })
    (hs : subscripted slice false (.ref t) (.ref s.heap.objs.size) = operate [.ref s.heap.objs.size, .ref t] (getItem (.ref t) (.ref s.heap.objs.size)))
    (hg : ∀ r, letTemporaryGo value (.ref t) r = pure ()) :
    wpAny (model prog w) A (subscriptTail value slice (.ref t) (.ref s.heap.objs.size)) Q E { s with heap := s.heap.push { cls := .type "slice", data := .fields #[.int 1 u, .none, .none] } } := by
  refine slice_tuple_from (a := 1) F N (News.isTup N ht) (Nat.le_refl 1) (by simp) (fun h' F' N' => h _ h' F' ?_ fun p hp => Nat.lt_succ_of_lt (Heap.lt_size (N p hp).1)) hs hg (by rw [sizeLine_eq]; simp; omega)
  simpa using N'
end

end
section
local macro_rules | `(tactic| walk_at "slice1") => `(tactic| (
  k_here; (with_reducible show wpAny _ _ (subscriptTail _ (PySem.Expr.Slice (some _) none none _) (Value.ref _) (Value.ref _)) _ _ _); k_dflt (
  (refine' slice1 ?F ?N ?t ?v ?_ ?s ?g; (case F => k_asm); (case N => k_asm); (case t => k_mem); (case v => omega); (case s => with_unfolding_all rfl); (case g => (intro _; with_unfolding_all rfl))); k_whole); intro D' h' F' N' l1; (try k_lt l1); (try k_sweep)))
local macro_rules | `(tactic| walk_at "subscriptTail Name Slice ref ref") => `(tactic| walk_at "slice1")
local macro_rules | `(tactic| walk_at "subscriptTail Call Slice ref ref") => `(tactic| walk_at "slice1")
local macro_rules | `(tactic| walk_at "m cut") => loose `(tactic| first | (obtain ⟨_, hne9⟩ := hne9; walk_at "m cut") | skip)
local macro_rules | `(tactic| walk_at "call ref") => loose `(tactic| (
  k_here; (with_reducible show wpAny _ _ (call (Value.ref 198) _ _) _ _ _); k_dflt (
  (with_unfolding_all refine' con_use (path_con _ ?a1 ?a2) ?B ?Xb ?Tb ?F ?N ?hf ?hke ?hd ?hu ?hro ?hpick ?hoff ?hup ?_);
  walk_at "m use"; (case a1 => assumption); (case a2 => assumption); k_whole;
  intro x9 h9 tk9 hP9 F9 N9 hne9; obtain ⟨a9, vs9, tups9⟩ := x9; replace N9 := news_swap N9; (try dsimp only [List.cons_append, List.nil_append] at N9); (try dsimp only at hP9); (have hl9 : vs9.length ≤ 4 := by rw [hP9.length]; assumption); (rw [NeAll] at hne9); (simp only [neAll_consL, neAll_nil_iff, NeOne, and_true, and_assoc] at hne9); walk_at "m cut"; (try dsimp only); (try k_sweep); (try k_fold); walk_say "CONTRACT path")))

abbrev mdict (w : World) (ns : List Int) (t1 t2 t3 : Tok) (pt : Addr) (n : Nat) : Obj := dictOf [{ hash := PyData.keyHash w.params (Str.ofString "original_pattern"), key := .str (Str.ofString "original_pattern") t1, val := .str (wr ns) t2 }, { hash := PyData.keyHash w.params (Str.ofString "_pattern"), key := .str (Str.ofString "_pattern") t3, val := .ref pt }] n
section
local macro_rules | `(tactic| walk_at "eval ListComp") => `(tactic| (k_here; refine stop_in ?_))
theorem compile_con (w : World) {l : Addr} {ep : Nat} {ns : List Int} {t : Tok} (h4 : ns.length ≤ 4) (h7 : ∀ n ∈ ns, 0 ≤ n ∧ n < 7) :
    Con w 271 [.ref l] [] [(l, listOf #[.str (wr ns) t] ep)] [] 60 400 (fun (_ : Addr × Nat × Addr × Addr × Tok × Tok × Addr × Nat) => True) (fun _ => [])
      (fun ⟨D, e, x, d, t1, t3, pt, n⟩ => [(D, listOf #[.ref x] e), (x, instObj 262 d), (d, mdict w ns t1 t t3 pt n)]) (fun x => .ref x.1) := by
  walk_at "m enter"
  k_steps
  refine ⟨?_⟩
  with_unfolding_all refine' comp_M (h₀ := g) ?hclos ?hcell ?hkind ?hnames ?hx ?_
  walk_at "m comp"
  k_steps
  refine ⟨_, _, [l], _, _, fun i ys ledger => (i = 0 ∧ ys = [] ∧ ledger = [(l, listOf #[.str (wr ns) t] ep)]) ∨ (i = 1 ∧ ∃ x d t1 t3 pt n, ys = [.ref x] ∧ ledger = [(x, instObj 262 d), (d, mdict w ns t1 t t3 pt n), (l, listOf #[.str (wr ns) t] ep)] ∧ @Ne Nat x l ∧ @Ne Nat d l),
    iterOf_list rfl (News.isList N' (.head _)), ?_, ?_, by assumption, by assumption, ?_, ?_, ?_, ?_⟩
  · rw [sizeLine_eq]; simp
  · rintro i' ys ledger (⟨rfl, rfl, _⟩ | ⟨rfl, x, d, t1, t3, pt, n, rfl, _, _⟩) <;> rfl
  · intro b hb
    rw [List.mem_singleton.mp hb]
    refine ⟨Nat.ne_of_lt hlt, .inr ⟨listOf #[.str (wr ns) t] ep, fun i ys l' hJ => ?_⟩⟩
    rcases hJ with ⟨_, _, rfl⟩ | ⟨_, x, d, t1, t3, pt, n, _, rfl, _⟩
    · exact .head _
    · simp
  · exact .inl ⟨rfl, rfl, rfl⟩
  · rintro i' v ys ledger C oC mc D oD I oI h tk hi' hP hJ hne hT hm F8 N8
    rcases hJ with ⟨rfl, rfl, rfl⟩ | ⟨rfl, _⟩
    · obtain rfl : v = .str (wr ns) t := by simpa using hP.symm
      simp only [NeAll, NeOne, and_true] at hne
      k_steps
      refine' eltM_ _ (by assumption) (by assumption) ?h3 ?hs ?ho (.inr ⟨rfl, _, _, _, _, _, _, rfl, rfl, ?n1, ?n2⟩)
      (case hs => walk_at "m in")
      (case h3 => walk_at "m in")
      (case ho => walk_at "m offs")
      (case n1 => k_ne)
      (case n2 => k_ne)
    · exact absurd hi' (by simp)
  · rintro D ep' ys ledger h tk hJ hne F8 N8
    rcases hJ with ⟨h0, _⟩ | ⟨_, x, d, t1, t3, pt, n, rfl, rfl, n1, n2⟩
    · exact absurd h0 (by simp)
    simp only [NeOne, and_true] at hne
    k_steps
    refine' leaveM_ (by assumption) (by assumption) rfl ⟨D, _, x, d, t1, t3, pt, n⟩ trivial rfl ?M ?O
    (case M => walk_at "m in")
    (case O => walk_at "m off")
end

end
section
abbrev pk (w : World) := tupleKind (intKind PySem.Challenge.rw_ez0048_01.row.prog w)
abbrev key2 (i j : Nat) (t1 t2 : Tok) : Obj := tupOf #[.int (i : Int) t1, .int (j : Int) t2]
def MemoX (w : World) (el : List (Addr × Obj)) (od : Obj) (xs : List (List Int × Addr × Value)) (f : Nat → Nat → Bool) : Prop :=
  (∃ es ep, od.ExactDict ∧ od.data = .dict es ep ∧ es.toList = xs.map (entryOfKey (pk w))) ∧ (xs.map (·.1)).Nodup ∧
   ∀ y ∈ xs, ∃ (i j : Nat) (t1 t2 : Tok), i ≤ 4 ∧ j ≤ 4 ∧ y.1 = [(i : Int), (j : Int)] ∧ (y.2.1, key2 i j t1 t2) ∈ el ∧ y.2.2 = .bool (f i j)
def Memo (w : World) (el : List (Addr × Obj)) (od : Obj) (f : Nat → Nat → Bool) : Prop := ∃ xs, MemoX w el od xs f
theorem memo_nil {w : World} {el : List (Addr × Obj)} {od : Obj} {f : Nat → Nat → Bool} (h : od.IsDictOf (intKind PySem.Challenge.rw_ez0048_01.row.prog w) []) : Memo w el od f := by
  obtain ⟨es, ep, hx, hd, _, hp, _⟩ := h
  refine ⟨[], ⟨es, ep, hx, hd, ?_⟩, by simp, fun y hy => by cases hy⟩
  cases e : es.toList with
  | nil => rfl
  | cons a b => rw [e] at hp; cases hp
theorem len_le_of_sub {α : Type} [DecidableEq α] : ∀ {l m : List α}, l.Nodup → (∀ x ∈ l, x ∈ m) → l.length ≤ m.length
  | [], _, _, _ => Nat.zero_le _
  | a :: l, m, hn, hs => by
    have h1 := List.nodup_cons.mp hn
    have h2 : l.length ≤ (m.erase a).length := len_le_of_sub h1.2 fun x hx => (List.mem_erase_of_ne (fun e => h1.1 (by rw [← e]; exact hx))).mpr (hs x (List.mem_cons_of_mem _ hx))
    rw [List.length_erase_of_mem (hs a List.mem_cons_self)] at h2
    have := List.length_pos_of_mem (hs a List.mem_cons_self)
    simp only [List.length_cons]
    omega
section
variable {w : World} {A : Around} {E : Value → Shared → Prop} {s : Shared} {h₀ : Heap} {L memo a : Addr} {m : Str → Option Value} {news el : List (Addr × Obj)} {od : Obj} {xs : List (List Int × Addr × Value)} {f : Nat → Nat → Bool} {i j : Nat} {t1 t2 : Tok}
theorem key_is {h : Heap} (N : News h₀ L h news) (hk : (a, key2 i j t1 t2) ∈ news) : (pk w).is h [(i : Int), (j : Int)] a :=
  ⟨_, _, _, (N _ hk).1, rfl, rfl, .cons (intKind_is _ _ _ _) (.cons (intKind_is _ _ _ _) .nil)⟩
theorem memo_dict {h : Heap} (N : News h₀ L h news) (hm : (memo, od) ∈ news) (he : ∀ q ∈ el, q ∈ news) (M : MemoX w el od xs f) : h.DictOfH (pk w) memo xs := by
  obtain ⟨⟨es, ep, hx, hd, e⟩, hn, hy⟩ := M
  refine ⟨od, es, ep, (N _ hm).1, hx, hd, e, fun y h1 => ?_, hn⟩
  obtain ⟨i, j, t1, t2, _, _, e1, h2, _⟩ := hy y h1
  rw [e1]
  exact key_is N (he _ h2)
theorem memo_in {Q : Value → Shared → Prop} (N : News h₀ L s.heap news) (hm : (memo, od) ∈ news) (he : ∀ q ∈ el, q ∈ news) (M : MemoX w el od xs f) (lo : (memo == sysModules) = false) (hk : (a, key2 i j t1 t2) ∈ news) (hu : A.units + 1 < cLine)
    (h1 : (atKey xs [(i : Int), (j : Int)]).isSome = true → ∀ tk, Q (.bool true) { s with toks := tk }) (h2 : ∀ tk, Q (.bool false) { s with toks := tk }) :
    wpAny (model PySem.Challenge.rw_ez0048_01.row.prog w) A (compareOp .In (.ref a) (.ref memo)) Q E s := by
  refine wpAny_in_heap (knd := pk w) (k := [(i : Int), (j : Int)]) (xs := xs) (tupleKind_room_in1 hu) (key_is N hk) lo (memo_dict N hm he M) ?_
  cases e : (atKey xs [(i : Int), (j : Int)]).isSome with
  | true => exact h1 e _
  | false => exact h2 _
theorem memo_get {value slice : PySem.Expr} {Q : Value → Shared → Prop} (N : News h₀ L s.heap news) (hm : (memo, od) ∈ news) (he : ∀ q ∈ el, q ∈ news) (M : MemoX w el od xs f) (hk : (a, key2 i j t1 t2) ∈ news) (hu : A.units + 1 < cLine)
    (hs : (atKey xs [(i : Int), (j : Int)]).isSome = true) (h : ∀ tk, Q (.bool (f i j)) { s with toks := tk })
    (hs' : subscripted slice false (.ref memo) (.ref a) = operate [.ref memo, .ref a] (getItem (.ref memo) (.ref a))) :
    wpAny (model PySem.Challenge.rw_ez0048_01.row.prog w) A (subscriptTail value slice (.ref memo) (.ref a)) Q E s := by
  have hD := memo_dict N hm he M
  obtain ⟨p, hp⟩ := Option.isSome_iff_exists.mp hs
  refine tail_any hD.typeIs slot_dict_getitem.lookup (wpAny_getItem_heap (knd := pk w) (tupleKind_room_in1 hu) (key_is N hk) hD hp ?_) hs'
  obtain ⟨y, hy, e1, e2⟩ : ∃ y ∈ xs, y.1 = [(i : Int), (j : Int)] ∧ y.2 = p := by
    unfold atKey at hp
    obtain ⟨y, h1, h2⟩ := Option.map_eq_some_iff.mp hp
    exact ⟨y, List.mem_of_find?_eq_some h1, by simpa using List.find?_some h1, h2⟩
  obtain ⟨i', j', _, _, _, _, e3, _, e4⟩ := M.2.2 y hy
  rw [e1] at e3
  simp only [List.cons.injEq, and_true] at e3
  have hi : i = i' := by omega
  have hj : j = j' := by omega
  rw [← e2, e4, ← hi, ← hj]
  exact h _
theorem memo_set {g : Obj → List (Addr × Obj)} {v : Value} {Q : Unit → Shared → Prop} (F : Fr h₀ L s.heap m) (N : News h₀ L s.heap news) (U : UpdF memo od news g) (he : ∀ q ∈ el, q ∈ news) (M : MemoX w el od xs f) (hk : (a, key2 i j t1 t2) ∈ news) (hu : A.units + 1 < cLine)
    (h : ∀ h' od' tk, Fr h₀ L h' m → News h₀ L h' (g od') → (∀ f el', MemoX w el od xs f → v = .bool (f i j) → i ≤ 4 → j ≤ 4 → (a, key2 i j t1 t2) ∈ el' → (∀ q ∈ el, q ∈ el') → Memo w el' od' f) → Q () { s with heap := h', toks := tk }) :
    wpAny (model PySem.Challenge.rw_ez0048_01.row.prog w) A (setItem (.ref memo) (.ref a) v) Q E s := by
  obtain ⟨pre, post, rfl, hg, hp1, hp2⟩ := U.split
  have hm : (memo, od) ∈ pre ++ (memo, od) :: post := List.mem_append_right _ (.head _)
  have hm' := N _ hm
  have hlen : xs.length ≤ sizeLine := by
    have hsub : ∀ x ∈ xs.map (·.1), x ∈ ((List.range 5).flatMap fun (i : Nat) => (List.range 5).map fun (j : Nat) => [(i : Int), (j : Int)]) := by
      intro x hx
      obtain ⟨y, hy, rfl⟩ := List.mem_map.mp hx
      obtain ⟨i, j, _, _, hi, hj, e, _⟩ := M.2.2 y hy
      rw [e]
      exact List.mem_flatMap.mpr ⟨i, List.mem_range.mpr (by omega), List.mem_map.mpr ⟨j, List.mem_range.mpr (by omega), rfl⟩⟩
    have := len_le_of_sub M.2.1 hsub
    rw [List.length_map] at this
    rw [sizeLine_eq]
    exact Nat.le_trans this (by decide)
  refine wpAny_setItem_heap (knd := pk w) (hsz := hlen) (tupleKind_room_in1 hu) (key_is N hk) (memo_dict N hm he M) fun h' hD hs => ?_
  obtain ⟨od', es, ep, ho', hx, hd, e, _, hn⟩ := hD
  refine h h' od' _ (F.change hs hm'.2.1 hm'.2.2) (hg od' ▸ N.setIn hp1 hp2 hs ho') fun f el' M' hv hi hj hk' hel => ⟨_, ⟨es, ep, hx, hd, e⟩, hn, fun y hy => ?_⟩
  obtain ⟨i', j', u1, u2, hi', hj', e1, h1, h2⟩ : ∃ (i' j' : Nat) (u1 u2 : Tok), i' ≤ 4 ∧ j' ≤ 4 ∧ y.1 = [(i' : Int), (j' : Int)] ∧ (y.2.1, key2 i' j' u1 u2) ∈ el' ∧ (y.2.2 = v ∧ y.1 = [(i : Int), (j : Int)] ∨ y.2.2 = .bool (f i' j')) := by
    unfold storedH at hy
    split at hy
    · obtain ⟨z, hz, rfl⟩ := List.mem_map.mp hy
      obtain ⟨i', j', u1, u2, hi', hj', e1, h1, h2⟩ := M'.2.2 z hz
      refine ⟨i', j', u1, u2, hi', hj', ?_, ?_, ?_⟩
      · unfold putAt; split <;> exact e1
      · unfold putAt; split <;> exact hel _ h1
      · unfold putAt
        split
        next hz1 => exact .inl ⟨rfl, by simpa using hz1⟩
        next => exact .inr h2
    · rcases List.mem_append.mp hy with hy | hy
      · obtain ⟨i', j', u1, u2, hi', hj', e1, h1, h2⟩ := M'.2.2 y hy
        exact ⟨i', j', u1, u2, hi', hj', e1, hel _ h1, .inr h2⟩
      · rw [List.mem_singleton.mp hy]
        exact ⟨i, j, t1, t2, hi, hj, rfl, hk', .inl ⟨rfl, rfl⟩⟩
  refine ⟨i', j', u1, u2, hi', hj', e1, h1, ?_⟩
  rcases h2 with ⟨h3, h4⟩ | h3
  · rw [h4] at e1
    simp only [List.cons.injEq, and_true] at e1
    have a1 : i = i' := by omega
    have a2 : j = j' := by omega
    rw [h3, hv, a1, a2]
  · exact h3
end

end
section
theorem elsIn_at {l : List (Addr × Obj)} {ks : List Int} {vs : List Value} (h : ElsIn l ks vs) : ∀ {i : Nat} {k : Int}, ks[i]? = some k → ∃ a v x, vs[i]? = some (.ref a) ∧ (a, tupOf #[v, x]) ∈ l ∧ IsElem k v := by
  induction h with
  | nil => intro i k h; simp at h
  | cons hm he _ ih =>
    intro i k h
    cases i with
    | zero => simp at h; subst h; exact ⟨_, _, _, rfl, hm, he⟩
    | succ i => simpa using ih (by simpa using h)
section
variable {w : World} {A : Around} {E : Value → Shared → Prop} {s : Shared} {h₀ : Heap} {L t : Addr} {m : Str → Option Value} {news : List (Addr × Obj)}
theorem tup_item {value slice : PySem.Expr} {vs : List Value} {i : Nat} {k : Int} {u : Tok} {v : Value} {Q : Value → Shared → Prop} (N : News h₀ L s.heap news) (hm : (t, tupOf vs.toArray) ∈ news) (hv : vs[i]? = some v) (e : k = (i : Int)) (hz : vs.length ≤ 100) (h : Q v s)
    (hs : subscripted slice false (.ref t) (.int k u) = operate [.ref t, .int k u] (getItem (.ref t) (.int k u))) (hg : ∀ r, letTemporaryGo value (.ref t) r = pure ()) :
    wpAny (model PySem.Challenge.rw_ez0048_01.row.prog w) A (subscriptTail value slice (.ref t) (.int k u)) Q E s := by
  have hi : i < vs.length := (List.getElem?_eq_some_iff.mp hv).1
  subst e
  refine item_tupleL (News.isTup N hm) (by omega) (by omega) (j := i) ?_ hv h hs hg
  have h0 : ¬ ((i : Int) < 0) := by omega
  have h1 : (decide ((0 : Int) ≤ (i : Int)) && decide ((i : Int) < (vs.length : Int))) = true := by simp; omega
  simp only [seqIndex?]
  rw [if_neg h0, if_pos h1, Int.toNat_natCast]
theorem tup_first {value slice : PySem.Expr} {v x : Value} {u : Tok} {Q : Value → Shared → Prop} (N : News h₀ L s.heap news) (hm : (t, tupOf #[v, x]) ∈ news) (h : Q v s)
    (hs : subscripted slice false (.ref t) (.int 0 u) = operate [.ref t, .int 0 u] (getItem (.ref t) (.int 0 u))) (hg : ∀ r, letTemporaryGo value (.ref t) r = pure ()) :
    wpAny (model PySem.Challenge.rw_ez0048_01.row.prog w) A (subscriptTail value slice (.ref t) (.int 0 u)) Q E s :=
  tup_item (vs := [v, x]) (i := 0) N hm rfl rfl (by simp) h hs hg
theorem obj178 (X : (Mine.hd.heap_39 w.params).In s.heap) : ∃ o, s.heap.get? 178 = some o ∧ o.cls ≠ .type "tuple" := by
  have h : ((Mine.hd.heap_39 w.params).lookup 178).map (·.cls) = some (.ref 172) := by kernel_rfl
  obtain ⟨o, ho, hc⟩ := Option.map_eq_some_iff.mp h
  exact ⟨o, X _ _ ho, by rw [hc]; intro e; cases e⟩
theorem obj181 (X : (Mine.hd.heap_39 w.params).In s.heap) : ∃ o, s.heap.get? 181 = some o ∧ o.cls ≠ .type "tuple" := by
  have h : ((Mine.hd.heap_39 w.params).lookup 181).map (·.cls) = some (.ref 172) := by kernel_rfl
  obtain ⟨o, ho, hc⟩ := Option.map_eq_some_iff.mp h
  exact ⟨o, X _ _ ho, by rw [hc]; intro e; cases e⟩
theorem is_star {k : Int} {v : Value} {Q : Value → Shared → Prop} (X : (Mine.hd.heap_39 w.params).In s.heap) (he : IsElem k v) (h7 : 0 ≤ k ∧ k < 7) (h : Q (.bool (decide (k = 4))) s) :
    wpAny (model PySem.Challenge.rw_ez0048_01.row.prog w) A (compareOp .Is v (.ref 178)) Q E s := by
  rcases seven h7 with rfl | rfl | rfl | rfl | rfl | rfl | rfl
  case inr.inr.inr.inr.inl => obtain rfl : v = .ref 178 := he; exact wpAny_is_ref_self h
  case inr.inr.inr.inr.inr.inl =>
    obtain rfl : v = .ref 181 := he
    obtain ⟨o1, h1, c1⟩ := obj181 X; obtain ⟨o2, h2, c2⟩ := obj178 X; exact wpAny_is_ref_other (by decide) h1 h2 c1 h
  all_goals (obtain ⟨t, rfl⟩ := he; exact wpAny_is_other (by rfl) (fun e => by cases e) h)
theorem is_stars {k : Int} {v : Value} {Q : Value → Shared → Prop} (X : (Mine.hd.heap_39 w.params).In s.heap) (he : IsElem k v) (h7 : 0 ≤ k ∧ k < 7) (h : Q (.bool (decide (k = 5))) s) :
    wpAny (model PySem.Challenge.rw_ez0048_01.row.prog w) A (compareOp .Is v (.ref 181)) Q E s := by
  rcases seven h7 with rfl | rfl | rfl | rfl | rfl | rfl | rfl
  case inr.inr.inr.inr.inl =>
    obtain rfl : v = .ref 178 := he
    obtain ⟨o1, h1, c1⟩ := obj178 X; obtain ⟨o2, h2, c2⟩ := obj181 X; exact wpAny_is_ref_other (by decide) h1 h2 c1 h
  case inr.inr.inr.inr.inr.inl => obtain rfl : v = .ref 181 := he; exact wpAny_is_ref_self h
  all_goals (obtain ⟨t, rfl⟩ := he; exact wpAny_is_other (by rfl) (fun e => by cases e) h)
theorem ne_int' {a b : Int} {t u : Tok} {c : Bool} {Q : Value → Shared → Prop} (e : (a != b) = c) (h : Q (.bool c) s) : wpAny (model PySem.Challenge.rw_ez0048_01.row.prog w) A (compareOp .NotEq (.int a t) (.int b u)) Q E s :=
  PyProof.Rows.ne_int (by rw [e]; exact h)
theorem ne_str' {a b : Str} {t u : Tok} {c : Bool} {Q : Value → Shared → Prop} (e : (a != b) = c) (h : Q (.bool c) s) : wpAny (model PySem.Challenge.rw_ez0048_01.row.prog w) A (compareOp .NotEq (.str a t) (.str b u)) Q E s :=
  PyProof.Rows.ne_str (by rw [e]; exact h)
/-- an element that is no star: a number or a text -/
def Plain (k : Int) (v : Value) : Prop := (∃ t, v = .int k t ∧ (k = 0 ∨ k = 1)) ∨ ∃ x t, v = .str x t ∧ (k = 2 ∧ x = Str.ofString "a" ∨ k = 3 ∧ x = Str.ofString "*" ∨ k = 6 ∧ x = Str.ofString "1")
theorem plain_of {k : Int} {v : Value} (he : IsElem k v) (h7 : k = 0 ∨ k = 1 ∨ k = 2 ∨ k = 3 ∨ k = 6) : Plain k v := by
  rcases h7 with rfl | rfl | rfl | rfl | rfl
  · obtain ⟨t, rfl⟩ := he; exact .inl ⟨t, rfl, .inl rfl⟩
  · obtain ⟨t, rfl⟩ := he; exact .inl ⟨t, rfl, .inr rfl⟩
  · obtain ⟨t, rfl⟩ := he; exact .inr ⟨_, t, rfl, .inl ⟨rfl, rfl⟩⟩
  · obtain ⟨t, rfl⟩ := he; exact .inr ⟨_, t, rfl, .inr (.inl ⟨rfl, rfl⟩)⟩
  · obtain ⟨t, rfl⟩ := he; exact .inr ⟨_, t, rfl, .inr (.inr ⟨rfl, rfl⟩)⟩
theorem ne_elem {k k' : Int} {v v' : Value} {Q : Value → Shared → Prop} (he : IsElem k v) (he' : IsElem k' v') (h7 : k = 0 ∨ k = 1 ∨ k = 2 ∨ k = 3 ∨ k = 6) (h7' : k' = 0 ∨ k' = 1 ∨ k' = 2 ∨ k' = 3 ∨ k' = 6) (h : Q (.bool (decide (k ≠ k'))) s) :
    wpAny (model PySem.Challenge.rw_ez0048_01.row.prog w) A (compareOp .NotEq v v') Q E s := by
  have e1 : (Str.ofString "a" != Str.ofString "*") = true := by decide +kernel
  have e2 : (Str.ofString "a" != Str.ofString "1") = true := by decide +kernel
  have e3 : (Str.ofString "*" != Str.ofString "1") = true := by decide +kernel
  have e4 : (Str.ofString "*" != Str.ofString "a") = true := by decide +kernel
  have e5 : (Str.ofString "1" != Str.ofString "a") = true := by decide +kernel
  have e6 : (Str.ofString "1" != Str.ofString "*") = true := by decide +kernel
  rcases plain_of he h7 with ⟨t, rfl, hk⟩ | ⟨x, t, rfl, hk⟩ <;> rcases plain_of he' h7' with ⟨u, rfl, hk'⟩ | ⟨y, u, rfl, hk'⟩
  · exact ne_int' (by simp [bne, Bool.beq_eq_decide_eq]) h
  · have e : decide (k ≠ k') = true := decide_eq_true (by omega)
    rw [e] at h
    exact EqMixed.ne_int_str h
  · have e : decide (k ≠ k') = true := decide_eq_true (by omega)
    rw [e] at h
    exact EqMixed.ne_str_int h
  · have e : (x != y) = decide (k ≠ k') := by
      rcases hk with ⟨rfl, rfl⟩ | ⟨rfl, rfl⟩ | ⟨rfl, rfl⟩ <;> rcases hk' with ⟨rfl, rfl⟩ | ⟨rfl, rfl⟩ | ⟨rfl, rfl⟩ <;> first | assumption | (rw [bne_self_eq_false]; rfl)
    exact ne_str' e h
end

end
section
def starAny (f : List Int → Bool) : List Int → Bool
  | [] => f []
  | t :: ts => f (t :: ts) || starAny f ts
/-- does the pattern's rest match the path's rest (b: or some beginning of it) -/
def segs (b : Bool) : List Int → List Int → Bool
  | [], ts => b || ts.isEmpty
  | p :: ps, ts => if p = 5 then starAny (segs b ps) ts else match ts with | [] => false | t :: ts' => (decide (p = 4) || decide (p = t)) && segs b ps ts'
/-- may the pattern's rest match something below the path's rest -/
def could : List Int → List Int → Bool
  | [], _ => false
  | p :: ps, ts => if p = 5 then true else match ts with | [] => true | t :: ts' => (decide (p = 4) || decide (p = t)) && could ps ts'
theorem starAny_or (f : List Int → Bool) : ∀ (ts : List Int) (k : Nat), k ≤ ts.length → starAny f ts = (((List.range k).any fun i => f (ts.drop i)) || starAny f (ts.drop k))
  | ts, 0, _ => by simp
  | ts, k + 1, h => by
    rw [starAny_or f ts k (by omega), List.range_succ, List.any_append]
    have hlt : k < ts.length := h
    rw [List.drop_eq_getElem_cons hlt]
    simp [starAny, Bool.or_assoc]

end
section
/-- one walk of a body for two ways of calling it -/
theorem con_enter2 {w : World} {f : Addr} {args args' : List Value} {kw kw' : List (Str × Value)} {ro ch : List (Addr × Obj)} {dn uk : Nat} {X : Type} {P : X → Prop} {upd tl : X → List (Addr × Obj)} {val : X → Value}
    {name qual : Str} {params : Arguments} {body : List Stmt} {scope : Scope} {dV kV doc pm cdv ct oc : Value} {an od : Option Addr} {osl : Array (Option Value)} {binds : List (Str × Value)}
    (ho : (Mine.hd.heap_39 w.params).lookup f = some ⟨oc, od, .func (fnOf name qual params body scope dV kV doc pm an cdv ct), osl⟩) (hcd : codeIn (Mine.hd.heap_39 w.params) cdv qual = true) (hdn : 0 < dn)
    (hbind : ∀ s : Shared, (Mine.hd.heap_39 w.params).In s.heap → BindsTo s (fnOf name qual params body scope dV kV doc pm an cdv ct) ⟨args, kw⟩ binds)
    (hbind' : ∀ s : Shared, (Mine.hd.heap_39 w.params).In s.heap → BindsTo s (fnOf name qual params body scope dV kV doc pm an cdv ct) ⟨args', kw'⟩ binds) (hloc : ∀ y ∈ binds, scope.names.lookup y.1 = some .local)
    (h : ∀ (dp un : Nat) (gd : Option (List Code)) (frs : List Env) (base : Heap) (p : Program) (loose : List Str) (mean : ExcName → Option Value) (mg mb : Str → Option Value) (s : Shared) (g : Heap) (L' : Addr) (h₁ : Heap),
      (Mine.hd.heap_39 w.params).In base → Top p loose mean mg mb base →
      Fr g L' h₁ (fun y => binds.reverse.lookup y) → News g L' h₁ (ch ++ ro) → Below (A0 dp un gd frs) base frs g → (Mine.hd.heap_39 w.params).In g → Top p loose mean mg mb g → dp + dn < recursionLimit → un + uk < cLine → AllLt L' (ch ++ ro) →
      wpAny (model PySem.Challenge.rw_ez0048_01.row.prog w) ((A0 dp un gd frs).deeper (envOf qual scope L' f cdv)) (execs body (envOf qual scope L' f cdv))
        (fun fl s' => LeaveM s ro ch P upd tl val g (match fl with | .ret v => v | _ => .none) s')
        (fun _ _ => False)
        { s with heap := h₁, toks := s.toks + binds.length })
    (hco : scope.isCoroutine = false) (hgen : scope.isGenerator = false) (hk : scope.kind = .function) (hcell : ∀ x ∈ scope.names, x.2 ≠ .cell) : Con w f args kw ro ch dn uk P upd tl val ∧ Con w f args' kw' ro ch dn uk P upd tl val :=
  ⟨con_enter ho hcd hdn hbind hloc h hco hgen hk hcell, con_enter ho hcd hdn hbind' hloc h hco hgen hk hcell⟩
theorem neOne_app {a : Nat} {l r : List (Addr × Obj)} (h1 : NeOne a l) (h2 : NeOne a r) : NeOne a (l ++ r) := neOne_of fun q hq => (List.mem_append.mp hq).elim (h1.mem q) (h2.mem q)
theorem neOne_sub {a : Nat} {l r : List (Addr × Obj)} (h : NeOne a r) (hs : ∀ q ∈ l, q ∈ r) : NeOne a l := neOne_of fun q hq => h.mem q (hs q hq)
/-- new objects are none of the old ones -/
theorem neAll_one {news l : List (Addr × Obj)} (h : NeAll news l) {q : Addr × Obj} (hq : q ∈ news) : NeOne q.1 l := neOne_of fun r hr e => h.mem q hq r hr e.symm
theorem is_stars_t {w : World} {A : Around} {E : Value → Shared → Prop} {s : Shared} {k : Int} {v : Value} {Q : Value → Shared → Prop} (X : (Mine.hd.heap_39 w.params).In s.heap) (he : IsElem k v) (h7 : 0 ≤ k ∧ k < 7) (h5 : k = 5) (h : Q (.bool true) s) :
    wpAny (model PySem.Challenge.rw_ez0048_01.row.prog w) A (compareOp .Is v (.ref 181)) Q E s := is_stars X he h7 (by rw [decide_eq_true h5]; exact h)
theorem is_stars_f {w : World} {A : Around} {E : Value → Shared → Prop} {s : Shared} {k : Int} {v : Value} {Q : Value → Shared → Prop} (X : (Mine.hd.heap_39 w.params).In s.heap) (he : IsElem k v) (h7 : 0 ≤ k ∧ k < 7) (h5 : ¬ k = 5) (h : Q (.bool false) s) :
    wpAny (model PySem.Challenge.rw_ez0048_01.row.prog w) A (compareOp .Is v (.ref 181)) Q E s := is_stars X he h7 (by rw [decide_eq_false h5]; exact h)
theorem is_star_t {w : World} {A : Around} {E : Value → Shared → Prop} {s : Shared} {k : Int} {v : Value} {Q : Value → Shared → Prop} (X : (Mine.hd.heap_39 w.params).In s.heap) (he : IsElem k v) (h7 : 0 ≤ k ∧ k < 7) (h5 : k = 4) (h : Q (.bool true) s) :
    wpAny (model PySem.Challenge.rw_ez0048_01.row.prog w) A (compareOp .Is v (.ref 178)) Q E s := is_star X he h7 (by rw [decide_eq_true h5]; exact h)
theorem is_star_f {w : World} {A : Around} {E : Value → Shared → Prop} {s : Shared} {k : Int} {v : Value} {Q : Value → Shared → Prop} (X : (Mine.hd.heap_39 w.params).In s.heap) (he : IsElem k v) (h7 : 0 ≤ k ∧ k < 7) (h5 : ¬ k = 4) (h : Q (.bool false) s) :
    wpAny (model PySem.Challenge.rw_ez0048_01.row.prog w) A (compareOp .Is v (.ref 178)) Q E s := is_star X he h7 (by rw [decide_eq_false h5]; exact h)
theorem ne_elem_t {w : World} {A : Around} {E : Value → Shared → Prop} {s : Shared} {k k' : Int} {v v' : Value} {Q : Value → Shared → Prop} (he : IsElem k v) (he' : IsElem k' v') (h7 : 0 ≤ k ∧ k < 7) (h5 : ¬ k = 5) (h4 : ¬ k = 4) (h7' : k' = 0 ∨ k' = 1 ∨ k' = 2 ∨ k' = 3 ∨ k' = 6) (hn : ¬ k = k') (h : Q (.bool true) s) :
    wpAny (model PySem.Challenge.rw_ez0048_01.row.prog w) A (compareOp .NotEq v v') Q E s := ne_elem he he' (by omega) h7' (by rw [decide_eq_true hn]; exact h)
theorem ne_elem_f {w : World} {A : Around} {E : Value → Shared → Prop} {s : Shared} {k k' : Int} {v v' : Value} {Q : Value → Shared → Prop} (he : IsElem k v) (he' : IsElem k' v') (h7 : 0 ≤ k ∧ k < 7) (h5 : ¬ k = 5) (h4 : ¬ k = 4) (h7' : k' = 0 ∨ k' = 1 ∨ k' = 2 ∨ k' = 3 ∨ k' = 6) (hn : k = k') (h : Q (.bool false) s) :
    wpAny (model PySem.Challenge.rw_ez0048_01.row.prog w) A (compareOp .NotEq v v') Q E s := ne_elem he he' (by omega) h7' (by rw [decide_eq_false (by simpa using hn)]; exact h)
theorem step2_next {h₀ : Heap} {L : Addr} {s : Shared} {J : Nat → (Str → Option Value) → List (Addr × Obj) → Prop} {Q : Flow → Shared → Prop} {n : Nat} {h' : Heap} {tk : Nat} {m₂ : Str → Option Value} {news₂ : List (Addr × Obj)} (n' : Nat) (F : Fr h₀ L h' m₂) (N : News h₀ L h' news₂) (hn : n' < n) (hJ : J n' m₂ news₂) :
    WhileStep2 h₀ L s J Q n .next { s with heap := h', toks := tk } := ⟨h', tk, m₂, news₂, n', rfl, F, N, hn, hJ⟩
theorem off_of {news l c : List (Addr × Obj)} (h : NeAll news l) (hc : ∀ r ∈ c, ∃ o, (r.1, o) ∈ news) : ∀ q ∈ l, q.1 ∉ c.map (·.1) := fun q hq hm => by
  obtain ⟨r, hr, e⟩ := List.mem_map.mp hm
  obtain ⟨o, ho⟩ := hc r hr
  exact h.mem _ ho q hq e
theorem news_mid5 {h₀ h : Heap} {L : Addr} {a q1 q2 q3 q4 q5 : Addr × Obj} {y r : List (Addr × Obj)} (N : News h₀ L h ([a] ++ (y ++ (q1 :: q2 :: q3 :: q4 :: q5 :: r)))) : News h₀ L h (a :: q1 :: q2 :: q3 :: q4 :: q5 :: (y ++ r)) := fun p hp => N p (by
  simp only [List.mem_cons, List.mem_append, List.not_mem_nil, or_false] at hp ⊢
  rcases hp with h | h | h | h | h | h | h | h <;> simp [h])
theorem news_mid6 {h₀ h : Heap} {L : Addr} {a q1 q2 q3 q4 q5 q6 : Addr × Obj} {y r : List (Addr × Obj)} (N : News h₀ L h ([a] ++ (y ++ (q1 :: q2 :: q3 :: q4 :: q5 :: q6 :: r)))) : News h₀ L h (a :: q1 :: q2 :: q3 :: q4 :: q5 :: q6 :: (y ++ r)) := fun p hp => N p (by
  simp only [List.mem_cons, List.mem_append, List.not_mem_nil, or_false] at hp ⊢
  rcases hp with h | h | h | h | h | h | h | h | h <;> simp [h])

def isOpen (ps : List Int) (places : List Nat) : Nat → Bool
  | 0 => places.contains 0
  | p + 1 => places.contains (p + 1) || (isOpen ps places p && ps[p]? == some 5)
def opened (ps : List Int) (places : List Nat) : List Nat := (List.range (ps.length + 1)).filter (isOpen ps places)
def hop (ps : List Int) (t : Int) (p : Nat) : List Nat := if ps[p]? = some 5 then [p] else if ps[p]? = some 4 ∨ ps[p]? = some t then [p + 1] else []
def stepped (ps : List Int) (t : Int) (places : List Nat) : List Nat := places.flatMap (hop ps t)
def rowN (ps ts : List Int) : Nat → List Nat
  | 0 => opened ps [0]
  | j + 1 => opened ps (stepped ps (ts.getD j 0) (rowN ps ts j))
theorem mem_opened {ps : List Int} {places : List Nat} {p : Nat} : p ∈ opened ps places ↔ p ≤ ps.length ∧ isOpen ps places p = true := by
  simp [opened, Nat.lt_succ_iff]
theorem opened_closed {ps : List Int} {places : List Nat} {p : Nat} (h : p ∈ opened ps places) (h5 : ps[p]? = some 5) : p + 1 ∈ opened ps places := by
  rw [mem_opened] at h ⊢
  have hlt := (List.getElem?_eq_some_iff.mp h5).1
  exact ⟨hlt, by simp [isOpen, h.2, h5]⟩
theorem drop_some {ps : List Int} {p : Nat} {k : Int} (h : ps[p]? = some k) : ps.drop p = k :: ps.drop (p + 1) := by
  obtain ⟨hlt, e⟩ := List.getElem?_eq_some_iff.mp h
  rw [List.drop_eq_getElem_cons hlt, e]
/-- opening changes no reachability -/
theorem ex_opened {V : List Int → Prop} {ps : List Int} {places : List Nat} (hV : ∀ qs, V qs → V (5 :: qs)) (hp : ∀ p ∈ places, p ≤ ps.length) :
    (∃ p ∈ opened ps places, V (ps.drop p)) ↔ ∃ p ∈ places, V (ps.drop p) := by
  constructor
  · rintro ⟨p, hm, hv⟩
    rw [mem_opened] at hm
    obtain ⟨hle, ho⟩ := hm
    induction p with
    | zero => exact ⟨0, by simpa [isOpen] using ho, hv⟩
    | succ p ih =>
      simp only [isOpen, Bool.or_eq_true, Bool.and_eq_true, List.contains_eq_mem, decide_eq_true_eq, beq_iff_eq] at ho
      rcases ho with ho | ⟨h1, h2⟩
      · exact ⟨_, ho, hv⟩
      · exact ih (by rw [drop_some h2]; exact hV _ hv) (by omega) h1
  · rintro ⟨p, hm, hv⟩
    refine ⟨p, mem_opened.mpr ⟨hp p hm, ?_⟩, hv⟩
    cases p <;> simp [isOpen, hm]
theorem hop_le {ps : List Int} {t : Int} {p q : Nat} (h : q ∈ hop ps t p) : q ≤ ps.length := by
  unfold hop at h
  split at h
  next h5 => have := (List.getElem?_eq_some_iff.mp h5).1; simp at h; omega
  next =>
    split at h
    next h4 =>
      have : p < ps.length := by rcases h4 with h4 | h4 <;> exact (List.getElem?_eq_some_iff.mp h4).1
      simp at h; omega
    next => simp at h
theorem stepped_le {ps : List Int} {t : Int} {places : List Nat} : ∀ q ∈ stepped ps t places, q ≤ ps.length := by
  intro q hq
  obtain ⟨p, _, hq⟩ := List.mem_flatMap.mp hq
  exact hop_le hq
theorem segs_star (b : Bool) (qs : List Int) (t : Int) (ts : List Int) : segs b (5 :: qs) (t :: ts) = (segs b qs (t :: ts) || segs b (5 :: qs) ts) := by
  simp [segs, starAny]
theorem segs_skip (b : Bool) (qs ts : List Int) (h : segs b qs ts = true) : segs b (5 :: qs) ts = true := by
  cases ts with
  | nil => simp [segs, starAny, h]
  | cons t ts => rw [segs_star, h]; rfl
theorem segs_step {b : Bool} {ps : List Int} {S : List Nat} {t : Int} {ts : List Int} (hS : ∀ p ∈ S, p ≤ ps.length) (hc : ∀ p ∈ S, ps[p]? = some 5 → p + 1 ∈ S) (h4 : t ≠ 4) (h5 : t ≠ 5) :
    (∃ p ∈ S, segs b (ps.drop p) (t :: ts) = true) ↔ (b = true ∧ ps.length ∈ S) ∨ ∃ p ∈ stepped ps t S, segs b (ps.drop p) ts = true := by
  constructor
  · rintro ⟨p, hm, hv⟩
    obtain ⟨n, hn⟩ : ∃ n, n = ps.length - p := ⟨_, rfl⟩
    induction n generalizing p with
    | zero =>
      have hp : p = ps.length := by have := hS p hm; omega
      rw [hp, List.drop_length] at hv
      refine .inl ⟨by simpa [segs] using hv, hp ▸ hm⟩
    | succ n ih =>
      have hlt : p < ps.length := by omega
      obtain ⟨k, hk⟩ : ∃ k, ps[p]? = some k := ⟨ps[p], List.getElem?_eq_getElem hlt⟩
      rw [drop_some hk] at hv
      by_cases hk5 : k = 5
      · subst hk5
        rw [segs_star] at hv
        rcases Bool.or_eq_true_iff.mp hv with hv | hv
        · exact ih (p + 1) (hc p hm hk) hv (by omega)
        · exact .inr ⟨p, List.mem_flatMap.mpr ⟨p, hm, by simp [hop, hk]⟩, by rw [drop_some hk]; exact hv⟩
      · simp only [segs, if_neg hk5, Bool.and_eq_true, Bool.or_eq_true, decide_eq_true_eq] at hv
        refine .inr ⟨p + 1, List.mem_flatMap.mpr ⟨p, hm, ?_⟩, hv.2⟩
        rcases hv.1 with rfl | rfl <;> simp [hop, hk, hk5]
  · rintro (⟨rfl, hm⟩ | ⟨q, hm, hv⟩)
    · exact ⟨_, hm, by simp [segs]⟩
    · obtain ⟨p, hm, hq⟩ := List.mem_flatMap.mp hm
      refine ⟨p, hm, ?_⟩
      unfold hop at hq
      split at hq
      next e5 =>
        obtain rfl : q = p := by simpa using hq
        rw [drop_some e5] at hv ⊢
        rw [segs_star, hv]; simp
      next n5 =>
        split at hq
        next h =>
          obtain rfl : q = p + 1 := by simpa using hq
          rcases h with h | h
          · rw [drop_some h]; simp [segs, hv]
          · rw [drop_some h]; simp [segs, hv, h5]
        next => simp at hq
theorem segs_end {b : Bool} {ps : List Int} {S : List Nat} (hS : ∀ p ∈ S, p ≤ ps.length) (hc : ∀ p ∈ S, ps[p]? = some 5 → p + 1 ∈ S) :
    (∃ p ∈ S, segs b (ps.drop p) [] = true) ↔ ps.length ∈ S := by
  constructor
  · rintro ⟨p, hm, hv⟩
    obtain ⟨n, hn⟩ : ∃ n, n = ps.length - p := ⟨_, rfl⟩
    induction n generalizing p with
    | zero => have hp : p = ps.length := by have := hS p hm; omega
              exact hp ▸ hm
    | succ n ih =>
      have hlt : p < ps.length := by omega
      obtain ⟨k, hk⟩ : ∃ k, ps[p]? = some k := ⟨ps[p], List.getElem?_eq_getElem hlt⟩
      rw [drop_some hk] at hv
      by_cases hk5 : k = 5
      · subst hk5
        exact ih (p + 1) (hc p hm hk) (by simpa [segs, starAny] using hv) (by omega)
      · simp [segs, hk5] at hv
  · intro h
    exact ⟨_, h, by simp [segs]⟩
theorem could_step {ps : List Int} {S : List Nat} {t : Int} {ts : List Int} (h5 : t ≠ 5) :
    (∃ p ∈ S, could (ps.drop p) (t :: ts) = true) ↔ ∃ p ∈ stepped ps t S, could (ps.drop p) ts = true := by
  constructor
  · rintro ⟨p, hm, hv⟩
    cases hk : ps[p]? with
    | none => rw [List.drop_eq_nil_of_le (by simpa using hk)] at hv; simp [could] at hv
    | some k =>
      rw [drop_some hk] at hv
      by_cases hk5 : k = 5
      · subst hk5
        exact ⟨p, List.mem_flatMap.mpr ⟨p, hm, by simp [hop, hk]⟩, by rw [drop_some hk]; simp [could]⟩
      · simp only [could, if_neg hk5, Bool.and_eq_true, Bool.or_eq_true, decide_eq_true_eq] at hv
        refine ⟨p + 1, List.mem_flatMap.mpr ⟨p, hm, ?_⟩, hv.2⟩
        rcases hv.1 with rfl | rfl <;> simp [hop, hk, hk5]
  · rintro ⟨q, hm, hv⟩
    obtain ⟨p, hm, hq⟩ := List.mem_flatMap.mp hm
    refine ⟨p, hm, ?_⟩
    unfold hop at hq
    split at hq
    next e5 => rw [drop_some e5]; simp [could]
    next n5 =>
      split at hq
      next h =>
        obtain rfl : q = p + 1 := by simpa using hq
        rcases h with h | h
        · rw [drop_some h]; simp [could, hv]
        · rw [drop_some h]; simp [could, hv, h5]
      next => simp at hq
theorem could_end {ps : List Int} {S : List Nat} (hS : ∀ p ∈ S, p ≤ ps.length) : (∃ p ∈ S, could (ps.drop p) [] = true) ↔ ∃ p ∈ S, p ≠ ps.length := by
  constructor
  · rintro ⟨p, hm, hv⟩
    exact ⟨p, hm, fun e => by rw [e, List.drop_length] at hv; simp [could] at hv⟩
  · rintro ⟨p, hm, hv⟩
    have hlt : p < ps.length := by have := hS p hm; omega
    refine ⟨p, hm, ?_⟩
    rw [List.drop_eq_getElem_cons hlt]
    simp [could]
theorem opened_le {ps : List Int} {places : List Nat} : ∀ p ∈ opened ps places, p ≤ ps.length := fun _ h => (mem_opened.mp h).1
theorem rowN_le {ps ts : List Int} : ∀ {j : Nat}, ∀ p ∈ rowN ps ts j, p ≤ ps.length
  | 0 => opened_le
  | _ + 1 => opened_le
theorem rowN_closed {ps ts : List Int} : ∀ {j : Nat}, ∀ p ∈ rowN ps ts j, ps[p]? = some 5 → p + 1 ∈ rowN ps ts j
  | 0 => fun _ h => opened_closed h
  | _ + 1 => fun _ h => opened_closed h
theorem getD_at {ts : List Int} {j : Nat} (h : j < ts.length) : ts.getD j 0 = ts[j] := by simp [List.getD_eq_getElem?_getD, List.getElem?_eq_getElem h]
theorem drop_getD {ts : List Int} {j : Nat} (h : j < ts.length) : ts.drop j = ts.getD j 0 :: ts.drop (j + 1) := by
  rw [List.drop_eq_getElem_cons h, getD_at h]
def plainT (ts : List Int) : Prop := ∀ t ∈ ts, t ≠ 4 ∧ t ≠ 5
theorem segs_row {b : Bool} {ps ts : List Int} (hts : plainT ts) : ∀ {n j : Nat}, n = ts.length - j → j ≤ ts.length →
    ((∃ p ∈ rowN ps ts j, segs b (ps.drop p) (ts.drop j) = true) ↔ (b = true ∧ ∃ i, j ≤ i ∧ i < ts.length ∧ ps.length ∈ rowN ps ts i) ∨ ps.length ∈ rowN ps ts ts.length)
  | 0, j, hn, hj => by
    have : j = ts.length := by omega
    subst this
    rw [List.drop_length, segs_end rowN_le rowN_closed]
    constructor
    · exact .inr
    · rintro (⟨_, i, h1, h2, _⟩ | h)
      · omega
      · exact h
  | n + 1, j, hn, hj => by
    have hlt : j < ts.length := by omega
    have ht := hts (ts.getD j 0) (by rw [getD_at hlt]; exact List.getElem_mem hlt)
    rw [drop_getD hlt, segs_step rowN_le rowN_closed ht.1 ht.2]
    have := segs_row (b := b) (ps := ps) hts (n := n) (j := j + 1) (by omega) (by omega)
    rw [rowN, ex_opened (V := fun qs => segs b qs (ts.drop (j + 1)) = true) (fun qs h => segs_skip b qs _ h) stepped_le] at this
    rw [this]
    constructor
    · rintro (⟨h1, h2⟩ | ⟨h1, i, h2, h3, h4⟩ | h)
      · exact .inl ⟨h1, j, Nat.le_refl _, hlt, h2⟩
      · exact .inl ⟨h1, i, by omega, h3, h4⟩
      · exact .inr h
    · rintro (⟨h1, i, h2, h3, h4⟩ | h)
      · by_cases e : i = j
        · subst e; exact .inl ⟨h1, h4⟩
        · exact .inr (.inl ⟨h1, i, by omega, h3, h4⟩)
      · exact .inr (.inr h)
theorem could_row {ps ts : List Int} (hts : plainT ts) : ∀ {n j : Nat}, n = ts.length - j → j ≤ ts.length →
    ((∃ p ∈ rowN ps ts j, could (ps.drop p) (ts.drop j) = true) ↔ ∃ p ∈ rowN ps ts ts.length, p ≠ ps.length)
  | 0, j, hn, hj => by
    have : j = ts.length := by omega
    subst this
    rw [List.drop_length, could_end rowN_le]
  | n + 1, j, hn, hj => by
    have hlt : j < ts.length := by omega
    have ht := hts (ts.getD j 0) (by rw [getD_at hlt]; exact List.getElem_mem hlt)
    rw [drop_getD hlt, could_step ht.2, ← could_row hts (n := n) (j := j + 1) (by omega) (by omega), rowN, ex_opened (V := fun qs => could qs (ts.drop (j + 1)) = true) (fun qs h => by simp [could]) stepped_le]
theorem segs_table {b : Bool} {ps ts : List Int} (hts : plainT ts) : segs b ps ts = true ↔ (b = true ∧ ∃ i, i < ts.length ∧ ps.length ∈ rowN ps ts i) ∨ ps.length ∈ rowN ps ts ts.length := by
  have := segs_row (b := b) (ps := ps) hts (n := ts.length) (j := 0) rfl (Nat.zero_le _)
  rw [rowN, ex_opened (V := fun qs => segs b qs (ts.drop 0) = true) (fun qs h => segs_skip b qs _ h) (by simp)] at this
  simpa using this
theorem could_table {ps ts : List Int} (hts : plainT ts) : could ps ts = true ↔ ∃ p ∈ rowN ps ts ts.length, p ≠ ps.length := by
  have := could_row (ps := ps) hts (n := ts.length) (j := 0) rfl (Nat.zero_le _)
  rw [rowN, ex_opened (V := fun qs => could qs (ts.drop 0) = true) (fun qs h => by simp [could]) (by simp)] at this
  simpa using this
theorem law_match {ps ts : List Int} (hts : plainT ts) : (rowN ps ts ts.length).contains ps.length = segs false ps ts := by
  rw [Bool.eq_iff_iff, segs_table hts]; simp
theorem law_desc {ps ts : List Int} (hts : plainT ts) : ((List.range (ts.length + 1)).any fun j => (rowN ps ts j).contains ps.length) = segs true ps ts := by
  rw [Bool.eq_iff_iff, segs_table hts, List.range_succ, List.any_append]; simp
theorem law_anc {ps ts : List Int} (hts : plainT ts) : decide (0 < (rowN ps ts ts.length).length) = (segs false ps ts || could ps ts) := by
  rw [Bool.eq_iff_iff, Bool.or_eq_true, segs_table hts, could_table hts]
  simp only [decide_eq_true_eq, Bool.false_eq_true, false_and, false_or]
  constructor
  · intro h
    obtain ⟨p, hp⟩ := List.exists_mem_of_length_pos h
    by_cases e : p = ps.length
    · exact .inl (e ▸ hp)
    · exact .inr ⟨p, hp, e⟩
  · rintro (h | ⟨p, h, _⟩) <;> exact List.length_pos_of_mem h
theorem starAny_iff (f : List Int → Bool) : ∀ ts : List Int, starAny f ts = true ↔ ∃ k, k ≤ ts.length ∧ f (ts.drop k) = true
  | [] => by simp [starAny]
  | t :: ts => by
    simp only [starAny, Bool.or_eq_true, starAny_iff f ts]
    constructor
    · rintro (h | ⟨k, h1, h2⟩)
      · exact ⟨0, Nat.zero_le _, h⟩
      · exact ⟨k + 1, by simpa using h1, h2⟩
    · rintro ⟨k, h1, h2⟩
      cases k with
      | zero => exact .inl h2
      | succ k => exact .inr ⟨k, by simpa using h1, h2⟩
theorem star_true {b : Bool} {qs ts : List Int} {t i : Nat} (h : segs b qs (ts.drop (t + i)) = true) (hi : t + i ≤ ts.length) : segs b (5 :: qs) (ts.drop t) = true := by
  rw [show segs b (5 :: qs) (ts.drop t) = starAny (segs b qs) (ts.drop t) from by simp [segs], starAny_iff]
  exact ⟨i, by rw [List.length_drop]; omega, by rw [List.drop_drop]; exact h⟩
theorem star_false {b : Bool} {qs ts : List Int} {t : Nat} (h : ∀ i, t + i ≤ ts.length → segs b qs (ts.drop (t + i)) = false) (ht : t ≤ ts.length) : segs b (5 :: qs) (ts.drop t) = false := by
  rw [show segs b (5 :: qs) (ts.drop t) = starAny (segs b qs) (ts.drop t) from by simp [segs]]
  cases e : starAny (segs b qs) (ts.drop t) with
  | false => rfl
  | true =>
    obtain ⟨k, h1, h2⟩ := (starAny_iff _ _).mp e
    rw [List.length_drop] at h1
    rw [List.drop_drop, h k (by omega)] at h2
    cases h2
theorem seg_last {b : Bool} {ps ts : List Int} {pj tj ul vl : Nat} (hul : ul = ps.length) (hvl : vl = ts.length) (g5 : pj ≤ ps.length) (g3 : tj ≤ ts.length) (hE : pj = ul ∨ tj = vl) (hk : pj < ul → ∃ pk, ps.drop pj = pk :: ps.drop (pj + 1) ∧ ¬ pk = 5) :
    segs b (ps.drop pj) (ts.drop tj) = (decide (pj = ul) && (b || decide (tj = vl))) := by
  by_cases h : pj < ul
  · obtain ⟨pk, h1, h2⟩ := hk h
    have h3 : tj = ts.length := by
      rcases hE with e | e
      · exact absurd h (by rw [e]; exact Nat.lt_irrefl _)
      · exact e.trans hvl
    rw [h1, h3, List.drop_length]
    simp [segs, h2, Nat.ne_of_lt h]
  · have h3 : pj = ps.length := by omega
    rw [h3, List.drop_length, segs]
    have e : (ts.drop tj).isEmpty = decide (tj = vl) := by
      rw [Bool.eq_iff_iff, List.isEmpty_iff, List.drop_eq_nil_iff, decide_eq_true_eq]; omega
    rw [e, hul]; simp
theorem seg_v1 {b S : Bool} {pj ul tj vl : Nat} (hb : b = true) (h : S = (decide (pj = ul) && (b || decide (tj = vl)))) : Value.bool ((pj : Int) == (ul : Int)) = .bool S := by
  subst hb h; congr 1; rw [Bool.eq_iff_iff]; simp; omega
theorem seg_v2 {b S : Bool} {pj ul tj vl : Nat} (hb : b = false) (hp : (pj : Int) = (ul : Int)) (h : S = (decide (pj = ul) && (b || decide (tj = vl)))) : Value.bool ((tj : Int) == (vl : Int)) = .bool S := by
  subst hb h; congr 1; rw [Bool.eq_iff_iff]; simp; omega
theorem seg_v3 {b S : Bool} {pj ul tj vl : Nat} (hb : b = false) (hp : (pj : Int) ≠ (ul : Int)) (h : S = (decide (pj = ul) && (b || decide (tj = vl)))) : Value.bool ((pj : Int) == (ul : Int)) = .bool S := by
  subst hb h; congr 1; rw [Bool.eq_iff_iff]; simp; omega
theorem could_v1 {ps ts : List Int} {pi ti ul vl : Nat} (hul : ul = ps.length) (hvl : vl = ts.length) (h : (ti : Int) = (vl : Int)) : Value.bool (decide ((pi : Int) < (ul : Int))) = .bool (could (ps.drop pi) (ts.drop ti)) := by
  have h1 : ti = ts.length := by omega
  rw [h1, List.drop_length]
  congr 1
  by_cases hp : pi < ps.length
  · rw [List.drop_eq_getElem_cons hp]; simp [could]; omega
  · rw [List.drop_eq_nil_of_le (by omega)]; simp [could]; omega
theorem could_v2 {ps ts : List Int} {pi ti ul : Nat} (hul : ul = ps.length) (h : (ul : Int) ≤ (pi : Int)) : Value.bool false = .bool (could (ps.drop pi) (ts.drop ti)) := by
  rw [List.drop_eq_nil_of_le (by omega)]; simp [could]

end
section
local macro_rules | `(tactic| walk_at "compareOp In ref ref") => loose `(tactic| (k_here; (with_reducible show wpAny _ _ (compareOp CmpOp.In (Value.ref _) (Value.ref _)) _ _ _); k_dflt (refine' memo_in ?N ?m ?e ?M ?lo ?k ?u ?h1 ?h2; (case N => k_asm); (case m => k_mem); (case M => assumption); (case e => walk_at "m inn"); (case lo => assumption); (case k => k_mem); (case u => k_units)); (case' h1 => k_whole); (case' h1 => intro hs9 tk9); (case' h2 => k_whole); (case' h2 => intro tk9)))
local macro_rules | `(tactic| walk_at "subscriptTail Name Name ref ref") => `(tactic| (k_here; (with_reducible show wpAny _ _ (subscriptTail _ _ (Value.ref _) (Value.ref _)) _ _ _); k_dflt (refine' memo_get ?N ?m ?e ?M ?k ?u ?s ?_ ?r; (case N => k_asm); (case m => k_mem); (case M => assumption); (case e => walk_at "m inn"); (case k => k_mem); (case u => k_units); (case s => assumption); (case r => with_unfolding_all rfl)); k_whole; intro tk9))
local macro_rules | `(tactic| walk_at "call builtin:len") => `(tactic| (k_here; (with_reducible show wpAny _ _ (call (Value.builtin "len") [Value.ref _]) _ _ _); k_dflt (refine' ktm_lenK ?N ?m ?z ?e ?_; (case N => k_asm); (case m => k_mem); (case e => rfl); (case z => omega)); k_whole))
local macro_rules | `(tactic| walk_at "exec While") => `(tactic| (k_here; refine stop_in ?_))
local macro_rules | `(tactic| walk_at "exec While BoolOp") => `(tactic| (k_here; refine stop_in ?_))
local macro_rules | `(tactic| walk_at "m pat") => `(tactic| (k_here; (with_reducible show wpAny _ _ (subscriptTail _ _ (Value.ref _) (Value.int _ _)) _ _ _); k_dflt (refine' tup_item ?N ?m ?v ?e ?z ?_ ?s ?g; (case N => k_asm); (case m => k_mem); (case v => assumption); (case e => first | rfl | omega); (case z => omega); (case s => with_unfolding_all rfl); (case g => (intro _; with_unfolding_all rfl))); k_whole))
local macro_rules | `(tactic| walk_at "m fst") => `(tactic| (k_here; (with_reducible show wpAny _ _ (subscriptTail _ _ (Value.ref _) (Value.int _ _)) _ _ _); k_dflt (refine' tup_first ?N ?m ?_ ?s ?g; (case N => k_asm); (case m => walk_at "m tail"); (case s => with_unfolding_all rfl); (case g => (intro _; with_unfolding_all rfl))); k_whole))
local macro_rules | `(tactic| walk_at "subscriptTail Name Name ref int") => `(tactic| walk_at "m pat")
local macro_rules | `(tactic| walk_at "subscriptTail Name Constant ref int") => `(tactic| walk_at "m fst")
local macro_rules | `(tactic| walk_at "m updF") => `(tactic| first | (refine' UpdF.head ?a; (case a => walk_at "m all")) | (refine' UpdF.tail ?a ?b; (case a => k_ne); (case b => walk_at "m updF")))
local macro_rules | `(tactic| walk_at "setItem ref ref") => loose `(tactic| (k_here; (with_reducible show wpAny _ _ (setItem (Value.ref _) (Value.ref _) _) _ _ _); k_dflt (refine' memo_set ?F ?N ?U ?e ?M ?k ?u ?_; (case F => k_asm); (case N => k_asm); (case M => assumption); (case U => walk_at "m updF"); (case e => walk_at "m inn"); (case k => k_mem); (case u => k_units)); k_whole; intro h9 od9 tk9 F9 N9 hM9; (try dsimp only at N9); (try k_sweep)))
local macro_rules | `(tactic| walk_at "m stars") => loose `(tactic| (k_here; k_dflt (first
  | (refine' is_stars_t ?X ?e ?s ?k ?_; (case X => exact X'.keeps (Fr.keep (by k_asm))); (case e => assumption); (case s => assumption); (case k => assumption); k_whole)
  | (refine' is_stars_f ?X ?e ?s ?k ?_; (case X => exact X'.keeps (Fr.keep (by k_asm))); (case e => assumption); (case s => assumption); (case k => assumption); k_whole)
  | (refine' is_star_t ?X ?e ?s ?k ?_; (case X => exact X'.keeps (Fr.keep (by k_asm))); (case e => assumption); (case s => assumption); (case k => assumption); k_whole)
  | (refine' is_star_f ?X ?e ?s ?k ?_; (case X => exact X'.keeps (Fr.keep (by k_asm))); (case e => assumption); (case s => assumption); (case k => assumption); k_whole))))
local macro_rules | `(tactic| walk_at "m neq") => `(tactic| (k_here; k_dflt (first
  | (refine' ne_elem_t ?a ?b ?c ?d ?e ?f ?g ?_; (case a => assumption); (case b => assumption); (case c => assumption); (case d => assumption); (case e => assumption); (case f => assumption); (case g => assumption); k_whole)
  | (refine' ne_elem_f ?a ?b ?c ?d ?e ?f ?g ?_; (case a => assumption); (case b => assumption); (case c => assumption); (case d => assumption); (case e => assumption); (case f => assumption); (case g => assumption); k_whole))))
local macro_rules | `(tactic| walk_at "compareOp Is") => `(tactic| walk_at "m stars")
local macro_rules | `(tactic| walk_at "compareOp Is ref") => `(tactic| walk_at "m stars")
local macro_rules | `(tactic| walk_at "compareOp NotEq") => `(tactic| walk_at "m neq")

section
local macro_rules | `(tactic| walk_at "s end") => loose `(tactic| (
  walk_at "m out";
  have hS := seg_last (b := b) hul hvl g5 g3 hE hk;
  rw [← hseg] at hS;
  have hV : Value.bool _ = Value.bool (segs b (ps.drop pi) (ts.drop ti)) := (by first | exact seg_v1 (by assumption) hS | exact seg_v2 (by assumption) (by assumption) hS | exact seg_v3 (by assumption) (by assumption) hS | (exfalso; omega));
  refine' leaveM_ (by assumption) (by assumption) rfl (od9, [(D, key2 pi ti ta tb)]) (hM9 _ _ hM hV (by omega) (by omega) List.mem_cons_self (fun q hq => List.mem_cons_of_mem _ hq)) hV ?M ?O;
  (case M => walk_at "m in");
  (case O => walk_at "m off")))
local macro_rules | `(tactic| walk_at "s endv") => loose `(tactic| (
  walk_at "m outw";
  refine' leaveM_ (by assumption) (by assumption) rfl (od9, [(D, key2 pi ti ta tb)]) (hM9 _ _ hM hV (by omega) (by omega) List.mem_cons_self (fun q hq => List.mem_cons_of_mem _ hq)) hV ?M ?O;
  (case M => walk_at "m in");
  (case O => walk_at "m off")))
local macro_rules | `(tactic| walk_at "call ref") => loose `(tactic| (
  k_here; (with_reducible show wpAny _ _ (call (Value.ref 252) _ _) _ _ _); k_dflt (
  (with_unfolding_all refine' con_use (ih (ps.length - (pi' + 1)) (by omega) (pi := pi' + 1) (ti := ti' + i) rfl ?a1 ?a2 ?a3 ?a4 ?a5 ?a6 ?a7 ?a8 ?a9).1 ?B ?Xb ?Tb ?F ?N ?hf ?hke ?hd ?hu ?hro ?hpick ?hoff ?hup ?_);
  walk_at "m use"; (case a1 => omega); (case a2 => omega); (case a3 => exact hps2); (case a4 => exact hts2); (case a5 => omega); (case a6 => omega); (case a7 => exact hM2); (case a8 => exact lo); (case a9 => exact e2n); k_whole;
  intro x9 h9 tk9 hP9 F9 N9 hne9; obtain ⟨od3, el3⟩ := x9; obtain ⟨xs3, hM3⟩ := hP9; replace N9 := news_mid6 N9; (try dsimp only at N9 hne9 hM3); (try dsimp only);
  (have e3n : NeOne memo ((el3 ++ el2) ++ el) := by rw [List.append_assoc]; exact neOne_app (neAll_one hne9 (q := (memo, od2)) (by k_memK)) e2n);
  (have e3I : NeOne I ((el3 ++ el2) ++ el) := by rw [List.append_assoc]; exact neOne_app (neAll_one hne9 (q := (I, oI)) (by k_memK)) nI7);
  (have hoff3 : ∀ q ∈ el3 ++ el2, q.1 ∉ ((memo, od) :: (x, instObj 262 d) :: (d, mdict w ns t1 t2 t3 pt n) :: (pt, tupOf us.toArray) :: (T, tupOf vs.toArray) :: el).map (·.1) := List.forall_mem_append.mpr ⟨off_of hne9 (by walk_at "m has"), hoff2⟩);
  (simp only [← List.append_assoc] at N9 hM3); clear hne9; (generalize el3 ++ el2 = el4 at N9 hM3 e3n e3I hoff3); (try k_sweep); (try k_fold); walk_say "CONTRACT seg")))
local macro_rules | `(tactic| walk_at "s endl") => loose `(tactic| (
  walk_at "m outw";
  refine' leaveM_ (by assumption) (by assumption) rfl (od9, (D, key2 pi ti ta tb) :: el4) (hM9 _ _ hM3 hV (by omega) (by omega) List.mem_cons_self (fun q hq => List.mem_cons_of_mem _ hq)) hV ?M ?O;
  (case M => walk_at "m in");
  (case O => (refine List.forall_mem_cons.mpr (And.intro (not_in ?_) hoff3); walk_at "m ne"))))
local macro_rules | `(tactic| walk_at "s endl2") => loose `(tactic| (
  walk_at "m outw";
  refine' leaveM_ (by assumption) (by assumption) rfl (od9, (D, key2 pi ti ta tb) :: el2) (hM9 _ _ hM3 hV (by omega) (by omega) List.mem_cons_self (fun q hq => List.mem_cons_of_mem _ hq)) hV ?M ?O;
  (case M => walk_at "m in");
  (case O => (refine List.forall_mem_cons.mpr (And.intro (not_in ?_) hoff3); walk_at "m ne"))))
local macro_rules | `(tactic| walk_at "pyIter ref") => `(tactic| (k_here; refine stop_in ?_))
local macro_rules | `(tactic| walk_at "exec For") => `(tactic| (k_here; refine stop_in ?_))
local macro_rules | `(tactic| walk_at "exec For Name Call cons nil") => `(tactic| (k_here; refine stop_in ?_))
abbrev roM (w : World) (x d pt T : Addr) (ns : List Int) (t1 t2 t3 : Tok) (n : Nat) (us vs : List Value) (el : List (Addr × Obj)) : List (Addr × Obj) :=
  (x, instObj 262 d) :: (d, mdict w ns t1 t2 t3 pt n) :: (pt, tupOf us.toArray) :: (T, tupOf vs.toArray) :: el
structure FrS (m : Str → Option Value) (x T memo D pt : Addr) (b : Bool) (pl tl pi ti : Nat) : Prop where
  slf : m (Str.ofString "self") = some (.ref x)
  tgt : m (Str.ofString "target") = some (.ref T)
  mem : m (Str.ofString "memo") = some (.ref memo)
  key : m (Str.ofString "key") = some (.ref D)
  pat : m (Str.ofString "pattern") = some (.ref pt)
  alw : m (Str.ofString "allow_extra_target") = some (.bool b)
  tln : ∃ t, m (Str.ofString "target_len") = some (.int (tl : Int) t)
  pln : ∃ t, m (Str.ofString "pattern_len") = some (.int (pl : Int) t)
  pii : ∃ t k, m (Str.ofString "pi") = some (.int k t) ∧ k = (pi : Int)
  tii : ∃ t k, m (Str.ofString "ti") = some (.int k t) ∧ k = (ti : Int)
theorem seg_both (w : World) {x d pt T memo : Addr} {ns ps ts : List Int} {t1 t2 t3 : Tok} {n : Nat} {us vs : List Value} {b : Bool}
    (h4 : ps.length ≤ 4) (h4' : ts.length ≤ 4) (h7 : ∀ k ∈ ps, 0 ≤ k ∧ k < 7) (h7' : ∀ k ∈ ts, k = 0 ∨ k = 1 ∨ k = 2 ∨ k = 3 ∨ k = 6)
    (n1 : @Ne Nat memo x) (n2 : @Ne Nat memo d) (n3 : @Ne Nat memo pt) (n4 : @Ne Nat memo T) : ∀ (N : Nat) {pi ti : Nat} {a c : Int} {ta tb : Tok} {el : List (Addr × Obj)} {od : Obj}, ps.length - pi = N → a = pi → c = ti →
    ElsIn el ps us → ElsIn el ts vs → pi ≤ ps.length → ti ≤ ts.length → (Memo w el od fun i j => segs b (ps.drop i) (ts.drop j)) → (memo == sysModules) = false → NeOne memo el →
    Con w 252 [.ref x, .ref T, .int a ta, .int c tb, .ref memo, .bool b] [] (roM w x d pt T ns t1 t2 t3 n us vs el) [(memo, od)] (20 * (ps.length - pi) + 20) (100 * (ps.length - pi) + 100)
      (fun (y : Obj × List (Addr × Obj)) => Memo w (y.2 ++ el) y.1 fun i j => segs b (ps.drop i) (ts.drop j)) (fun y => [(memo, y.1)]) (fun y => y.2) (fun _ => .bool (segs b (ps.drop pi) (ts.drop ti))) ∧
    Con w 252 [.ref x, .ref T, .int a ta, .int c tb, .ref memo] [(Str.ofString "allow_extra_target", .bool b)] (roM w x d pt T ns t1 t2 t3 n us vs el) [(memo, od)] (20 * (ps.length - pi) + 20) (100 * (ps.length - pi) + 100)
      (fun (y : Obj × List (Addr × Obj)) => Memo w (y.2 ++ el) y.1 fun i j => segs b (ps.drop i) (ts.drop j)) (fun y => [(memo, y.1)]) (fun y => y.2) (fun _ => .bool (segs b (ps.drop pi) (ts.drop ti))) := by
  intro N
  induction N using Nat.strongRecOn with | _ N ih
  rintro pi ti a c ta tb el od hN rfl rfl hps hts hpi hti ⟨xs, hM⟩ lo n5
  subst hN
  have hvl := hts.length
  have hul := hps.length
  unfold roM
  refine' con_enter2 ?k6 ?k7 ?k8 ?k9 ?kC ?kB ?_ ?c2 ?c3 ?c4 ?c5
  (case k6 => k_is)
  (case k7 => k_is)
  (case k8 => omega)
  (case k9 => exact fun _ _ => BindsTo.of_eq rfl)
  (case kC => exact fun _ _ => BindsTo.of_eq rfl)
  (case kB => exact locs rfl)
  (case c2 => exact rfl)
  (case c3 => exact rfl)
  (case c4 => exact rfl)
  (case c5 => decide)
  intro dp un gd frs base p loose mean mg mb s g L' h₁ Xb Tb F' N' B' X' T' hdp hun hlt
  simp only [AllLt, List.cons_append, List.nil_append, and_true] at hlt
  (try dsimp only [List.cons_append, List.nil_append] at N')
  (try dsimp only)
  (try k_fold)
  k_steps
  · refine ⟨?_⟩
    rename Fr _ _ _ _ => F5
    rename News _ _ _ _ => N5
    refine While_inv2 (n₀ := ps.length - pi) (fun q m l => ∃ D pi' ti' ob, FrS m x T memo D pt b us.length vs.length pi' ti' ∧ q = ps.length - pi' ∧ pi ≤ pi' ∧ pi' ≤ ps.length ∧ ti' ≤ ts.length ∧ segs b (ps.drop pi) (ts.drop ti) = segs b (ps.drop pi') (ts.drop ti') ∧
      ob = key2 pi ti ta tb ∧ l = (D, ob) :: (memo, od) :: (x, instObj 262 d) :: (d, mdict w ns t1 t2 t3 pt n) :: (pt, tupOf us.toArray) :: (T, tupOf vs.toArray) :: el ∧ @Ne Nat D memo ∧ AllLt D ((memo, od) :: (x, instObj 262 d) :: (d, mdict w ns t1 t2 t3 pt n) :: (pt, tupOf us.toArray) :: (T, tupOf vs.toArray) :: el)) F5 N5 ?j0 ?turn ?pass
    (case j0 => exact ⟨_, pi, ti, _, ⟨rfl, rfl, rfl, rfl, rfl, rfl, ⟨_, rfl⟩, ⟨_, rfl⟩, ⟨_, _, rfl, rfl⟩, ⟨_, _, rfl, rfl⟩⟩, rfl, Nat.le_refl _, hpi, hti, rfl, rfl, rfl, by k_ne, by simp only [AllLt]; assumption⟩)
    · rintro q m₁ l₁ h₁ tk₁ F8 N8 ⟨D, pi', ti', ob, ⟨f1, f2, f3, f4, f5, f6, ⟨t7, f7⟩, ⟨t8, f8⟩, ⟨t9, k9, f9, rfl⟩, ⟨t10, k10, f10, rfl⟩⟩, rfl, g1, g2, g3, hseg, rfl, rfl, nD, lD⟩
      have hm := with_cons f1 (with_cons f2 (with_cons f3 (with_cons f4 (with_cons f5 (with_cons f6 (with_cons f7 (with_cons f8 (with_cons f9 (with_cons f10 rfl)))))))))
      rw [hm] at F8
      replace F8 : Fr g L' _ _ := F8
      replace N8 : News g L' _ _ := N8
      clear hm f1 f2 f3 f4 f5 f6 f7 f8 f9 f10
      clear F5 N5
      by_cases hA : pi' < us.length ∧ ti' < vs.length
      · have hlj : pi' < ps.length := by omega
        have hlt' : ti' < ts.length := by omega
        obtain ⟨pa, pv, px, hpu, hpm, hpe⟩ := elsIn_at hps (List.getElem?_eq_getElem hlj)
        obtain ⟨qa, qv, qx, hqu, hqm, hqe⟩ := elsIn_at hts (List.getElem?_eq_getElem hlt')
        have hp7 := h7 _ (List.getElem_mem hlj)
        have hq7 := h7' _ (List.getElem_mem hlt')
        have hpd := drop_some (List.getElem?_eq_getElem hlj)
        have hqd := drop_some (List.getElem?_eq_getElem hlt')
        generalize ps[pi'] = pk at hpe hp7 hpd
        generalize ts[ti'] = ql at hqe hq7 hqd
        by_cases k5 : pk = 5
        · k_steps
          refine ⟨?_⟩
          with_unfolding_all refine' For_invV g ?k1 ?k2 ?_
          (case k1 => rfl)
          (case k2 => rfl)
          k_steps
          refine ⟨?_⟩
          rename IsRange _ _ _ _ _ _ _ _ => R7
          rename Fr _ _ _ _ => F7
          rename News _ _ _ _ => N7
          have hsg : segs b (ps.drop pi) (ts.drop ti) = segs b (5 :: ps.drop (pi' + 1)) (ts.drop ti') := by rw [hseg, hpd, k5]
          refine loop_M (fun i m l => ∃ el2 od2, FrS m x T memo D pt b us.length vs.length pi' ti' ∧ (Memo w (el2 ++ el) od2 fun i j => segs b (ps.drop i) (ts.drop j)) ∧ NeOne memo (el2 ++ el) ∧ (∀ q ∈ el2, q.1 ∉ ((memo, od) :: (x, instObj 262 d) :: (d, mdict w ns t1 t2 t3 pt n) :: (pt, tupOf us.toArray) :: (T, tupOf vs.toArray) :: el).map (·.1)) ∧ (∀ j < i, segs b (ps.drop (pi' + 1)) (ts.drop (ti' + j)) = false) ∧
              l = (D, key2 pi ti ta tb) :: (memo, od2) :: (x, instObj 262 d) :: (d, mdict w ns t1 t2 t3 pt n) :: (pt, tupOf us.toArray) :: (T, tupOf vs.toArray) :: (el2 ++ el))
            (iterOf_range rfl R7 (small_one (by omega) (by omega) (by omega) (by omega)) (rangeSize_nat _ _)) F7 N7 (fun _ h => nomatch h) ?_ ?_ ?_
          · exact ⟨[], od, ⟨by with_unfolding_all rfl, by with_unfolding_all rfl, by with_unfolding_all rfl, by with_unfolding_all rfl, by with_unfolding_all rfl, by with_unfolding_all rfl, ⟨_, by with_unfolding_all rfl⟩, ⟨_, by with_unfolding_all rfl⟩, ⟨_, _, by with_unfolding_all rfl, by first | rfl | omega⟩, ⟨_, _, by with_unfolding_all rfl, by first | rfl | omega⟩⟩, ⟨xs, hM⟩, n5, (fun _ h => nomatch h), (fun _ h => absurd h (Nat.not_lt_zero _)), rfl⟩
          · rintro i v m₂ l₂ I oI h₂ tk₂ hi ⟨t11, rfl⟩ ⟨el2, od2, ⟨f1, f2, f3, f4, f5, f6, ⟨t7, f7⟩, ⟨t8, f8⟩, ⟨t9, k9, f9, rfl⟩, ⟨t10, k10, f10, rfl⟩⟩, hM2, e2n, hoff2, hfal, rfl⟩ hneI F9 N9
            simp only [NeOne] at hneI
            obtain ⟨nI1, nI2, nI3, nI4, nI5, nI6, nI7⟩ := hneI
            have hps2 := hps.mono (fun q hq => List.mem_append_right el2 hq)
            have hts2 := hts.mono (fun q hq => List.mem_append_right el2 hq)
            have hm := with_cons f1 (with_cons f2 (with_cons f3 (with_cons f4 (with_cons f5 (with_cons f6 (with_cons f7 (with_cons f8 (with_cons f9 (with_cons f10 rfl)))))))))
            rw [hm] at F9
            replace F9 : Fr g L' _ _ := F9
            replace N9 : News g L' _ _ := N9
            clear hm f1 f2 f3 f4 f5 f6 f7 f8 f9 f10
            k_steps
            · rename segs b (ps.drop (pi' + 1)) (ts.drop (ti' + i)) = true => hst
              have hV : Value.bool true = Value.bool (segs b (ps.drop pi) (ts.drop ti)) := by rw [hsg, star_true hst (by omega)]
              walk_at "s endl"
            · rename segs b (ps.drop (pi' + 1)) (ts.drop (ti' + i)) = false => hst
              refine turnM_next ((D, key2 pi ti ta tb) :: (memo, od3) :: (x, instObj 262 d) :: (d, mdict w ns t1 t2 t3 pt n) :: (pt, tupOf us.toArray) :: (T, tupOf vs.toArray) :: (el4 ++ el)) (by assumption) (by assumption) (by k_memK) (by walk_at "m in") (by walk_at "m all") ⟨el4, od3, ⟨by with_unfolding_all rfl, by with_unfolding_all rfl, by with_unfolding_all rfl, by with_unfolding_all rfl, by with_unfolding_all rfl, by with_unfolding_all rfl, ⟨_, by with_unfolding_all rfl⟩, ⟨_, by with_unfolding_all rfl⟩, ⟨_, _, by with_unfolding_all rfl, by first | rfl | omega⟩, ⟨_, _, by with_unfolding_all rfl, by first | rfl | omega⟩⟩, ⟨xs3, hM3⟩, e3n, hoff3, ?_, rfl⟩
              intro j hj
              by_cases e : j = i
              · rw [e]; exact hst
              · exact hfal j (by omega)
          · rintro m₂ l₂ h₂ tk₂ ⟨el2, od2, ⟨f1, f2, f3, f4, f5, f6, ⟨t7, f7⟩, ⟨t8, f8⟩, ⟨t9, k9, f9, rfl⟩, ⟨t10, k10, f10, rfl⟩⟩, hM2, e2n, hoff2, hfal, rfl⟩ F9 N9
            have hm := with_cons f1 (with_cons f2 (with_cons f3 (with_cons f4 (with_cons f5 (with_cons f6 (with_cons f7 (with_cons f8 (with_cons f9 (with_cons f10 rfl)))))))))
            rw [hm] at F9
            replace F9 : Fr g L' _ _ := F9
            replace N9 : News g L' _ _ := N9
            clear hm f1 f2 f3 f4 f5 f6 f7 f8 f9 f10
            obtain ⟨xs2, hM2⟩ := hM2
            k_steps
            have hV : Value.bool false = Value.bool (segs b (ps.drop pi) (ts.drop ti)) := by rw [hsg, star_false (fun j hj => hfal j (by omega)) (by omega)]
            have hM3 := hM2
            have hoff3 := hoff2
            walk_at "s endl2"
        · by_cases k4 : pk = 4
          · k_steps
            refine step2_next (ps.length - (pi' + 1)) (by assumption) (by assumption) (by omega) ⟨D, pi' + 1, ti' + 1, _, ⟨by with_unfolding_all rfl, by with_unfolding_all rfl, by with_unfolding_all rfl, by with_unfolding_all rfl, by with_unfolding_all rfl, by with_unfolding_all rfl, ⟨_, by with_unfolding_all rfl⟩, ⟨_, by with_unfolding_all rfl⟩, ⟨_, _, by with_unfolding_all rfl, by first | rfl | omega⟩, ⟨_, _, by with_unfolding_all rfl, by first | rfl | omega⟩⟩, rfl, by omega, by omega, by omega, ?_, rfl, rfl, nD, lD⟩
            rw [hseg, hpd, hqd, segs, if_neg k5, k4]; simp
          · by_cases kq : pk = ql
            · k_steps
              refine step2_next (ps.length - (pi' + 1)) (by assumption) (by assumption) (by omega) ⟨D, pi' + 1, ti' + 1, _, ⟨by with_unfolding_all rfl, by with_unfolding_all rfl, by with_unfolding_all rfl, by with_unfolding_all rfl, by with_unfolding_all rfl, by with_unfolding_all rfl, ⟨_, by with_unfolding_all rfl⟩, ⟨_, by with_unfolding_all rfl⟩, ⟨_, _, by with_unfolding_all rfl, by first | rfl | omega⟩, ⟨_, _, by with_unfolding_all rfl, by first | rfl | omega⟩⟩, rfl, by omega, by omega, by omega, ?_, rfl, rfl, nD, lD⟩
              rw [hseg, hpd, hqd, segs, if_neg k5, kq]; simp
            · k_steps
              have hV : Value.bool false = Value.bool (segs b (ps.drop pi) (ts.drop ti)) := by rw [hseg, hpd, hqd, segs, if_neg k5]; simp [k4, kq]
              walk_at "s endv"
      · k_steps
        all_goals (
          refine ⟨?_⟩
          have hE : pi' = us.length ∨ ti' = vs.length := by omega
          clear hA
          refine While_inv2 (n₀ := ps.length - pi') (fun q m l => ∃ pj, FrS m x T memo D pt b us.length vs.length pj ti' ∧ q = ps.length - pj ∧ pi' ≤ pj ∧ pj ≤ ps.length ∧ (pj = us.length ∨ ti' = vs.length) ∧ segs b (ps.drop pi) (ts.drop ti) = segs b (ps.drop pj) (ts.drop ti') ∧
            l = (D, key2 pi ti ta tb) :: (memo, od) :: (x, instObj 262 d) :: (d, mdict w ns t1 t2 t3 pt n) :: (pt, tupOf us.toArray) :: (T, tupOf vs.toArray) :: el) F8 N8 ⟨pi', ⟨rfl, rfl, rfl, rfl, rfl, rfl, ⟨_, rfl⟩, ⟨_, rfl⟩, ⟨_, _, rfl, rfl⟩, ⟨_, _, rfl, rfl⟩⟩, rfl, Nat.le_refl _, g2, hE, hseg, rfl⟩ ?_ (by passes_own)
          clear hE hseg F8 N8
          rintro q m₂ l₂ h₂ tk₂ F8 N8 ⟨pj, ⟨f1, f2, f3, f4, f5, f6, ⟨t7, f7⟩, ⟨t8, f8⟩, ⟨t9, k9, f9, rfl⟩, ⟨t10, k10, f10, rfl⟩⟩, rfl, g4, g5, hE, hseg, rfl⟩
          have hm := with_cons f1 (with_cons f2 (with_cons f3 (with_cons f4 (with_cons f5 (with_cons f6 (with_cons f7 (with_cons f8 (with_cons f9 (with_cons f10 rfl)))))))))
          rw [hm] at F8
          replace F8 : Fr g L' _ _ := F8
          replace N8 : News g L' _ _ := N8
          clear hm f1 f2 f3 f4 f5 f6 f7 f8 f9 f10
          by_cases hB : pj < us.length
          · have hlj : pj < ps.length := by omega
            obtain ⟨pa, pv, px, hpu, hpm, hpe⟩ := elsIn_at hps (List.getElem?_eq_getElem hlj)
            have hp7 := h7 _ (List.getElem_mem hlj)
            have hpd := drop_some (List.getElem?_eq_getElem hlj)
            generalize ps[pj] = pk at hpe hp7 hpd
            by_cases k5 : pk = 5
            · k_steps
              refine step2_next (ps.length - (pj + 1)) (by assumption) (by assumption) (by omega) ⟨pj + 1, ⟨by with_unfolding_all rfl, by with_unfolding_all rfl, by with_unfolding_all rfl, by with_unfolding_all rfl, by with_unfolding_all rfl, by with_unfolding_all rfl, ⟨_, by with_unfolding_all rfl⟩, ⟨_, by with_unfolding_all rfl⟩, ⟨_, _, by with_unfolding_all rfl, by first | rfl | omega⟩, ⟨_, _, by with_unfolding_all rfl, by first | rfl | omega⟩⟩, rfl, by omega, by omega, by omega, ?_, rfl⟩
              have h3 : ti' = ts.length := by
                rcases hE with e | e
                · exact absurd hB (by rw [e]; exact Nat.lt_irrefl _)
                · exact e.trans hvl
              rw [hseg, hpd, k5, h3, List.drop_length]; simp [segs, starAny]
            · have hk : pj < us.length → ∃ pk, ps.drop pj = pk :: ps.drop (pj + 1) ∧ ¬ pk = 5 := fun _ => ⟨pk, hpd, k5⟩
              k_steps
              all_goals first | walk_at "s end" | (exfalso; omega)
          · have hk : pj < us.length → ∃ pk, ps.drop pj = pk :: ps.drop (pj + 1) ∧ ¬ pk = 5 := fun h => absurd h hB
            k_steps
            all_goals first | walk_at "s end" | (exfalso; omega))
    · passes_own
  · walk_at "m out"
    refine' leaveM_ (by assumption) (by assumption) rfl (od, []) ⟨xs, hM⟩ rfl ?M ?O
    (case M => walk_at "m in")
    (case O => walk_at "m off")
end

end
section
local macro_rules | `(tactic| walk_at "compareOp In ref ref") => loose `(tactic| (k_here; (with_reducible show wpAny _ _ (compareOp CmpOp.In (Value.ref _) (Value.ref _)) _ _ _); k_dflt (refine' memo_in ?N ?m ?e ?M ?lo ?k ?u ?h1 ?h2; (case N => k_asm); (case m => k_mem); (case M => assumption); (case e => walk_at "m inn"); (case lo => assumption); (case k => k_mem); (case u => k_units)); (case' h1 => k_whole); (case' h1 => intro hs9 tk9); (case' h2 => k_whole); (case' h2 => intro tk9)))
local macro_rules | `(tactic| walk_at "subscriptTail Name Name ref ref") => `(tactic| (k_here; (with_reducible show wpAny _ _ (subscriptTail _ _ (Value.ref _) (Value.ref _)) _ _ _); k_dflt (refine' memo_get ?N ?m ?e ?M ?k ?u ?s ?_ ?r; (case N => k_asm); (case m => k_mem); (case M => assumption); (case e => walk_at "m inn"); (case k => k_mem); (case u => k_units); (case s => assumption); (case r => with_unfolding_all rfl)); k_whole; intro tk9))
local macro_rules | `(tactic| walk_at "call builtin:len") => `(tactic| (k_here; (with_reducible show wpAny _ _ (call (Value.builtin "len") [Value.ref _]) _ _ _); k_dflt (refine' ktm_lenK ?N ?m ?z ?e ?_; (case N => k_asm); (case m => k_mem); (case e => rfl); (case z => omega)); k_whole))
local macro_rules | `(tactic| walk_at "exec While") => `(tactic| (k_here; refine stop_in ?_))
local macro_rules | `(tactic| walk_at "exec While BoolOp") => `(tactic| (k_here; refine stop_in ?_))
local macro_rules | `(tactic| walk_at "m pat") => `(tactic| (k_here; (with_reducible show wpAny _ _ (subscriptTail _ _ (Value.ref _) (Value.int _ _)) _ _ _); k_dflt (refine' tup_item ?N ?m ?v ?e ?z ?_ ?s ?g; (case N => k_asm); (case m => k_mem); (case v => assumption); (case e => first | rfl | omega); (case z => omega); (case s => with_unfolding_all rfl); (case g => (intro _; with_unfolding_all rfl))); k_whole))
local macro_rules | `(tactic| walk_at "m fst") => `(tactic| (k_here; (with_reducible show wpAny _ _ (subscriptTail _ _ (Value.ref _) (Value.int _ _)) _ _ _); k_dflt (refine' tup_first ?N ?m ?_ ?s ?g; (case N => k_asm); (case m => walk_at "m tail"); (case s => with_unfolding_all rfl); (case g => (intro _; with_unfolding_all rfl))); k_whole))
local macro_rules | `(tactic| walk_at "subscriptTail Name Name ref int") => `(tactic| walk_at "m pat")
local macro_rules | `(tactic| walk_at "subscriptTail Name Constant ref int") => `(tactic| walk_at "m fst")
local macro_rules | `(tactic| walk_at "m updF") => `(tactic| first | (refine' UpdF.head ?a; (case a => walk_at "m all")) | (refine' UpdF.tail ?a ?b; (case a => k_ne); (case b => walk_at "m updF")))
local macro_rules | `(tactic| walk_at "setItem ref ref") => loose `(tactic| (k_here; (with_reducible show wpAny _ _ (setItem (Value.ref _) (Value.ref _) _) _ _ _); k_dflt (refine' memo_set ?F ?N ?U ?e ?M ?k ?u ?_; (case F => k_asm); (case N => k_asm); (case M => assumption); (case U => walk_at "m updF"); (case e => walk_at "m inn"); (case k => k_mem); (case u => k_units)); k_whole; intro h9 od9 tk9 F9 N9 hM9; (try dsimp only at N9); (try k_sweep)))
local macro_rules | `(tactic| walk_at "m stars") => loose `(tactic| (k_here; k_dflt (first
  | (refine' is_stars_t ?X ?e ?s ?k ?_; (case X => exact X'.keeps (Fr.keep (by k_asm))); (case e => assumption); (case s => assumption); (case k => assumption); k_whole)
  | (refine' is_stars_f ?X ?e ?s ?k ?_; (case X => exact X'.keeps (Fr.keep (by k_asm))); (case e => assumption); (case s => assumption); (case k => assumption); k_whole)
  | (refine' is_star_t ?X ?e ?s ?k ?_; (case X => exact X'.keeps (Fr.keep (by k_asm))); (case e => assumption); (case s => assumption); (case k => assumption); k_whole)
  | (refine' is_star_f ?X ?e ?s ?k ?_; (case X => exact X'.keeps (Fr.keep (by k_asm))); (case e => assumption); (case s => assumption); (case k => assumption); k_whole))))
local macro_rules | `(tactic| walk_at "m neq") => `(tactic| (k_here; k_dflt (first
  | (refine' ne_elem_t ?a ?b ?c ?d ?e ?f ?g ?_; (case a => assumption); (case b => assumption); (case c => assumption); (case d => assumption); (case e => assumption); (case f => assumption); (case g => assumption); k_whole)
  | (refine' ne_elem_f ?a ?b ?c ?d ?e ?f ?g ?_; (case a => assumption); (case b => assumption); (case c => assumption); (case d => assumption); (case e => assumption); (case f => assumption); (case g => assumption); k_whole))))
local macro_rules | `(tactic| walk_at "compareOp Is") => `(tactic| walk_at "m stars")
local macro_rules | `(tactic| walk_at "compareOp Is ref") => `(tactic| walk_at "m stars")
local macro_rules | `(tactic| walk_at "compareOp NotEq") => `(tactic| walk_at "m neq")

section
local macro_rules | `(tactic| walk_at "call ref") => loose `(tactic| (
  k_here; (with_reducible show wpAny _ _ (call (Value.ref 259) _ _) _ _ _); k_dflt (
  (with_unfolding_all refine' con_use (ih (ps.length - (pi + 1) + (ts.length - ti)) (by omega) (pi := (pi + 1)) (ti := ti) rfl ?a1 ?a2 hps hts ?a5 ?a6 ⟨xs, hM⟩ lo n5) ?B ?Xb ?Tb ?F ?N ?hf ?hke ?hd ?hu ?hro ?hpick ?hoff ?hup ?_);
  walk_at "m use"; (case a1 => omega); (case a2 => omega); (case a5 => omega); (case a6 => omega); k_whole;
  intro x9 h9 tk9 hP9 F9 N9 hne9; obtain ⟨od3, el3⟩ := x9; obtain ⟨xs3, hM3⟩ := hP9; replace N9 := news_mid5 N9; (try dsimp only at N9 hne9 hM3); (try dsimp only);
  (have e3n : NeOne memo (el3 ++ el) := neOne_app (neAll_one hne9 (q := (memo, od)) (by k_memK)) n5);
  (have hoff3 : ∀ q ∈ el3, q.1 ∉ ((memo, od) :: (x, instObj 262 d) :: (d, mdict w ns t1 t2 t3 pt n) :: (pt, tupOf us.toArray) :: (T, tupOf vs.toArray) :: el).map (·.1) := off_of hne9 (by walk_at "m has"));
  (have hps3 := hps.mono (fun q hq => List.mem_append_right el3 hq)); (have hts3 := hts.mono (fun q hq => List.mem_append_right el3 hq)); clear hne9;
  (try k_sweep); (try k_fold); walk_say "CONTRACT could A")))
local macro_rules | `(tactic| walk_at "call ref") => loose `(tactic| (
  k_here; (with_reducible show wpAny _ _ (call (Value.ref 259) _ _) _ _ _); k_dflt (
  (with_unfolding_all refine' con_use (ih (ps.length - (pi + 1) + (ts.length - (ti + 1))) (by omega) (pi := (pi + 1)) (ti := (ti + 1)) rfl ?a1 ?a2 hps hts ?a5 ?a6 ⟨xs, hM⟩ lo n5) ?B ?Xb ?Tb ?F ?N ?hf ?hke ?hd ?hu ?hro ?hpick ?hoff ?hup ?_);
  walk_at "m use"; (case a1 => omega); (case a2 => omega); (case a5 => omega); (case a6 => omega); k_whole;
  intro x9 h9 tk9 hP9 F9 N9 hne9; obtain ⟨od3, el3⟩ := x9; obtain ⟨xs3, hM3⟩ := hP9; replace N9 := news_mid5 N9; (try dsimp only at N9 hne9 hM3); (try dsimp only);
  (have e3n : NeOne memo (el3 ++ el) := neOne_app (neAll_one hne9 (q := (memo, od)) (by k_memK)) n5);
  (have hoff3 : ∀ q ∈ el3, q.1 ∉ ((memo, od) :: (x, instObj 262 d) :: (d, mdict w ns t1 t2 t3 pt n) :: (pt, tupOf us.toArray) :: (T, tupOf vs.toArray) :: el).map (·.1) := off_of hne9 (by walk_at "m has"));
  (have hps3 := hps.mono (fun q hq => List.mem_append_right el3 hq)); (have hts3 := hts.mono (fun q hq => List.mem_append_right el3 hq)); clear hne9;
  (try k_sweep); (try k_fold); walk_say "CONTRACT could A")))
local macro_rules | `(tactic| walk_at "call ref") => loose `(tactic| (
  k_here; (with_reducible show wpAny _ _ (call (Value.ref 259) _ _) _ _ _); k_dflt (
  (with_unfolding_all refine' con_use (ih (ps.length - pi + (ts.length - (ti + 1))) (by omega) (pi := pi) (ti := ti + 1) rfl ?a1 ?a2 hps3 hts3 ?a5 ?a6 ⟨xs3, hM3⟩ lo e3n) ?B ?Xb ?Tb ?F ?N ?hf ?hke ?hd ?hu ?hro ?hpick ?hoff ?hup ?_);
  walk_at "m use"; (case a1 => omega); (case a2 => omega); (case a5 => omega); (case a6 => omega); k_whole;
  intro x9 h9 tk9 hP9 F9 N9 hne9; obtain ⟨od5, el5⟩ := x9; obtain ⟨xs5, hM5⟩ := hP9; replace N9 := news_mid5 N9; (try dsimp only at N9 hne9 hM5); (try dsimp only);
  (have e5n : NeOne memo ((el5 ++ el3) ++ el) := by rw [List.append_assoc]; exact neOne_app (neAll_one hne9 (q := (memo, od3)) (by k_memK)) e3n);
  (have hoff5 : ∀ q ∈ el5 ++ el3, q.1 ∉ ((memo, od) :: (x, instObj 262 d) :: (d, mdict w ns t1 t2 t3 pt n) :: (pt, tupOf us.toArray) :: (T, tupOf vs.toArray) :: el).map (·.1) := List.forall_mem_append.mpr ⟨off_of hne9 (by walk_at "m has"), hoff3⟩);
  (simp only [← List.append_assoc] at N9 hM5); clear hne9; (generalize el5 ++ el3 = el6 at N9 hM5 e5n hoff5);
  (try k_sweep); (try k_fold); walk_say "CONTRACT could B")))
local macro_rules | `(tactic| walk_at "c end0") => loose `(tactic| (
  walk_at "m outw";
  refine' leaveM_ (by assumption) (by assumption) rfl (od9, (_, key2 pi ti ta tb) :: []) (hM9 _ _ hM hV (by omega) (by omega) List.mem_cons_self (fun q hq => List.mem_cons_of_mem _ hq)) hV ?M ?O;
  (case M => walk_at "m in");
  (case O => (refine List.forall_mem_cons.mpr (And.intro (not_in ?_) (fun _ h => nomatch h)); walk_at "m ne"))))
local macro_rules | `(tactic| walk_at "c end3") => loose `(tactic| (
  walk_at "m outw";
  refine' leaveM_ (by assumption) (by assumption) rfl (od9, (_, key2 pi ti ta tb) :: el3) (hM9 _ _ hM3 hV (by omega) (by omega) List.mem_cons_self (fun q hq => List.mem_cons_of_mem _ hq)) hV ?M ?O;
  (case M => walk_at "m in");
  (case O => (refine List.forall_mem_cons.mpr (And.intro (not_in ?_) hoff3); walk_at "m ne"))))
local macro_rules | `(tactic| walk_at "c end5") => loose `(tactic| (
  walk_at "m outw";
  refine' leaveM_ (by assumption) (by assumption) rfl (od9, (_, key2 pi ti ta tb) :: el6) (hM9 _ _ hM5 hV (by omega) (by omega) List.mem_cons_self (fun q hq => List.mem_cons_of_mem _ hq)) hV ?M ?O;
  (case M => walk_at "m in");
  (case O => (refine List.forall_mem_cons.mpr (And.intro (not_in ?_) hoff5); walk_at "m ne"))))
local macro_rules | `(tactic| walk_at "subscriptTail Name Name ref int") => `(tactic| (k_here; refine stop_in ?_))
theorem could_con (w : World) {x d pt T memo : Addr} {ns ps ts : List Int} {t1 t2 t3 : Tok} {n : Nat} {us vs : List Value}
    (h4 : ps.length ≤ 4) (h4' : ts.length ≤ 4) (h7 : ∀ k ∈ ps, 0 ≤ k ∧ k < 7) (h7' : ∀ k ∈ ts, k = 0 ∨ k = 1 ∨ k = 2 ∨ k = 3 ∨ k = 6)
    (n1 : @Ne Nat memo x) (n2 : @Ne Nat memo d) (n3 : @Ne Nat memo pt) (n4 : @Ne Nat memo T) : ∀ (N : Nat) {pi ti : Nat} {a c : Int} {ta tb : Tok} {el : List (Addr × Obj)} {od : Obj}, ps.length - pi + (ts.length - ti) = N → a = pi → c = ti →
    ElsIn el ps us → ElsIn el ts vs → pi ≤ ps.length → ti ≤ ts.length → (Memo w el od fun i j => could (ps.drop i) (ts.drop j)) → (memo == sysModules) = false → NeOne memo el →
    Con w 259 [.ref x, .ref T, .int a ta, .int c tb, .ref memo] [] (roM w x d pt T ns t1 t2 t3 n us vs el) [(memo, od)] (20 * (ps.length - pi + (ts.length - ti)) + 20) (100 * (ps.length - pi + (ts.length - ti)) + 100)
      (fun (y : Obj × List (Addr × Obj)) => Memo w (y.2 ++ el) y.1 fun i j => could (ps.drop i) (ts.drop j)) (fun y => [(memo, y.1)]) (fun y => y.2) (fun _ => .bool (could (ps.drop pi) (ts.drop ti))) := by
  intro N
  induction N using Nat.strongRecOn with | _ N ih
  rintro pi ti a c ta tb el od hN rfl rfl hps hts hpi hti ⟨xs, hM⟩ lo n5
  subst hN
  have hvl := hts.length
  have hul := hps.length
  unfold roM
  walk_at "m enter"
  k_steps
  · rename (ti : Int) = _ => e1
    have hV := could_v1 (ps := ps) (ts := ts) (pi := pi) hul hvl e1
    walk_at "c end0"
  · rename (us.length : Int) ≤ (pi : Int) => e1
    have hV := could_v2 (ts := ts) (ti := ti) hul e1
    walk_at "c end0"
  · refine ⟨?_⟩
    have hlj : pi < ps.length := by omega
    have hlt' : ti < ts.length := by omega
    obtain ⟨pa, pv, px, hpu, hpm, hpe⟩ := elsIn_at hps (List.getElem?_eq_getElem hlj)
    obtain ⟨qa, qv, qx, hqu, hqm, hqe⟩ := elsIn_at hts (List.getElem?_eq_getElem hlt')
    have hp7 := h7 _ (List.getElem_mem hlj)
    have hq7 := h7' _ (List.getElem_mem hlt')
    have hpd := drop_some (List.getElem?_eq_getElem hlj)
    have hqd := drop_some (List.getElem?_eq_getElem hlt')
    generalize ps[pi] = pk at hpe hp7 hpd
    generalize ts[ti] = ql at hqe hq7 hqd
    by_cases k5 : pk = 5
    · walk_at "m pat"
      k_steps
      · rename could (ps.drop (pi + 1)) (ts.drop ti) = true => hc
        have hV : Value.bool (could (ps.drop (pi + 1)) (ts.drop ti)) = Value.bool (could (ps.drop pi) (ts.drop ti)) := (by rw [hc, hpd, k5]; simp only [could, if_true])
        walk_at "c end3"
      · have hV : Value.bool (could (ps.drop pi) (ts.drop (ti + 1))) = Value.bool (could (ps.drop pi) (ts.drop ti)) := by rw [hpd, k5]; simp only [could, if_true]
        walk_at "c end5"
    · by_cases k4 : pk = 4
      · walk_at "m pat"
        k_steps
        have hV : Value.bool (could (ps.drop (pi + 1)) (ts.drop (ti + 1))) = Value.bool (could (ps.drop pi) (ts.drop ti)) := by rw [hpd, hqd, could, if_neg k5, k4]; simp
        walk_at "c end3"
      · by_cases kq : pk = ql
        · walk_at "m pat"
          k_steps
          refine ⟨?_⟩
          walk_at "m pat"
          k_steps
          have hV : Value.bool (could (ps.drop (pi + 1)) (ts.drop (ti + 1))) = Value.bool (could (ps.drop pi) (ts.drop ti)) := by rw [hpd, hqd, could, if_neg k5, kq]; simp
          walk_at "c end3"
        · walk_at "m pat"
          k_steps
          refine ⟨?_⟩
          walk_at "m pat"
          k_steps
          have hV : Value.bool false = Value.bool (could (ps.drop pi) (ts.drop ti)) := by rw [hpd, hqd, could, if_neg k5]; simp [k4, kq]
          walk_at "c end0"
  · walk_at "m out"
    refine' leaveM_ (by assumption) (by assumption) rfl (od, []) ⟨xs, hM⟩ rfl ?M ?O
    (case M => walk_at "m in")
    (case O => walk_at "m off")
end

end
section
local macro_rules | `(tactic| walk_at "slice1") => `(tactic| (
  k_here; (with_reducible show wpAny _ _ (subscriptTail _ (PySem.Expr.Slice (some _) none none _) (Value.ref _) (Value.ref _)) _ _ _); k_dflt (
  (refine' slice1 ?F ?N ?t ?v ?_ ?s ?g; (case F => k_asm); (case N => k_asm); (case t => k_mem); (case v => omega); (case s => with_unfolding_all rfl); (case g => (intro _; with_unfolding_all rfl))); k_whole); intro D' h' F' N' l1; (try k_lt l1); (try k_sweep)))
local macro_rules | `(tactic| walk_at "subscriptTail Name Slice ref ref") => `(tactic| walk_at "slice1")
local macro_rules | `(tactic| walk_at "subscriptTail Call Slice ref ref") => `(tactic| walk_at "slice1")
local macro_rules | `(tactic| walk_at "m cut") => loose `(tactic| first | (obtain ⟨_, hne9⟩ := hne9; walk_at "m cut") | skip)
local macro_rules | `(tactic| walk_at "call ref") => loose `(tactic| (
  k_here; (with_reducible show wpAny _ _ (call (Value.ref 198) _ _) _ _ _); k_dflt (
  (with_unfolding_all refine' con_use (path_con _ ?a1 ?a2) ?B ?Xb ?Tb ?F ?N ?hf ?hke ?hd ?hu ?hro ?hpick ?hoff ?hup ?_);
  walk_at "m use"; (case a1 => assumption); (case a2 => assumption); k_whole;
  intro x9 h9 tk9 hP9 F9 N9 hne9; obtain ⟨a9, vs9, tups9⟩ := x9; replace N9 := news_swap N9; (try dsimp only [List.cons_append, List.nil_append] at N9); (try dsimp only at hP9); (have hl9 : vs9.length ≤ 4 := by rw [hP9.length]; assumption); (rw [NeAll] at hne9); (simp only [neAll_consL, neAll_nil_iff, NeOne, and_true, and_assoc] at hne9); walk_at "m cut"; (try dsimp only); (try k_sweep); (try k_fold); walk_say "CONTRACT path")))

theorem lits_ok {ts : List Int} (h : ∀ k ∈ ts, k = 0 ∨ k = 1 ∨ k = 2 ∨ k = 3 ∨ k = 6) : ∀ k ∈ ts, 0 ≤ k ∧ k < 7 := fun k hk => by have := h k hk; omega
theorem news_rest {h₀ h : Heap} {L : Addr} {a : Addr × Obj} {y r : List (Addr × Obj)} (N : News h₀ L h ([a] ++ (y ++ r))) : News h₀ L h r := fun p hp => N p (List.mem_append_right _ (List.mem_append_right _ hp))
section
local macro_rules | `(tactic| walk_at "m cutl") => loose `(tactic| first | (obtain ⟨_, l5⟩ := l5; walk_at "m cutl") | skip)
local macro_rules | `(tactic| walk_at "call ref") => loose `(tactic| (
  k_here; (with_reducible show wpAny _ _ (call (Value.ref 252) _ _) _ _ _); k_dflt (
  (rename _ < _ ∧ _ => l5); walk_at "m cutl";
  (with_unfolding_all refine' con_use (seg_both _ (ps := ps) (ts := ts) (vs := vs9) h4 h4' h7 h7' ?a1 ?a2 ?a3 ?a4 _ (pi := 0) (ti := 0) (el := el ++ tups9) rfl rfl rfl ?a5 ?a6 (Nat.zero_le _) (Nat.zero_le _) ?a7 ?a8 ?a9).2 ?B ?Xb ?Tb ?F ?N ?hf ?hke ?hd ?hu ?hro ?hpick ?hoff ?hup ?_);
  walk_at "m use"; (case a1 => k_ne); (case a2 => k_ne); (case a3 => k_ne); (case a4 => k_ne); (case a5 => exact hps.mono (fun q hq => List.mem_append_left _ hq)); (case a6 => exact hP9.mono (fun q hq => List.mem_append_right _ hq)); (case a7 => exact memo_nil (by assumption)); (case a8 => assumption); (case a9 => exact allLt_neOne l5); k_whole;
  intro x8 h9 tk9 hP8 F9 N9 hne8; obtain ⟨od3, el3⟩ := x8; replace N9 := news_rest N9; clear hne8 hP8; (try dsimp only at N9); (try dsimp only);
  (try k_sweep); (try k_fold); walk_say "CONTRACT seg")))
local macro_rules | `(tactic| walk_at "call ref") => loose `(tactic| (
  k_here; (with_reducible show wpAny _ _ (call (Value.ref 259) _ _) _ _ _); k_dflt (
  (rename _ < _ ∧ _ => l5); walk_at "m cutl";
  (with_unfolding_all refine' con_use (could_con _ (ps := ps) (ts := ts) (vs := vs9) h4 h4' h7 h7' ?a1 ?a2 ?a3 ?a4 _ (pi := 0) (ti := 0) (el := el ++ tups9) rfl rfl rfl ?a5 ?a6 (Nat.zero_le _) (Nat.zero_le _) ?a7 ?a8 ?a9) ?B ?Xb ?Tb ?F ?N ?hf ?hke ?hd ?hu ?hro ?hpick ?hoff ?hup ?_);
  walk_at "m use"; (case a1 => k_ne); (case a2 => k_ne); (case a3 => k_ne); (case a4 => k_ne); (case a5 => exact hps.mono (fun q hq => List.mem_append_left _ hq)); (case a6 => exact hP9.mono (fun q hq => List.mem_append_right _ hq)); (case a7 => exact memo_nil (by assumption)); (case a8 => assumption); (case a9 => exact allLt_neOne l5); k_whole;
  intro x8 h9 tk9 hP8 F9 N9 hne8; obtain ⟨od3, el3⟩ := x8; replace N9 := news_rest N9; clear hne8 hP8; (try dsimp only at N9); (try dsimp only);
  (try k_sweep); (try k_fold); walk_say "CONTRACT could")))
theorem match_con (w : World) {x d pt : Addr} {ps ts : List Int} {t t1 t2 t3 : Tok} {n : Nat} {us : List Value} {el : List (Addr × Obj)}
    (h4 : ps.length ≤ 4) (h4' : ts.length ≤ 4) (h7 : ∀ k ∈ ps, 0 ≤ k ∧ k < 7) (h7' : ∀ k ∈ ts, k = 0 ∨ k = 1 ∨ k = 2 ∨ k = 3 ∨ k = 6) (hps : ElsIn el ps us) :
    Con w 231 [.ref x, .str (wr ts) t] [] ((x, instObj 262 d) :: (d, mdict w ps t1 t2 t3 pt n) :: (pt, tupOf us.toArray) :: el) [] 250 1200
      (fun (_ : Unit) => True) (fun _ => []) (fun _ => []) (fun _ => .bool (segs false ps ts)) := by
  have h7q := lits_ok h7'
  walk_at "m enter"
  k_steps
  walk_at "m end0"
  trivial
theorem desc_con (w : World) {x d pt : Addr} {ps ts : List Int} {t t1 t2 t3 : Tok} {n : Nat} {us : List Value} {el : List (Addr × Obj)}
    (h4 : ps.length ≤ 4) (h4' : ts.length ≤ 4) (h7 : ∀ k ∈ ps, 0 ≤ k ∧ k < 7) (h7' : ∀ k ∈ ts, k = 0 ∨ k = 1 ∨ k = 2 ∨ k = 3 ∨ k = 6) (hps : ElsIn el ps us) :
    Con w 245 [.ref x, .str (wr ts) t] [] ((x, instObj 262 d) :: (d, mdict w ps t1 t2 t3 pt n) :: (pt, tupOf us.toArray) :: el) [] 250 1200
      (fun (_ : Unit) => True) (fun _ => []) (fun _ => []) (fun _ => .bool (segs true ps ts)) := by
  have h7q := lits_ok h7'
  walk_at "m enter"
  k_steps
  walk_at "m end0"
  trivial
theorem anc_con (w : World) {x d pt : Addr} {ps ts : List Int} {t t1 t2 t3 : Tok} {n : Nat} {us : List Value} {el : List (Addr × Obj)}
    (h4 : ps.length ≤ 4) (h4' : ts.length ≤ 4) (h7 : ∀ k ∈ ps, 0 ≤ k ∧ k < 7) (h7' : ∀ k ∈ ts, k = 0 ∨ k = 1 ∨ k = 2 ∨ k = 3 ∨ k = 6) (hps : ElsIn el ps us) :
    Con w 238 [.ref x, .str (wr ts) t] [] ((x, instObj 262 d) :: (d, mdict w ps t1 t2 t3 pt n) :: (pt, tupOf us.toArray) :: el) [] 250 1200
      (fun (_ : Unit) => True) (fun _ => []) (fun _ => []) (fun _ => .bool (segs false ps ts || could ps ts)) := by
  have h7q := lits_ok h7'
  walk_at "m enter"
  k_steps
  · rename segs false (List.drop 0 ps) (List.drop 0 ts) = true => hb
    have hV : Value.bool (segs false (List.drop 0 ps) (List.drop 0 ts)) = Value.bool (segs false ps ts || could ps ts) := by rw [hb, show segs false ps ts = true from hb]; rfl
    refine' leaveM_ (by assumption) (by assumption) rfl () trivial hV ?M ?O
    (case M => walk_at "m in")
    (case O => walk_at "m off")
  · rename segs false (List.drop 0 ps) (List.drop 0 ts) = false => hb
    have hV : Value.bool (could (List.drop 0 ps) (List.drop 0 ts)) = Value.bool (segs false ps ts || could ps ts) := by rw [show segs false ps ts = false from hb]; rfl
    walk_at "m outw"
    refine' leaveM_ (by assumption) (by assumption) rfl () trivial hV ?M ?O
    (case M => walk_at "m in")
    (case O => walk_at "m off")
end

end
section
abbrev toI (l : List Nat) : List Int := l.map fun (n : Nat) => (n : Int)
theorem any_toI {l : List Nat} {k : Int} {n : Nat} (e : k = (n : Int)) : (toI l).any (· == k) = l.contains n := by
  subst e
  rw [Bool.eq_iff_iff]
  simp only [List.any_eq_true, List.mem_map, beq_iff_eq, List.contains_eq_mem, decide_eq_true_eq]
  constructor
  · rintro ⟨x, ⟨m, hm, rfl⟩, h⟩
    have : m = n := by omega
    exact this ▸ hm
  · intro h
    exact ⟨_, ⟨n, h, rfl⟩, rfl⟩
section
variable {w : World} {A : Around} {E : Value → Shared → Prop} {s : Shared} {h₀ : Heap} {L a : Addr} {m : Str → Option Value} {news : List (Addr × Obj)}
theorem in_ints {vs : List Value} {ns : List Int} {ep : Nat} {k : Int} {t : Tok} {c : Bool} {Q : Value → Shared → Prop} (N : News h₀ L s.heap news) (hm : (a, listOf vs.toArray ep) ∈ news) (hi : IntsAre vs ns) (e : ns.any (· == k) = c) (h : Q (.bool c) s) :
    wpAny (model PySem.Challenge.rw_ez0048_01.row.prog w) A (compareOp .In (.int k t) (.ref a)) Q E s := in_list_ints (News.isList N hm) hi (by rw [e]; exact h)
theorem list_item {value slice : PySem.Expr} {vs : List Value} {ep i : Nat} {k : Int} {u : Tok} {v : Value} {Q : Value → Shared → Prop} (N : News h₀ L s.heap news) (hm : (a, listOf vs.toArray ep) ∈ news) (hv : vs[i]? = some v) (e : k = (i : Int)) (hz : i < 1000) (h : Q v s)
    (hs : subscripted slice false (.ref a) (.int k u) = operate [.ref a, .int k u] (getItem (.ref a) (.int k u))) (hg : ∀ r, letTemporaryGo value (.ref a) r = pure ()) :
    wpAny (model PySem.Challenge.rw_ez0048_01.row.prog w) A (subscriptTail value slice (.ref a) (.int k u)) Q E s := by
  subst e
  exact item_listL (News.isList N hm) (by omega) (by omega) (by simpa using hv) h hs hg
end
theorem intsAre_get {vs : List Value} {ns : List Int} (h : IntsAre vs ns) : ∀ {i : Nat} {k : Int}, ns[i]? = some k → ∃ t, vs[i]? = some (.int k t) := by
  induction h with
  | nil => intro i k h; simp at h
  | cons n t _ ih =>
    intro i k h
    cases i with
    | zero => simp at h; subst h; exact ⟨t, rfl⟩
    | succ i => simpa using ih (by simpa using h)
theorem open_step {ps : List Int} {places : List Nat} {i : Nat} : (List.range (i + 1)).filter (isOpen ps places) = (List.range i).filter (isOpen ps places) ++ (if isOpen ps places i then [i] else []) := by
  rw [List.range_succ, List.filter_append]
  congr 1
  cases h : isOpen ps places i <;> simp [h]
theorem toI_app (l r : List Nat) : toI (l ++ r) = toI l ++ toI r := List.map_append
theorem open_mem {ps : List Int} {places : List Nat} {i j : Nat} (h : j < i) : ((List.range i).filter (isOpen ps places)).contains j = isOpen ps places j := by
  rw [Bool.eq_iff_iff]; simp [h]
theorem open_in {ps : List Int} {places : List Nat} {i : Nat} (h : places.contains i = true) : isOpen ps places i = true := by
  cases i with
  | zero => exact h
  | succ j => rw [isOpen, h]; rfl
theorem open_succ {ps : List Int} {places : List Nat} {j : Nat} {pk : Int} (h : places.contains (j + 1) = false) (hk : ps[j]? = some pk) : isOpen ps places (j + 1) = (isOpen ps places j && decide (pk = 5)) := by
  rw [isOpen, h, hk]; simp; rfl
theorem open_yes {ps : List Int} {places qs : List Nat} {i : Nat} (hq : qs = (List.range i).filter (isOpen ps places)) (h : isOpen ps places i = true) : qs ++ [i] = (List.range (i + 1)).filter (isOpen ps places) := by
  rw [open_step, hq, h]; rfl
theorem open_no {ps : List Int} {places qs : List Nat} {i : Nat} (hq : qs = (List.range i).filter (isOpen ps places)) (h : isOpen ps places i = false) : qs = (List.range (i + 1)).filter (isOpen ps places) := by
  rw [open_step, hq, h]; simp
section
local macro_rules | `(tactic| walk_at "pyIter ref") => `(tactic| (k_here; refine stop_in ?_))
local macro_rules | `(tactic| walk_at "call type:range") => `(tactic| (k_here; k_dflt (refine' range1_rows ?F ?N ?_; (case F => k_asm); (case N => k_asm); k_whole); intro h' tk' t1' u1' v1' R' F' N' K'; (try k_sweep)))
local macro_rules | `(tactic| walk_at "exec For") => `(tactic| (k_here; refine stop_in ?_))
local macro_rules | `(tactic| walk_at "exec For Name Call cons nil") => `(tactic| (k_here; refine stop_in ?_))
local macro_rules | `(tactic| walk_at "compareOp In int ref") => `(tactic| (k_here; k_dflt (first
  | (refine' in_ints (c := true) ?N ?m ?i ?e ?_; (case N => k_asm); (case m => k_mem); (case i => assumption); (case e => assumption); k_whole)
  | (refine' in_ints (c := false) ?N ?m ?i ?e ?_; (case N => k_asm); (case m => k_mem); (case i => assumption); (case e => assumption); k_whole))))
local macro_rules | `(tactic| walk_at "subscriptTail Name BinOp ref int") => `(tactic| (k_here; (with_reducible show wpAny _ _ (subscriptTail _ _ (Value.ref _) (Value.int _ _)) _ _ _); k_dflt (refine' list_item ?N ?m ?v ?e ?z ?_ ?s ?g; (case N => k_asm); (case m => k_mem); (case v => assumption); (case e => first | rfl | omega); (case z => omega); (case s => with_unfolding_all rfl); (case g => (intro _; with_unfolding_all rfl))); k_whole))
theorem open_con (w : World) {a b : Addr} {vs us : List Value} {ps : List Int} {places : List Nat} {ep eq : Nat} (hI : IntsAre vs ps) (hJ : IntsAre us (toI places)) (h4 : ps.length ≤ 4) :
    Con w 303 [.ref a, .ref b] [] [(a, listOf vs.toArray ep), (b, listOf us.toArray eq)] [] 20 100 (fun (x : Addr × List Value × Nat) => IntsAre x.2.1 (toI (opened ps places))) (fun _ => [])
      (fun x => [(x.1, listOf x.2.1.toArray x.2.2)]) (fun x => .ref x.1) := by
  have hvl := hI.length
  walk_at "m enter"
  k_steps
  refine ⟨?_⟩
  with_unfolding_all refine' For_invV g ?k1 ?k2 ?_
  (case k1 => rfl)
  (case k2 => rfl)
  k_steps
  refine ⟨?_⟩
  rename IsRange _ _ _ _ _ _ _ _ => R7
  rename Fr _ _ _ _ => F7
  rename News _ _ _ _ => N7
  refine loop_M (fun i m l => ∃ D ws qs n, m (Str.ofString "pattern") = some (.ref a) ∧ m (Str.ofString "places") = some (.ref b) ∧ m (Str.ofString "found") = some (.ref D) ∧ @Ne Nat D a ∧ @Ne Nat D b ∧ IntsAre ws (toI qs) ∧ qs = (List.range i).filter (isOpen ps places) ∧ i ≤ ps.length + 1 ∧ l = [(D, listOf ws.toArray n), (a, listOf vs.toArray ep), (b, listOf us.toArray eq)])
    (iterOf_range rfl R7 (small_one (by omega) (by omega) (by omega) (by omega)) (rangeSize_nat _ _)) F7 N7 (fun _ h => nomatch h) ?_ ?_ ?_
  · exact ⟨_, [], [], _, by with_unfolding_all rfl, by with_unfolding_all rfl, by with_unfolding_all rfl, by k_ne, by k_ne, .nil, rfl, Nat.zero_le _, rfl⟩
  · rintro i v m₂ l₂ I oI h₂ tk₂ hi ⟨t, rfl⟩ ⟨D, ws, qs, n, f1, f2, f3, nDa, nDb, hW, hq, hi1, rfl⟩ hneI F9 N9
    simp only [NeOne, and_true] at hneI
    obtain ⟨nI1, nI2, nI3⟩ := hneI
    rw [Int.zero_add] at F9
    have hm := with_cons f1 (with_cons f2 (with_cons f3 rfl))
    rw [hm] at F9
    replace F9 : Fr g L' _ _ := F9
    replace N9 : News g L' _ _ := N9
    clear hm f1 f2 f3
    have hwl : ws.length ≤ 5 := by
      have h1 := hW.length
      have h2 : qs.length ≤ i := by rw [hq]; exact Nat.le_trans (List.length_filter_le _ _) (by simp)
      rw [toI, List.length_map] at h1
      omega
    have hnx := open_step (ps := ps) (places := places) (i := i)
    have hpl : (toI places).any (· == (i : Int)) = places.contains i := any_toI rfl
    cases hin : places.contains i with
    | true =>
      rw [hin] at hpl
      have hop := open_in (ps := ps) hin
      k_steps
      rename News _ _ _ _ => N8
      rw [List.push_toArray] at N8
      refine turnM_next [(D, listOf (ws ++ [Value.int ((i : Nat) : Int) t]).toArray (n + 1)), (a, listOf vs.toArray ep), (b, listOf us.toArray eq)] (by assumption) (by assumption) (by k_memK) (by walk_at "m in") (by walk_at "m all") ⟨D, _, qs ++ [i], _, by with_unfolding_all rfl, by with_unfolding_all rfl, by with_unfolding_all rfl, nDa, nDb, by rw [toI_app]; exact intsAre_snoc hW, open_yes hq hop, by omega, rfl⟩
    | false =>
      rw [hin] at hpl
      cases i with
      | zero =>
        have hop : isOpen ps places 0 = false := hin
        k_steps
        refine turnM_next [(D, listOf ws.toArray n), (a, listOf vs.toArray ep), (b, listOf us.toArray eq)] (by assumption) (by assumption) (by k_memK) (by walk_at "m in") (by walk_at "m all") ⟨D, _, qs, _, by with_unfolding_all rfl, by with_unfolding_all rfl, by with_unfolding_all rfl, nDa, nDb, hW, open_no hq hop, by omega, rfl⟩
      | succ j =>
        have hfq : (toI qs).any (· == ((j + 1 : Nat) : Int) - 1) = qs.contains j := any_toI (by omega)
        have hjl : j < ps.length := by omega
        obtain ⟨pk, hpk⟩ : ∃ k, ps[j]? = some k := ⟨ps[j], List.getElem?_eq_getElem hjl⟩
        obtain ⟨tp, hvp⟩ := intsAre_get hI hpk
        have hop := open_succ hin hpk
        have hqm : qs.contains j = isOpen ps places j := by rw [hq]; exact open_mem (Nat.lt_succ_self j)
        rw [← hqm] at hop
        cases hfin : qs.contains j with
        | false =>
          rw [hfin] at hfq hop
          replace hop : isOpen ps places (j + 1) = false := hop
          k_steps
          refine turnM_next [(D, listOf ws.toArray n), (a, listOf vs.toArray ep), (b, listOf us.toArray eq)] (by assumption) (by assumption) (by k_memK) (by walk_at "m in") (by walk_at "m all") ⟨D, _, qs, _, by with_unfolding_all rfl, by with_unfolding_all rfl, by with_unfolding_all rfl, nDa, nDb, hW, open_no hq hop, by omega, rfl⟩
        | true =>
          rw [hfin] at hfq hop
          k_steps
          · rw [decide_eq_true (by assumption)] at hop
            rename News _ _ _ _ => N8
            rw [List.push_toArray] at N8
            refine turnM_next [(D, listOf (ws ++ [Value.int ((j + 1 : Nat) : Int) t]).toArray (n + 1)), (a, listOf vs.toArray ep), (b, listOf us.toArray eq)] (by assumption) (by assumption) (by k_memK) (by walk_at "m in") (by walk_at "m all") ⟨D, _, qs ++ [j + 1], _, by with_unfolding_all rfl, by with_unfolding_all rfl, by with_unfolding_all rfl, nDa, nDb, by rw [toI_app]; exact intsAre_snoc hW, open_yes hq hop, by omega, rfl⟩
          · rw [decide_eq_false (by assumption)] at hop
            refine turnM_next [(D, listOf ws.toArray n), (a, listOf vs.toArray ep), (b, listOf us.toArray eq)] (by assumption) (by assumption) (by k_memK) (by walk_at "m in") (by walk_at "m all") ⟨D, _, qs, _, by with_unfolding_all rfl, by with_unfolding_all rfl, by with_unfolding_all rfl, nDa, nDb, hW, open_no hq hop, by omega, rfl⟩
  · rintro m₂ l₂ h₂ tk₂ ⟨D, ws, qs, n, f1, f2, f3, nDa, nDb, hW, hq, hi1, rfl⟩ F9 N9
    have hm := with_cons f1 (with_cons f2 (with_cons f3 rfl))
    rw [hm] at F9
    replace F9 : Fr g L' _ _ := F9
    replace N9 : News g L' _ _ := N9
    clear hm f1 f2 f3
    k_steps
    have he : opened ps places = qs := by
      rw [hq, opened]; congr 2
    walk_at "m outw"
    refine' leaveM_ (by assumption) (by assumption) rfl (D, ws, n) (by rw [he]; exact hW) rfl ?M ?O
    (case M => walk_at "m in")
    (case O => walk_at "m off")
end

end
section
local macro_rules | `(tactic| walk_at "slice1") => `(tactic| (
  k_here; (with_reducible show wpAny _ _ (subscriptTail _ (PySem.Expr.Slice (some _) none none _) (Value.ref _) (Value.ref _)) _ _ _); k_dflt (
  (refine' slice1 ?F ?N ?t ?v ?_ ?s ?g; (case F => k_asm); (case N => k_asm); (case t => k_mem); (case v => omega); (case s => with_unfolding_all rfl); (case g => (intro _; with_unfolding_all rfl))); k_whole); intro D' h' F' N' l1; (try k_lt l1); (try k_sweep)))
local macro_rules | `(tactic| walk_at "subscriptTail Name Slice ref ref") => `(tactic| walk_at "slice1")
local macro_rules | `(tactic| walk_at "subscriptTail Call Slice ref ref") => `(tactic| walk_at "slice1")
local macro_rules | `(tactic| walk_at "m cut") => loose `(tactic| first | (obtain ⟨_, hne9⟩ := hne9; walk_at "m cut") | skip)
local macro_rules | `(tactic| walk_at "call ref") => loose `(tactic| (
  k_here; (with_reducible show wpAny _ _ (call (Value.ref 198) _ _) _ _ _); k_dflt (
  (with_unfolding_all refine' con_use (path_con _ ?a1 ?a2) ?B ?Xb ?Tb ?F ?N ?hf ?hke ?hd ?hu ?hro ?hpick ?hoff ?hup ?_);
  walk_at "m use"; (case a1 => assumption); (case a2 => assumption); k_whole;
  intro x9 h9 tk9 hP9 F9 N9 hne9; obtain ⟨a9, vs9, tups9⟩ := x9; replace N9 := news_swap N9; (try dsimp only [List.cons_append, List.nil_append] at N9); (try dsimp only at hP9); (have hl9 : vs9.length ≤ 4 := by rw [hP9.length]; assumption); (rw [NeAll] at hne9); (simp only [neAll_consL, neAll_nil_iff, NeOne, and_true, and_assoc] at hne9); walk_at "m cut"; (try dsimp only); (try k_sweep); (try k_fold); walk_say "CONTRACT path")))

inductive RowsIn (l : List (Addr × Obj)) : List (List Nat) → List Value → Prop
  | nil : RowsIn l [] []
  | cons {a : Addr} {ws : List Value} {r : List Nat} {n : Nat} {rs : List (List Nat)} {vs : List Value} : (a, listOf ws.toArray n) ∈ l → IntsAre ws (toI r) → RowsIn l rs vs → RowsIn l (r :: rs) (.ref a :: vs)
theorem RowsIn.length {l : List (Addr × Obj)} {rs : List (List Nat)} {vs : List Value} (h : RowsIn l rs vs) : vs.length = rs.length := by
  induction h with
  | nil => rfl
  | cons _ _ _ ih => simp [ih]
theorem RowsIn.mono {l l' : List (Addr × Obj)} {rs : List (List Nat)} {vs : List Value} (h : RowsIn l rs vs) (hs : ∀ q ∈ l, q ∈ l') : RowsIn l' rs vs := by
  induction h with
  | nil => exact .nil
  | cons hm hi _ ih => exact .cons (hs _ hm) hi ih
theorem RowsIn.snoc {l : List (Addr × Obj)} {a : Addr} {ws : List Value} {r : List Nat} {n : Nat} (hm : (a, listOf ws.toArray n) ∈ l) (hi : IntsAre ws (toI r)) : ∀ {rs : List (List Nat)} {vs : List Value}, RowsIn l rs vs → RowsIn l (rs ++ [r]) (vs ++ [.ref a])
  | [], [], .nil => .cons hm hi .nil
  | _ :: _, _ :: _, .cons h1 h2 h3 => .cons h1 h2 (RowsIn.snoc hm hi h3)
theorem RowsIn.at {l : List (Addr × Obj)} {rs : List (List Nat)} {vs : List Value} (h : RowsIn l rs vs) : ∀ {i : Nat} {r : List Nat}, rs[i]? = some r → ∃ a ws n, vs[i]? = some (.ref a) ∧ (a, listOf ws.toArray n) ∈ l ∧ IntsAre ws (toI r) := by
  induction h with
  | nil => intro i k h; simp at h
  | cons hm he _ ih =>
    intro i k h
    cases i with
    | zero => simp at h; subst h; exact ⟨_, _, _, rfl, hm, he⟩
    | succ i => simpa using ih (by simpa using h)
abbrev rowsN (ps ts : List Int) (i : Nat) : List (List Nat) := (List.range i).map (rowN ps ts)
theorem rowsN_succ (ps ts : List Int) (i : Nat) : rowsN ps ts (i + 1) = rowsN ps ts i ++ [rowN ps ts i] := by simp [rowsN, List.range_succ]
theorem rowsN_at {ps ts : List Int} {n i : Nat} (h : i < n) : (rowsN ps ts n)[i]? = some (rowN ps ts i) := by simp [rowsN, h]
theorem rowN_len (ps ts : List Int) (i : Nat) : (rowN ps ts i).length ≤ ps.length + 1 := by
  cases i <;> exact Nat.le_trans (List.length_filter_le _ _) (by simp)
theorem stepped_take {ps : List Int} {t : Int} {r : List Nat} {i p : Nat} (h : r[i]? = some p) : (r.take (i + 1)).flatMap (hop ps t) = (r.take i).flatMap (hop ps t) ++ hop ps t p := by
  rw [List.take_add_one, h]; simp
theorem toI_at {r : List Nat} {ws : List Value} (h : IntsAre ws (toI r)) {i : Nat} {v : Value} (e : ws.toArray[i]? = some v) : ∃ p t, v = .int ((p : Nat) : Int) t ∧ r[i]? = some p := by
  obtain ⟨n, t, rfl, hn⟩ := intsAre_at h e
  rw [toI, List.getElem?_map] at hn
  obtain ⟨p, hp, rfl⟩ := Option.map_eq_some_iff.mp hn
  exact ⟨p, t, rfl, hp⟩
section
variable {w : World} {A : Around} {E : Value → Shared → Prop} {s : Shared} {h₀ : Heap} {L a : Addr} {m : Str → Option Value} {news : List (Addr × Obj)}
theorem list_back {value slice : PySem.Expr} {vs : List Value} {ep j : Nat} {u : Tok} {v : Value} {Q : Value → Shared → Prop} (N : News h₀ L s.heap news) (hm : (a, listOf vs.toArray ep) ∈ news) (hv : vs[j]? = some v) (hj : vs.length = j + 1) (hz : vs.length < 1000) (h : Q v s)
    (hs : subscripted slice false (.ref a) (.int (-1) u) = operate [.ref a, .int (-1) u] (getItem (.ref a) (.int (-1) u))) (hg : ∀ r, letTemporaryGo value (.ref a) r = pure ()) :
    wpAny (model PySem.Challenge.rw_ez0048_01.row.prog w) A (subscriptTail value slice (.ref a) (.int (-1) u)) Q E s := by
  have hl := News.isList N hm
  refine subscriptTail_builtin hl.typeIs slot_list_getitem.lookup (wpAny_getItem_list_neg hl (by omega) (by simp only [List.size_toArray]; omega) (by omega) ?_ h) hs hg
  have e : (-1 + (vs.toArray.size : Int)).toNat = j := by rw [List.size_toArray, hj]; omega
  rw [e]; simpa using hv
end
theorem news_tab {h₀ h : Heap} {L : Addr} {q1 q2 q3 q4 q5 : Addr × Obj} (N : News h₀ L h [q1, q2, q3, q4, q5]) : News h₀ L h [q1, q4, q5, q2] := fun p hp => N p (by
  simp only [List.mem_cons, List.not_mem_nil, or_false] at hp ⊢
  rcases hp with h | h | h | h <;> simp [h])
theorem hop5 {ps : List Int} {t : Int} {p : Nat} {pk : Int} (h : ps[p]? = some pk) (h5 : pk = 5) : hop ps t p = [p] := by unfold hop; rw [h, h5, if_pos rfl]
theorem hop4 {ps : List Int} {t : Int} {p : Nat} {pk : Int} (h : ps[p]? = some pk) (h5 : pk ≠ 5) (h4 : pk = 4) : hop ps t p = [p + 1] := by
  unfold hop; rw [h, if_neg (by simpa using h5), if_pos (.inl (by rw [h4]))]
theorem hopt {ps : List Int} {t : Int} {p : Nat} {pk : Int} (h : ps[p]? = some pk) (h5 : pk ≠ 5) (h4 : pk = t) : hop ps t p = [p + 1] := by
  unfold hop; rw [h, if_neg (by simpa using h5), if_pos (.inr (by rw [h4]))]
theorem hopn {ps : List Int} {t : Int} {p : Nat} {pk : Int} (h : ps[p]? = some pk) (h5 : pk ≠ 5) (h4 : pk ≠ 4) (ht : pk ≠ t) : hop ps t p = [] := by
  unfold hop; rw [h, if_neg (by simpa using h5), if_neg (by simp [h4, ht])]
theorem hopo {ps : List Int} {t : Int} {p : Nat} (h : ¬ p < ps.length) : hop ps t p = [] := by
  unfold hop; rw [List.getElem?_eq_none (by omega), if_neg (by simp), if_neg (by simp)]
section
local macro_rules | `(tactic| walk_at "pyIter ref") => `(tactic| (k_here; refine stop_in ?_))
local macro_rules | `(tactic| walk_at "exec For") => `(tactic| (k_here; refine stop_in ?_))
local macro_rules | `(tactic| walk_at "exec For Name Name cons nil") => `(tactic| (k_here; refine stop_in ?_))
local macro_rules | `(tactic| walk_at "exec For Name Subscript cons nil") => `(tactic| (k_here; refine stop_in ?_))
local macro_rules | `(tactic| walk_at "m lit") => `(tactic| (k_here; (with_reducible show wpAny _ _ (subscriptTail _ _ (Value.ref _) (Value.int _ _)) _ _ _); k_dflt (refine' list_item ?N ?m ?v ?e ?z ?_ ?s ?g; (case N => k_asm); (case m => k_mem); (case v => assumption); (case e => first | rfl | omega); (case z => omega); (case s => with_unfolding_all rfl); (case g => (intro _; with_unfolding_all rfl))); k_whole))
local macro_rules | `(tactic| walk_at "m back") => `(tactic| (k_here; (with_reducible show wpAny _ _ (subscriptTail _ _ (Value.ref _) (Value.int (-1) _)) _ _ _); k_dflt (refine' list_back ?N ?m ?v ?e ?z ?_ ?s ?g; (case N => k_asm); (case m => k_mem); (case v => assumption); (case e => assumption); (case z => omega); (case s => with_unfolding_all rfl); (case g => (intro _; with_unfolding_all rfl))); k_whole))
local macro_rules | `(tactic| walk_at "subscriptTail Name Name ref int") => `(tactic| walk_at "m lit")
local macro_rules | `(tactic| walk_at "subscriptTail Name UnaryOp ref int") => `(tactic| walk_at "m back")
local macro_rules | `(tactic| walk_at "subscriptTail Name Constant ref int") => `(tactic| walk_at "m back")
local macro_rules | `(tactic| walk_at "call ref") => loose `(tactic| (
  k_here; (with_reducible show wpAny _ _ (call (Value.ref 303) _ _) _ _ _); k_dflt (
  (with_unfolding_all refine' con_use (open_con _ (places := qs) hI hQ ?a1) ?B ?Xb ?Tb ?F ?N ?hf ?hke ?hd ?hu ?hro ?hpick ?hoff ?hup ?_);
  walk_at "m use"; (case a1 => assumption); k_whole;
  intro x9 h9 tk9 hP9 F9 N9 hne9; obtain ⟨a9, ws9, n9⟩ := x9; (try dsimp only [List.nil_append, List.cons_append] at N9); (try dsimp only at hP9 hne9); (simp only [NeAll, NeOne, and_true, and_assoc] at hne9); walk_at "m cut"; (try dsimp only);
  (try k_sweep); (try k_fold); walk_say "CONTRACT open")))
local macro_rules | `(tactic| walk_at "call ref") => loose `(tactic| (
  k_here; (with_reducible show wpAny _ _ (call (Value.ref 303) _ _) _ _ _); k_dflt (
  (with_unfolding_all refine' con_use (open_con _ (places := [0]) hI (IntsAre.cons 0 _ IntsAre.nil) ?a1) ?B ?Xb ?Tb ?F ?N ?hf ?hke ?hd ?hu ?hro ?hpick ?hoff ?hup ?_);
  walk_at "m use"; (case a1 => assumption); k_whole;
  intro x9 h9 tk9 hP9 F9 N9 hne9; obtain ⟨a9, ws9, n9⟩ := x9; (try dsimp only [List.nil_append, List.cons_append] at N9); (try dsimp only at hP9 hne9); (simp only [NeAll, NeOne, and_true, and_assoc] at hne9); (try dsimp only);
  (try k_sweep); (try k_fold); walk_say "CONTRACT open0")))
theorem table_con (w : World) {a b : Addr} {vs us : List Value} {ps ts : List Int} {ep eq : Nat} (hI : IntsAre vs ps) (hJ : IntsAre us ts) (h4 : ps.length ≤ 4) (h4' : ts.length ≤ 4) :
    Con w 310 [.ref a, .ref b] [] [(a, listOf vs.toArray ep), (b, listOf us.toArray eq)] [] 60 300 (fun (x : Addr × List Value × Nat × List (Addr × Obj)) => RowsIn x.2.2.2 (rowsN ps ts (ts.length + 1)) x.2.1) (fun _ => [])
      (fun x => (x.1, listOf x.2.1.toArray x.2.2.1) :: x.2.2.2) (fun x => .ref x.1) := by
  have hvl := hI.length
  have hul := hJ.length
  walk_at "m enter"
  k_steps
  refine ⟨?_⟩
  with_unfolding_all refine' For_invV g ?k1 ?k2 ?_
  (case k1 => rfl)
  (case k2 => rfl)
  k_steps
  refine ⟨?_⟩
  rename Fr _ _ _ _ => F7
  rename News _ _ _ _ => N7
  obtain ⟨e1, e2, e3⟩ := hne9
  replace N7 := news_tab N7
  refine loop_M (fun i m l => ∃ T rs n led, m (Str.ofString "pattern") = some (.ref a) ∧ m (Str.ofString "steps") = some (.ref b) ∧ m (Str.ofString "table") = some (.ref T) ∧ @Ne Nat T a ∧ @Ne Nat T b ∧ NeOne T led ∧ NeOne a led ∧ NeOne b led ∧
      RowsIn led (rowsN ps ts (i + 1)) rs ∧ i ≤ ts.length ∧ l = (T, listOf rs.toArray n) :: (a, listOf vs.toArray ep) :: (b, listOf us.toArray eq) :: led)
    (iterOf_list rfl (News.isList N7 (by k_memK))) F7 N7 ?_ ?_ ?_ ?_
  · intro q hq
    rw [List.mem_singleton.mp hq]
    refine ⟨Nat.ne_of_lt hlt.2, .inr ⟨_, fun i m l ⟨T, rs, n, led, _, _, _, _, _, _, _, _, _, _, e⟩ => by rw [e]; exact List.mem_cons_of_mem _ (List.mem_cons_of_mem _ (.head _))⟩⟩
  · exact ⟨_, [.ref a9], _, [(a9, listOf ws9.toArray n9)], by with_unfolding_all rfl, by with_unfolding_all rfl, by with_unfolding_all rfl, by k_ne, by k_ne, by walk_at "m ne", by walk_at "m ne", by walk_at "m ne", .cons (.head _) hP9 .nil, Nat.zero_le _, rfl⟩
  · rintro i v m₂ l₂ I oI h₂ tk₂ hi hP ⟨T, rs, n, led, f1, f2, f3, nTa, nTb, nTl, nal, nbl, hR, hi1, rfl⟩ hneI F9 N9
    simp only [NeOne] at hneI
    obtain ⟨nI1, nI2, nI3, nI4⟩ := hneI
    obtain ⟨t, tt, rfl, hti⟩ := intsAre_at hJ hP
    have hilt : i < ts.length := (List.getElem?_eq_some_iff.mp hti).1
    have hm := with_cons f1 (with_cons f2 (with_cons f3 rfl))
    rw [hm] at F9
    replace F9 : Fr g L' _ _ := F9
    replace N9 : News g L' _ _ := N9
    clear hm f1 f2 f3
    obtain ⟨c, cw, cn, hrc, hcm, hcI⟩ := hR.at (rowsN_at (ps := ps) (ts := ts) (Nat.lt_succ_self i))
    have hrl : rs.length = i + 1 := by rw [hR.length]; simp
    k_steps
    refine ⟨?_⟩
    with_unfolding_all refine' For_invV g ?k3 ?k4 ?_
    (case k3 => rfl)
    (case k4 => rfl)
    k_steps
    refine ⟨?_⟩
    rename _ < _ ∧ _ => l5
    obtain ⟨p1, p2, p3, p4, p5⟩ := l5
    rename Fr _ _ _ _ => F8
    rename News _ _ _ _ => N8
    have hcL := (N8 (c, listOf cw.toArray cn) (by walk_at "m tail")).2.1
    refine loop_M (fun i2 m l => ∃ Pl ws qs n2, m (Str.ofString "pattern") = some (.ref a) ∧ m (Str.ofString "steps") = some (.ref b) ∧ m (Str.ofString "table") = some (.ref T) ∧ m (Str.ofString "step") = some (.int t tt) ∧ m (Str.ofString "places") = some (.ref Pl) ∧
        @Ne Nat Pl I ∧ @Ne Nat Pl T ∧ @Ne Nat Pl a ∧ @Ne Nat Pl b ∧ NeOne Pl led ∧ IntsAre ws (toI qs) ∧ qs = ((rowN ps ts i).take i2).flatMap (hop ps t) ∧ qs.length ≤ i2 ∧ l = (Pl, listOf ws.toArray n2) :: (I, oI) :: (T, listOf rs.toArray n) :: (a, listOf vs.toArray ep) :: (b, listOf us.toArray eq) :: led)
      (iterOf_list rfl (News.isList N8 (show (c, listOf cw.toArray cn) ∈ _ by walk_at "m tail"))) F8 N8 ?_ ?_ ?_ ?_
    · intro q hq
      rw [List.mem_singleton.mp hq]
      exact ⟨hcL, .inr ⟨_, fun i m l ⟨Pl, ws, qs, n2, _, _, _, _, _, _, _, _, _, _, _, _, _, e⟩ => by rw [e]; walk_at "m tail"⟩⟩
    · exact ⟨_, [], [], _, by with_unfolding_all rfl, by with_unfolding_all rfl, by with_unfolding_all rfl, by with_unfolding_all rfl, by with_unfolding_all rfl, by k_ne, by k_ne, by k_ne, by k_ne, allLt_neOne p5, .nil, rfl, Nat.zero_le _, rfl⟩
    · rintro i2 v2 m₃ l₃ I2 oI2 h₃ tk₃ hi2 hP2 ⟨Pl, ws, qs, n2, f1, f2, f3, f4, f5, q1, q2, q3, q4, q5, hQ, hq, hql, rfl⟩ hneI2 F9 N9
      simp only [NeOne] at hneI2
      obtain ⟨nJ1, nJ2, nJ3, nJ4, nJ5, nJ6⟩ := hneI2
      obtain ⟨p, tp, rfl, hrp⟩ := toI_at hcI hP2
      have hm := with_cons f1 (with_cons f2 (with_cons f3 (with_cons f4 (with_cons f5 rfl))))
      rw [hm] at F9
      replace F9 : Fr g L' _ _ := F9
      replace N9 : News g L' _ _ := N9
      clear hm f1 f2 f3 f4 f5 F8 N8
      have hwl : ws.length ≤ 5 := by
        have h1 := hQ.length
        rw [toI, List.length_map] at h1
        have h2 := hcI.length
        rw [toI, List.length_map] at h2
        have h3 := rowN_len ps ts i
        rw [List.size_toArray] at hi2
        omega
      by_cases hpl : p < ps.length
      · obtain ⟨pk, hpk⟩ : ∃ k, ps[p]? = some k := ⟨ps[p], List.getElem?_eq_getElem hpl⟩
        obtain ⟨tk, hvk⟩ := intsAre_get hI hpk
        k_steps
        · rename News _ _ _ _ => N8
          rw [List.push_toArray] at N8
          refine turnM_next ((Pl, listOf (ws ++ [Value.int (p : Int) _]).toArray (n2 + 1)) :: (I, oI) :: (T, listOf rs.toArray n) :: (a, listOf vs.toArray ep) :: (b, listOf us.toArray eq) :: led) (by assumption) (by assumption) (by k_memK) (by walk_at "m in") (by walk_at "m all") ⟨Pl, _, qs ++ [p], _, by with_unfolding_all rfl, by with_unfolding_all rfl, by with_unfolding_all rfl, by with_unfolding_all rfl, by with_unfolding_all rfl, q1, q2, q3, q4, q5, by rw [toI_app]; exact intsAre_snoc hQ, by rw [stepped_take hrp, hop5 hpk (by assumption), hq], by rw [List.length_append, List.length_singleton]; omega, rfl⟩
        · rename News _ _ _ _ => N8
          rw [List.push_toArray] at N8
          refine turnM_next ((Pl, listOf (ws ++ [Value.int ((p : Int) + 1) _]).toArray (n2 + 1)) :: (I, oI) :: (T, listOf rs.toArray n) :: (a, listOf vs.toArray ep) :: (b, listOf us.toArray eq) :: led) (by assumption) (by assumption) (by k_memK) (by walk_at "m in") (by walk_at "m all") ⟨Pl, _, qs ++ [p + 1], _, by with_unfolding_all rfl, by with_unfolding_all rfl, by with_unfolding_all rfl, by with_unfolding_all rfl, by with_unfolding_all rfl, q1, q2, q3, q4, q5, by rw [toI_app]; exact intsAre_snoc hQ, by rw [stepped_take hrp, hop4 hpk (by assumption) (by assumption), hq], by rw [List.length_append, List.length_singleton]; omega, rfl⟩
        · rename News _ _ _ _ => N8
          rw [List.push_toArray] at N8
          refine turnM_next ((Pl, listOf (ws ++ [Value.int ((p : Int) + 1) _]).toArray (n2 + 1)) :: (I, oI) :: (T, listOf rs.toArray n) :: (a, listOf vs.toArray ep) :: (b, listOf us.toArray eq) :: led) (by assumption) (by assumption) (by k_memK) (by walk_at "m in") (by walk_at "m all") ⟨Pl, _, qs ++ [p + 1], _, by with_unfolding_all rfl, by with_unfolding_all rfl, by with_unfolding_all rfl, by with_unfolding_all rfl, by with_unfolding_all rfl, q1, q2, q3, q4, q5, by rw [toI_app]; exact intsAre_snoc hQ, by rw [stepped_take hrp, hopt hpk (by assumption) (by assumption), hq], by rw [List.length_append, List.length_singleton]; omega, rfl⟩
        · refine turnM_next ((Pl, listOf ws.toArray n2) :: (I, oI) :: (T, listOf rs.toArray n) :: (a, listOf vs.toArray ep) :: (b, listOf us.toArray eq) :: led) (by assumption) (by assumption) (by k_memK) (by walk_at "m in") (by walk_at "m all") ⟨Pl, ws, qs, n2, by with_unfolding_all rfl, by with_unfolding_all rfl, by with_unfolding_all rfl, by with_unfolding_all rfl, by with_unfolding_all rfl, q1, q2, q3, q4, q5, hQ, by rw [stepped_take hrp, hopn hpk (by assumption) (by assumption) (by assumption), List.append_nil, hq], by omega, rfl⟩
      · k_steps
        refine turnM_next ((Pl, listOf ws.toArray n2) :: (I, oI) :: (T, listOf rs.toArray n) :: (a, listOf vs.toArray ep) :: (b, listOf us.toArray eq) :: led) (by assumption) (by assumption) (by k_memK) (by walk_at "m in") (by walk_at "m all") ⟨Pl, ws, qs, n2, by with_unfolding_all rfl, by with_unfolding_all rfl, by with_unfolding_all rfl, by with_unfolding_all rfl, by with_unfolding_all rfl, q1, q2, q3, q4, q5, hQ, by rw [stepped_take hrp, hopo hpl, List.append_nil, hq], by omega, rfl⟩
    · rintro m₃ l₃ h₃ tk₃ ⟨Pl, ws, qs, n2, f1, f2, f3, f4, f5, q1, q2, q3, q4, q5, hQ, hq, hql, rfl⟩ F9 N9
      have hm := with_cons f1 (with_cons f2 (with_cons f3 (with_cons f4 (with_cons f5 rfl))))
      rw [hm] at F9
      replace F9 : Fr g L' _ _ := F9
      replace N9 : News g L' _ _ := N9
      clear hm f1 f2 f3 f4 f5 F8 N8
      have hqs : opened ps qs = rowN ps ts (i + 1) := by
        rw [rowN, hq, stepped, show ts.getD i 0 = t from by simp [List.getD_eq_getElem?_getD, hti]]
        rw [List.take_of_length_le (by have := hcI.length; rw [toI, List.length_map] at this; simp [this])]
      k_steps
      rename News _ _ _ _ => N8
      rw [List.push_toArray] at N8
      refine turnM_next ((T, listOf (rs ++ [Value.ref a9]).toArray (n + 1)) :: (a, listOf vs.toArray ep) :: (b, listOf us.toArray eq) :: (a9, listOf ws9.toArray n9) :: led) (by assumption) (by assumption) (by k_memK) (by walk_at "m in") (by walk_at "m all")
        ⟨T, _, _, (a9, listOf ws9.toArray n9) :: led, by with_unfolding_all rfl, by with_unfolding_all rfl, by with_unfolding_all rfl, nTa, nTb, by walk_at "m ne", by walk_at "m ne", by walk_at "m ne", by rw [rowsN_succ]; exact RowsIn.snoc (.head _) (by rw [← hqs]; exact hP9) (hR.mono (fun q hq => List.mem_cons_of_mem _ hq)), hilt, rfl⟩
  · rintro m₂ l₂ h₂ tk₂ ⟨T, rs, n, led, f1, f2, f3, nTa, nTb, nTl, nal, nbl, hR, hi1, rfl⟩ F9 N9
    have hm := with_cons f1 (with_cons f2 (with_cons f3 rfl))
    rw [hm] at F9
    replace F9 : Fr g L' _ _ := F9
    replace N9 : News g L' _ _ := N9
    clear hm f1 f2 f3
    k_steps
    walk_at "m outw"
    rw [show us.toArray.size = ts.length from by simp [hul]] at hR
    refine' leaveM_ (by assumption) (by assumption) rfl (T, rs, n, led) hR rfl ?M ?O
    (case M => walk_at "m in")
    (case O =>
      refine List.forall_mem_cons.mpr ⟨not_in (by walk_at "m ne"), fun q hq => not_in ⟨?_, ?_, trivial⟩⟩
      · exact fun e => nal.mem q hq e.symm
      · exact fun e => nbl.mem q hq e.symm)
end

end
section
section
def wc : Array Nat := #[14, 9, 4, 2, 4, 16, 91, 16, 46, 0, 7, 16, 16, 91, 16, 42, 24, 6, 0, 1, 16, 42, 1, 16, 93, 15, 37, 35, 16, 46, 16, 42, 24, 6, 0, 1, 16, 42, 1, 4, 20, 0, 7, 10, 13, 6, 16, 46, 16, 91, 0, 15, 7, 5, 6, 5, 15, 2, 0, 1, 15, 2, 0, 1]
/-- the machine in the midst of a search -/
def mst (text : Array Nat) (start pc pos handed : Nat) (om : Bool) (frames : List Sre.Frame) (weight : Nat) (ans : Option Bool) (seen : Sre.Seen) : Sre.M :=
  { code := wc, text, lim := text.size, start, lastStart := text.size, pc, pos, handed, outermost := om, marks := #[], frames, weight, answer := ans, seen }
theorem runFor_add : ∀ (a b : Nat) (m : Sre.M), Sre.M.runFor (a + b) m = Sre.M.runFor b (Sre.M.runFor a m)
  | 0, b, m => by simp [Sre.M.runFor]
  | a + 1, b, m => by
    rw [show a + 1 + b = (a + b) + 1 by omega, Sre.M.runFor, Sre.M.runFor]
    by_cases h : m.outcome.isSome = true
    · rw [if_pos h, if_pos h]
      cases b with
      | zero => rfl
      | succ b => rw [Sre.M.runFor, if_pos h]
    · rw [if_neg h, if_neg h, runFor_add a b]
theorem runFor_done {m : Sre.M} (h : m.outcome.isSome = true) : ∀ n, Sre.M.runFor n m = m
  | 0 => rfl
  | n + 1 => by rw [Sre.M.runFor, if_pos h]
abbrev kept0 : Sre.Kept := { lastmark := -1, lastindex := -1, whole := false, marks := #[] }
abbrev fr0 (q : Nat) (om : Bool) : Sre.Frame := { wait := .nextStart, pc := 10, pos := q, outermost := om }
abbrev fr1 (pc q : Nat) (om : Bool) : Sre.Frame := { wait := .nextBranch, pc, pos := q, outermost := om, kept := kept0 }
abbrev fr2 (q : Nat) (om : Bool) (n : Nat) : Sre.Frame := { wait := .giveBack, pc := 16, pos := q, outermost := om, count := n, kept := kept0 }
section
variable {text : Array Nat} {s pc q p hd : Nat} {om : Bool} {fr : List Sre.Frame} {wt : Nat} {sn : Sre.Seen} {ans : Option Bool}
theorem st_branch : (mst text s 10 q hd om [fr0 q om] 1 none sn).step = mst text s 12 q q om [fr1 11 q om, fr0 q om] 2 none (sn.add 7) := rfl
theorem st_12 (hc : text[p]? = some 91) : (mst text s 12 p hd om fr wt none sn).step = mst text s 14 (p + 1) hd om fr wt none (sn.add 16) := by
  have h1 : ¬ text.size ≤ p := by have := (Array.getElem?_eq_some_iff.mp hc).1; omega
  simp [mst, Sre.M.step, Sre.M.exec, Sre.M.word, Sre.accepts, Sre.ops, wc, Sre.itemWidth, h1, hc]
theorem st_14y (hc : text[p]? = some 42) : (mst text s 14 p hd om fr wt none sn).step = mst text s 16 (p + 1) hd om fr wt none (sn.add 16) := by
  have h1 : ¬ text.size ≤ p := by have := (Array.getElem?_eq_some_iff.mp hc).1; omega
  simp [mst, Sre.M.step, Sre.M.exec, Sre.M.word, Sre.accepts, Sre.ops, wc, Sre.itemWidth, h1, hc]
theorem st_14n {c : Nat} (hc : text[p]? = some c) (hn : (c == 42) = false) : (mst text s 14 p hd om fr wt none sn).step = mst text s 14 p hd om fr wt (some false) (sn.add 16) := by
  have h1 : ¬ text.size ≤ p := by have := (Array.getElem?_eq_some_iff.mp hc).1; omega
  simp [mst, Sre.M.step, Sre.M.exec, Sre.M.word, Sre.accepts, Sre.ops, wc, Sre.itemWidth, h1, hc, hn, Sre.M.say]
theorem st_28 (hc : text[p]? = some 91) : (mst text s 28 p hd om fr wt none sn).step = mst text s 28 p hd om fr wt (some false) (sn.add 16) := by
  have h1 : ¬ text.size ≤ p := by have := (Array.getElem?_eq_some_iff.mp hc).1; omega
  simp [mst, Sre.M.step, Sre.M.exec, Sre.M.word, Sre.accepts, Sre.ops, wc, Sre.itemWidth, h1, hc, Sre.M.say]
theorem st_23 (hc : text[p]? = some 93) : (mst text s 23 p hd om fr wt none sn).step = mst text s 25 (p + 1) hd om fr wt none (sn.add 16) := by
  have h1 : ¬ text.size ≤ p := by have := (Array.getElem?_eq_some_iff.mp hc).1; omega
  simp [mst, Sre.M.step, Sre.M.exec, Sre.M.word, Sre.accepts, Sre.ops, wc, Sre.itemWidth, h1, hc]
theorem st_16a (hc : text[p]? = some 93) : ∃ sn', (mst text s 16 p hd om [fr1 11 q om, fr0 q om] 2 none sn).step = mst text s 23 p p om [fr2 p om 0, fr1 11 q om, fr0 q om] 3 none sn' := by
  have hlt := (Array.getElem?_eq_some_iff.mp hc).1
  have h1 : min 1 (text.size - p) = 1 := by omega
  have h2 : ¬ ((text.size : Int) - (p : Int) < 0) := by omega
  refine ⟨((sn.add 24).add 16), ?_⟩
  simp [mst, Sre.M.step, Sre.M.exec, Sre.M.word, Sre.accepts, Sre.ops, wc, Sre.itemWidth, hc, Sre.M.say, h1, h2, Sre.run, Sre.M.afterRun, Sre.M.attempt, Sre.M.frame, Sre.M.keep, Bind.bind, Except.bind, pure, Except.pure]
theorem st_16b (hc : text[p]? = some 42) : ∃ sn', (mst text s 16 p hd om [fr1 11 q om, fr0 q om] 2 none sn).step = mst text s 23 (p + 1) (p + 1) om [fr2 (p + 1) om 1, fr1 11 q om, fr0 q om] 3 none sn' := by
  have hlt := (Array.getElem?_eq_some_iff.mp hc).1
  have h1 : min 1 (text.size - p) = 1 := by omega
  have h2 : ¬ ((text.size : Int) - (p : Int) < 0) := by omega
  refine ⟨((sn.add 24).add 16), ?_⟩
  simp [mst, Sre.M.step, Sre.M.exec, Sre.M.word, Sre.accepts, Sre.ops, wc, Sre.itemWidth, hc, Sre.M.say, h1, h2, Sre.run, Sre.M.afterRun, Sre.M.attempt, Sre.M.frame, Sre.M.keep, Bind.bind, Except.bind, pure, Except.pure]
theorem st_25 : (mst text s 25 p hd om fr wt none sn).step = mst text s 63 p hd om fr wt none (sn.add 15) := rfl
theorem st_63 : (mst text s 63 p hd om fr wt none sn).step = mst text s 63 p p om fr wt (some true) (sn.add 1) := by
  simp [mst, Sre.M.step, Sre.M.exec, Sre.M.word, Sre.ops, wc, Sre.M.say]
theorem st_y2 {n : Nat} : (mst text s pc p hd om [fr2 q om n, fr1 11 q om, fr0 q om] 3 (some true) sn).step = mst text s 16 q hd om [fr1 11 q om, fr0 q om] 2 (some true) sn := rfl
theorem st_y2' {n q' : Nat} : (mst text s pc p hd om [fr2 q' om n, fr1 11 q om, fr0 q om] 3 (some true) sn).step = mst text s 16 q' hd om [fr1 11 q om, fr0 q om] 2 (some true) sn := rfl
theorem st_y1 : (mst text s pc p hd om [fr1 11 q om, fr0 q om] 2 (some true) sn).step = mst text s 11 q hd om [fr0 q om] 1 (some true) sn := rfl
theorem st_y0 : (mst text s pc p hd om [fr0 q om] 1 (some true) sn).step = mst text s 10 q hd om [] 0 (some true) sn := rfl
theorem st_y : (mst text s pc p hd om [] 0 (some true) sn).step.outcome = some .matched := rfl
theorem st_n : (mst text s pc p hd om [] 0 (some false) sn).step.outcome = some .failed := rfl
theorem st_n1 : (mst text s pc p hd om [fr1 11 q om, fr0 q om] 2 (some false) sn).step = mst text s 28 q q om [fr1 27 q om, fr0 q om] 2 none sn := rfl
theorem st_n2 : (mst text s pc p hd om [fr1 27 q om, fr0 q om] 2 (some false) sn).step = mst text s 27 q hd om [fr0 q om] 1 (some false) sn := rfl
theorem st_n0 (hlt : q < text.size) : (mst text s pc p hd om [fr0 q om] 1 (some false) sn).step = (mst text s 10 q hd om [] 0 none sn).attemptFrom (q + 1) false := by
  show (if q < text.size then _ else _) = _
  rw [if_pos hlt]; rfl
end
abbrev Sure (m : Sre.M) (o : Sre.Outcome) (n : Nat) : Prop := (Sre.M.runFor n m).outcome = some o
theorem sure_step {m m' : Sre.M} {o : Sre.Outcome} {n : Nat} (e : m.step = m') (h0 : m.outcome.isSome = false) (h : Sure m' o n) : Sure m o (n + 1) := by
  unfold Sure; rw [Sre.M.runFor, if_neg (by rw [h0]; decide), e]; exact h
theorem sure_end {m : Sre.M} {o : Sre.Outcome} (e : m.step.outcome = some o) (h0 : m.outcome.isSome = false) : Sure m o 1 := by
  unfold Sure; rw [Sre.M.runFor, if_neg (by rw [h0]; decide)]; exact e
section
variable {text : Array Nat} {s q hd : Nat} {om : Bool} {sn : Sre.Seen}
/-- a starK at q: the machine finds it -/
theorem sure_star (h0 : text[q]? = some 91) (h1 : text[q + 1]? = some 42) (h2 : text[q + 2]? = some 93 ∨ text[q + 2]? = some 42 ∧ text[q + 3]? = some 93) : Sure (mst text s 10 q hd om [fr0 q om] 1 none sn) .matched 11 := by
  refine sure_step st_branch rfl (sure_step (st_12 h0) rfl (sure_step (st_14y h1) rfl ?_))
  rcases h2 with h2 | ⟨h2, h3⟩
  · obtain ⟨sn', e⟩ := st_16a (s := s) (q := q) (hd := q) (om := om) (sn := ((sn.add 7).add 16).add 16) h2
    exact sure_step e rfl (sure_step (st_23 h2) rfl (sure_step st_25 rfl (sure_step st_63 rfl (sure_step st_y2' rfl (sure_step st_y1 rfl (sure_step st_y0 rfl (sure_end st_y rfl)))))))
  · obtain ⟨sn', e⟩ := st_16b (s := s) (q := q) (hd := q) (om := om) (sn := ((sn.add 7).add 16).add 16) h2
    exact sure_step e rfl (sure_step (st_23 h3) rfl (sure_step st_25 rfl (sure_step st_63 rfl (sure_step st_y2' rfl (sure_step st_y1 rfl (sure_step st_y0 rfl (sure_end st_y rfl)))))))
/-- no starK at q: the machine goes on -/
theorem sure_none {c n : Nat} {o : Sre.Outcome} (h0 : text[q]? = some 91) (h1 : text[q + 1]? = some c) (hc : (c == 42) = false) (h : ∀ sn' hd', Sure ((mst text s 10 q hd' om [] 0 none sn').attemptFrom (q + 1) false) o n) :
    Sure (mst text s 10 q hd om [fr0 q om] 1 none sn) o (n + 7) := by
  have hlt := (Array.getElem?_eq_some_iff.mp h0).1
  exact sure_step st_branch rfl (sure_step (st_12 h0) rfl (sure_step (st_14n h1 hc) rfl (sure_step st_n1 rfl (sure_step (st_28 h0) rfl (sure_step st_n2 rfl (sure_step (st_n0 hlt) rfl (h _ _)))))))
theorem inSet_y : ∃ sn', Sre.inSet wc 91 wc.size 5 true sn = .ok (true, sn') := ⟨sn.add 16, by simp [Sre.inSet, wc, Sre.ops]⟩
theorem inSet_n {c : Nat} (h1 : (c == 91) = false) (h2 : (c == 46) = false) : ∃ sn', Sre.inSet wc c wc.size 5 true sn = .ok (false, sn') := ⟨((sn.add 16).add 16).add 0, by simp [Sre.inSet, wc, Sre.ops, h1, h2]⟩
end
def Dull (text : Array Nat) (i : Nat) : Prop := ∃ c, text[i]? = some c ∧ (c == 91) = false ∧ (c == 46) = false
theorem adm_find {text : Array Nat} {m : Sre.M} (hc : m.code = wc) (ht : m.text = text) (hl : m.lim = text.size) {q : Nat} (hq : text[q]? = some 91) : ∀ (fuel s : Nat) (sn : Sre.Seen), s ≤ q → q - s < fuel → (∀ i, s ≤ i → i < q → Dull text i) → ∃ sn', Sre.M.admitted m fuel s sn = .ok (some q, sn')
  | 0, s, sn, h1, h2, h3 => absurd h2 (Nat.not_lt_zero _)
  | fuel + 1, s, sn, h1, h2, h3 => by
    have hlt := (Array.getElem?_eq_some_iff.mp hq).1
    unfold Sre.M.admitted
    rw [if_neg (by rw [hl]; omega), hc, ht]
    by_cases e : s = q
    · subst e
      obtain ⟨sn', h⟩ := inSet_y (sn := sn)
      have e1 : text.getD s 0 = 91 := by simp [hq]
      rw [e1, h]
      exact ⟨_, rfl⟩
    · obtain ⟨c, h4, h5, h6⟩ := h3 s (Nat.le_refl _) (by omega)
      obtain ⟨sn', h⟩ := inSet_n (sn := sn) h5 h6
      have e1 : text.getD s 0 = c := by simp [h4]
      rw [e1, h]
      exact adm_find hc ht hl hq fuel (s + 1) sn' (by omega) (by omega) fun i hi hi2 => h3 i (by omega) hi2
theorem adm_none {text : Array Nat} {m : Sre.M} (hc : m.code = wc) (ht : m.text = text) (hl : m.lim = text.size) : ∀ (fuel s : Nat) (sn : Sre.Seen), (∀ i, s ≤ i → i < text.size → Dull text i) → ∃ sn', Sre.M.admitted m fuel s sn = .ok (none, sn')
  | 0, s, sn, h3 => ⟨_, rfl⟩
  | fuel + 1, s, sn, h3 => by
    unfold Sre.M.admitted
    by_cases hs : s ≥ text.size
    · rw [if_pos (by rw [hl]; exact hs)]; exact ⟨_, rfl⟩
    · rw [if_neg (by rw [hl]; exact hs), hc, ht]
      obtain ⟨c, h4, h5, h6⟩ := h3 s (Nat.le_refl _) (by omega)
      obtain ⟨sn', h⟩ := inSet_n (sn := sn) h5 h6
      have e1 : text.getD s 0 = c := by simp [h4]
      rw [e1, h]
      exact adm_none hc ht hl fuel (s + 1) sn' fun i hi hi2 => h3 i (by omega) hi2
theorem from_find {text : Array Nat} {s0 p0 hd0 q s : Nat} {om0 first : Bool} {sn : Sre.Seen} {o : Sre.Outcome} {n : Nat} (hq : text[q]? = some 91) (h1 : s ≤ q) (h3 : ∀ i, s ≤ i → i < q → Dull text i)
    (h : ∀ sn', Sure (mst text q 10 q q first [fr0 q first] 1 none sn') o n) : Sure ((mst text s0 10 p0 hd0 om0 [] 0 none sn).attemptFrom s first) o n := by
  have hlt := (Array.getElem?_eq_some_iff.mp hq).1
  obtain ⟨sn', e⟩ := adm_find (m := mst text s0 10 p0 hd0 om0 [] 0 none sn) rfl rfl rfl hq (text.size + 1 - s) s sn h1 (by omega) h3
  have e2 : (mst text s0 10 p0 hd0 om0 [] 0 none sn).attemptFrom s first = mst text q 10 q q first [fr0 q first] 1 none sn' := by
    show (match Sre.M.admitted (mst text s0 10 p0 hd0 om0 [] 0 none sn) (text.size + 1 - s) s sn with | .ok (some s, seen) => _ | .ok (none, seen) => _ | .error why => _) = _
    rw [e]; rfl
  rw [e2]; exact h sn'
theorem from_none {text : Array Nat} {s0 p0 hd0 s : Nat} {om0 first : Bool} {sn : Sre.Seen} (h3 : ∀ i, s ≤ i → i < text.size → Dull text i) : Sure ((mst text s0 10 p0 hd0 om0 [] 0 none sn).attemptFrom s first) .failed 1 := by
  obtain ⟨sn', e⟩ := adm_none (m := mst text s0 10 p0 hd0 om0 [] 0 none sn) rfl rfl rfl (text.size + 1 - s) s sn h3
  have e2 : (mst text s0 10 p0 hd0 om0 [] 0 none sn).attemptFrom s first = mst text s0 10 p0 hd0 om0 [] 0 (some false) sn' := by
    show (match Sre.M.admitted (mst text s0 10 p0 hd0 om0 [] 0 none sn) (text.size + 1 - s) s sn with | .ok (some s, seen) => _ | .ok (none, seen) => _ | .error why => _) = _
    rw [e]; rfl
  rw [e2]; exact sure_end st_n rfl
abbrev starK (k : Int) : Bool := k == 4 || k == 5
theorem part_plain {k : Int} (h : starK k = false) : ∃ c r, part k = 91 :: c :: r ∧ (c == 42) = false ∧ ∀ x ∈ c :: r, (x == 91) = false ∧ (x == 46) = false := by
  simp only [starK, Bool.or_eq_false_iff, beq_eq_false_iff_ne, ne_eq] at h
  unfold part
  repeat' split
  all_goals first | (exact ⟨_, _, rfl, by decide, by decide⟩) | (exfalso; omega)
theorem get_app (u v : List Nat) (i : Nat) : (u ++ v).toArray[u.length + i]? = v[i]? := by
  rw [List.getElem?_toArray, List.getElem?_append_right (by omega)]; congr 1; omega
theorem search_sure {text : Array Nat} : ∀ (rs : List Int) (u : List Nat) (s0 p0 hd0 s : Nat) (om0 first : Bool) (sn : Sre.Seen), text = (u ++ body rs).toArray → s ≤ u.length → (∀ i, s ≤ i → i < u.length → Dull text i) →
    ∃ n, n ≤ 7 * rs.length + 11 ∧ Sure ((mst text s0 10 p0 hd0 om0 [] 0 none sn).attemptFrom s first) (if rs.any starK then .matched else .failed) n
  | [], u, s0, p0, hd0, s, om0, first, sn, ht, hs, hd => by
    refine ⟨1, by omega, from_none fun i h1 h2 => hd i h1 ?_⟩
    rw [ht] at h2; simpa [body] using h2
  | k :: r, u, s0, p0, hd0, s, om0, first, sn, ht, hs, hd => by
    have hb : body (k :: r) = part k ++ body r := rfl
    rw [hb] at ht
    have at' : ∀ i, text[u.length + i]? = (part k ++ body r)[i]? := fun i => by rw [ht]; exact get_app _ _ _
    cases hk : starK k with
    | true =>
      refine ⟨11, by omega, ?_⟩
      rw [show (k :: r).any starK = true by rw [List.any_cons, hk]; rfl, if_pos rfl]
      have h45 : k = 4 ∨ k = 5 := by simpa [starK] using hk
      have h0 : text[u.length]? = some 91 := by have := at' 0; rw [Nat.add_zero] at this; rw [this]; rcases h45 with rfl | rfl <;> rfl
      refine from_find h0 hs hd fun sn' => sure_star h0 (by rw [at']; rcases h45 with rfl | rfl <;> rfl) ?_
      rcases h45 with rfl | rfl
      · exact .inl (by rw [at']; rfl)
      · exact .inr ⟨by rw [at']; rfl, by rw [at']; rfl⟩
    | false =>
      obtain ⟨c, t, hp, hc, hpl⟩ := part_plain hk
      rw [show (k :: r).any starK = r.any starK by rw [List.any_cons, hk]; rfl]
      rw [hp] at at'
      have h0 : text[u.length]? = some 91 := by have := at' 0; rw [Nat.add_zero] at this; rw [this]; rfl
      have h1 : text[u.length + 1]? = some c := by rw [at']; rfl
      have hdull : ∀ i, u.length + 1 ≤ i → i < (u ++ part k).length → Dull text i := by
        intro i h2 h3
        rw [List.length_append, hp] at h3
        simp only [List.length_cons] at h3
        have h4 := at' (i - u.length)
        rw [show u.length + (i - u.length) = i by omega] at h4
        rw [List.getElem?_append_left (by simp; omega), show i - u.length = (i - u.length - 1) + 1 by omega, List.getElem?_cons_succ] at h4
        have h5 : i - u.length - 1 < (c :: t).length := by simp; omega
        rw [List.getElem?_eq_getElem h5] at h4
        obtain ⟨h6, h7⟩ := hpl _ (List.getElem_mem h5)
        exact ⟨_, h4, h6, h7⟩
      have ih : ∀ sn' hd', ∃ n, n ≤ 7 * r.length + 11 ∧ Sure ((mst text u.length 10 u.length hd' first [] 0 none sn').attemptFrom (u.length + 1) false) (if r.any starK then .matched else .failed) n := fun sn' hd' =>
        search_sure r (u ++ part k) _ _ _ _ _ _ _ (by rw [ht]; simp) (by rw [List.length_append, hp]; simp) hdull
      have ih' : ∀ sn' hd', Sure ((mst text u.length 10 u.length hd' first [] 0 none sn').attemptFrom (u.length + 1) false) (if r.any starK then .matched else .failed) (7 * r.length + 11) := fun sn' hd' => by
        obtain ⟨n, hn, h⟩ := ih sn' hd'
        unfold Sure at h ⊢
        rw [show 7 * r.length + 11 = n + (7 * r.length + 11 - n) by omega, runFor_add, runFor_done (by rw [h]; rfl)]
        exact h
      exact ⟨7 * r.length + 11 + 7, by simp only [List.length_cons]; omega, from_find h0 hs hd fun sn' => sure_none h0 h1 hc ih'⟩
theorem search_ends {pre : List Nat} {ns : List Int} (hp : ∀ x ∈ pre, (x == 91) = false ∧ (x == 46) = false) (h2 : 2 ≤ (pre ++ body ns).length) :
    Sure (Sre.forSearch wc (pre ++ body ns).toArray 0 0 (pre ++ body ns).toArray.size false) (if ns.any starK then .matched else .failed) (7 * ns.length + 11) := by
  have e : Sre.forSearch wc (pre ++ body ns).toArray 0 0 (pre ++ body ns).toArray.size false = (mst (pre ++ body ns).toArray 0 10 0 0 true [] 0 none (({} : Sre.Seen).add 14)).attemptFrom 0 true := by
    show (if (decide (0 > (pre ++ body ns).toArray.size) || decide ((pre ++ body ns).toArray.size - 0 < 2)) = true then _ else _) = _
    rw [if_neg (by simp only [List.size_toArray, Bool.or_eq_true, decide_eq_true_eq]; omega)]
    rfl
  rw [e]
  obtain ⟨n, hn, h⟩ := search_sure (text := (pre ++ body ns).toArray) ns pre 0 0 0 0 true true (({} : Sre.Seen).add 14) rfl (Nat.zero_le _) (fun i _ hi => by
    exact ⟨pre[i], by rw [List.getElem?_toArray, List.getElem?_append_left hi, List.getElem?_eq_getElem hi], hp _ (List.getElem_mem hi)⟩)
  unfold Sure at h ⊢
  rw [show 7 * ns.length + 11 = n + (7 * ns.length + 11 - n) by omega, runFor_add, runFor_done (by rw [h]; rfl)]
  exact h
theorem search_a : Sure (Sre.forSearch wc #[97] 0 0 1 false) .failed 1 := rfl
end

end
section
theorem plainAttrs_pat : PlainAttrs "re.Pattern" :=
  ⟨⟨"object.__getattribute__", by rw [typeLookup_type, builtinLookup_eq_fast]; kernel_rfl, by decide +kernel⟩, by rw [typeLookup_type, builtinLookup_eq_fast]; kernel_rfl⟩
theorem slot_pat_search : Slot "re.Pattern" "search" "re.Pattern.search" :=
  .of (owner := "re.Pattern") (n := "search") (by rw [typeLookup_type, builtinLookup_eq_fast]; kernel_rfl) (by decide +kernel) (by decide +kernel) (by decide +kernel)
    (by first | exact .inl (by decide +kernel) | exact .inr (by decide +kernel)) (by rw [isSubtype_type]; kernel_rfl)
theorem type_pat_search : typeOf (.builtin "re.Pattern.search") = pure (.type "method_descriptor") := by show builtinType _ = _; rw [builtinType_eq_fast]; kernel_rfl
theorem entry_pat_search : entryFor table "re.Pattern.search" = some Builtin.«re.Pattern.search» := entryFor_of_tree (by kernel_rfl)
theorem owner_pat : Manifest.owners.lookup (String.ofList ['n', 'r', 'e', 't', 't', 'a', 'P', '.', 'e', 'r'].reverse) = some Manifest.sig_re_Pattern := by kernel_rfl
theorem args_pat_search_2 (a b : Value) : argsOk "re.Pattern.search" ⟨[a, b], []⟩ := by
  unfold argsOk; rw [signature?_of (id := "re.Pattern.search") (n := ['h', 'c', 'r', 'a', 'e', 's']) (o := ['n', 'r', 'e', 't', 't', 'a', 'P', '.', 'e', 'r']) (by kernel_rfl) owner_pat]; kernel_rfl
/-- the compiled pattern, as the heap of the head holds it -/
def patOk (l : Addr → Option Obj) : Bool := match l 203 with
  | some ⟨.type c, none, .fields fs, sl⟩ => c == "re.Pattern" && sl.size == 0 && Builtin.Re.reRawNat (fs.getD 2 .none) == 0 && Builtin.Re.reRawNat (fs.getD 6 .none) == 0 && (match fs.getD 5 .none with
    | .ref T => (match l T with
      | some ⟨.type c2, none, .seq ws _, sl2⟩ => c2 == "tuple" && sl2.size == 0 && ((ws.map Builtin.Re.reRawOf).map (·.toNat)).toList == wc.toList
      | _ => false)
    | _ => false)
  | _ => false
theorem patOk_hd (w : World) : patOk (fun a => (Mine.hd.heap_39 w.params).lookup a) = true := by kernel_rfl
theorem pat_obj {w : World} {h : Heap} (X : (Mine.hd.heap_39 w.params).In h) : ∃ (fs : Array Value) (T : Addr) (ws : Array Value) (n : Nat), h.get? 203 = some { cls := .type "re.Pattern", data := .fields fs } ∧ fs.getD 5 .none = .ref T ∧ Builtin.Re.reRawNat (fs.getD 2 .none) = 0 ∧ Builtin.Re.reRawNat (fs.getD 6 .none) = 0 ∧
    h.get? T = some { cls := .type "tuple", data := .seq ws n } ∧ (ws.map Builtin.Re.reRawOf).map (·.toNat) = wc := by
  have x := patOk_hd w
  unfold patOk at x
  split at x
  next c fs sl hg =>
    simp only [Bool.and_eq_true, beq_iff_eq, Array.size_eq_zero_iff] at x
    obtain ⟨⟨⟨⟨rfl, rfl⟩, h3⟩, h4⟩, hT⟩ := x
    split at hT
    next T hT' =>
      split at hT
      next c2 ws n sl2 hg2 =>
        simp only [Bool.and_eq_true, beq_iff_eq, Array.size_eq_zero_iff] at hT
        obtain ⟨⟨rfl, rfl⟩, h6⟩ := hT
        exact ⟨fs, T, ws, n, X _ _ hg, hT', h3, h4, X _ _ hg2, Array.toList_inj.mp h6⟩
      next => cases hT
    next => cases hT
  next => cases x
section
open PySem.Builtin.Re
theorem runFor_more {m : Sre.M} {a b : Nat} (h : (Sre.M.runFor a m).outcome.isSome = true) (hb : a ≤ b) : Sre.M.runFor b m = Sre.M.runFor a m := by
  rw [show b = a + (b - a) by omega, runFor_add, runFor_done h]
theorem wp_drive {M : Model} {A : Around} {E : Value → Shared → Prop} {s : Shared} {Q : Sre.M → Shared → Prop} : ∀ (T n : Nat) (m : Sre.M), n < T → (Sre.M.runFor n m).outcome.isSome = true → Q (Sre.M.runFor n m) s → wpAny M A (reDrive T m) Q E s
  | 0, n, m, hn, _, _ => absurd hn (Nat.not_lt_zero _)
  | T + 1, n, m, hn, ho, hQ => by
    unfold reDrive
    dsimp only
    by_cases h4 : (Sre.M.runFor reTurnSteps m).outcome.isSome = true
    · rw [if_pos h4]
      refine wpAny_pure ?_
      rcases Nat.le_total n reTurnSteps with h | h
      · rw [runFor_more ho h]; exact hQ
      · rw [← runFor_more h4 h]; exact hQ
    · rw [if_neg h4]
      refine wpAny_bind (wpAny_rule ?_)
      have h5 : reTurnSteps < n := by
        rcases Nat.lt_or_ge reTurnSteps n with h | h
        · exact h
        · rw [runFor_more ho h] at h4; exact absurd ho h4
      have e : Sre.M.runFor n m = Sre.M.runFor (n - reTurnSteps) (Sre.M.runFor reTurnSteps m) := by rw [← runFor_add]; congr 1; omega
      rw [e] at ho hQ
      exact wp_drive T (n - reTurnSteps) _ (by have : 0 < reTurnSteps := by decide
                                               omega) ho hQ
theorem wp_end {M : Model} {A : Around} {E : Value → Shared → Prop} {s : Shared} {Q : Option Sre.M → Shared → Prop} {n : Nat} {m : Sre.M} {b : Bool} (hn : n < 1000) (ho : Sure m (if b then .matched else .failed) n)
    (hQ : ∀ o, o.isSome = b → Q o s) : wpAny M A (reRunToEnd m) Q E s := by
  unfold reRunToEnd
  have h1 : (Sre.M.runFor n m).outcome.isSome = true := by rw [show (Sre.M.runFor n m).outcome = _ from ho]; rfl
  refine wpAny_bind (wp_drive (2 ^ 64) n m (Nat.lt_trans hn (by decide)) h1 ?_)
  refine wpAny_bind (wpAny_forIn_list _ (fun _ _ s' => s' = s) _ ?_ ?_ _ _ rfl)
  · rintro x rest u s' rfl
    split
    · exact wpAny_bind (wpAny_rule (wpAny_pure rfl))
    · exact wpAny_pure rfl
  · rintro u s' rfl
    rw [show (Sre.M.runFor n m).outcome = _ from ho]
    cases b with
    | true => exact wpAny_pure (hQ _ rfl)
    | false => exact wpAny_pure (hQ _ rfl)
theorem named_eq (v : Value) : reNamed "re.Pattern.search" "search" ["string", "pos", "endpos"] 1 [v] [] = pure [some v, none, none] := by kernel_rfl
theorem search_gives {w : World} {A : Around} {E : Value → Shared → Prop} {s : Shared} {x : Str} {t : Tok} {b : Bool} {n : Nat} {R : Value → Shared → Prop} (X : (Mine.hd.heap_39 w.params).In s.heap) (hn : n < 1000) (hx : x.cps.size < 1000)
    (ho : Sure (Sre.forSearch wc x.cps 0 0 x.cps.size false) (if b then .matched else .failed) n) (h0 : b = false → R .none s)
    (h1 : b = true → ∀ ps fs, R (.ref (s.heap.push { cls := .type "tuple", data := .seq ps }).objs.size) { s with heap := (s.heap.push { cls := .type "tuple", data := .seq ps }).push { cls := .type "re.Match", data := .fields fs } }) :
    wpAny (model PySem.Challenge.rw_ez0048_01.row.prog w) A (Builtin.«re.Pattern.search» ⟨[.ref 203, .str x t], []⟩) (fun fin s' => ∃ v, fin = .done (.ret v) ∧ R v s') E s := by
  obtain ⟨fs, T, ws, k, g1, g2, g3, g4, g5, g6⟩ := pat_obj X
  unfold Builtin.«re.Pattern.search»
  refine wpAny_bind ?_
  unfold reTarget
  dsimp only
  refine wpAny_bind (wpAny_of_eq (named_eq _) ?_)
  dsimp only
  refine wpAny_bind (wpAny_pure ?_)
  refine wpAny_bind (wpAny_pure ?_)
  refine wpAny_bind (wpAny_fieldsOf g1 rfl ?_)
  refine wpAny_bind (wpAny_of_eq (show reTextOf (.str x t) = pure (x.cps, 0) from rfl) ?_)
  dsimp only
  rw [g4, if_neg (by decide), if_neg (by decide)]
  refine wpAny_bind (wpAny_of_eq (show reNoCollectionInside (.str x t) 0 = pure () from rfl) ?_)
  rw [g2]
  unfold reRawItems
  refine wpAny_bind (wpAny_bind (wpAny_seqItems g5 rfl (wpAny_pure (wpAny_pure ?_))))
  dsimp only [Option.getD_some]
  unfold reAnswer
  dsimp only
  rw [g6, g3, show min (Int.toNat 0) x.cps.size = 0 by simp, show min ((2 ^ 63 - 1 : Int).toNat) x.cps.size = x.cps.size by omega]
  refine wpAny_bind (wp_end hn ho fun o hb => ?_)
  cases o with
  | none => exact wpAny_pure ⟨_, rfl, h0 hb.symm⟩
  | some m =>
    refine wpAny_bind ?_
    show wpAny _ _ (newTuple [rawInt m.start, rawInt m.handed] >>= fun tp => newFields "re.Match" [Value.str x t, Value.ref 203, rawInt ((0 : Nat) : Int), rawInt (x.cps.size : Int), rawInt m.lastindex, tp]) _ _ _
    refine wpAny_bind (wpAny_newTuple ?_)
    unfold newFields
    refine wpAny_newObj_type ?_
    exact wpAny_pure ⟨_, rfl, h1 hb.symm _ _⟩
theorem call_search {w : World} {A : Around} {E : Value → Shared → Prop} {s : Shared} {x : Str} {t : Tok} {b : Bool} {n : Nat} {Q : Value → Shared → Prop} {h₀ : Heap} {L : Addr} {m : Str → Option Value} {news : List (Addr × Obj)}
    (F : Fr h₀ L s.heap m) (N : News h₀ L s.heap news) (X : (Mine.hd.heap_39 w.params).In s.heap) (hn : n < 1000) (hx : x.cps.size < 1000)
    (ho : Sure (Sre.forSearch wc x.cps 0 0 x.cps.size false) (if b then .matched else .failed) n) (h0 : b = false → Q .none s)
    (h1 : b = true → ∀ a h' fs, Fr h₀ L h' m → News h₀ L h' ((a, { cls := .type "re.Match", data := .fields fs }) :: news) → (∀ p ∈ news, p.1 < a) → Q (.ref a) { s with heap := h' }) :
    wpAny (model PySem.Challenge.rw_ez0048_01.row.prog w) A (call (.builtin "re.Pattern.search") [.ref 203, .str x t]) Q E s := by
  obtain ⟨fs, T, ws, k, g1, _⟩ := pat_obj X
  refine wpAny_call (codeAny_call_builtin slot_pat_search.plain entry_pat_search (slot_pat_search.check _ _ _ _ _ _ _ _ ⟨_, g1, rfl⟩ (args_pat_search_2 _ _) ?_))
  refine wpAny_mono (search_gives (R := Q) X hn hx ho h0 fun hb ps fs' => ?_) (fun fin s' hh => ?_) fun _ _ e => e
  · refine h1 hb _ _ fs' ((F.push _).push _) (News.push (F.push _) (fun p hp => ⟨Heap.get?_push_of_some _ (N p hp).1, (N p hp).2⟩) _ rfl) fun q hq => ?_
    have := Heap.lt_size (N q hq).1
    rw [Heap.size_push]; exact Nat.lt_succ_of_lt this
  · obtain ⟨v, rfl, hv⟩ := hh; exact hv
end

end
section
theorem get_search {w : World} {A : Around} {E : Value → Shared → Prop} {s : Shared} {pl : Sem Bool} {Q : Value × List Value → Shared → Prop} (X : (Mine.hd.heap_39 w.params).In s.heap) (h : Q (.builtin "re.Pattern.search", [.ref 203]) s) :
    wpAny (model PySem.Challenge.rw_ez0048_01.row.prog w) A (getMethod (.ref 203) "search" pl) Q E s := by
  obtain ⟨fs, T, ws, k, g1, _⟩ := pat_obj X
  exact getMethod_builtin ⟨_, g1, rfl⟩ plainAttrs_pat slot_pat_search type_pat_search (fun a e => by cases e; exact ⟨_, g1, rfl⟩) h
theorem noBool_match : typeLookup (.type "re.Match") "__bool__" = pure none := by rw [typeLookup_type, builtinLookup_eq_fast]; kernel_rfl
theorem noLen_match : typeLookup (.type "re.Match") "__len__" = pure none := by rw [typeLookup_type, builtinLookup_eq_fast]; kernel_rfl
theorem truthy_match {prog : Program} {w : World} {A : Around} {E : Value → Shared → Prop} {s : Shared} {a : Addr} {Q : Bool → Shared → Prop} (hT : s.TypeIs (.ref a) "re.Match") (h : Q true s) : wpAny (model prog w) A (truthy (.ref a)) Q E s := by
  unfold truthy
  first
    | refine wpAny_bind (wpAny_callSpecial?_none (name := Str.ofString "__bool__") hT noBool_match ?_)
    | refine wpAny_bind (wpAny_pure (wpAny_bind (wpAny_callSpecial?_none (name := Str.ofString "__bool__") hT noBool_match ?_)))
  first
    | refine wpAny_bind (wpAny_specialOf (name := Str.ofString "__len__") hT noLen_match ?_)
    | refine wpAny_bind (wpAny_pure (wpAny_bind (wpAny_specialOf (name := Str.ofString "__len__") hT noLen_match ?_)))
  exact wpAny_pure h
theorem meets_bool_new_match (a : Addr) : Meets (Builtin.«bool.__new__» ⟨[.type "bool", .ref a], []⟩) (fun _ R s => s.TypeIs (.ref a) "re.Match" ∧ R (.ok (.ret (.bool true))) s) :=
  Meets.of_wp fun prog w A R s hs => by
    obtain ⟨hp, g, d, tk, os⟩ := s
    obtain ⟨hT, hs⟩ := hs
    have f1 := F.conv_sub_bool
    repeat (any_goals (first | assumption | with_reducible refine truthy_match hT ?_ | wp_step))
    all_goals first | exact ⟨_, rfl, hs⟩ | skip
theorem call_bool_match {prog : Program} {w : World} {A : Around} {E : Value → Shared → Prop} {s : Shared} {a : Addr} {Q : Value → Shared → Prop} (hT : s.TypeIs (.ref a) "re.Match") (h : Q (.bool true) s) :
    wpAny (model prog w) A (call (.type "bool") [.ref a]) Q E s :=
  call_bool_1 (meets_bool_new_match a) (show _ ∧ wants (fun obj s₁ => s₁.TypeIs obj "bool" ∧ Q obj s₁) E _ _ from ⟨hT, rfl, h⟩)
theorem call_bool_matchN {prog : Program} {w : World} {A : Around} {E : Value → Shared → Prop} {s : Shared} {a : Addr} {Q : Value → Shared → Prop} {h₀ : Heap} {L : Addr} {news : List (Addr × Obj)} {fs : Array Value} (N : News h₀ L s.heap news) (hm : (a, { cls := .type "re.Match", data := .fields fs }) ∈ news) (h : Q (.bool true) s) :
    wpAny (model prog w) A (call (.type "bool") [.ref a]) Q E s := call_bool_match ⟨_, (N _ hm).1, rfl⟩ h
section
local macro_rules | `(tactic| walk_at "call type:bool") => `(tactic| (k_here; (with_reducible show wpAny _ _ (call (Value.type "bool") [Value.ref _]) _ _ _); k_dflt (refine' call_bool_matchN ?nN ?mm ?_; (case nN => k_asm); (case mm => k_mem); k_whole)))
local macro_rules | `(tactic| walk_at "getMethod ref") => loose `(tactic| (k_here; (with_reducible show wpAny _ _ (getMethod (Value.ref 203) (PySem.Str.ofString "search") _) _ _ _); k_dflt (refine' get_search ?xx ?_; (case xx => exact X'.keeps (Fr.keep (by k_asm))); k_whole)))
local macro_rules | `(tactic| walk_at "call builtin:re.Pattern.search") => loose `(tactic| (k_here; (with_reducible show wpAny _ _ (call (Value.builtin _) [Value.ref 203, Value.str _ _]) _ _ _); k_dflt (refine' call_search ?fF ?nN ?xX hn hx ho ?y0 ?y1; (case fF => k_asm); (case nN => k_asm); (case xX => exact X'.keeps (Fr.keep (by k_asm)))); (case' y0 => k_whole); (case' y0 => intro hb9); (case' y1 => k_whole); (case' y1 => intro hb9 a9 h9 fs9 F9 N9 l9)))
theorem wild_con (w : World) {x : Str} {t : Tok} {b : Bool} {n : Nat} (hn : n < 1000) (hx : x.cps.size < 1000) (ho : Sure (Sre.forSearch wc x.cps 0 0 x.cps.size false) (if b then .matched else .failed) n) :
    Con w 210 [.str x t] [] [] [] 30 100 (fun (_ : Unit) => True) (fun _ => []) (fun _ => []) (fun _ => .bool b) := by
  walk_at "m enter"
  k_steps
  · subst hb9
    walk_at "m outw"
    refine' leaveM_ (by assumption) (by assumption) rfl () trivial rfl ?M ?O
    (case M => walk_at "m in")
    (case O => walk_at "m off")
  · subst hb9
    refine' leaveM_ (by assumption) (by assumption) rfl () trivial rfl ?M ?O
    (case M => walk_at "m in")
    (case O => walk_at "m off")
end
theorem wild_wr (w : World) {ns : List Int} {t : Tok} (h4 : ns.length ≤ 4) : Con w 210 [.str (wr ns) t] [] [] [] 30 100 (fun (_ : Unit) => True) (fun _ => []) (fun _ => []) (fun _ => .bool (ns.any starK)) := by
  have hl := wr_len h4
  refine wild_con w (n := 7 * ns.length + 11) (by omega) (by simp only [Str.length] at hl; omega) ?_
  exact search_ends (pre := [114, 111, 111, 116]) (by decide) (by simp)
/-- the text «a» and what comes after root -/
def wa (ns : List Int) : Str := ⟨(97 :: body ns).toArray⟩
theorem wild_wa (w : World) {ns : List Int} {t : Tok} (h4 : ns.length ≤ 4) : Con w 210 [.str (wa ns) t] [] [] [] 30 100 (fun (_ : Unit) => True) (fun _ => []) (fun _ => []) (fun _ => .bool (ns.any starK)) := by
  have hl := body_len ns
  cases ns with
  | nil => exact wild_con w (b := false) (n := 1) (by omega) (by decide) search_a
  | cons k r =>
    refine wild_con w (n := 7 * (k :: r).length + 11) (by omega) (by simp only [wa, List.size_toArray, List.length_cons] at hl h4 ⊢; omega) ?_
    refine search_ends (pre := [97]) (by decide) ?_
    have := part_3 k
    rw [body_cons, List.length_append, List.length_append]; simp; omega

end
section
local macro_rules | `(tactic| walk_at "slice1") => `(tactic| (
  k_here; (with_reducible show wpAny _ _ (subscriptTail _ (PySem.Expr.Slice (some _) none none _) (Value.ref _) (Value.ref _)) _ _ _); k_dflt (
  (refine' slice1 ?F ?N ?t ?v ?_ ?s ?g; (case F => k_asm); (case N => k_asm); (case t => k_mem); (case v => omega); (case s => with_unfolding_all rfl); (case g => (intro _; with_unfolding_all rfl))); k_whole); intro D' h' F' N' l1; (try k_lt l1); (try k_sweep)))
local macro_rules | `(tactic| walk_at "subscriptTail Name Slice ref ref") => `(tactic| walk_at "slice1")
local macro_rules | `(tactic| walk_at "subscriptTail Call Slice ref ref") => `(tactic| walk_at "slice1")
local macro_rules | `(tactic| walk_at "m cut") => loose `(tactic| first | (obtain ⟨_, hne9⟩ := hne9; walk_at "m cut") | skip)
local macro_rules | `(tactic| walk_at "call ref") => loose `(tactic| (
  k_here; (with_reducible show wpAny _ _ (call (Value.ref 198) _ _) _ _ _); k_dflt (
  (with_unfolding_all refine' con_use (path_con _ ?a1 ?a2) ?B ?Xb ?Tb ?F ?N ?hf ?hke ?hd ?hu ?hro ?hpick ?hoff ?hup ?_);
  walk_at "m use"; (case a1 => assumption); (case a2 => assumption); k_whole;
  intro x9 h9 tk9 hP9 F9 N9 hne9; obtain ⟨a9, vs9, tups9⟩ := x9; replace N9 := news_swap N9; (try dsimp only [List.cons_append, List.nil_append] at N9); (try dsimp only at hP9); (have hl9 : vs9.length ≤ 4 := by rw [hP9.length]; assumption); (rw [NeAll] at hne9); (simp only [neAll_consL, neAll_nil_iff, NeOne, and_true, and_assoc] at hne9); walk_at "m cut"; (try dsimp only); (try k_sweep); (try k_fold); walk_say "CONTRACT path")))

section
variable {prog : Program} {w : World} {A : Around} {E : Value → Shared → Prop} {s : Shared} {K : PySem.W.Frag} {x C L f : Addr} {h₀ : Heap} {m : Str → Option Value} {ox : Obj} {od : Option Obj}
theorem len_body_K {Q : Value → Shared → Prop} (F : Fr h₀ L s.heap m) (X₀ : K.In h₀) (I : InstAt s.heap x ox C od) (hs : findIn K (.ref C) "__len__" = some (some (.ref f))) (hf : isFn K (.ref f) = true)
    (h : wpAny (model prog w) A (call (.ref f) [.ref x]) (PySem.W.LenBack Q) E s) : wpAny (model prog w) A (Builtin.«len» ⟨[.ref x], []⟩) (fun fin s' => ∃ r, fin = .done (.ret r) ∧ Q r s') E s := by
  unfold Builtin.«len»
  refine wpAny_bind (m := oneArg "len" _) (wpAny_pure ?_)
  refine wpAny_bind (m := callSpecial? (.ref x) (Str.ofString "__len__")) (special_fn (X₀.keeps F.keep) I hs (beq_iff_eq.mp hf) (wpAny_mono h (fun r s' hr => ?_) fun _ _ y => y))
  cases r <;> first | exact hr.elim | skip
  rename_i n u
  obtain ⟨⟨h0, h1⟩, hq⟩ := hr
  refine wpAny_bind (wpAny_holding (wpAny_pure ?_))
  refine wpAny_bind (wpAny_letGo ?_)
  show wpAny _ _ (if n < 0 then _ else _) _ _ _
  rw [if_neg (by omega)]
  show wpAny _ _ (if n ≥ 2 ^ 63 then _ else _) _ _ _
  rw [if_neg (by omega)]
  exact wpAny_bind (wpAny_mkInt (wpAny_pure ⟨_, rfl, hq⟩))
theorem truthy_KL {Q : Bool → Shared → Prop} (F : Fr h₀ L s.heap m) (X₀ : K.In h₀) (I : InstAt s.heap x ox C od) (hs : findIn K (.ref C) "__bool__" = some none) (hl : findIn K (.ref C) "__len__" = some (some (.ref f))) (hf : isFn K (.ref f) = true)
    (h : wpAny (model prog w) A.in1 (call (.ref f) [.ref x]) (PySem.W.LenBack fun v s' => ∃ n t, v = .int n t ∧ Q (n != 0) s') E s) : wpAny (model prog w) A (truthy (.ref x)) Q E s := by
  have X := X₀.keeps F.keep
  have key : wpAny (model prog w) A (runValue (.builtin "len" ⟨[.ref x], []⟩)) (fun r s' => ∃ n t, r = .int n t ∧ Q (n != 0) s') E s := by
    refine wpAny_runValue (codeAny_builtin entry_len ?_)
    rw [Around.under_plainId plain_len _]
    exact wpAny_mono (len_body_K F X₀ I hl hf (h)) (fun fin s' h' => by obtain ⟨r, rfl, hq⟩ := h'; exact hq) fun _ _ e => e
  unfold truthy
  refine wpAny_bind (m := callSpecial? (.ref x) (Str.ofString "__bool__")) (wpAny_bind (wpAny_bind (I.type.here ((looks_findIn X hs).here (wpAny_pure ?_)))))
  refine wpAny_bind (wpAny_bind (I.type.here ((looks_findIn X hl).here ?_)))
  exact wpAny_bind (wpAny_mono key (fun r s' h' => by obtain ⟨n, t, rfl, hq⟩ := h'; exact wpAny_pure hq) fun _ _ e => e)
end
def put (xs : List Str) (k : Str) : List Str := if k ∈ xs then xs else xs ++ [k]
def TDict (w : World) (od : Obj) (xs : List Str) : Prop := od.IsDictOf (PySem.strKind PySem.Challenge.rw_ez0048_01.row.prog w) (xs.map fun x => (x, Value.none))
theorem stored_put (xs : List Str) (k : Str) : stored (xs.map fun x => (x, Value.none)) k .none = (put xs k).map fun x => (x, Value.none) := by
  unfold stored put
  by_cases h : k ∈ xs
  · rw [if_pos h, if_pos (by simp [h]), List.map_map]
    apply List.map_congr_left
    intro x _
    by_cases e : x = k <;> simp [e]
  · rw [if_neg h, if_neg (by simp only [List.any_map, List.any_eq_true, Function.comp, decide_eq_true_eq, not_exists, not_and]; intro x hx e; exact h (e ▸ hx)), List.map_append]; rfl
theorem put_len (xs : List Str) (k : Str) : (put xs k).length ≤ xs.length + 1 := by unfold put; split <;> simp
section
variable {w : World} {A : Around} {E : Value → Shared → Prop} {s : Shared} {h₀ : Heap} {L D : Addr} {m : Str → Option Value} {news : List (Addr × Obj)} {od : Obj} {xs : List Str}
theorem tdict_set {g : Obj → List (Addr × Obj)} {k : Str} {t : Tok} {Q : Unit → Shared → Prop} (F : Fr h₀ L s.heap m) (N : News h₀ L s.heap news) (U : UpdF D od news g) (T : TDict w od xs) (hz : xs.length ≤ 1000)
    (h : ∀ h' od' tk, Fr h₀ L h' m → News h₀ L h' (g od') → TDict w od' (put xs k) → Q () { s with heap := h', toks := tk }) :
    wpAny (model PySem.Challenge.rw_ez0048_01.row.prog w) A (setItem (.ref D) (.str k t) .none) Q E s := by
  obtain ⟨pre, post, rfl, hg, hp1, hp2⟩ := U.split
  have hm := N _ (List.mem_append_right pre (List.mem_cons_self (a := (D, od)) (l := post)))
  refine wpAny_setItem_pairs (hsz := by rw [List.length_map, sizeLine_eq]; omega) (strKind_is _ _ _ _) (Heap.dictOf_iff.mpr ⟨od, hm.1, T⟩) fun h' hmm hs => ?_
  obtain ⟨o', ho', hd'⟩ := Heap.dictOf_iff.mp hmm
  exact h h' o' _ (F.change hs hm.2.1 hm.2.2) (hg o' ▸ N.setIn hp1 hp2 hs ho') (by unfold TDict; rw [← stored_put]; exact hd')
theorem tdict_len {Q : Value → Shared → Prop} (N : News h₀ L s.heap news) (hm : (D, od) ∈ news) (T : TDict w od xs) (lo : (D == sysModules) = false) (hz : xs.length ≤ 1000) (h : ∀ t tk, Q (.int xs.length t) { s with toks := tk }) :
    wpAny (model PySem.Challenge.rw_ez0048_01.row.prog w) A (call (.builtin "len") [.ref D]) Q E s := by
  have e : (xs.map fun x => (x, Value.none)).length = xs.length := List.length_map ..
  exact call_len_dict lo (Heap.dictOf_iff.mpr ⟨od, (N _ hm).1, T⟩) (by rw [e]; omega) (by rw [e]; exact h _ _)
end
theorem iterOf_tuple {prog : Program} {w : World} {A : Around} {s : Shared} {l : Addr} {items : Array Value} (hh : A.handled = none) (hl : s.heap.IsTuple l items) : IterOf prog w A s (.ref l) items.size (fun i v => items[i]? = some v) [l] := by
  intro Q E k
  obtain ⟨o, ho, _⟩ := id hl
  have hlt := Heap.lt_size ho
  refine wpAny_pyIter_tuple hl (k _ _ (Walks.tuple hh _ l (Nat.ne_of_lt hlt) items) (fun i h st => ?_) ⟨⟨_, Heap.get?_push_size _ rfl, rfl, rfl⟩, hl.at fun o e => Heap.get?_push_of_some _ e⟩ rfl)
  obtain ⟨o', ho', _⟩ := st.1
  exact ⟨o', ho'⟩
theorem tup46 {w : World} {h : Heap} (X : (Mine.hd.heap_39 w.params).In h) : h.IsTuple 46 #[] := by
  have e : ((Mine.hd.heap_39 w.params).lookup 46).map (fun o => (o.cls, o.data)) = some (.type "tuple", .seq #[] 0) := by kernel_rfl
  obtain ⟨o, ho, hc⟩ := Option.map_eq_some_iff.mp e
  simp only [Prod.mk.injEq] at hc
  exact ⟨o, X _ _ ho, hc.1, _, hc.2⟩
abbrev frBase {h₀ h : Heap} {L : Addr} {m : Str → Option Value} (_ : Fr h₀ L h m) : Heap := h₀
theorem fr_ne {h₀ h : Heap} {L b : Addr} {m : Str → Option Value} {o : Obj} (F : Fr h₀ L h m) (e : h₀.get? b = some o) : b ≠ L := Nat.ne_of_lt (Nat.lt_of_lt_of_le (Heap.lt_size e) F.above)
/-- a path of a list: root or «a», and what follows -/
def txt (p : Bool × List Int) : Str := if p.1 then wa p.2 else wr p.2
abbrev starP (p : Bool × List Int) : Bool := p.2.any starK
def exOf (ps : List (Bool × List Int)) : List Str := (ps.filter fun p => !starP p).foldl (fun a p => put a (txt p)) []
def wiOf (ps : List (Bool × List Int)) : List Str := (ps.filter starP).map txt
theorem exOf_app (ps : List (Bool × List Int)) (p : Bool × List Int) : exOf (ps ++ [p]) = if starP p then exOf ps else put (exOf ps) (txt p) := by
  unfold exOf; rw [List.filter_append]
  cases h : starP p <;> simp [h, List.foldl_append]
theorem wiOf_app (ps : List (Bool × List Int)) (p : Bool × List Int) : wiOf (ps ++ [p]) = if starP p then wiOf ps ++ [txt p] else wiOf ps := by
  unfold wiOf; rw [List.filter_append]
  cases h : starP p <;> simp [h]
theorem put_ne (xs : List Str) (k : Str) : put xs k ≠ [] := by
  unfold put; split
  next h => intro e; rw [e] at h; cases h
  next => simp
theorem fold_put_len : ∀ (ps : List (Bool × List Int)) (a : List Str), (ps.foldl (fun a p => put a (txt p)) a).length ≤ a.length + ps.length
  | [], a => by simp
  | p :: r, a => by
    rw [List.foldl_cons]
    have h1 := fold_put_len r (put a (txt p))
    have h2 := put_len a (txt p)
    simp only [List.length_cons]; omega
theorem exOf_len (ps : List (Bool × List Int)) : (exOf ps).length ≤ ps.length := by
  unfold exOf
  have h1 := fold_put_len (ps.filter fun p => !starP p) []
  have h2 := List.length_filter_le (fun p => !starP p) ps
  simp only [List.length_nil, Nat.zero_add] at h1
  omega
theorem wiOf_len (ps : List (Bool × List Int)) : (wiOf ps).length ≤ ps.length := by
  unfold wiOf; rw [List.length_map]; exact List.length_filter_le _ _
theorem take_snoc {α : Type} {l : List α} {i : Nat} {x : α} (h : l[i]? = some x) : l.take (i + 1) = l.take i ++ [x] := by
  rw [List.take_add_one, h]; rfl
theorem fold_put_ne : ∀ (ps : List (Bool × List Int)) (a : List Str), a ≠ [] ∨ ps ≠ [] → ps.foldl (fun a p => put a (txt p)) a ≠ []
  | [], a, h => h.resolve_right (fun e => e rfl)
  | p :: r, a, _ => by rw [List.foldl_cons]; exact fold_put_ne r _ (.inl (put_ne _ _))
theorem exOf_ne {ps : List (Bool × List Int)} {p : Bool × List Int} (hm : p ∈ ps) (h : starP p = false) : exOf ps ≠ [] :=
  fold_put_ne _ _ (.inr (fun e => by have : p ∈ ps.filter fun p => !starP p := List.mem_filter.mpr ⟨hm, by rw [h]; rfl⟩
                                     rw [e] at this; cases this))
theorem strsAre_get {vs : List Value} {ss : List Str} (h : StrsAre vs ss) : ∀ {i : Nat} {v : Value}, vs[i]? = some v → ∃ x t, v = .str x t ∧ ss[i]? = some x := by
  induction h with
  | nil => intro i v h; simp at h
  | cons n t _ ih =>
    intro i v h
    cases i with
    | zero => simp at h; exact ⟨n, t, h.symm, rfl⟩
    | succ i => simpa using ih (by simpa using h)
theorem wild_wrb (w : World) {ns : List Int} {t : Tok} {b : Bool} (h4 : ns.length ≤ 4) (h : ns.any starK = b) : Con w 210 [.str (wr ns) t] [] [] [] 30 100 (fun (_ : Unit) => True) (fun _ => []) (fun _ => []) (fun _ => .bool b) := h ▸ wild_wr w h4
theorem wild_wab (w : World) {ns : List Int} {t : Tok} {b : Bool} (h4 : ns.length ≤ 4) (h : ns.any starK = b) : Con w 210 [.str (wa ns) t] [] [] [] 30 100 (fun (_ : Unit) => True) (fun _ => []) (fun _ => []) (fun _ => .bool b) := h ▸ wild_wa w h4
local macro_rules | `(tactic| walk_at "call ref") => `(tactic| (
  k_here; (with_reducible show wpAny _ _ (call (Value.ref 210) _ _) _ _ _); k_dflt (
  (first | (with_unfolding_all refine' con_use (wild_wrb _ ?a1 ?a2) ?B ?Xb ?Tb ?F ?N ?hf ?hke ?hd ?hu ?hro ?hpick ?hoff ?hup ?_) | (with_unfolding_all refine' con_use (wild_wab _ ?a1 ?a2) ?B ?Xb ?Tb ?F ?N ?hf ?hke ?hd ?hu ?hro ?hpick ?hoff ?hup ?_));
  walk_at "m use"; (case a1 => assumption); (case a2 => assumption); k_whole;
  intro x9 h9 tk9 hP9 F9 N9 hne9; clear hne9; (try dsimp only [List.cons_append, List.nil_append] at N9); (try dsimp only); (try k_sweep); (try k_fold); walk_say "CONTRACT wild")))
theorem sw_wr (ns : List Int) : Txt.startswith (wr ns) (Str.ofString "root") = true := by
  show (decide (0 + (Str.ofString "root").length ≤ (wr ns).length) && ((wr ns).cps.extract 0 (0 + (Str.ofString "root").length) == (Str.ofString "root").cps)) = true
  rw [str_root]
  simp [Str.length, wr]
theorem sw_wa (ns : List Int) : Txt.startswith (wa ns) (Str.ofString "root") = false := by
  show (decide (0 + (Str.ofString "root").length ≤ (wa ns).length) && ((wa ns).cps.extract 0 (0 + (Str.ofString "root").length) == (Str.ofString "root").cps)) = false
  rw [str_root]
  simp [Str.length, wa]
section
local macro_rules | `(tactic| walk_at "call builtin:len") => `(tactic| (k_here; (with_reducible show wpAny _ _ (call (Value.builtin "len") [Value.ref _]) _ _ _); k_dflt (refine' tdict_len ?N ?m ?t ?o ?z ?_; (case N => k_asm); (case m => k_mem); (case t => assumption); (case o => assumption); (case z => assumption); k_whole); intro t9 tk9))
local macro_rules | `(tactic| walk_at "call ref") => loose `(tactic| (
  k_here; (with_reducible show wpAny _ _ (call (Value.ref 271) _ _) _ _ _); k_dflt (
  (with_unfolding_all refine' con_use (compile_con _ ?a1 ?a2) ?B ?Xb ?Tb ?F ?N ?hf ?hke ?hd ?hu ?hro ?hpick ?hoff ?hup ?_);
  walk_at "m use"; (case a1 => assumption); (case a2 => assumption); k_whole;
  intro x9 h9 tk9 hP9 F9 N9 hne9; obtain ⟨D9, e9, x9, d9, t91, t93, pt9, n9⟩ := x9; (try dsimp only [List.cons_append, List.nil_append] at N9); (try dsimp only at hne9); (simp only [NeAll, NeOne, and_true] at hne9); (try dsimp only); (try k_sweep); (try k_fold); walk_say "CONTRACT compile")))
local macro_rules | `(tactic| walk_at "pyIter ref") => loose `(tactic| (k_here; (with_reducible show wpAny _ _ (pyIter (Value.ref l)) _ _ _); refine stop_in ?_))
local macro_rules | `(tactic| walk_at "exec For Name Name cons nil") => `(tactic| (k_here; (with_reducible show wpAny _ _ (exec (PySem.Stmt.For (PySem.Expr.Name (PySem.Str.ofString "item") _) _ _ _ _) _) _ _ _); refine stop_in ?_))
local macro_rules | `(tactic| walk_at "exec For Name Name cons nil") => `(tactic| (k_here; (with_reducible show wpAny _ _ (exec (PySem.Stmt.For (PySem.Expr.Name (PySem.Str.ofString "path") _) _ _ _ _) _) _ _ _); refine stop_in ?_))
local macro_rules | `(tactic| walk_at "setItem ref str") => loose `(tactic| (k_here; (with_reducible show wpAny _ _ (setItem (Value.ref _) (Value.str _ _) Value.none) _ _ _); k_dflt (refine' tdict_set ?fF ?nN ?uU ?tT ?zZ ?_; (case fF => k_asm); (case nN => k_asm); (case tT => assumption); (case uU => walk_at "m updF"); (case zZ => assumption); k_whole); intro h9 od9 tk9 F9 N9 hT9; (try dsimp only at N9); (try k_sweep)))
local macro_rules | `(tactic| walk_at "m updF") => `(tactic| first | (refine' UpdF.head ?a; (case a => walk_at "m all")) | (refine' UpdF.tail ?a ?b; (case a => k_ne); (case b => walk_at "m updF")))
local macro_rules | `(tactic| walk_at "truthy ref") => loose `(tactic| (
  k_here; (with_reducible show wpAny _ _ (truthy (Value.ref _)) _ _ _); k_dflt (refine' wpAny_truthy_list (items := _) ?k1 ?k2 ?_; (case k1 => (refine' News.isList ?N ?m; (case N => k_asm); (case m => k_mem))); (case k2 => walk_at "m fit63"); k_whole; (try simp only [hpos, List.isEmpty_toArray, List.isEmpty_cons, List.isEmpty_nil, Array.isEmpty_push, Bool.not_false, Bool.not_true]))))
local macro_rules | `(tactic| walk_at "truthy ref") => `(tactic| (k_here; (with_reducible show wpAny _ _ (truthy (Value.ref _)) _ _ _); k_dflt (refine' truthy_KL ?k1 ?k2 ?k3 ?k4 ?k5 ?k6 ?_; (case k1 => k_asm); (case k2 => k_asm); (case k3 => k_inst); (case k4 => k_is); (case k5 => k_is); (case k6 => k_is); k_whole)))
abbrev edict (w : World) (D : Addr) (t : Tok) (n : Nat) : Obj := dictOf [{ hash := PyData.keyHash w.params (Str.ofString "rows"), key := .str (Str.ofString "rows") t, val := .ref D }] n
theorem sep_con (w : World) {l : Addr} {vs : List Value} {ep : Nat} {ps : List (Bool × List Int)} {pn : List Int} (hV : StrsAre vs (ps.map txt)) (hz : vs.length ≤ 20) (hpos : vs.toArray.isEmpty = false)
    (h4 : ∀ p ∈ ps, p.2.length ≤ 4) (h7 : ∀ p ∈ ps, ∀ k ∈ p.2, 0 ≤ k ∧ k < 7) (hA : ∀ p ∈ ps, p.1 = true → starP p = false) (hex : exOf ps ≠ []) (hw : wiOf ps = [] ∨ wiOf ps = [wr pn] ∧ pn.length ≤ 4 ∧ ∀ k ∈ pn, 0 ≤ k ∧ k < 7) :
    Con w 278 [.ref l] [] [(l, listOf vs.toArray ep)] [] 120 800
      (fun (x : Addr × Addr × Addr × Addr × Tok × Nat × Obj × Value × List (Addr × Obj)) => TDict w x.2.2.2.2.2.2.1 (exOf ps) ∧ (x.2.2.2.1 == sysModules) = false ∧
        ((wiOf ps = [] ∧ x.2.2.2.2.2.2.2.1 = .none) ∨ wiOf ps ≠ [] ∧ ∃ D e x' d t1 t t3 pt n, x.2.2.2.2.2.2.2.1 = .ref D ∧ x.2.2.2.2.2.2.2.2 = [(D, listOf #[.ref x'] e), (x', instObj 262 d), (d, mdict w pn t1 t t3 pt n)]))
      (fun _ => []) (fun ⟨R, E, dE, D, t, n, od, G, gl⟩ => (R, tupOf #[.ref E, G]) :: (E, instObj 123 dE) :: (dE, edict w D t n) :: (D, od) :: gl) (fun x => .ref x.1) := by
  have hvl := strsAre_len hV
  rw [List.length_map] at hvl
  walk_at "m enter"
  k_steps
  refine ⟨?_⟩
  rename Fr _ _ _ _ => F6
  with_unfolding_all refine' For_invV (frBase F6) ?k1 ?k2 ?_
  (case k1 => rfl)
  (case k2 => rfl)
  dsimp only [frBase]
  k_steps
  rename News _ _ _ _ => N6
  rename (Mine.hd.heap_39 w.params).In _ => X6
  refine loop_M (fun _ m l => m = _ ∧ l = _) (iterOf_tuple rfl (tup46 (X6.keeps F6.keep))) F6 N6 ?ex ⟨rfl, rfl⟩ (fun i v m₁ n₁ I oI h tk hi => absurd hi (Nat.not_lt_zero _)) ?_
  (case ex =>
    intro b hb
    rw [List.mem_singleton.mp hb]
    obtain ⟨o, ho, _⟩ := tup46 X6
    exact ⟨fr_ne F6 ho, .inl ⟨o, ho⟩⟩)
  clear F6 N6
  rintro m₁ l₁ h₁ tk₁ ⟨rfl, rfl⟩ F6 N6
  k_steps
  refine ⟨?_⟩
  with_unfolding_all refine' For_invV g ?k3 ?k4 ?_
  (case k3 => rfl)
  (case k4 => rfl)
  k_steps
  refine ⟨?_⟩
  rename Fr _ _ _ _ => F8
  rename News _ _ _ _ => N8
  rename Obj.IsDictOf (PySem.strKind _ _) _ _ => T8
  rename (_ == sysModules) = false => lo8
  refine loop_M (fun i m L => ∃ E dE D W t n od ws nw, m (Str.ofString "paths") = some (.ref l) ∧ m (Str.ofString "exact") = some (.ref E) ∧ m (Str.ofString "wildcards") = some (.ref W) ∧ TDict w od (exOf (ps.take i)) ∧ StrsAre ws (wiOf (ps.take i)) ∧ (D == sysModules) = false ∧
      @Ne Nat W D ∧ @Ne Nat W E ∧ @Ne Nat W dE ∧ @Ne Nat W l ∧ @Ne Nat D E ∧ @Ne Nat D dE ∧ @Ne Nat D l ∧ @Ne Nat E l ∧ @Ne Nat dE l ∧ L = [(W, listOf ws.toArray nw), (D, od), (E, instObj 123 dE), (dE, edict w D t n), (l, listOf vs.toArray ep)])
    (iterOf_list rfl (News.isList N8 (by k_memK))) F8 N8 ?_ ?_ ?_ ?_
  · intro q hq
    rw [List.mem_singleton.mp hq]
    exact ⟨Nat.ne_of_lt hlt, .inr ⟨_, fun i m L ⟨E, dE, D, W, t, n, od, ws, nw, _, _, _, _, _, _, _, _, _, _, _, _, _, _, _, e⟩ => by rw [e]; k_memK⟩⟩
  · exact ⟨_, _, _, _, _, _, _, [], _, by with_unfolding_all rfl, by with_unfolding_all rfl, by with_unfolding_all rfl, T8, .nil, lo8, by k_ne, by k_ne, by k_ne, by k_ne, by k_ne, by k_ne, by k_ne, by k_ne, by k_ne, rfl⟩
  · rintro i v m₂ l₂ I oI h₂ tk₂ hi hP ⟨E, dE, D, W, t, n, od, ws, nw, f1, f2, f3, hT, hW, lo, d1, d2, d3, d4, d5, d6, d7, d8, d9, rfl⟩ hneI F9 N9
    simp only [NeOne, and_true] at hneI
    obtain ⟨nI1, nI2, nI3, nI4, nI5⟩ := hneI
    obtain ⟨x, t9, rfl, hx⟩ := strsAre_get hV (by simpa using hP)
    rw [List.getElem?_map] at hx
    obtain ⟨⟨a, ns⟩, hp, rfl⟩ := Option.map_eq_some_iff.mp hx
    have hmem : (a, ns) ∈ ps := List.mem_of_getElem? hp
    have hn4 : ns.length ≤ 4 := h4 _ hmem
    have hzx : (exOf (ps.take i)).length ≤ 1000 := by have h1 := exOf_len (ps.take i); rw [List.length_take] at h1; omega
    have hwl : ws.length ≤ 20 := by have h1 := strsAre_len hW; have h2 := wiOf_len (ps.take i); rw [List.length_take] at h2; omega
    have hm := with_cons f1 (with_cons f2 (with_cons f3 rfl))
    rw [hm] at F9
    replace F9 : Fr g L' _ _ := F9
    replace N9 : News g L' _ _ := N9
    clear hm f1 f2 f3 F8 N8
    have hex' := exOf_app (ps.take i) (a, ns)
    have hwi' := wiOf_app (ps.take i) (a, ns)
    rw [← take_snoc hp] at hex' hwi'
    cases a with
    | true =>
      have hst : ns.any starK = false := hA _ hmem rfl
      rw [show starP (true, ns) = false from hst] at hex' hwi'
      simp only [Bool.false_eq_true, if_false] at hex' hwi'
      have e : txt (true, ns) = wa ns := rfl
      rw [e] at hex' F9
      k_steps
      refine turnM_next [(W, listOf ws.toArray nw), (D, od9), (E, instObj 123 dE), (dE, edict w D t n), (l, listOf vs.toArray ep)] (by assumption) (by assumption) (by k_memK) (by walk_at "m in") (by walk_at "m all") ⟨E, dE, D, W, t, n, od9, ws, nw, by with_unfolding_all rfl, by with_unfolding_all rfl, by with_unfolding_all rfl, by rw [hex']; exact hT9, by rw [hwi']; exact hW, lo, d1, d2, d3, d4, d5, d6, d7, d8, d9, rfl⟩
    | false =>
      have e : txt (false, ns) = wr ns := rfl
      cases hst : ns.any starK with
      | true =>
        have hsw := sw_wr ns
        rw [show starP (false, ns) = true from hst] at hex' hwi'
        simp only [if_true] at hex' hwi'
        rw [e] at hwi' F9
        k_steps
        rename News _ _ _ _ => N8
        rw [List.push_toArray] at N8
        refine turnM_next [(W, listOf (ws ++ [Value.str (wr ns) t9]).toArray (nw + 1)), (D, od), (E, instObj 123 dE), (dE, edict w D t n), (l, listOf vs.toArray ep)] (by assumption) (by assumption) (by k_memK) (by walk_at "m in") (by walk_at "m all") ⟨E, dE, D, W, t, n, od, (ws ++ [Value.str (wr ns) t9]), (nw + 1), by with_unfolding_all rfl, by with_unfolding_all rfl, by with_unfolding_all rfl, by rw [hex']; exact hT, by rw [hwi']; exact strsAre_snoc hW, lo, d1, d2, d3, d4, d5, d6, d7, d8, d9, rfl⟩
      | false =>
        rw [show starP (false, ns) = false from hst] at hex' hwi'
        simp only [Bool.false_eq_true, if_false] at hex' hwi'
        rw [e] at hex' F9
        k_steps
        refine turnM_next [(W, listOf ws.toArray nw), (D, od9), (E, instObj 123 dE), (dE, edict w D t n), (l, listOf vs.toArray ep)] (by assumption) (by assumption) (by k_memK) (by walk_at "m in") (by walk_at "m all") ⟨E, dE, D, W, t, n, od9, ws, nw, by with_unfolding_all rfl, by with_unfolding_all rfl, by with_unfolding_all rfl, by rw [hex']; exact hT9, by rw [hwi']; exact hW, lo, d1, d2, d3, d4, d5, d6, d7, d8, d9, rfl⟩
  · rintro m₂ l₂ h₂ tk₂ ⟨E, dE, D, W, t, n, od, ws, nw, f1, f2, f3, hT, hW, lo, d1, d2, d3, d4, d5, d6, d7, d8, d9, rfl⟩ F9 N9
    have hm := with_cons f1 (with_cons f2 (with_cons f3 rfl))
    rw [hm] at F9
    replace F9 : Fr g L' _ _ := F9
    replace N9 : News g L' _ _ := N9
    clear hm f1 f2 f3 F8 N8
    rw [show vs.toArray.size = ps.length by simp [hvl], List.take_length] at hT hW
    have hzx : (exOf ps).length ≤ 1000 := by have h1 := exOf_len ps; omega
    have hz0 : 0 < (exOf ps).length := List.length_pos_iff.mpr hex
    rcases hw with hw | ⟨hw, hn4, hn7⟩
    · rw [hw] at hW
      cases hW
      k_steps
      all_goals first
        | (exfalso; omega)
        | (walk_at "m outw"
           refine' leaveM_ (by assumption) (by assumption) rfl ⟨_, E, dE, D, t, n, od, .none, []⟩ ⟨hT, lo, .inl ⟨hw, rfl⟩⟩ rfl ?M ?O
           (case M => walk_at "m in")
           (case O => walk_at "m off"))
    · rw [hw] at hW
      cases hW with
      | cons _ t8 hW =>
        cases hW
        k_steps
        all_goals first
          | (exfalso; omega)
          | (walk_at "m outw"
             obtain ⟨⟨g1, g2, g3, g4, g5⟩, ⟨g6, g7, g8, g9, g10⟩, ⟨g11, g12, g13, g14, g15⟩⟩ := hne9
             refine' leaveM_ (by assumption) (by assumption) rfl ⟨_, E, dE, D, t, n, od, .ref D9, [(D9, listOf #[.ref x9] e9), (x9, instObj 262 d9), (d9, mdict w pn t91 t8 t93 pt9 n9)]⟩ ⟨hT, lo, .inr ⟨by rw [hw]; simp, D9, e9, x9, d9, t91, t8, t93, pt9, n9, rfl, rfl⟩⟩ rfl ?M ?O
             (case M => walk_at "m in")
             (case O => walk_at "m off"))
end

end
section
section
variable {prog : Program} {w : World} {A : Around} {E : Value → Shared → Prop} {s : Shared} {env : Env} {h₀ : Heap} {Q : Flow → Shared → Prop}
/-- the source of a comprehension is in hand -/
def CompAtA (prog : Program) (w : World) (A : Around) (h₀ : Heap) (env : Env) (scope : Scope) (cl : List (Str × Addr)) (x y : Str) (elt : Expr) (Q : Flow → Shared → Prop) (xv : Value) (s : Shared) : Prop :=
  ∃ (n : Nat) (P : Nat → Value → Prop) (ex : List Addr) (m : Str → Option Value) (news : List (Addr × Obj)) (J : Nat → List Value → List (Addr × Obj) → Prop), IterOf prog w A s xv n P ex ∧ n ≤ sizeLine ∧ (∀ i ys l, J i ys l → ys.length = i) ∧
    Fr h₀ env.locals s.heap m ∧ News h₀ env.locals s.heap news ∧ (∀ b ∈ ex, b ≠ env.locals ∧ ((∃ o, h₀.get? b = some o) ∨ ∃ o, (∀ i ys l, J i ys l → (b, o) ∈ l))) ∧ J 0 [] news ∧
    (∀ i v ys news₁ C oC mc D oD I oI h tk, i < n → P i v → J i ys news₁ → NeAll news₁ [(C, oC), (D, oD), (I, oI)] → TabObj C oC mc → mc x = some v → Fr h₀ env.locals h m → News h₀ env.locals h ((C, oC) :: (D, oD) :: (I, oI) :: news₁) →
      wpAny (model prog w) A (eval elt (compEnvC scope cl C env)) (EltM h₀ env.locals m [(C, oC), (D, oD), (I, oI)] { s with heap := h, toks := tk } (fun y l => J (i + 1) (ys ++ [y]) l)) (fun _ _ => False) { s with heap := h, toks := tk }) ∧
    (∀ D ep ys news₁ h tk, J n ys news₁ → NeOne D news₁ → Fr h₀ env.locals h (fun z => if z = y then some (.ref D) else m z) → News h₀ env.locals h ((D, listOf ys.toArray ep) :: news₁) → Q .next { s with heap := h, toks := tk })

theorem comp_A {elt iter : Expr} {x y : Str} {px py : Pos} {scope : Scope} {cl : List (Str × Addr)} {pos spos : Pos}
    (hsw : swapsWith (.ListComp elt [⟨.Name x px, iter, [], 0⟩] scope pos) (some (.Name y py)) spos.line env = pure true)
    (hclos : closureFor scope env = pure cl) (hcell : ∀ y ∈ scope.names, y.2 ≠ .cell) (hkind : scope.kind = .function)
    (hnames : ∀ y ∈ scope.names, y.2 = .local → scope.names.lookup y.1 = some .local) (hx : scope.names.lookup x = some .local)
    (hy : env.kindOf y = some .local) (hp : (env.scope.kind == .class || (env.scope.kind == .module && env.locals != env.globals)) = false)
    (h : wpAny (model prog w) A (eval iter env) (fun xv s₁ => CompAtA prog w A h₀ env scope cl x y elt Q xv s₁) E s)
    (hs : ∀ x, foldedSetIterable iter env x = pure x := by intro _; rfl) :
    wpAny (model prog w) A (exec (.Assign [.Name y py] (.ListComp elt [⟨.Name x px, iter, [], 0⟩] scope pos) spos) env) Q E s := by
  rw [exec_Assign_Name_used _ _ _ _ hsw]
  refine wpAny_bind (wpAny_standAt (wpAny_bind ?_))
  show wpAny _ A (do let _ ← comprehension (.ListComp elt [⟨.Name x px, iter, [], 0⟩] scope pos) scope env _ (newList []) false (eval iter env) (some (assign (.Name y py) env))) _ _ s
  refine wpAny_bind (wpAny_mono (wpAny_comprehension_free (use := some (assign (.Name y py) env)) (Q := fun _ s' => Q .next s') rfl hs hclos hkind hnames
    (wpAny_mono h (fun xv s₁ h₁ => ?_) fun _ _ e => e)) (fun _ s' hq => wpAny_pure (wpAny_pure hq)) fun _ _ e => e)
  obtain ⟨n, P, ex, m, news, J, hit, hsz, hlen, F, N, hex, h0, turn, done⟩ := h₁
  refine hit _ _ fun o St W hob hst hf => ?_
  have hI0 : h₀.get? s₁.heap.objs.size = none := next_is_new F
  have hLI : env.locals ≠ s₁.heap.objs.size := Nat.ne_of_lt F.ns.lt
  have F₂ := F.push o
  have N₂ : News h₀ env.locals (s₁.heap.push o) news := fun p hp => ⟨Heap.get?_push_of_some _ (N p hp).1, (N p hp).2⟩
  have hnI : ∀ q ∈ news, q.1 ≠ s₁.heap.objs.size := fun q hq => Nat.ne_of_lt (Heap.lt_size (N q hq).1)
  obtain ⟨oI₀, hoI₀⟩ := hob _ _ hst
  generalize hI : s₁.heap.objs.size = I at *
  generalize hH : s₁.heap.push o = H₂ at *
  have hID : I ≠ H₂.objs.size := Nat.ne_of_lt (Heap.lt_size hoI₀)
  refine wpAny_newObj_type (wpAny_newFunctionEnv hcell (by intro y hy; simp at hy) (fun h₁ hns₁ hsb₁ => ?_) hkind)
  dsimp only at hns₁ hsb₁ ⊢
  generalize hD : H₂.objs.size = D at hns₁ hsb₁ hID ⊢
  generalize hH3 : H₂.push { cls := .type "list", dict := none, data := .seq ([] : List Value).toArray } = H₃ at hns₁ hsb₁ ⊢
  have hC : H₃.objs.size = D + 1 := by rw [← hH3, Heap.size_push, hD]
  generalize hCe : H₃.objs.size = C at hns₁ hsb₁ hC ⊢
  have lt₂ : ∀ {b ob}, H₂.get? b = some ob → b < D := fun e => hD ▸ Heap.lt_size e
  have hDC : D ≠ C := by rw [hC]; exact Nat.ne_of_lt (Nat.lt_succ_self _)
  have hIC : I ≠ C := by rw [hC]; exact Nat.ne_of_lt (Nat.lt_succ_of_lt (lt₂ hoI₀))
  have old : ∀ b ob, H₂.get? b = some ob → h₁.get? b = some ob := fun b ob e => hsb₁.extBut b ob (by rw [hC]; exact Nat.ne_of_lt (Nat.lt_succ_of_lt (lt₂ e))) (Heap.get?_push_of_some _ (hH3 ▸ Heap.get?_push_of_some _ e))
  have hacc : h₁.PlainList D #[] := ⟨0, hsb₁.extBut _ _ hDC (Heap.get?_push_of_some _ (hH3 ▸ hD ▸ Heap.get?_push_size _ rfl))⟩
  have h0D : h₀.get? D = none := by
    cases e : h₀.get? D with
    | none => rfl
    | some ob => exact absurd (lt₂ (F₂.keep _ _ e)) (Nat.lt_irrefl _)
  have h0C : h₀.get? C = none := by
    cases e : h₀.get? C with
    | none => rfl
    | some ob => have := lt₂ (F₂.keep _ _ e); rw [hC] at this; exact absurd (Nat.lt_of_succ_lt this) (Nat.lt_irrefl _)
  obtain ⟨oL, _, _, hoL, _⟩ := F₂.ns
  have hLD : D ≠ env.locals := fun e => absurd (e ▸ lt₂ hoL) (Nat.lt_irrefl _)
  have hLC : C ≠ env.locals := fun e => by have := lt₂ hoL; rw [← e, hC] at this; exact absurd (Nat.lt_of_succ_lt this) (Nat.lt_irrefl _)
  have F₁ : Fr h₀ env.locals h₁ m := ⟨F₂.ns.keeps old, fun b ob e => old b ob (F₂.keep b ob e), F₂.above⟩
  have N₁ : News h₀ env.locals h₁ news := fun q hq => ⟨old _ _ (N₂ q hq).1, (N₂ q hq).2⟩
  have hnD : ∀ q ∈ news, q.1 ≠ D := fun q hq => Nat.ne_of_lt (lt₂ (N₂ q hq).1)
  have hnC : ∀ q ∈ news, q.1 ≠ C := fun q hq => by rw [hC]; exact Nat.ne_of_lt (Nat.lt_succ_of_lt (lt₂ (N₂ q hq).1))
  have hexb : ∀ b ∈ ex, ∀ i ys l, J i ys l → ∀ h' : Heap, Fr h₀ env.locals h' m → News h₀ env.locals h' l → ∃ ob, h'.get? b = some ob ∧ ((∃ ob', h₀.get? b = some ob') ∨ (b, ob) ∈ l) := fun b hb i ys l hJ h' F' N' => by
    rcases (hex b hb).2 with ⟨ob, hob⟩ | ⟨ob, hob⟩
    · exact ⟨ob, F'.keep _ _ hob, .inl ⟨ob, hob⟩⟩
    · exact ⟨ob, (N' _ (hob _ _ _ hJ)).1, .inr (hob _ _ _ hJ)⟩
  have hst₁ : St 0 h₁ := W.frame _ _ _ hst fun b _ ob e => old b ob e
  have loop : ∀ s₃ : Shared, s₃ = { s₁ with heap := h₁, toks := s₁.toks + ([] : List (Str × Value)).length } →
      codeAny (model prog w) A (.compLoop (.ListComp elt [⟨.Name x px, iter, [], 0⟩] scope pos) 0 (.ref I) (.ref D) (compEnvC scope cl C env))
        (compPost (model prog w) A E (some (assign (.Name y py) env)) (fun _ s' => Q .next s') (.ref D) C) s₃ := by
    rintro s₃ rfl
    refine codeAny_compLoop_list
      (fun k s' => ∃ h' tk m' ys l i, s' = { s₁ with heap := h', toks := tk } ∧ St i h' ∧ h'.PlainList D ys ∧ h'.Ns C m' ∧ Fr h₀ env.locals h' m ∧ News h₀ env.locals h' l ∧ (∀ q ∈ l, q.1 ≠ I ∧ q.1 ≠ D ∧ q.1 ≠ C) ∧ J i ys.toList l ∧ i ≤ n ∧ k = n + 1 - i) ?_ (n + 1)
      ⟨h₁, _, _, #[], news, 0, rfl, hst₁, hacc, hns₁, F₁, N₁, fun q hq => ⟨hnI q hq, hnD q hq, hnC q hq⟩, h0, Nat.zero_le _, rfl⟩
    rintro k s' ⟨h', tk, m', ys, l, i, rfl, hst', hacc', hn', F', N', hoff, hJ, hi, rfl⟩
    have next : ∀ h₂ : Heap, (∀ b ob, b ∉ [I] → h'.get? b = some ob → h₂.get? b = some ob) → Fr h₀ env.locals h₂ m ∧ News h₀ env.locals h₂ l ∧ h₂.PlainList D ys ∧ h₂.Ns C m' := fun h₂ hk =>
      ⟨⟨F'.ns.at' fun ob e => hk _ ob (by simp only [List.mem_singleton]; exact hLI) e, fun b ob e => hk b ob (by simp only [List.mem_singleton]; rintro rfl; rw [hI0] at e; cases e) (F'.keep b ob e), F'.above⟩,
        fun q hq => ⟨hk _ _ (by simp only [List.mem_singleton]; exact (hoff q hq).1) (N' q hq).1, (N' q hq).2⟩, hacc'.at fun ob e => hk _ ob (by simp only [List.mem_singleton]; exact hID.symm) e, hn'.at' fun ob e => hk _ ob (by simp only [List.mem_singleton]; exact hIC.symm) e⟩
    by_cases hlt : i < n
    · refine W.item i _ _ _ hlt hst' fun v h₂ tk₂ hP hst₂ hk₂ => ?_
      obtain ⟨F₂', N₂', hacc₂, hn₂⟩ := next h₂ hk₂
      refine wpAny_assign_Name (wpAny_storeName_local (lookup_relabel_local hx) hn₂ (fun h₃ hn₃ hs₃ => ?_) (by simp [compEnvC, relabel, hkind]))
      have F₃ : Fr h₀ env.locals h₃ m := ⟨F₂'.ns.sameBut hs₃ hLC.symm, fun b ob e => (hs₃.2 b (fun hb => by have hb : b = C := hb; rw [hb, h0C] at e; cases e)).trans (F₂'.keep b ob e), F₂'.above⟩
      have N₃ : News h₀ env.locals h₃ l := fun q hq => ⟨(hs₃.2 q.1 (hoff q hq).2.2).trans (N₂' q hq).1, (N₂' q hq).2⟩
      have hst₃ : St (i + 1) h₃ := W.frame _ _ _ hst₂ fun b hb ob e => (hs₃.2 b (by
        show b ≠ C
        rcases List.mem_cons.mp hb with rfl | hb
        · exact hIC
        · obtain ⟨ob', he, hor⟩ := hexb b hb _ _ _ hJ _ F₂' N₂'
          rcases hor with ⟨ob'', h1⟩ | h1
          · rintro rfl; rw [h0C] at h1; cases h1
          · exact (hoff _ h1).2.2)).trans e
      have hacc₃ : h₃.PlainList D ys := hacc₂.at fun ob e => (hs₃.2 D hDC).trans e
      obtain ⟨oI, hoI⟩ := hob _ _ hst₃
      obtain ⟨epD, hoD⟩ := id hacc₃
      obtain ⟨oC, esC, epC, hoC, rC⟩ := id hn₃
      have hoC : h₃.get? C = some oC := hoC
      have hTab : TabObj C oC (fun y => if y = x then some v else m' y) := tabObj_of hn₃ hoC
      refine wpAny_mono (turn i v ys.toList l C oC _ D (listOf ys epD) I oI h₃ (tk₂ + 1) hlt hP hJ (neAll_of fun r hr q hq => ?_) hTab (by simp) F₃ (fun q hq => ?_)) (fun y s₄ h₄ => ?_) fun _ _ e => e.elim
      · rcases List.mem_cons.mp hq with rfl | hq
        · exact (hoff r hr).2.2
        · rcases List.mem_cons.mp hq with rfl | hq
          · exact (hoff r hr).2.1
          · rw [List.mem_singleton.mp hq]; exact (hoff r hr).1
      · rcases List.mem_cons.mp hq with rfl | hq
        · exact ⟨hoC, hLC, h0C⟩
        · rcases List.mem_cons.mp hq with rfl | hq
          · exact ⟨hoD, hLD, h0D⟩
          · rcases List.mem_cons.mp hq with rfl | hq
            · exact ⟨hoI, hLI.symm, hI0⟩
            · exact N₃ q hq
      · obtain ⟨h₄, tk₄, news₄, nx, rfl, F₄, N₄, h3, hs4, ho4, hJ4⟩ := h₄
        have gC : h₄.get? C = some oC := (N₄ _ (h3 (C, oC) (by simp))).1
        have gD := (N₄ _ (h3 (D, _) (List.mem_cons_of_mem _ List.mem_cons_self))).1
        have gI : h₄.get? I = some oI := (N₄ _ (h3 (I, oI) (by simp))).1
        have hl4 : ys.size = i := by have := hlen _ _ _ hJ; simpa using this
        refine wpAny_list_append_plain (hsz := by rw [hl4]; exact Nat.le_trans (Nat.le_of_lt hlt) hsz) ⟨epD, gD⟩ fun h₅ hl₅ hs₅ => ?_
        refine ⟨n + 1 - (i + 1), by omega, h₅, tk₄, _, ys.push y, nx, i + 1, rfl, ?_, hl₅, (hTab _ gC).sameBut hs₅ hDC.symm, ⟨F₄.ns.sameBut hs₅ hLD.symm, fun b ob e => (hs₅.2 b (by rintro rfl; rw [h0D] at e; cases e)).trans (F₄.keep b ob e), F₄.above⟩,
          fun q hq => ⟨(hs₅.2 q.1 (ho4 q hq (D, _) (List.mem_cons_of_mem _ List.mem_cons_self))).trans (N₄ q (hs4 q hq)).1, (N₄ q (hs4 q hq)).2⟩, fun q hq => ⟨ho4 q hq (I, oI) (by simp), ho4 q hq (D, _) (List.mem_cons_of_mem _ List.mem_cons_self), ho4 q hq (C, oC) (by simp)⟩, by simpa using hJ4, hlt, rfl⟩
        refine W.frame _ _ _ hst₃ fun b hb ob e => ?_
        rcases List.mem_cons.mp hb with rfl | hb
        · rw [hoI] at e; cases e
          exact (hs₅.2 _ hID).trans gI
        · obtain ⟨ob', he, hor⟩ := hexb b hb _ _ _ hJ _ F₃ N₃
          rw [e] at he; cases he
          have hbD : b ≠ D := by
            rcases hor with ⟨ob'', h1⟩ | h1
            · rintro rfl; rw [h0D] at h1; cases h1
            · exact (hoff _ h1).2.1
          rw [hs₅.2 b hbD]
          rcases (hex b hb).2 with ⟨ob', h1⟩ | ⟨ob', h1⟩
          · have := F₃.keep _ _ h1; rw [e] at this; cases this; exact F₄.keep _ _ h1
          · have := (N₃ _ (h1 _ _ _ hJ)).1; rw [e] at this; cases this; exact (N₄ _ (hs4 _ (h1 _ _ _ hJ4))).1
    · have hin : i = n := by omega
      subst hin
      refine W.done _ _ _ hst' fun h₂ tk₂ hk₂ => ?_
      obtain ⟨F₂', N₂', ⟨ep, hoD⟩, hn₂⟩ := next h₂ hk₂
      show wpAny _ A (assign (.Name y py) env (.ref D)) _ _ _
      refine wpAny_assign_Name (wpAny_storeName_local hy F₂'.ns (fun h₇ hn₇ hs₇ => ?_) hp)
      have F₇ : Fr h₀ env.locals h₇ (fun z => if z = y then some (.ref D) else m z) := F₂'.set hn₇ hs₇
      refine ⟨m', hn₂.sameBut hs₇ hLC, fun h₃ hs₃ => ?_⟩
      refine done D ep ys.toList l h₃ _ hJ (neOne_of fun q hq => (hoff q hq).2.1) (F₇.change hs₃ hLC h0C) fun q hq => ?_
      rcases List.mem_cons.mp hq with rfl | hq
      · refine ⟨(hs₃.2 D hDC).trans ((hs₇.2 D hLD).trans (by simpa using hoD)), hLD, h0D⟩
      · exact ⟨(hs₃.2 q.1 (hoff q hq).2.2).trans ((hs₇.2 q.1 (N₂' q hq).2.1).trans (N₂' q hq).1), (N₂' q hq).2⟩
  exact codeAny_compStart_list (loop _ rfl) (W.self 0 _ _ _ hst₁ (loop _ rfl))
end


end
section
abbrev frLoc {h₀ h : Heap} {L : Addr} {m : Str → Option Value} (_ : Fr h₀ L h m) : Addr := L
inductive StepsIn (l : List (Addr × Obj)) : List (List Int) → List Value → Prop
  | nil : StepsIn l [] []
  | cons {a : Addr} {ws : List Value} {r : List Int} {n : Nat} {rs : List (List Int)} {vs : List Value} : (a, listOf ws.toArray n) ∈ l → IntsAre ws r → StepsIn l rs vs → StepsIn l (r :: rs) (.ref a :: vs)
theorem StepsIn.length {l : List (Addr × Obj)} {rs : List (List Int)} {vs : List Value} (h : StepsIn l rs vs) : vs.length = rs.length := by
  induction h with
  | nil => rfl
  | cons _ _ _ ih => simp [ih]
theorem StepsIn.mono {l l' : List (Addr × Obj)} {rs : List (List Int)} {vs : List Value} (h : StepsIn l rs vs) (hs : ∀ q ∈ l, q ∈ l') : StepsIn l' rs vs := by
  induction h with
  | nil => exact .nil
  | cons hm hi _ ih => exact .cons (hs _ hm) hi ih
theorem StepsIn.snoc {l : List (Addr × Obj)} {a : Addr} {ws : List Value} {r : List Int} {n : Nat} (hm : (a, listOf ws.toArray n) ∈ l) (hi : IntsAre ws r) : ∀ {rs : List (List Int)} {vs : List Value}, StepsIn l rs vs → StepsIn l (rs ++ [r]) (vs ++ [.ref a])
  | [], [], .nil => .cons hm hi .nil
  | _ :: _, _ :: _, .cons h1 h2 h3 => .cons h1 h2 (StepsIn.snoc hm hi h3)
theorem StepsIn.at {l : List (Addr × Obj)} {rs : List (List Int)} {vs : List Value} (h : StepsIn l rs vs) : ∀ {i : Nat} {v : Value}, vs[i]? = some v → ∃ a ws r n, v = .ref a ∧ rs[i]? = some r ∧ (a, listOf ws.toArray n) ∈ l ∧ IntsAre ws r := by
  induction h with
  | nil => intro i v h; simp at h
  | cons hm he _ ih =>
    intro i v h
    cases i with
    | zero => simp at h; exact ⟨_, _, _, _, h.symm, rfl, hm, he⟩
    | succ i => simpa using ih (by simpa using h)
theorem news_law {h₀ h : Heap} {L : Addr} {q1 q2 q3 q4 q5 q6 q7 q8 q9 q10 : Addr × Obj} {r : List (Addr × Obj)} (N : News h₀ L h (q1 :: q2 :: q3 :: q4 :: q5 :: q6 :: q7 :: q8 :: q9 :: q10 :: r)) :
    News h₀ L h (q2 :: q1 :: q9 :: q8 :: q6 :: q7 :: q3 :: q10 :: r) := fun p hp => N p (by
  simp only [List.mem_cons] at hp ⊢
  rcases hp with h | h | h | h | h | h | h | h | h <;> simp [h])
def menu (k : Int) : Int := if k = 4 then 6 else k
/-- what the law's body keeps of its names -/
structure FrL (m : Str → Option Value) (st pa x rw : Addr) : Prop where
  stt : m (Str.ofString "state") = some (.ref st)
  ptn : m (Str.ofString "pattern") = some (.ref pa)
  mat : m (Str.ofString "matcher") = some (.ref x)
  row : m (Str.ofString "rows") = some (.ref rw)
theorem take_menu {ns : List Int} {i : Nat} {n r : Int} (hn : ns[i]? = some n) (hr : r = menu n) : (ns.take (i + 1)).map menu = (ns.take i).map menu ++ [r] := by
  rw [List.take_add_one, hn, hr]; simp
theorem menu_lit {ns : List Int} (h : ∀ k ∈ ns, 0 ≤ k ∧ k < 5) : ∀ k ∈ ns.map menu, k = 0 ∨ k = 1 ∨ k = 2 ∨ k = 3 ∨ k = 6 := by
  intro k hk
  obtain ⟨n, hn, rfl⟩ := List.mem_map.mp hk
  have h1 := h n hn
  unfold menu; split <;> omega
theorem lit_plainT {ts : List Int} (h : ∀ k ∈ ts, k = 0 ∨ k = 1 ∨ k = 2 ∨ k = 3 ∨ k = 6) : plainT ts := fun t ht => by have := h t ht; omega
theorem lit_nostar {ts : List Int} (h : ∀ k ∈ ts, k = 0 ∨ k = 1 ∨ k = 2 ∨ k = 3 ∨ k = 6) : ts.any starK = false := by
  rw [List.any_eq_false]; intro t ht; have := h t ht; simp [starK]; omega
theorem off_three {l : List (Addr × Obj)} {C D I : Addr} {oC oD oI : Obj} (h1 : NeOne C l) (h2 : NeOne D l) (h3 : NeOne I l) : ∀ q ∈ l, ∀ r ∈ [(C, oC), (D, oD), (I, oI)], q.1 ≠ r.1 := fun q hq r hr => by
  simp only [List.mem_cons, List.not_mem_nil, or_false] at hr
  rcases hr with rfl | rfl | rfl
  · exact h1.mem q hq
  · exact h2.mem q hq
  · exact h3.mem q hq
theorem news_add {h₀ h : Heap} {L : Addr} {q : Addr × Obj} {l : List (Addr × Obj)} (N : News h₀ L h l) (hm : q ∈ l) : News h₀ L h (q :: l) := fun p hp => (List.mem_cons.mp hp).elim (fun e => e ▸ N _ hm) (N p)
theorem boolsAre_map (f : Nat → Bool) : ∀ l : List Nat, LSm.BoolsAre (l.map fun j => Value.bool (f j)) (l.map f)
  | [] => .nil
  | _ :: l => .cons _ (boolsAre_map f l)
theorem list_len {w : World} {A : Around} {E : Value → Shared → Prop} {s : Shared} {h₀ : Heap} {L a : Addr} {news : List (Addr × Obj)} {vs : List Value} {ep : Nat} {Q : Value → Shared → Prop} (N : News h₀ L s.heap news) (hm : (a, listOf vs.toArray ep) ∈ news) (hz : vs.length ≤ 1000) (h : ∀ t tk, Q (.int vs.length t) { s with toks := tk }) :
    wpAny (model PySem.Challenge.rw_ez0048_01.row.prog w) A (call (.builtin "len") [.ref a]) Q E s :=
  Calls.call_function_entry kind_len plain_len entry_len (args_len1 _) (wpAny_len_body_list (News.isList N hm) (by rw [List.size_toArray]; omega) (h _ _))
theorem hi_step {a : Int} {i : Nat} (h : a ≤ 10 + 5 * (i : Int)) : a + 5 ≤ 10 + 5 * ((i + 1 : Nat) : Int) := by omega

end
section
local macro_rules | `(tactic| walk_at "slice1") => `(tactic| (
  k_here; (with_reducible show wpAny _ _ (subscriptTail _ (PySem.Expr.Slice (some _) none none _) (Value.ref _) (Value.ref _)) _ _ _); k_dflt (
  (refine' slice1 ?F ?N ?t ?v ?_ ?s ?g; (case F => k_asm); (case N => k_asm); (case t => k_mem); (case v => omega); (case s => with_unfolding_all rfl); (case g => (intro _; with_unfolding_all rfl))); k_whole); intro D' h' F' N' l1; (try k_lt l1); (try k_sweep)))
local macro_rules | `(tactic| walk_at "subscriptTail Name Slice ref ref") => `(tactic| walk_at "slice1")
local macro_rules | `(tactic| walk_at "subscriptTail Call Slice ref ref") => `(tactic| walk_at "slice1")
local macro_rules | `(tactic| walk_at "m cut") => loose `(tactic| first | (obtain ⟨_, hne9⟩ := hne9; walk_at "m cut") | skip)
local macro_rules | `(tactic| walk_at "call ref") => loose `(tactic| (
  k_here; (with_reducible show wpAny _ _ (call (Value.ref 198) _ _) _ _ _); k_dflt (
  (with_unfolding_all refine' con_use (path_con _ ?a1 ?a2) ?B ?Xb ?Tb ?F ?N ?hf ?hke ?hd ?hu ?hro ?hpick ?hoff ?hup ?_);
  walk_at "m use"; (case a1 => assumption); (case a2 => assumption); k_whole;
  intro x9 h9 tk9 hP9 F9 N9 hne9; obtain ⟨a9, vs9, tups9⟩ := x9; replace N9 := news_swap N9; (try dsimp only [List.cons_append, List.nil_append] at N9); (try dsimp only at hP9); (have hl9 : vs9.length ≤ 4 := by rw [hP9.length]; assumption); (rw [NeAll] at hne9); (simp only [neAll_consL, neAll_nil_iff, NeOne, and_true, and_assoc] at hne9); walk_at "m cut"; (try dsimp only); (try k_sweep); (try k_fold); walk_say "CONTRACT path")))

local macro_rules | `(tactic| walk_at "call ref") => loose `(tactic| (
  k_here; (with_reducible show wpAny _ _ (call (Value.ref 286) _ _) _ _ _);
  k_dflt (
  (with_unfolding_all refine' con_use (next_con _ ?a1 ?a2 ?a3 ?a4 ?a5 ?a6 ?a7) ?B ?Xb ?Tb ?F ?N ?hf ?hke ?hd ?hu ?hro ?hpick ?hoff ?hup ?_);
  walk_at "m use"; (case a6 => assumption); (case a1 => omega); (case a2 => omega); (case a3 => omega); (case a4 => omega); (case a5 => omega); (case a7 => omega); k_whole;
  intro x9 h9 tk9 hP9 F9 N9 hne9; obtain ⟨r9, u9, v9⟩ := x9; (try dsimp only [List.cons_append, List.nil_append] at N9); (try dsimp only at hP9); obtain ⟨lo9, hi9⟩ := hP9; clear hne9; (try dsimp only); (try k_sweep); (try k_fold); walk_say "CONTRACT next")))
local macro_rules | `(tactic| walk_at "call ref") => loose `(tactic| (
  k_here; (with_reducible show wpAny _ _ (call (Value.ref 291) [_, Value.int 7 _] _) _ _ _);
  k_dflt (
  (with_unfolding_all refine' con_use (row_con _ ?a1 ?a2 ?a3 ?a4 ?a5 ?a6 ?a7) ?B ?Xb ?Tb ?F ?N ?hf ?hke ?hd ?hu ?hro ?hpick ?hoff ?hup ?_);
  walk_at "m use"; (case a6 => assumption); (case a1 => omega); (case a2 => omega); (case a3 => omega); (case a4 => omega); (case a5 => omega); (case a7 => k_ne); k_whole;
  intro x9 h9 tk9 hP9 F9 N9 hne9; obtain ⟨i9, u9, pa9, pe9, pv9, pn9⟩ := x9; (try dsimp only [List.cons_append, List.nil_append] at N9); (try dsimp only at hP9); obtain ⟨lo9, hi9, hI9, hl9, hb9⟩ := hP9; (simp only [NeAll, NeOne, and_true, and_assoc] at hne9); (try dsimp only); (try k_sweep); (try k_fold); walk_say "CONTRACT row")))
local macro_rules | `(tactic| walk_at "call ref") => loose `(tactic| (
  k_here; (with_reducible show wpAny _ _ (call (Value.ref 291) [_, Value.int 5 _] _) _ _ _);
  k_dflt (
  (with_unfolding_all refine' con_use (row_con _ ?a1 ?a2 ?a3 ?a4 ?a5 ?a6 ?a7) ?B ?Xb ?Tb ?F ?N ?hf ?hke ?hd ?hu ?hro ?hpick ?hoff ?hup ?_);
  walk_at "m use"; (case a6 => assumption); (case a1 => omega); (case a2 => omega); (case a3 => omega); (case a4 => omega); (case a5 => omega); (case a7 => k_ne); k_whole;
  intro x9 h9 tk9 hP9 F9 N9 hne8; obtain ⟨i8, u8, ra8, re8, rv8, rn8⟩ := x9; (try dsimp only [List.cons_append, List.nil_append] at N9); (try dsimp only at hP9); obtain ⟨lo8, hi8, hI8, hl8, hb8⟩ := hP9; (simp only [NeAll, NeOne, and_true, and_assoc] at hne8); (try dsimp only); (try k_sweep); (try k_fold); walk_say "CONTRACT row")))
local macro_rules | `(tactic| walk_at "call ref") => `(tactic| (
  k_here; (with_reducible show wpAny _ _ (call (Value.ref 296) _ _) _ _ _);
  k_dflt (
  (with_unfolding_all refine' con_use (written_con _ ?a1 ?a2 ?a3) ?B ?Xb ?Tb ?F ?N ?hf ?hke ?hd ?hu ?hro ?hpick ?hoff ?hup ?_);
  walk_at "m use"; (case a1 => assumption); (case a2 => assumption); (case a3 => assumption); k_whole;
  intro x9 h9 tk9 hP9 F9 N9 hne9; (try dsimp only [List.cons_append, List.nil_append] at N9); clear hne9; (try dsimp only); (try k_sweep); (try k_fold); walk_say "CONTRACT written")))
local macro_rules | `(tactic| walk_at "m num") => `(tactic| ((try simp only [depth_mark, depth_under_make, depth_under_kw, depth_in1, depth_deeper, depth_caller, units_deeper, units_in1, units_under_make, Around.mark_units, units_caller]); (try dsimp only); first | decide | omega))
local macro_rules | `(tactic| walk_at "exec Assign") => `(tactic| (k_here; (with_reducible show wpAny _ _ (exec (PySem.Stmt.Assign [PySem.Expr.Name _ _] (PySem.Expr.ListComp _ _ _ _) _) _) _ _ _); refine stop_in ?_))
local macro_rules | `(tactic| walk_at "eval ListComp") => `(tactic| (k_here; refine stop_in ?_))
local macro_rules | `(tactic| walk_at "exec For") => `(tactic| (k_here; refine stop_in ?_))
local macro_rules | `(tactic| walk_at "exec For Name Call cons nil") => `(tactic| (k_here; refine stop_in ?_))
local macro_rules | `(tactic| walk_at "exec For Name Name cons nil") => `(tactic| (k_here; refine stop_in ?_))
local macro_rules | `(tactic| walk_at "exec For Name BinOp cons nil") => `(tactic| (k_here; refine stop_in ?_))
local macro_rules | `(tactic| walk_at "pyIter ref") => `(tactic| (k_here; refine stop_in ?_))
local macro_rules | `(tactic| walk_at "call type:range") => `(tactic| (k_here; k_dflt (refine' range1_rows ?F ?N ?_; (case F => k_asm); (case N => k_asm); k_whole); intro h' tk' t1' u1' v1' R' F' N' K'; (try k_sweep)))
local macro_rules | `(tactic| walk_at "m cutl") => loose `(tactic| first | (obtain ⟨_, l5⟩ := l5; walk_at "m cutl") | skip)
local macro_rules | `(tactic| walk_at "call ref") => loose `(tactic| (
  k_here; (with_reducible show wpAny _ _ (call (Value.ref 310) _ _) _ _ _);
  k_dflt (
  (with_unfolding_all refine' con_use (table_con _ ?a1 ?a2 ?a3 ?a4) ?B ?Xb ?Tb ?F ?N ?hf ?hke ?hd ?hu ?hro ?hpick ?hoff ?hup ?_);
  walk_at "m use"; (case a1 => assumption); (case a2 => assumption); (case a3 => assumption); (case a4 => assumption); k_whole;
  intro x9 h9 tk9 hP7 F9 N9 hne7; obtain ⟨Ta7, rs7, tn7, led7⟩ := x9; replace N9 := news_swap N9; (try dsimp only [List.cons_append, List.nil_append] at N9); (try dsimp only at hP7 hne7);
  (have hP6 := hP7); (have hrl7 : rs7.length = stp.length + 1 := by rw [hP7.length]; simp); (obtain ⟨c7, cw7, cn7, hrc7, hcm7, hcI7⟩ := hP7.at (rowsN_at (ps := pn9) (ts := stp) (Nat.lt_succ_self stp.length)));
  (have hmem7 : (toI (rowN pn9 stp stp.length)).any (· == (pn9.length : Int)) = segs false pn9 stp := (any_toI rfl).trans (law_match hpT));
  (have hlen7 : cw7.length = (rowN pn9 stp stp.length).length := by have := hcI7.length; rw [toI, List.length_map] at this; exact this);
  (have hcz7 : cw7.length ≤ 1000 := by rw [hlen7]; exact Nat.le_trans (rowN_len _ _ _) (Nat.le_trans (Nat.succ_le_succ (show pn9.length ≤ 4 by assumption)) (by decide)));
  (have hanc7 := law_anc (ps := pn9) hpT); (rw [← hlen7] at hanc7);
  (replace N9 := news_add (q := (c7, listOf cw7.toArray cn7)) N9 (by walk_at "m tail"));
  (try dsimp only); (try k_sweep); (try k_fold); walk_say "CONTRACT table")))
local macro_rules | `(tactic| walk_at "call ref") => `(tactic| (
  k_here; (with_reducible show wpAny _ _ (call (Value.ref 231) _ _) _ _ _); k_dflt (
  (with_unfolding_all refine' con_use (match_con _ ?a1 ?a2 ?a3 ?a4 ?a5) ?B ?Xb ?Tb ?F ?N ?hf ?hke ?hd ?hu ?hro ?hpick ?hoff ?hup ?_);
  (case a5 => assumption); walk_at "m use"; (case a1 => assumption); (case a2 => assumption); (case a3 => assumption); (case a4 => assumption); k_whole;
  intro x9 h9 tk9 hP7 F9 N9 hne7; clear hne7; (try dsimp only [List.cons_append, List.nil_append] at N9); (try dsimp only); (try k_sweep); (try k_fold); walk_say "CONTRACT match")))
local macro_rules | `(tactic| walk_at "call ref") => `(tactic| (
  k_here; (with_reducible show wpAny _ _ (call (Value.ref 238) _ _) _ _ _); k_dflt (
  (with_unfolding_all refine' con_use (anc_con _ ?a1 ?a2 ?a3 ?a4 ?a5) ?B ?Xb ?Tb ?F ?N ?hf ?hke ?hd ?hu ?hro ?hpick ?hoff ?hup ?_);
  (case a5 => assumption); walk_at "m use"; (case a1 => assumption); (case a2 => assumption); (case a3 => assumption); (case a4 => assumption); k_whole;
  intro x9 h9 tk9 hP7 F9 N9 hne7; clear hne7; (try dsimp only [List.cons_append, List.nil_append] at N9); (try dsimp only); (try k_sweep); (try k_fold); walk_say "CONTRACT anc")))
local macro_rules | `(tactic| walk_at "call ref") => `(tactic| (
  k_here; (with_reducible show wpAny _ _ (call (Value.ref 245) _ _) _ _ _); k_dflt (
  (with_unfolding_all refine' con_use (desc_con _ ?a1 ?a2 ?a3 ?a4 ?a5) ?B ?Xb ?Tb ?F ?N ?hf ?hke ?hd ?hu ?hro ?hpick ?hoff ?hup ?_);
  (case a5 => assumption); walk_at "m use"; (case a1 => assumption); (case a2 => assumption); (case a3 => assumption); (case a4 => assumption); k_whole;
  intro x9 h9 tk9 hP7 F9 N9 hne7; clear hne7; (try dsimp only [List.cons_append, List.nil_append] at N9); (try dsimp only); (try k_sweep); (try k_fold); walk_say "CONTRACT desc")))
local macro_rules | `(tactic| walk_at "call ref") => `(tactic| (
  k_here; (with_reducible show wpAny _ _ (call (Value.ref 210) _ _) _ _ _); k_dflt (
  (with_unfolding_all refine' con_use (wild_wrb _ ?a1 ?a2) ?B ?Xb ?Tb ?F ?N ?hf ?hke ?hd ?hu ?hro ?hpick ?hoff ?hup ?_);
  walk_at "m use"; (case a1 => assumption); (case a2 => assumption); k_whole;
  intro x9 h9 tk9 hP7 F9 N9 hne7; clear hne7; (try dsimp only [List.cons_append, List.nil_append] at N9); (try dsimp only); (try k_sweep); (try k_fold); walk_say "CONTRACT wild")))
local macro_rules | `(tactic| walk_at "compareOp In int ref") => `(tactic| (k_here; k_dflt (refine' in_ints ?N ?m ?i ?e ?_; (case N => k_asm); (case m => first | k_mem | walk_at "m tail"); (case i => assumption); (case e => assumption); k_whole)))
local macro_rules | `(tactic| walk_at "m back") => `(tactic| (k_here; (with_reducible show wpAny _ _ (subscriptTail _ _ (Value.ref _) (Value.int (-1) _)) _ _ _); k_dflt (refine' list_back ?N ?m ?v ?e ?z ?_ ?s ?g; (case N => k_asm); (case m => k_mem); (case v => assumption); (case e => assumption); (case z => omega); (case s => with_unfolding_all rfl); (case g => (intro _; with_unfolding_all rfl))); k_whole))
local macro_rules | `(tactic| walk_at "subscriptTail Name UnaryOp ref int") => `(tactic| walk_at "m back")
local macro_rules | `(tactic| walk_at "m offs") => `(tactic| ((try dsimp only); first | exact forall_nil | exact off_three (by assumption) (by assumption) (by assumption) | (refine List.forall_mem_cons.mpr (And.intro ?a ?b); (case a => k_all); (case b => walk_at "m offs"))))
local macro_rules | `(tactic| walk_at "m cuth") => loose `(tactic| first | (obtain ⟨_, hne⟩ := hne; walk_at "m cuth") | skip)
local macro_rules | `(tactic| k_ne) => `(tactic| (refine neN ?_; (try dsimp only); first | with_reducible assumption | (refine Ne.symm ?_; with_reducible assumption) | (refine Nat.ne_of_lt ?_; with_reducible assumption) | (refine Nat.ne_of_gt ?_; with_reducible assumption)))
local macro_rules | `(tactic| walk_at "m tail") => `(tactic| first | assumption | (refine List.mem_cons_of_mem _ ?_; walk_at "m tail") | (refine List.mem_append_left _ ?_; walk_at "m tail") | (refine List.mem_append_right _ ?_; walk_at "m tail"))
local macro_rules | `(tactic| walk_at "call builtin:len") => `(tactic| (k_here; (with_reducible show wpAny _ _ (call (Value.builtin "len") [Value.ref _]) _ _ _); k_dflt (refine' list_len ?N ?m ?z ?_; (case N => k_asm); (case m => k_mem); (case z => assumption); k_whole); intro t6 tk6))

/-- what stands between the turns of the law's loop -/
def LawJ (w0 : World) (pa9 : Addr) (pv9 : List Value) (pe9 : Nat) (pn9 : List Int) (vs9 : List Value) (tups9 : List (Addr × Obj)) (L : Addr) (i : Nat) (m : Str → Option Value) (l : List (Addr × Obj)) : Prop :=
  ∃ st x rw sc d pt iS uS ws wn t1 t3 tx n oc ct rvals nr rled sts, FrL m st pa9 x rw ∧ l = (rw, listOf rvals.toArray nr) :: (st, listOf #[.ref sc, .int iS uS] 0) :: (sc, listOf ws.toArray 0) :: (pa9, listOf pv9.toArray pe9) :: (x, instObj 262 d) :: (d, mdict w0 pn9 t1 tx t3 pt n) :: (pt, tupOf vs9.toArray) :: (L + 1, oc) :: (rled ++ tups9) ∧
      IntsAre ws wn ∧ wn.length ≤ 60 ∧ oc.data = Data.cell (some (Value.int (pn9.length : Int) ct)) ∧ StepsIn rled sts rvals ∧ (∀ s ∈ sts, s.length ≤ 4 ∧ ∀ k ∈ s, k = 0 ∨ k = 1 ∨ k = 2 ∨ k = 3 ∨ k = 6) ∧ sts.length = i ∧ 0 ≤ iS ∧ iS ≤ 10 + 5 * i ∧
      (@Ne Nat rw st ∧ @Ne Nat rw sc ∧ @Ne Nat rw pa9 ∧ @Ne Nat rw x ∧ @Ne Nat rw d ∧ @Ne Nat rw pt ∧ @Ne Nat rw (L + 1) ∧ NeOne rw (rled ++ tups9)) ∧
      (@Ne Nat st sc ∧ @Ne Nat st pa9 ∧ @Ne Nat st x ∧ @Ne Nat st d ∧ @Ne Nat st pt ∧ @Ne Nat st (L + 1) ∧ NeOne st (rled ++ tups9))
def inner : List Stmt → List Stmt
  | .For _ _ b _ _ :: _ => b
  | _ => []
theorem law_turn {w0 : World} {s : Shared} {h₀ h₂ : Heap} {tk₂ : Nat} {L I : Addr} {oI : Obj} {v : Value} {i : Nat} {m₂ : Str → Option Value} {l₂ : List (Addr × Obj)} {Q : Flow → Shared → Prop} {p : Program} {loose : List Str} {mean : ExcName → Option Value} {mg mb : Str → Option Value}
    {name qual : Str} {params : Arguments} {body : List Stmt} {scope : Scope} {dV kV doc pm cdv ct oc : Value} {an od : Option Addr} {osl : Array (Option Value)} {fa : Addr} {cd : Value}
    (ho : (Mine.hd.heap_39 w0.params).lookup 322 = some ⟨oc, od, .func (fnOf name qual params body scope dV kV doc pm an cdv ct), osl⟩)
    {pa9 : Addr} {pv9 : List Value} {pe9 : Nat} {pn9 : List Int} {vs9 : List Value} {tups9 : List (Addr × Obj)}
    (K0 : Below callerA h₀ [] h₀) (X0 : (Mine.hd.heap_39 w0.params).In h₀) (T0 : Top p loose mean mg mb h₀)
    (hI9 : IntsAre pv9 pn9) (hp9 : pn9.length ≤ 4) (hb9 : ∀ k ∈ pn9, 0 ≤ k ∧ k < 7) (hP9 : ElsIn tups9 pn9 vs9) (hl9 : vs9.length ≤ 4)
    (hi5 : i < 5) (hJ : LawJ w0 pa9 pv9 pe9 pn9 vs9 tups9 L i m₂ l₂) (hneI : NeOne I l₂)
    (F9 : Fr h₀ L h₂ (fun y => if y = Str.ofString "k" then some v else m₂ y)) (N9 : News h₀ L h₂ ((I, oI) :: l₂)) :
    wpAny (model PySem.Challenge.rw_ez0048_01.row.prog w0) (callerA.deeper (envOfC qual scope L fa cd)) (execs (inner (body.drop 5)) (envOfC qual scope L fa cd))
      (TurnM h₀ L I { s with heap := h₂, toks := tk₂ } (LawJ w0 pa9 pv9 pe9 pn9 vs9 tups9 L (i + 1)) oI Q) (fun _ _ => False) { s with heap := h₂, toks := tk₂ } := by
  cases ho
  dsimp only [List.drop, inner]
  obtain ⟨st, x, rw, sc, d, pt, iS, uS, ws, wn, t1, t3, tx, n, oc, ct, rvals, nr, rled, sts, ⟨f1, f2, f3, f4⟩, rfl, hws, hwl, hoc, hsts, hstp, hsl, hi0, hi1, ⟨r1, r2, r3, r4, r5, r6, r7, r8⟩, ⟨s1, s2, s3, s4, s5, s6, s7⟩⟩ := hJ
  simp only [NeOne] at hneI
  obtain ⟨e1, e2, e3, e4, e5, e6, e7, e8, e9⟩ := hneI
  have hm := with_cons f1 (with_cons f2 (with_cons f3 (with_cons f4 rfl)))
  rw [hm] at F9
  replace F9 : Fr h₀ L _ _ := F9
  replace N9 : News h₀ L _ _ := N9
  (try dsimp only [frBase, frLoc] at F9 N9 r7 s6 e8)
  clear hm f1 f2 f3 f4
  refine wpAny_execs_cons ?_
  with_unfolding_all refine' comp_A (h₀ := h₀) ?hsw ?hclos ?hcell ?hkind ?hnames ?hx ?hy ?hp ?_
  (case hsw => with_unfolding_all rfl)
  (case hclos => with_unfolding_all rfl)
  (case hcell => decide)
  (case hkind => rfl)
  (case hnames => decide)
  (case hx => rfl)
  (case hy => rfl)
  (case hp => rfl)
  (try dsimp only [frBase, frLoc])
  k_steps
  rename Fr _ _ _ _ => F8
  rename News _ _ _ _ => N8
  obtain ⟨g1, g2, g3, g4, g5, g6, g7, g8, g9, g10⟩ := hne8
  refine ⟨_, _, [ra8], _, _, fun i' ys l => ∃ ks, IntsAre ys ks ∧ i' ≤ rn8.length ∧ ks = (rn8.take i').map menu ∧ l = (st, listOf #[.ref sc, .int i8 u8] 0) :: (ra8, listOf rv8.toArray re8) :: (I, oI) :: (rw, listOf rvals.toArray nr) :: (sc, listOf ws.toArray 0) :: (pa9, listOf pv9.toArray pe9) :: (x, instObj 262 d) :: (d, mdict w0 pn9 t1 tx t3 pt n) :: (pt, tupOf vs9.toArray) :: (L + 1, oc) :: (rled ++ tups9),
    iterOf_list rfl (News.isList N8 (by k_memK)), ?_, ?_, F8, N8, ?_, ?_, ?_, ?_⟩
  · have := hI8.length
    rw [sizeLine_eq, List.size_toArray, this]; exact Nat.le_trans hl8 (by decide)
  · rintro i' ys l ⟨ks, h1, h2, rfl, _⟩
    rw [h1.length, List.length_map, List.length_take]; exact Nat.min_eq_left h2
  · intro b hb
    rw [List.mem_singleton.mp hb]
    exact ⟨(N8 (ra8, listOf rv8.toArray re8) (by k_memK)).2.1, .inr ⟨_, fun i ys l ⟨_, _, _, _, e⟩ => by rw [e]; k_memK⟩⟩
  · exact ⟨[], .nil, Nat.zero_le _, rfl, rfl⟩
  · rintro i' v ys l C oC mc D oD I2 oI2 h tk hi' hP ⟨ks, h1, h2, rfl, rfl⟩ hne hT hm F9 N9
    simp only [NeAll, NeOne, and_true, and_assoc] at hne
    (try dsimp only [frBase, frLoc] at N9 hne)
    walk_at "m cuth"
    obtain ⟨k, t, rfl, hk⟩ := intsAre_at hI8 hP
    have hlt' : i' < rn8.length := (List.getElem?_eq_some_iff.mp hk).1
    have hk5 := hb8 k (List.mem_of_getElem? hk)
    have hkc : k = 0 ∨ k = 1 ∨ k = 2 ∨ k = 3 ∨ k = 4 := by clear hne; omega
    rcases hkc with rfl | rfl | rfl | rfl | rfl
    all_goals (
      k_steps
      refine' eltM_ _ (by assumption) (by assumption) ?h3 ?hs ?ho ⟨_, intsAre_snoc h1, hlt', ?e2, rfl⟩
      (case hs => (try dsimp only [frBase, frLoc]); walk_at "m in")
      (case h3 => walk_at "m in")
      (case ho => (try dsimp only [frBase, frLoc]); walk_at "m offs")
      (case e2 => exact (take_menu hk (by decide)).symm))
  · rintro D ep ys l h tk ⟨ks, h1, h2, rfl, rfl⟩ hne F9 N9
    simp only [NeOne] at hne
    obtain ⟨d1, d2, d3, d4, d5, d6, d7, d8, d9, d10, d11⟩ := hne
    replace F9 : Fr h₀ L _ _ := F9
    replace N9 : News h₀ L _ _ := N9
    (try dsimp only [frBase, frLoc] at F9 N9 d10)
    rw [show rv8.toArray.size = rn8.length by simp [hI8.length], List.take_length] at h1
    have hst4 : (rn8.map menu).length ≤ 4 := by rw [List.length_map]; exact hl8
    have hlit := menu_lit hb8
    generalize rn8.map menu = stp at h1 hst4 hlit
    have hpT := lit_plainT hlit
    have hns := lit_nostar hlit
    have hs7 := lits_ok hlit
    have hrl : rvals.length ≤ 10 := by rw [hsts.length, hsl]; exact Nat.le_of_lt (Nat.lt_trans hi5 (by decide))
    clear F8 N8
    k_steps
    · rename (segs _ _ _ != segs _ _ _) = true => hb
      simp at hb
    refine ⟨?_⟩
    rename Fr _ _ _ _ => F8
    rename News _ _ _ _ => N8
    with_unfolding_all refine' comp_M (h₀ := h₀) ?hclos2 ?hcell2 ?hkind2 ?hnames2 ?hx2 ?_
    (case hclos2 => with_unfolding_all rfl)
    (case hcell2 => decide)
    (case hkind2 => rfl)
    (case hnames2 => decide)
    (case hx2 => rfl)
    (try dsimp only [frBase, frLoc])
    k_steps
    refine ⟨_, _, [Ta7], _, _, fun i' zs l => zs = (List.range i').map (fun j => Value.bool ((rowN pn9 stp j).contains pn9.length)) ∧ l = (c7, listOf cw7.toArray cn7) :: (Ta7, listOf rs7.toArray tn7) :: (D, listOf ys.toArray ep) :: (st, listOf #[.ref sc, .int i8 u8] 0) :: (ra8, listOf rv8.toArray re8) :: (I, oI) :: (rw, listOf (rvals.toArray.push (Value.ref D)) (nr + 1)) :: (sc, listOf ws.toArray 0) :: (pa9, listOf pv9.toArray pe9) :: (x, instObj 262 d) :: (d, mdict w0 pn9 t1 tx t3 pt n) :: (pt, tupOf vs9.toArray) :: (L + 1, oc) :: (rled ++ tups9 ++ led7),
      iterOf_list rfl (News.isList N8 (by k_memK)), ?_, ?_, F8, N8, ?_, ?_, ?_, ?_⟩
    · rw [sizeLine_eq, List.size_toArray, hrl7]; exact Nat.le_trans (Nat.succ_le_succ hst4) (by decide)
    · rintro i' zs l ⟨rfl, _⟩
      simp
    · intro b hb
      rw [List.mem_singleton.mp hb]
      exact ⟨(N8 (Ta7, listOf rs7.toArray tn7) (by k_memK)).2.1, .inr ⟨_, fun i ys l ⟨_, e⟩ => by rw [e]; k_memK⟩⟩
    · exact ⟨rfl, rfl⟩
    · rintro i' v zs l C oC mc D2 oD I2 oI2 h tk hi' hP ⟨rfl, rfl⟩ hne hT hm F9 N9
      simp only [NeAll, NeOne, and_true, and_assoc] at hne
      (try dsimp only [frBase, frLoc] at N9 hne)
      walk_at "m cuth"
      have hi2 : i' < stp.length + 1 := by rw [List.size_toArray, hrl7] at hi'; exact hi'
      obtain ⟨aj, wj, nj, hrj, hmj, hIj⟩ := hP6.at (rowsN_at (ps := pn9) (ts := stp) hi2)
      obtain rfl : v = .ref aj := by
        have : rs7.toArray[i']? = some v := hP
        rw [List.getElem?_toArray, hrj] at this
        exact (Option.some.inj this).symm
      have hej : (toI (rowN pn9 stp i')).any (· == (pn9.length : Int)) = (rowN pn9 stp i').contains pn9.length := any_toI rfl
      clear hmem7
      k_steps
      refine' eltM_ _ (by assumption) (by assumption) ?h3 ?hs ?ho ⟨by rw [List.range_succ, List.map_append]; rfl, rfl⟩
      (case hs => (try dsimp only [frBase, frLoc]); walk_at "m in")
      (case h3 => walk_at "m in")
      (case ho => (try dsimp only [frBase, frLoc]); walk_at "m offs")
    · rintro D2 ep2 zs l h tk ⟨rfl, rfl⟩ hne F9 N9
      replace F9 : Fr h₀ L _ _ := F9
      replace N9 : News h₀ L _ _ := N9
      (try dsimp only [frBase, frLoc] at F9 N9)
      clear F8 N8 hne
      k_steps
      have hA : ((List.range rs7.toArray.size).map fun j => (rowN pn9 stp j).contains pn9.length).any id = segs true pn9 stp := by
        rw [List.any_map, List.size_toArray, hrl7]; exact law_desc hpT
      refine LSm.any_bools F9 N9 rfl (News.isList N9 (.head _)) (boolsAre_map _ _) fun h8 tk8 F8 N8 => ?_
      rw [hA]
      clear F9 N9 hA
      k_steps
      · rename (segs true _ _ != segs true _ _) = true => hb
        simp at hb
      · rename ((segs _ _ _ || could _ _) != decide _) = true => hb
        rw [← hanc7] at hb; simp at hb
      rename News _ _ _ _ => N7
      rename Fr _ _ _ _ => F5
      rw [List.push_toArray] at N7
      refine turnM_next ((rw, listOf (rvals ++ [Value.ref D]).toArray (nr + 1)) :: (st, listOf #[.ref sc, .int i8 u8] 0) :: (sc, listOf ws.toArray 0) :: (pa9, listOf pv9.toArray pe9) :: (x, instObj 262 d) :: (d, mdict w0 pn9 t1 tx t3 pt n) :: (pt, tupOf vs9.toArray) :: (L + 1, oc) :: (((D, listOf ys.toArray ep) :: rled) ++ tups9)) F5 N7 (by k_memK) ?hs ?ho
        ⟨st, x, rw, sc, d, pt, i8, u8, ws, wn, t1, t3, tx, n, oc, ct, rvals ++ [Value.ref D], nr + 1, (D, listOf ys.toArray ep) :: rled, sts ++ [stp], ⟨by with_unfolding_all rfl, by with_unfolding_all rfl, by with_unfolding_all rfl, by with_unfolding_all rfl⟩, rfl, hws, hwl, hoc,
          StepsIn.snoc (.head _) h1 (hsts.mono fun q hq => List.mem_cons_of_mem _ hq), ?st, by rw [List.length_append, hsl]; rfl, Int.le_trans hi0 lo8, ?hi, ⟨r1, r2, r3, r4, r5, r6, r7, ?rr⟩, ⟨s1, s2, s3, s4, s5, s6, ?ss⟩⟩
      (case hs => (try dsimp only [frBase, frLoc]); walk_at "m in")
      (case ho => (try dsimp only [frBase, frLoc]); walk_at "m all")
      (case st =>
        intro z hz
        rcases List.mem_append.mp hz with hz | hz
        · exact hstp z hz
        · rw [List.mem_singleton.mp hz]; exact ⟨hst4, hlit⟩)
      (case hi => exact Int.le_trans hi8 (hi_step hi1))
      (case rr => exact ⟨by k_ne, r8⟩)
      (case ss => exact ⟨by k_ne, s7⟩)
theorem law_turn_use {w0 : World} {s : Shared} {h₀ h₂ : Heap} {tk₂ : Nat} {L I : Addr} {oI : Obj} {v : Value} {i : Nat} {m₂ : Str → Option Value} {l₂ : List (Addr × Obj)} {Q : Flow → Shared → Prop} {E : Value → Shared → Prop} {p : Program} {loose : List Str} {mean : ExcName → Option Value} {mg mb : Str → Option Value}
    {name qual : Str} {params : Arguments} {body C : List Stmt} {env : Env} {scope : Scope} {dV kV doc pm cdv ct oc : Value} {an od : Option Addr} {osl : Array (Option Value)} {fa : Addr} {cd : Value}
    (ho : (Mine.hd.heap_39 w0.params).lookup 322 = some ⟨oc, od, .func (fnOf name qual params body scope dV kV doc pm an cdv ct), osl⟩) (hC : C = inner (body.drop 5)) (he : env = envOfC qual scope L fa cd)
    {pa9 : Addr} {pv9 : List Value} {pe9 : Nat} {pn9 : List Int} {vs9 : List Value} {tups9 : List (Addr × Obj)}
    (K0 : Below callerA h₀ [] h₀) (X0 : (Mine.hd.heap_39 w0.params).In h₀) (T0 : Top p loose mean mg mb h₀)
    (hI9 : IntsAre pv9 pn9) (hp9 : pn9.length ≤ 4) (hb9 : ∀ k ∈ pn9, 0 ≤ k ∧ k < 7) (hP9 : ElsIn tups9 pn9 vs9) (hl9 : vs9.length ≤ 4)
    (hi5 : i < 5) (hJ : LawJ w0 pa9 pv9 pe9 pn9 vs9 tups9 L i m₂ l₂) (hneI : NeOne I l₂)
    (F9 : Fr h₀ L h₂ (fun y => if y = Str.ofString "k" then some v else m₂ y)) (N9 : News h₀ L h₂ ((I, oI) :: l₂)) :
    wpAny (model PySem.Challenge.rw_ez0048_01.row.prog w0) (callerA.deeper env) (execs C env)
      (TurnM h₀ L I { s with heap := h₂, toks := tk₂ } (LawJ w0 pa9 pv9 pe9 pn9 vs9 tups9 L (i + 1)) oI Q) E { s with heap := h₂, toks := tk₂ } := by
  subst hC he
  exact wpAny_mono (law_turn ho K0 X0 T0 hI9 hp9 hb9 hP9 hl9 hi5 hJ hneI F9 N9) (fun _ _ h => h) fun _ _ h => h.elim

end
section
section
variable {M : Model} {A : Around} {R : GenEnd} {Y : Protocol} {n : Nat} {s₀ : Shared} {c : Code} {fs : List PySem.Frame} {s : Shared} {env : Env}
  {K : Flow → Sem Fin} {H : Value → Sem Fin} {gd : Bool → Bool} {lv : List Value → List Value}
def ownBack (env : Env) (K : Flow → Sem Fin) (H : Value → Sem Fin) (gd : Bool → Bool) (lv : List Value → List Value) (r : Result) : Sem Fin :=
  ((match r with | .ok f => (.pure f : Sem Flow) | .error e => .raise e).onRaise fun (x : Value) => do
        if (← field x 1) == Value.none then unsupported "frame.own-activation:exception-without-traceback"
        setFlight x env.frame).wrap K H gd lv
theorem gen_For {target iter : Expr} {body orelse : List Stmt} {pos : Pos}
    (h : wpAny M (A.over c fs) (eval iter env) (fun x s₁ => wpAny M (A.over c fs) (pyIter x) (fun it s₂ => ∀ p, Seg M A R Y n s₀ (.forLoop target it body orelse env) (M.den (.forLoop target it body orelse env))
      (.ret (ownBack env K H gd lv) none (gd false) (lv []) c p [] :: fs) s₂) (fun _ _ => False) s₁) (fun _ _ => False) s)
    (hs : ∀ x, foldedSetIterable iter env x = pure x := by intro _; rfl) :
    Seg M A R Y n s₀ c ((exec (.For target iter body orelse pos) env).wrap K H gd lv) fs s := by
  rw [exec_For]
  refine seg_bind_wrap (wpAny_standAt ?_)
  refine seg_bind_wrap (wpAny_mono h (fun x s₁ h₁ => ?_) fun _ _ e => e.elim)
  refine seg_bind_wrap (wpAny_of_eq (hs x) ?_)
  refine seg_bind_wrap (wpAny_standAt ?_)
  refine seg_bind_wrap (wpAny_holding (wpAny_mono h₁ (fun it s₂ h₂ => ?_) fun _ _ e => e.elim))
  exact seg_call h₂
end
section
variable {prog : Program} {w : World} {A : Around} {R : GenEnd} {Y : Protocol} {n : Nat} {s₀ : Shared} {fs : List PySem.Frame} {s : Shared} {env : Env}
theorem gen_forLoop {target : Expr} {it : Value} {body : List Stmt} (ht : ∀ v, letOwnedTupleGo target it v = pure ())
    (h : wpAny (model prog w) (A.over (.forLoop target it body [] env) fs) (pyNext it) (fun r s' => match r with
        | none => Seg (model prog w) A R Y n s₀ (.block [] env) ((model prog w).den (.block [] env)) fs s'
        | some v => wpAny (model prog w) (A.over (.forLoop target it body [] env) fs) (assign target env v) (fun _ s₂ =>
            Seg (model prog w) A R Y n s₀ (.forLoop target it body [] env) ((execs body env).wrap (fun f => match f with
            | .next | .cont => .pure (.again (.forLoop target it body [] env))
            | .brk => .pure (.done .next)
            | .ret v => .pure (.done (.ret v))) (fun e => (do noteFrame e env; theTreesLotGoes e : Sem Unit).wrap (fun _ => .raise e) .raise id id) id id) fs s₂) (fun _ _ => False) s') (fun _ _ => False) s) :
    Seg (model prog w) A R Y n s₀ (.forLoop target it body [] env) ((model prog w).den (.forLoop target it body [] env)) fs s := by
  show Seg _ A R Y n s₀ _ ((forTurn target it body [] env).onRaise (fun x => do noteFrame x env; theTreesLotGoes x)) fs s
  rw [Sem.onRaise_eq_wrap]
  unfold forTurn
  refine seg_bind_wrap (wpAny_standAt ?_)
  refine seg_bind_wrap (wpAny_onRaise (wpAny_mono h (fun r s' hr => ?_) fun _ _ e => e.elim))
  cases r with
  | none => exact seg_again rfl hr
  | some v =>
    refine seg_bind_wrap (wpAny_of_eq (ht v) ?_)
    refine seg_bind_wrap (wpAny_mono hr (fun _ s₂ h₂ => ?_) fun _ _ e => e.elim)
    rw [Sem.bind_eq_wrap', Sem.wrap_wrap]
    rw [Sem.wrap_congr (execs body env) _ _ (K' := fun f => match f with
            | .next | .cont => .pure (.again (.forLoop target it body [] env))
            | .brk => .pure (.done .next)
            | .ret v => .pure (.done (.ret v))) (H' := (fun e => (do noteFrame e env; theTreesLotGoes e : Sem Unit).wrap (fun _ => .raise e) .raise id id))
        (fun f => by cases f <;> rfl)
        (fun e => by first | exact Sem.bind_eq_wrap _ _ | (show (do noteFrame e env; theTreesLotGoes e : Sem Unit).bind (fun _ => .raise e) = _; rw [Sem.bind_eq_wrap]))]
    exact h₂
end

/-- what a generator's run leaves: the base's objects but its frame -/
def Sn (hb : Heap) (C : Addr) (s₀ s : Shared) : Prop :=
  ∃ h' tk, s = { s₀ with heap := h', toks := tk } ∧ ∀ b o, (∃ o', hb.get? b = some o') → b ≠ C → s₀.heap.get? b = some o → h'.get? b = some o
theorem Sn.refl (hb : Heap) (C : Addr) (s : Shared) : Sn hb C s s := ⟨s.heap, s.toks, rfl, fun _ _ _ _ e => e⟩
theorem Sn.step {hb : Heap} {C : Addr} {s₀ s : Shared} (x : Sn hb C s₀ s) {h' : Heap} {tk : Nat} (hk : ∀ b o, (∃ o', hb.get? b = some o') → b ≠ C → s.heap.get? b = some o → h'.get? b = some o) :
    Sn hb C s₀ { s with heap := h', toks := tk } := by
  obtain ⟨h₁, tk₁, rfl, hk₁⟩ := x
  exact ⟨h', tk, rfl, fun b o hB hC e => hk b o hB hC (hk₁ b o hB hC e)⟩
/-- between two wakes all objects stand but S's items -/
def Ag (S : Addr) (h h' : Heap) : Prop := ∀ b o, h.get? b = some o → ∃ o', h'.get? b = some o' ∧ (b ≠ S → o' = o)
theorem Ag.of {S : Addr} {h h' : Heap} (x : Ag S h h') {b : Addr} (hb : b ≠ S) : ∀ o, h.get? b = some o → h'.get? b = some o := fun o e => by
  obtain ⟨o', e', q⟩ := x b o e
  rw [e', q hb]
theorem Ag.refl (S : Addr) (h : Heap) : Ag S h h := fun _ o e => ⟨o, e, fun _ => rfl⟩
theorem Ag.trans {S : Addr} {h h' h'' : Heap} (x : Ag S h h') (y : Ag S h' h'') : Ag S h h'' := fun b o e => by
  obtain ⟨o', e', q'⟩ := x b o e
  obtain ⟨o'', e'', q''⟩ := y b o' e'
  exact ⟨o'', e'', fun n => (q'' n).trans (q' n)⟩
def gY (hb : Heap) (C S : Addr) (n₀ : Nat) (P : Nat → Value → Prop) : Protocol := fun m s₀ v s kap =>
  P (n₀ - 1 - m) v ∧ Sn hb C s₀ s ∧ ∀ s'' : Shared, Ag S s.heap s''.heap → kap (.send .none) s''
abbrev gR (hb : Heap) (C : Addr) : GenEnd := fun n s₀ r s₁ => r = .ok (.ret .none) ∧ (n = 0 ∧ Sn hb C s₀ s₁)
section
variable {prog : Program} {w : World} {A : Around} {KT : Type} [DecidableEq KT] {knd : KeyKind prog w KT}
theorem gen_rows {env : Env} {x : Str} {px px2 yp ep2 : Pos} {I D S : Addr} {hb : Heap} {kvs : List (KT × Value)} {ep : Nat} {p : Pos} {c : Code} {l : List Value} {kf : Result → Sem Fin}
    (hh : A.handled = none)
    (hend : ∀ n s₀ s, gR hb env.locals n s₀ (.ok (.ret .none)) s → Seg (model prog w) A (gR hb env.locals) (gY hb env.locals S kvs.length (fun i v => ∃ k x, kvs[i]? = some (k, x) ∧ knd.is k v = true)) n s₀ c (kf (.ok .next)) [] s)
    (hx : env.scope.names.lookup x = some .local) (hkn : env.scope.kind = .function) (hco : env.scope.isCoroutine = false) (hdb : (x == ("__debug__" : Str)) = false)
    (hxi : interactive env = false)
    (hID : D ≠ I) (hIC : I ≠ env.locals) (hDC : D ≠ env.locals) (hIS : I ≠ S) (hDS : D ≠ S) (hCS : env.locals ≠ S) (hIb : hb.get? I = none) :
    ∀ (k i : Nat) (s₀ s : Shared) (m : Str → Option Value), kvs.length - i = k → i ≤ kvs.length → s.heap.IsKeyIter I D i kvs.length ep → s.heap.DictAt knd D kvs ep → s.heap.Ns env.locals m → Sn hb env.locals s₀ s →
      Seg (model prog w) A (gR hb env.locals) (gY hb env.locals S kvs.length (fun i v => ∃ k x, kvs[i]? = some (k, x) ∧ knd.is k v = true)) (kvs.length - i) s₀
        (.forLoop (.Name x px) (.ref I) [.Expr (.Yield (some (.Name x px2)) yp) ep2] [] env)
        ((model prog w).den (.forLoop (.Name x px) (.ref I) [.Expr (.Yield (some (.Name x px2)) yp) ep2] [] env)) [.ret kf none false l c p []] s := by
  have hh' : (A.over (.forLoop (.Name x px) (.ref I) [.Expr (.Yield (some (.Name x px2)) yp) ep2] [] env) [.ret kf none false l c p []]).handled = none := hh
  intro k
  induction k with
  | zero =>
    intro i s₀ s m hk hi hit hd hn hs
    have hin : i = kvs.length := by omega
    subst hin
    refine gen_forLoop (fun _ => rfl) ((Walks.dictKeys (knd := knd) hh' I D hID kvs ep).done s _ _ ⟨hit, hd⟩ fun h' tk hk' => ?_)
    refine seg_leaf (.ok .next) (hend _ _ _ ⟨rfl, by omega, hs.step fun b o hB _ e => hk' b o (fun hm => ?_) e⟩)
    rw [List.mem_singleton.mp hm] at hB
    obtain ⟨o', ho'⟩ := hB
    rw [hIb] at ho'; cases ho'
  | succ k ih =>
    intro i s₀ s m hk hi hit hd hn hs
    have hlt : i < kvs.length := by omega
    obtain ⟨n', hn'⟩ : ∃ n', kvs.length - i = n' + 1 := ⟨k, hk⟩
    have hn'' : kvs.length - (i + 1) = n' := by omega
    rw [hn']
    refine gen_forLoop (fun _ => rfl) ((Walks.dictKeys (knd := knd) hh' I D hID kvs ep).item i s _ _ hlt ⟨hit, hd⟩ fun v h₁ tk₁ hP hst₁ hk₁ => ?_)
    have k1 : ∀ b o, b ≠ I → s.heap.get? b = some o → h₁.get? b = some o := fun b o hb e => hk₁ b o (fun hm => hb (List.mem_singleton.mp hm)) e
    refine wpAny_assign_Name (wpAny_storeName_local hx (hn.at' fun o e => k1 _ o hIC.symm e) (fun h₂ hn₂ hs₂ => ?_) (by rw [hkn]; rfl))
    have k2 : ∀ b o, b ≠ env.locals → h₁.get? b = some o → h₂.get? b = some o := fun b o hb e => (hs₂.2 b hb).trans e
    refine seg_execs_cons ?_
    refine seg_Expr_Yield rfl rfl rfl (wpAny_Name (wpAny_loadName_local hkn (by simp only [Env.kindOf]; exact hx) hn₂ (v := v) (by simp) ?_) hdb) hco hxi
    intro kap hkap
    refine ⟨?_, hs.step fun b o hB hC e => k2 b o hC (k1 b o (fun hm => ?_) e), fun s'' hal => hkap .none s'' ?_⟩
    · rw [show kvs.length - 1 - n' = i by omega]; exact hP
    · subst hm
      obtain ⟨o', ho'⟩ := hB
      rw [hIb] at ho'; cases ho'
    · refine seg_execs_nil (seg_again rfl ?_)
      have := ih (i + 1) s'' s'' _ (by omega) hlt (hst₁.1.at fun o e => hal.of hIS o (k2 _ o hIC e)) (hst₁.2.at' fun o e => hal.of hDS o (k2 _ o hDC e)) (hn₂.at' fun o e => hal.of hCS o e) (Sn.refl _ _ _)
      rw [hn''] at this
      exact this
end

abbrev keyP {KT : Type} {prog : Program} {w : World} [DecidableEq KT] (knd : KeyKind prog w KT) (kvs : List (KT × Value)) : Nat → Value → Prop := fun i v => ∃ k x, kvs[i]? = some (k, x) ∧ knd.is k v = true
def GenJ (prog : Program) (w : World) (A : Around) (a : Addr) (g : Nat) (C S : Addr) (hb : Heap) (n₀ : Nat) (P : Nat → Value → Prop) (j : Nat) (s : Shared) : Prop :=
  s.heap.IsGen a g ∧ s.heap.NoLimit ∧ ∃ gs, s.gens[g]? = some gs ∧ ∀ s'' : Shared, Ag S s.heap s''.heap → gs.Goes (model prog w) A.in1 (gR hb C) (gY hb C S n₀ P) (n₀ - j) (.send .none) s''
structure Mv (hb : Heap) (C : Addr) (g : Nat) (s s' : Shared) : Prop where
  heap : ∀ b o, (∃ o', hb.get? b = some o') → b ≠ C → s.heap.get? b = some o → s'.heap.get? b = some o
  gens : GenOnly g s.gens s'.gens
  os : s'.os = s.os
  drawn : s'.drawn = s.drawn
section
variable {prog : Program} {w : World} {A : Around} {E : Value → Shared → Prop} {s : Shared} {a C S : Addr} {g n₀ : Nat} {hb : Heap} {P : Nat → Value → Prop}
theorem gen_item {j : Nat} {Q : Option Value → Shared → Prop} (hh : A.handled = none) (hroom : A.depth < recursionLimit) (hba : ∃ o, hb.get? a = some o) (haC : a ≠ C) (hbc : ∃ o, hb.get? cStatics = some o) (hcC : cStatics ≠ C)
    (st : GenJ prog w A a g C S hb n₀ P j s) (hj : j < n₀) (h : ∀ v s', P j v → GenJ prog w A a g C S hb n₀ P (j + 1) s' → Mv hb C g s s' → Q (some v) s') : wpAny (model prog w) A (pyNext (.ref a)) Q E s := by
  obtain ⟨hg, hl, gs, hgs, hgo⟩ := st
  obtain ⟨m, hm⟩ : ∃ m, n₀ - j = m + 1 := ⟨n₀ - j - 1, by omega⟩
  rw [hm] at hgo
  refine wpAny_pyNext_gen (P := fun n s₀ s₁ => n = 0 ∧ Sn hb C s₀ s₁) hh hl hroom hg hgs (hgo _ (Ag.refl _ _)) (fun v s₁ gs' hv => ?_) (fun s₁ hp h' hk => ?_)
  · obtain ⟨hP, ⟨h₁, tk₁, rfl, hk₁⟩, hkap⟩ := hv
    rw [show n₀ - 1 - (m + 1 - 1) = j by omega] at hP
    refine h v _ hP ⟨let ⟨o, nm, qn, ho, r⟩ := hg; ⟨o, nm, qn, hk₁ a o hba haC ho, r⟩, (let ⟨mc, hns, hnn⟩ := hl; ⟨mc, hns.at' fun o e => hk₁ cStatics o hbc hcC e, hnn⟩), gs', setGen_self (gs := .running) (setGen_self hgs), fun s'' hal => ?_⟩
      ⟨fun b o hB hC e => hk₁ b o hB hC e, (GenOnly.setGen s g .running).trans (GenOnly.setGen _ g gs'), rfl, rfl⟩
    rw [show n₀ - (j + 1) = m by omega]
    exact hkap s'' hal
  · exact absurd hp.1 (Nat.succ_ne_zero m)
theorem gen_done {Q : Option Value → Shared → Prop} (hh : A.handled = none) (hroom : A.depth < recursionLimit)
    (st : GenJ prog w A a g C S hb n₀ P n₀ s) (h : ∀ s', Mv hb C g s s' → s'.gens[g]? = some .finished → Q none s') : wpAny (model prog w) A (pyNext (.ref a)) Q E s := by
  obtain ⟨hg, hl, gs, hgs, hgo⟩ := st
  rw [Nat.sub_self] at hgo
  refine wpAny_pyNext_gen (P := fun n s₀ s₁ => n = 0 ∧ Sn hb C s₀ s₁) hh hl hroom hg hgs (hgo _ (Ag.refl _ _)) (fun v s₁ gs' hv => ?_) (fun s₁ hp h' hk => ?_)
  · obtain ⟨_, _, hkap⟩ := hv
    exact False.elim (hkap s₁ (Ag.refl _ _))
  · obtain ⟨_, h₁, tk₁, rfl, hk₁⟩ := hp
    exact h _ ⟨fun b o hB hC e => hk b o (hk₁ b o hB hC e), (GenOnly.setGen s g .running).trans (GenOnly.setGen _ g .finished), rfl, rfl⟩ (setGen_self (gs := .running) (setGen_self hgs))
theorem GenJ.upd {j : Nat} {h' : Heap} (st : GenJ prog w A a g C S hb n₀ P j s) (haS : a ≠ S) (hcS : cStatics ≠ S) (hal : Ag S s.heap h') : GenJ prog w A a g C S hb n₀ P j { s with heap := h' } :=
  ⟨let ⟨o, nm, qn, ho, r⟩ := st.1; ⟨o, nm, qn, hal.of haS o ho, r⟩, (let ⟨mc, hns, hnn⟩ := st.2.1; ⟨mc, hns.at' fun o e => hal.of hcS o e, hnn⟩),
    let ⟨gs, hgs, hgo⟩ := st.2.2; ⟨gs, hgs, fun s'' h'' => hgo s'' (hal.trans h'')⟩⟩
theorem gen_ext {R : Result → Shared → Prop} {res : Value} (hn : n₀ ≤ sizeLine) (hh : A.in1.handled = none) (hroom : A.in1.depth < recursionLimit) (hba : ∃ o, hb.get? a = some o) (haC : a ≠ C) (hbc : ∃ o, hb.get? cStatics = some o) (hcC : cStatics ≠ C)
    (hbS : ∃ o, hb.get? S = some o) (hSC : S ≠ C) (haS : a ≠ S) (hcS : cStatics ≠ S) :
    ∀ (k j : Nat) (s : Shared) (acc : Array Value) (c : Nat), n₀ - j = k → j ≤ n₀ → GenJ prog w A.in1 a g C S hb n₀ P j s → s.heap.get? S = some { cls := .type "list", dict := none, data := .seq acc c, slots := #[] } → ItemsOf P acc j →
    (∀ s' acc' c', (∀ b o, (∃ o', hb.get? b = some o') → b ≠ C → b ≠ S → s.heap.get? b = some o → s'.heap.get? b = some o) → s'.heap.get? S = some { cls := .type "list", dict := none, data := .seq acc' c', slots := #[] } → ItemsOf P acc' n₀ →
      GenOnly g s.gens s'.gens → s'.gens[g]? = some .finished → s'.os = s.os → s'.drawn = s.drawn → R (.ok (.ret res)) s') →
    codeAny (model prog w) A (.builtin "list.extend.loop" ⟨[.ref S, .ref a, res], []⟩) R s := by
  intro k
  induction k with
  | zero =>
    intro j s acc c hk hj st hS hacc hR
    have hjn : j = n₀ := by omega
    subst hjn
    refine codeAny_builtin F.entry_extend_loop ?_
    rw [Around.under_plainId F.plain_extend_loop _]
    show wpAny _ A.in1 (pyNext (.ref a) >>= _) _ _ s
    refine wpAny_bind (gen_done hh hroom st fun s' mv hf => ?_)
    exact wpAny_pure (hR s' acc c (fun b o hB hC _ e => mv.heap b o hB hC e) (mv.heap S _ hbS hSC hS) hacc mv.gens hf mv.os mv.drawn)
  | succ k ih =>
    intro j s acc c hk hj st hS hacc hR
    have hlt : j < n₀ := by omega
    refine codeAny_builtin F.entry_extend_loop ?_
    rw [Around.under_plainId F.plain_extend_loop _]
    show wpAny _ A.in1 (pyNext (.ref a) >>= _) _ _ s
    refine wpAny_bind (gen_item hh hroom hba haC hbc hcC st hlt fun v s' hP st' mv => ?_)
    have hS' := mv.heap S _ hbS hSC hS
    show wpAny _ A.in1 (updateSeq S (·.push v) >>= _) _ _ _
    refine wpAny_bind ?_
    have hal : Ag S s'.heap (s'.heap.update S (Obj.mapSeq (·.push v))) := fun b o e => by
      by_cases hbs : b = S
      · subst hbs; exact ⟨_, Heap.get?_update_self _ hS' rfl, fun n => absurd rfl n⟩
      · exact ⟨o, (Heap.get?_update_other _ _ (Ne.symm hbs)).trans e, fun _ => rfl⟩
    refine wpAny_updateSeq hS' rfl (wpAny_pure ⟨plainId_quiet F.plain_extend_loop _, ih (j + 1) _ (acc.push v) _ (by omega) hlt (st'.upd haS hcS hal) (Heap.get?_update_self _ hS' rfl) (hacc.push hP) fun s'' acc' c' hk'' hS'' hacc'' hg'' hf'' ho'' hd'' => ?_⟩)
      (by rw [hacc.1]; omega) (by show (acc.push v).size ≤ sizeLine + 1; rw [Array.size_push, hacc.1]; omega)
    exact hR s'' acc' c' (fun b o hB hC hbS e => hk'' b o hB hC hbS ((Heap.get?_update_other _ _ (Ne.symm hbS)).trans (mv.heap b o hB hC e))) hS'' hacc'' (mv.gens.trans hg'') hf'' (ho''.trans mv.os) (hd''.trans mv.drawn)
end
section
variable {prog : Program} {w : World} {A : Around} {KT : Type} [DecidableEq KT] {knd : KeyKind prog w KT}
theorem gen_fresh {env : Env} {x : Str} {px px2 yp ep2 fp : Pos} {iter : Expr} {D S a : Addr} {g : Nat} {kvs : List (KT × Value)} {ep : Nat} {s : Shared}
    (hh : A.handled = none) (hg : s.heap.IsGen a g) (hl : s.heap.NoLimit) (hgs : s.gens[g]? = some (.fresh (.func [.For (.Name x px) iter [.Expr (.Yield (some (.Name x px2)) yp) ep2] [] fp] env)))
    (hD : s.heap.DictAt knd D kvs ep) (hlo : (D == sysModules) = false) (hn : ∃ m, s.heap.Ns env.locals m) (hSs : ∃ o, s.heap.get? S = some o)
    (hev : ∀ (A' : Around) (s'' : Shared) (Q : Value → Shared → Prop), A'.handled = none → Ag S s.heap s''.heap → (∀ tk, Q (.ref D) { s'' with toks := tk }) → wpAny (model prog w) A' (eval iter env) Q (fun _ _ => False) s'')
    (hs : ∀ x, foldedSetIterable iter env x = pure x)
    (hx : env.scope.names.lookup x = some .local) (hk : env.scope.kind = .function) (hco : env.scope.isCoroutine = false) (hdb : (x == ("__debug__" : Str)) = false)
    (hxi : interactive env = false) (hDC : D ≠ env.locals) (hDS : D ≠ S) (hCS : env.locals ≠ S) :
    GenJ prog w A a g env.locals S s.heap kvs.length (keyP knd kvs) 0 s := by
  refine ⟨hg, hl, _, hgs, fun s'' hal => ⟨rfl, ?_⟩⟩
  refine seg_func (seg_execs_cons ?_)
  have hh' : (A.in1.over (.func [.For (.Name x px) iter [.Expr (.Yield (some (.Name x px2)) yp) ep2] [] fp] env) []).handled = none := hh
  refine gen_For (hev _ s'' _ hh' hal fun tk => ?_) hs
  have hD'' : s''.heap.DictAt knd D kvs ep := hD.at' fun o e => hal.of hDS o e
  refine wpAny_pyIter_dict hlo hD'' fun p => ?_
  obtain ⟨m, hns⟩ := hn
  obtain ⟨oS, hoS⟩ := hSs
  obtain ⟨oS', hoS', _⟩ := hal _ _ hoS
  have hns'' : s''.heap.Ns env.locals m := hns.at' fun o e => hal.of hCS o e
  obtain ⟨oL, _, _, hoL, _⟩ := id hns''
  have hoL : s''.heap.get? env.locals = some oL := hoL
  have kp : ∀ b o, s''.heap.get? b = some o → (s''.heap.push { cls := .type "dict_keyiterator", data := .fields #[.ref D, .int 0 0, .int kvs.length 0, .int ep 0] }).get? b = some o := fun b o e => Heap.get?_push_of_some _ e
  refine gen_rows (A := A.in1) (knd := knd) (D := D) (S := S) (hb := s.heap) (kvs := kvs) (ep := ep) (I := s''.heap.objs.size) (l := []) hh (fun n s₀ s₁ hR => ?_) hx hk hco hdb hxi (Nat.ne_of_lt hD''.lt_size) (Nat.ne_of_gt (Heap.lt_size hoL)) hDC (Nat.ne_of_gt (Heap.lt_size hoS')) hDS hCS ?_
    kvs.length 0 s'' _ m (Nat.sub_zero _) (Nat.zero_le _) ⟨_, Heap.get?_push_size _ rfl, rfl, rfl⟩ (hD''.push _) (hns''.push _) ?_
  · exact seg_end (.ok (.ret .none)) hR
  · cases e : s.heap.get? s''.heap.objs.size with
    | none => rfl
    | some o =>
      obtain ⟨o', e', _⟩ := hal _ _ e
      exact absurd (Heap.lt_size e') (Nat.lt_irrefl _)
  · exact ⟨_, _, rfl, fun b o _ _ e => kp b o e⟩
end

section
variable {w : World} {f : Addr} {args : List Value} {kw : List (Str × Value)} {A : Around} {s : Shared}
theorem gen_call
    {name qual : Str} {params : Arguments} {body : List Stmt} {scope : Scope} {dV kV doc pm cdv ct oc : Value} {an od : Option Addr} {osl : Array (Option Value)} {binds : List (Str × Value)}
    (ho : (Mine.hd.heap_39 w.params).lookup f = some ⟨oc, od, .func (fnOf name qual params body scope dV kV doc pm an cdv ct), osl⟩) (hcd : codeIn (Mine.hd.heap_39 w.params) cdv qual = true)
    (hbind : ∀ s : Shared, (Mine.hd.heap_39 w.params).In s.heap → BindsTo s (fnOf name qual params body scope dV kV doc pm an cdv ct) ⟨args, kw⟩ binds) (hloc : ∀ y ∈ binds, scope.names.lookup y.1 = some .local)
    (hco : scope.isCoroutine = false) (hgen : scope.isGenerator = true) (hk : scope.kind = .function) (hcell : ∀ x ∈ scope.names, x.2 ≠ .cell)
    (X : (Mine.hd.heap_39 w.params).In s.heap) (hl : s.heap.NoLimit) (hroom : A.depth < recursionLimit) {R : Result → Shared → Prop}
    (h : ∀ h₂ tk, (∀ b o, s.heap.get? b = some o → h₂.get? b = some o) → h₂.Ns s.heap.objs.size (fun y => binds.reverse.lookup y) → h₂.IsGen (s.heap.objs.size + 1) s.gens.size → h₂.NoLimit →
      R (.ok (.ret (.ref (s.heap.objs.size + 1)))) { s with heap := h₂, toks := tk, gens := s.gens.push (.fresh (.func body (envOf qual scope s.heap.objs.size f cdv))) }) :
    codeAny (model PySem.Challenge.rw_ez0048_01.row.prog w) A (.call (.ref f) ⟨args, kw⟩) R s := by
  refine codeAny_call_generator (fd := fnOf name qual params body scope dV kV doc pm an cdv ct) (body := body) hroom (X _ _ ho) rfl hco hgen rfl (codeRec_of X hcd) (hbind s X _ _ _ _ ?_)
  refine wpAny_newFunctionEnv hcell hloc (fun h₁ hns₁ hsb₁ => ?_) hk
  have kp : ∀ b o, s.heap.get? b = some o → h₁.get? b = some o := fun b o e => hsb₁.extBut b o (Nat.ne_of_lt (Heap.lt_size e)) (Heap.get?_push_of_some _ e)
  have hl₁ := hl.keeps kp
  refine ⟨hl₁, ?_⟩
  have hsz : h₁.objs.size = s.heap.objs.size + 1 := by rw [hsb₁.1, Heap.size_push]
  show R (.ok (.ret (.ref h₁.objs.size))) _
  rw [hsz]
  refine h _ _ (fun b o e => Heap.get?_push_of_some _ (kp b o e)) (hns₁.push _) ?_ (hl₁.keeps fun b o e => Heap.get?_push_of_some _ e)
  rw [← hsz]
  exact ⟨_, _, _, Heap.get?_push_size _ rfl, rfl, rfl, rfl⟩
end

end
section
section
local macro_rules | `(tactic| walk_at "call builtin:len") => `(tactic| (k_here; (with_reducible show wpAny _ _ (call (Value.builtin "len") [Value.ref _]) _ _ _); k_dflt (refine' tdict_len ?N ?m ?t ?o ?z ?_; (case N => k_asm); (case m => k_mem); (case t => assumption); (case o => assumption); (case z => assumption); k_whole); intro t9 tk9))
theorem len_con (w : World) {E dE D : Addr} {t : Tok} {n : Nat} {od : Obj} {xs : List Str} (hT : TDict w od xs) (lo : (D == sysModules) = false) (hz : xs.length ≤ 1000) :
    Con w 96 [.ref E] [] [(E, instObj 123 dE), (dE, edict w D t n), (D, od)] [] 10 100 (fun (_ : Tok) => True) (fun _ => []) (fun _ => []) (fun u => .int xs.length u) := by
  walk_at "m enter"
  k_steps
  walk_at "m outw"
  refine' leaveM_ (by assumption) (by assumption) rfl _ trivial rfl ?M ?O
  (case M => walk_at "m in")
  (case O => walk_at "m off")
end
theorem bare_only {g : Nat} {a b : Array GenState} {z : GenState} (x : GenOnly g (a.push z) b) (hg : g = a.size) (hf : b[g]? = some .finished) (ha : AllBare a) : AllBare b := by
  intro y hy
  obtain ⟨i, hi, rfl⟩ := Array.mem_iff_getElem.mp hy
  by_cases e : i = g
  · subst e
    rw [Array.getElem?_eq_getElem hi] at hf
    rw [Option.some.inj hf]; rfl
  · have h1 := x.2 i e
    have h2 := x.1
    rw [Array.size_push] at h2
    have hi' : i < a.size := by omega
    rw [Array.getElem?_eq_getElem hi, Array.getElem?_push, if_neg (by omega), Array.getElem?_eq_getElem hi'] at h1
    rw [Option.some.inj h1]
    exact ha _ (Array.getElem_mem hi')
theorem strsAre_items {prog : Program} {w : World} {xs : List Str} : ∀ {vs : List Value}, vs.length = xs.length → (∀ (j : Nat) v, vs[j]? = some v → ∃ k x, (xs.map fun y => (y, Value.none))[j]? = some (k, x) ∧ (PySem.strKind prog w).is k v = true) → StrsAre vs xs := by
  induction xs with
  | nil => intro vs h _; cases vs with
    | nil => exact .nil
    | cons _ _ => simp at h
  | cons y xs ih =>
    intro vs h hv
    cases vs with
    | nil => simp at h
    | cons v vs =>
      obtain ⟨k, x, e, hk⟩ := hv 0 v rfl
      simp at e
      obtain ⟨t, rfl⟩ := Value.isStrOf_shape hk
      obtain ⟨rfl, _⟩ := e
      exact .cons _ t (ih (by simpa using h) fun j v hj => by simpa using hv (j + 1) v (by simpa using hj))
theorem none_of_ge {h₀ h : Heap} {L b : Addr} {m : Str → Option Value} (F : Fr h₀ L h m) (hb : L < b) : h₀.get? b = none := Heap.get?_none_of_le (Nat.le_of_lt (Nat.lt_of_le_of_lt F.above hb))
theorem list_exact {w : World} {dp un : Nat} {gd : Option (List Code)} {env : Env} {outer : List Env} {A₀ : Around} {base h₀ : Heap} {L : Addr} {m : Str → Option Value} {news : List (Addr × Obj)} {s : Shared} {Q E' : Value → Shared → Prop}
    {p : Program} {loose : List Str} {mean : ExcName → Option Value} {mg mb : Str → Option Value} {E dE D : Addr} {t : Tok} {n : Nat} {od : Obj} {xs : List Str}
    (B : Below A₀ base outer h₀) (Xb : (Mine.hd.heap_39 w.params).In base) (Tb : Top p loose mean mg mb base) (F : Fr h₀ L s.heap m) (N : News h₀ L s.heap news)
    (hf : env.frame = some L) (hke : env.scope.kind = .function) (hd : dp + 20 < recursionLimit) (hu : un + 200 < cLine)
    (hE : (E, instObj 123 dE) ∈ news) (hdE : (dE, edict w D t n) ∈ news) (hD : (D, od) ∈ news) (hT : TDict w od xs) (lo : (D == sysModules) = false) (hz : xs.length ≤ 1000) (hpos : 0 < xs.length)
    (k : ∀ h' g' tk' a vs ep, Fr h₀ L h' m → News h₀ L h' ((a, listOf vs.toArray ep) :: news) → StrsAre vs xs → NeOne a news → (AllBare s.gens → AllBare g') → Q (.ref a) { s with heap := h', gens := g', toks := tk' }) :
    wpAny (model PySem.Challenge.rw_ez0048_01.row.prog w) (A0 dp un gd (env :: outer)) (call (.type "list") [.ref E]) Q E' s := by
  have hSn : ∀ q ∈ news, q.1 ≠ s.heap.objs.size := fun q hq => Nat.ne_of_lt (Heap.lt_size (N q hq).1)
  have hLS : L < s.heap.objs.size := F.ns.lt
  refine callType_codes (Q₁ := fun obj s₁ => obj = .ref s.heap.objs.size ∧ s₁ = { s with heap := s.heap.push { cls := .type "list", data := .seq #[] } }) PySem.F.called_list (PySem.F.typeCall_list_1 _) PySem.F.entry_list_init
    (code_list_new _ ⟨rfl, rfl⟩) fun obj s₁ h₁ => ?_
  obtain ⟨rfl, rfl⟩ := h₁
  have hS : (s.heap.push { cls := .type "list", data := .seq #[] }).get? s.heap.objs.size = some { cls := .type "list", data := .seq #[] } := Heap.get?_push_size _ rfl
  refine ⟨⟨_, hS, rfl⟩, PySem.F.args_list_init_2 _ _, ?_⟩
  have F1 := F.push { cls := .type "list", data := .seq #[] }
  have N1 := News.push F N { cls := .type "list", data := .seq #[] } rfl
  have h0S : h₀.get? s.heap.objs.size = none := none_of_ge F hLS
  generalize hSe : s.heap.objs.size = S at *
  generalize s.heap.push { cls := .type "list", data := .seq #[] } = H1 at *
  show wpAny _ (A0 dp un gd (env :: outer)).in1.in1 (do let old ← Builtin.List.listItems (.ref S); Builtin.List.listUpdate (.ref S) (fun _ => #[]); letGo old.toList.reverse; Builtin.List.listExtendWith (.ref S) (.ref E) .none) _ _ _
  refine wpAny_bind ?_
  unfold Builtin.List.listItems
  refine wpAny_bind (wpAny_seqItems hS rfl (wpAny_pure ?_))
  show wpAny _ _ (updateSeq S (fun _ => #[]) >>= fun _ => letGo (#[] : Array Value).toList.reverse >>= fun _ => Builtin.List.listExtendWith (.ref S) (.ref E) .none) _ _ _
  refine wpAny_bind (wpAny_updateSeq hS rfl ?_)
  have hS2 := Heap.get?_update_self (Obj.mapSeq (fun _ => (#[] : Array Value))) hS rfl
  have F2 := F1.change (Heap.SameBut.update H1 S (Obj.mapSeq (fun _ => (#[] : Array Value)))) (Nat.ne_of_gt hLS) h0S
  have N2 := N1.setHead hSn (Heap.SameBut.update H1 S (Obj.mapSeq (fun _ => (#[] : Array Value)))) hS2
  refine wpAny_bind (wpAny_letGo ?_)
  generalize H1.update S (Obj.mapSeq (fun _ => (#[] : Array Value))) = H2 at *
  unfold Builtin.List.listExtendWith
  have X0 : (Mine.hd.heap_39 w.params).In h₀ := Xb.keeps B.stays
  have X2 := X0.keeps F2.keep
  have hl2 : H2.NoLimit := (Tb.keeps B.stays).nolimit.keeps F2.keep
  have I2 : InstAt H2 E (instObj 123 dE) 123 (some (edict w D t n)) := InstAt.of_news N2 (List.mem_cons_of_mem _ hE) (List.mem_cons_of_mem _ hdE)
  have hES : (S == E) = false := by simpa using (hSn _ hE).symm
  refine wpAny_bind (I2.type.here ?_)
  simp only [Builtin.List.listSameRef, hES, show (Value.ref 123 == Value.type "list") = false from rfl, show (Value.ref 123 == Value.type "tuple") = false from rfl, Bool.or_false, Bool.false_eq_true, if_false]
  refine wpAny_bind (owit_iter (f := 89) F2 X0 I2 (by k_is) (by k_is) (wpAny_call ?_))
  refine' gen_call ?k6 ?k7 ?k9 ?kB ?c2 ?c3 ?c4 ?c5 X2 hl2 ?c6 ?_
  (case k6 => k_is)
  (case k7 => k_is)
  (case k9 => exact fun _ _ => BindsTo.of_eq rfl)
  (case kB => exact locs rfl)
  (case c2 => exact rfl)
  (case c3 => exact rfl)
  (case c4 => exact rfl)
  (case c5 => decide)
  (case c6 => show dp < recursionLimit; omega)
  intro h3 tk3 kp3 hns3 hg3 hl3
  refine wpAny_specialOf (T := "generator") (hg3.typeIs) slot_gen_next.lookup ?_
  dsimp only at hns3 hg3 kp3 ⊢
  have hLC : L < H2.objs.size := F2.ns.lt
  have hSC : S < H2.objs.size := Heap.lt_size hS2
  have hnC : ∀ q ∈ news, q.1 < H2.objs.size := fun q hq => Heap.lt_size (N2 q (List.mem_cons_of_mem _ hq)).1
  generalize H2.objs.size = C at *
  have hns3' : h3.Ns C (fun y => List.lookup y [(Str.ofString "self", .ref E)]) := hns3
  obtain ⟨oC, esC, epC, hoC, rC⟩ := id hns3'
  have hoC : h3.get? C = some oC := hoC
  obtain ⟨oa, nma, qna, hoa, ra⟩ := id hg3
  have hTab : TabObj C oC _ := tabObj_of hns3' hoC
  have F3 : Fr h₀ L h3 m := ⟨F2.ns.keeps kp3, fun b o e => kp3 b o (F2.keep b o e), F2.above⟩
  have N3 : News h₀ L h3 ((C, oC) :: (C + 1, oa) :: (S, Obj.mapSeq (fun _ => #[]) { cls := .type "list", data := .seq #[] }) :: news) := fun q hq => by
    rcases List.mem_cons.mp hq with rfl | hq
    · exact ⟨hoC, Nat.ne_of_gt hLC, none_of_ge F hLC⟩
    · rcases List.mem_cons.mp hq with rfl | hq
      · exact ⟨hoa, Nat.ne_of_gt (Nat.lt_succ_of_lt hLC), none_of_ge F (Nat.lt_succ_of_lt hLC)⟩
      · exact ⟨kp3 _ _ (N2 q hq).1, (N2 q hq).2⟩
  have I3 : InstAt h3 E (instObj 123 dE) 123 (some (edict w D t n)) := InstAt.of_news N3 (by simp [hE]) (by simp [hdE])
  refine wpAny_bind (wpAny_holding ?_)
  unfold Builtin.List.listLengthHint
  have hlen : findIn (Mine.hd.heap_39 w.params) (.ref 123) "__len__" = some (some (.ref 96)) := by k_is
  refine wpAny_bind (wpAny_bind (I3.type.here ((looks_findIn (X0.keeps F3.keep) hlen).here ?_)))
  show wpAny _ _ (rule "list.length-hint.len" >>= fun _ => (call (.builtin "len") [.ref E]).attempt >>= _) _ _ _
  refine wpAny_bind (wpAny_rule (wpAny_bind (wpAny_attempt (call_function_entry kind_len plain_len entry_len (args_len1 _) (len_body_K F3 X0 I3 hlen (by k_is) ?_)))))
  refine con_use (dp := dp) (un := un + 3) (len_con w (t := t) (n := n) (E := E) (dE := dE) hT lo hz) B Xb Tb F3 N3 hf hke ?hd ?hu ?hro Pick.nil (fun _ h => nomatch h) (fun _ _ h => nomatch h) fun u h4 tk4 _ F4 N4 _ => ?_
  (case hd => omega)
  (case hu => omega)
  (case hro =>
    intro q hq
    simp only [List.mem_cons, List.not_mem_nil, or_false] at hq ⊢
    rcases hq with rfl | rfl | rfl <;> simp [hE, hdE, hD])
  refine ⟨⟨by omega, by omega⟩, ?_⟩
  refine wpAny_bind (wpAny_pure ?_)
  show wpAny _ _ (if Builtin.List.listTooLong ((xs.length : Int)).toNat = true then _ else _) _ _ _
  rw [if_neg (show ¬ (Builtin.List.listTooLong ((xs.length : Int)).toNat = true) by simp only [Builtin.List.listTooLong, sizeLine_eq, decide_eq_true_eq, Int.toNat_natCast]; omega)]
  refine wpAny_pure ?_
  have hr : (((xs.length : Int)) != 0) = true := by rw [bne_iff_ne]; omega
  dsimp only
  rw [hr, Bool.true_or, if_pos rfl]
  refine wpAny_bind (wpAny_rule (wpAny_bind ?_))
  show wpAny _ _ (updateSeq S (·.push .none) >>= fun _ => updateSeq S (·.pop)) _ _ _
  dsimp only [List.nil_append] at N4
  have N4S : News h₀ L h4 ((S, Obj.mapSeq (fun _ => #[]) { cls := .type "list", data := .seq #[] }) :: (C, oC) :: (C + 1, oa) :: news) := fun q hq => N4 q (by
    simp only [List.mem_cons] at hq ⊢
    rcases hq with h | h | h | h <;> simp [h])
  have hap : ∀ q ∈ (C, oC) :: (C + 1, oa) :: news, q.1 ≠ S := fun q hq => by
    rcases List.mem_cons.mp hq with rfl | hq
    · exact Nat.ne_of_gt hSC
    · rcases List.mem_cons.mp hq with rfl | hq
      · exact Nat.ne_of_gt (Nat.lt_succ_of_lt hSC)
      · exact hSn q hq
  have hS4 := (N4S _ (.head _)).1
  refine wpAny_bind (wpAny_updateSeq hS4 rfl ?_)
  have hS5 := Heap.get?_update_self (Obj.mapSeq (·.push Value.none)) hS4 rfl
  have F5 := F4.change (Heap.SameBut.update h4 S (Obj.mapSeq (·.push Value.none))) (Nat.ne_of_gt hLS) h0S
  have N5 := N4S.setHead hap (Heap.SameBut.update h4 S (Obj.mapSeq (·.push Value.none))) hS5
  refine wpAny_updateSeq (hz := by seq_fits) hS5 rfl ?_
  have hS6 := Heap.get?_update_self (Obj.mapSeq (·.pop)) hS5 rfl
  have F6 := F5.change (Heap.SameBut.update _ S (Obj.mapSeq (·.pop))) (Nat.ne_of_gt hLS) h0S
  have N6 := N5.setHead hap (Heap.SameBut.update _ S (Obj.mapSeq (·.pop))) hS6
  generalize (h4.update S (Obj.mapSeq (·.push Value.none))).update S (Obj.mapSeq (·.pop)) = H6 at *
  clear F4 N4 N4S hS4 hS5 F5 N5
  have hl0 : h₀.NoLimit := (Tb.keeps B.stays).nolimit
  obtain ⟨oc0, hoc0⟩ : ∃ o, h₀.get? cStatics = some o := let ⟨_, ⟨o, _, _, ho, _⟩, _⟩ := hl0; ⟨o, ho⟩
  have hcC : cStatics ≠ C := Nat.ne_of_lt (Nat.lt_trans (Nat.lt_of_lt_of_le (Heap.lt_size hoc0) F.above) hLC)
  have hcS : cStatics ≠ S := Nat.ne_of_lt (Nat.lt_trans (Nat.lt_of_lt_of_le (Heap.lt_size hoc0) F.above) hLS)
  have ha6 := N6 (C + 1, oa) (by simp)
  have hC6 := N6 (C, oC) (by simp)
  have hD6 := N6 (D, od) (by simp [hD])
  obtain ⟨ep6, hDA⟩ := (Heap.dictOf_iff.mpr ⟨od, hD6.1, hT⟩).dictAt
  refine wpAny_pure ⟨plainId_quiet PySem.F.plain_extend_loop _, ?_⟩
  refine gen_ext (n₀ := (xs.map fun y => (y, Value.none)).length) (P := keyP (PySem.strKind PySem.Challenge.rw_ez0048_01.row.prog w) (xs.map fun y => (y, Value.none))) (hb := H6) (C := C) (S := S) (g := s.gens.size) (by rw [List.length_map, sizeLine_eq]; omega) rfl
    (show dp < recursionLimit by omega) ⟨oa, ha6.1⟩ (Nat.succ_ne_self C) ⟨oc0, F6.keep _ _ hoc0⟩ hcC ⟨_, hS6⟩ (Nat.ne_of_lt hSC) (Nat.ne_of_gt (Nat.lt_succ_of_lt hSC)) hcS _ 0 _ #[] _ rfl (Nat.zero_le _) ?st hS6 (ItemsOf.nil _) fun s' acc' c' hk hS' hacc hg hfin hos hdr => ?_
  (case st =>
    refine gen_fresh (env := envOf _ _ C 89 (.ref 88)) (D := D) (ep := ep6) rfl ⟨oa, nma, qna, ha6.1, ra⟩ (hl0.keeps F6.keep) (Array.getElem?_push_size ..) hDA lo ⟨_, hTab H6 hC6.1⟩ ⟨_, hS6⟩ ?hev (fun _ => rfl) rfl rfl rfl (by decide) rfl
      (Nat.ne_of_lt (hnC _ hD)) (hSn _ hD) (Nat.ne_of_gt hSC)
    intro A' s'' Q' hA' hal hQ'
    have hb0 : ∀ (b : Addr) (o : Obj), h₀.get? b = some o → b < S := fun b o e => Nat.lt_trans (Nat.lt_of_lt_of_le (Heap.lt_size e) F.above) hLS
    have F7 : Fr h₀ C s''.heap (fun y => List.lookup y [(Str.ofString "self", .ref E)]) :=
      ⟨(hTab H6 hC6.1).at' fun o e => hal.of (Nat.ne_of_gt hSC) o e, fun b o e => hal.of (Nat.ne_of_lt (hb0 b o e)) _ (F6.keep b o e), Nat.le_trans F.above (Nat.le_of_lt hLC)⟩
    have N7 : News h₀ C s''.heap [(E, instObj 123 dE), (dE, edict w D t n)] := fun q hq => by
      have hq' : q ∈ news := by
        simp only [List.mem_cons, List.not_mem_nil, or_false] at hq
        rcases hq with rfl | rfl
        · exact hE
        · exact hdE
      have y := N6 q (by simp [hq'])
      exact ⟨hal.of (hSn q hq') _ y.1, Nat.ne_of_lt (hnC q hq'), y.2.2⟩
    clear F6 N6 F1 F2 F3 N1 N2 N3 F N k hal
    k_steps
    exact hQ' _)
  obtain ⟨h', g', d', tk', os'⟩ := s'
  dsimp only at hos hdr hfin hg hS' hk
  subst hos hdr
  have hb0 : ∀ (b : Addr) (o : Obj), h₀.get? b = some o → b < S := fun b o e => Nat.lt_trans (Nat.lt_of_lt_of_le (Heap.lt_size e) F.above) hLS
  have F8 : Fr h₀ L h' m := ⟨F6.ns.at' fun o e => hk L o ⟨o, e⟩ (Nat.ne_of_lt hLC) (Nat.ne_of_lt hLS) e, fun b o e => hk b o ⟨o, F6.keep b o e⟩ (Nat.ne_of_lt (Nat.lt_trans (hb0 b o e) hSC)) (Nat.ne_of_lt (hb0 b o e)) (F6.keep b o e), F.above⟩
  have N8 : News h₀ L h' ((S, listOf acc'.toList.toArray c') :: news) := fun q hq => by
    rcases List.mem_cons.mp hq with rfl | hq
    · exact ⟨by simpa using hS', Nat.ne_of_gt hLS, h0S⟩
    · have y := N6 q (by simp [hq])
      exact ⟨hk q.1 q.2 ⟨_, y.1⟩ (Nat.ne_of_lt (hnC q hq)) (hSn q hq) y.1, y.2⟩
  exact ⟨rfl, k h' g' tk' S acc'.toList c' F8 N8 (strsAre_items (by simpa using hacc.1) fun j v hj => hacc.2 j v (by simpa using hj)) (neOne_of hSn) (bare_only hg rfl hfin)⟩

end
section
/-- the end of a body that catches: the callers' frames may have turned in their slots -/
def CatchEnd (fs : List Addr) (g : Heap) (s : Shared) (ro : List (Addr × Obj)) (v : Value) (fl : Flow) (s' : Shared) : Prop :=
  ∃ g' L'' m' news', KtsTurn fs g g' ∧ Fr g' L'' s'.heap m' ∧ News g' L'' s'.heap news' ∧ s' = { s with heap := s'.heap, toks := s'.toks } ∧ (∀ q ∈ ro, q ∈ news') ∧ (match fl with | .ret v => v | _ => .none) = v
theorem catchEnd_ {fs : List Addr} {g g' : Heap} {s s' : Shared} {ro news' : List (Addr × Obj)} {v : Value} {fl : Flow} {L'' : Addr} {m' : Str → Option Value} (T : KtsTurn fs g g') (F : Fr g' L'' s'.heap m') (N : News g' L'' s'.heap news') (e : s' = { s with heap := s'.heap, toks := s'.toks })
    (hs : ∀ q ∈ ro, q ∈ news') (hv : (match fl with | .ret v => v | _ => .none) = v) : CatchEnd fs g s ro v fl s' := ⟨g', L'', m', news', T, F, N, e, hs, hv⟩
section
variable {w : World} {f : Addr} {args : List Value} {kw : List (Str × Value)}
theorem catch_enter {dp un : Nat} {gd : Option (List Code)} {env : Env} {A₀ : Around} {base h₀ : Heap} {L : Addr} {m : Str → Option Value} {news : List (Addr × Obj)} {s : Shared} {Q E : Value → Shared → Prop} {v : Value}
    {p : Program} {loose : List Str} {mean : ExcName → Option Value} {mg mb : Str → Option Value}
    {name qual : Str} {params : Arguments} {body : List Stmt} {scope : Scope} {dV kV doc pm cdv ct oc : Value} {an od : Option Addr} {osl : Array (Option Value)} {binds : List (Str × Value)}
    (B : Below A₀ base [] h₀) (Xb : (Mine.hd.heap_39 w.params).In base) (Tb : Top p loose mean mg mb base) (F : Fr h₀ L s.heap m) (N : News h₀ L s.heap news) {ro : List (Addr × Obj)} (hro : ∀ q ∈ ro, q ∈ news)
    (hf : env.frame = some L) (hke : env.scope.kind = .function) (hd : dp < recursionLimit)
    (ho : (Mine.hd.heap_39 w.params).lookup f = some ⟨oc, od, .func (fnOf name qual params body scope dV kV doc pm an cdv ct), osl⟩) (hcd : codeIn (Mine.hd.heap_39 w.params) cdv qual = true)
    (hbind : ∀ s : Shared, (Mine.hd.heap_39 w.params).In s.heap → BindsTo s (fnOf name qual params body scope dV kV doc pm an cdv ct) ⟨args, kw⟩ binds) (hloc : ∀ y ∈ binds, scope.names.lookup y.1 = some .local)
    (h : ∀ g L' h₁, Fr g L' h₁ (fun y => binds.reverse.lookup y) → News g L' h₁ ro → Below (A0 dp un gd [env]) base [env] g → (Mine.hd.heap_39 w.params).In g → Top p loose mean mg mb g → KtsDicts ([env].filterMap (·.frame)) g →
      wpAny (model PySem.Challenge.rw_ez0048_01.row.prog w) ((A0 dp un gd [env]).deeper (envOf qual scope L' f cdv)) (execs body (envOf qual scope L' f cdv))
        (CatchEnd ([env].filterMap (·.frame)) g s ro v)
        (fun _ _ => False) { s with heap := h₁, toks := s.toks + binds.length })
    (hco : scope.isCoroutine = false) (hgen : scope.isGenerator = false) (hk : scope.kind = .function) (hcell : ∀ x ∈ scope.names, x.2 ≠ .cell)
    (k : ∀ h' tk', Fr h₀ L h' m → News h₀ L h' news → Q v { s with heap := h', toks := tk' }) :
    wpAny (model PySem.Challenge.rw_ez0048_01.row.prog w) (A0 dp un gd [env]) (call (.ref f) args kw) Q E s := by
  have X0 := Xb.keeps B.stays
  have T0 := Tb.keeps B.stays
  have X₁ := X0.keeps F.keep
  have B₁ := pushX B F hf hke
  refine wpAny_call (codeAny_call_def (fd := fnX name qual params body scope [] dV kV doc pm an cdv ct) (body := body) (binds := binds) hd (X₁ _ _ ho) rfl (T0.nolimit.keeps F.keep) (codeRec_of X₁ hcd) rfl (hbind s X₁) hcell hloc (fun h₁ hns hk₁ => ?_) hco hgen hk)
  have nm : ∀ b o, h₀.get? b = some o → b ∉ ro.map (·.1) := fun b o e q => by
    obtain ⟨p, hp, rfl⟩ := List.mem_map.mp q
    rw [(N p (hro p hp)).2.2] at e; cases e
  have st : h₀.StaysIn (hideAll s.heap (ro.map (·.1))) := fun b o e => hideAll_get _ (F.keep b o e) (nm b o e)
  obtain ⟨oL, es, ep, hL, hLd, hLk, hLf⟩ := id F.ns
  have nL : L ∉ ro.map (·.1) := fun q => by
    obtain ⟨p, hp, e⟩ := List.mem_map.mp q
    exact (N p (hro p hp)).2.1 e
  have hLg := hideAll_get (ro.map (·.1)) hL nL
  have fs : [env].filterMap (·.frame) = [L] := by simp [hf]
  have B₂ : Below (A0 dp un gd [env]) base [env] (hideAll s.heap (ro.map (·.1))) := ⟨rfl, fun b o e => st b o (B.stays b o e), funFrames_hideAll B₁.frames fun env' he b hb hf' => by
    rw [List.mem_singleton.mp he, hf] at hf'
    exact nL ((Option.some.inj hf') ▸ hb)⟩
  refine wpAny_mono (h _ s.heap.objs.size h₁ ⟨hns, fun b o e => hk₁ b o (of_hideAll _ e), Nat.le_of_eq (hideAll_size _ _)⟩
    (fun p hp => ⟨hk₁ _ _ (N p (hro p hp)).1, Nat.ne_of_lt (Heap.lt_size (N p (hro p hp)).1), hideAll_none _ (List.mem_map_of_mem hp)⟩) B₂ (X0.keeps st) (T0.keeps st) (fun b hb => ?_)) (fun fl s' hl => ?_) fun _ _ y => y.elim
  · rw [fs] at hb
    rw [List.mem_singleton.mp hb]
    exact ⟨oL, es, ep, hLg, hLd⟩
  · obtain ⟨g', L'', m', news', T', F', N', e, hsub, hv⟩ := hl
    obtain ⟨sl, hs⟩ := T'.up hLg
    rw [fs] at T'
    rw [e]
    have := k s'.heap s'.toks ⟨⟨_, es, ep, F'.keep _ _ hs, hLd, hLk, hLf⟩, fun b o eb => F'.keep b o (T'.other b o (st b o eb) (fun q => by
      rw [List.mem_singleton.mp q, kts_self F] at eb; cases eb)), F.above⟩ (fun q hq => ⟨?_, (N q hq).2⟩)
    · rw [← hv] at this
      exact this
    · by_cases hr : q.1 ∈ ro.map (·.1)
      · obtain ⟨r, hr, er⟩ := List.mem_map.mp hr
        have h1 := (N r (hro r hr)).1
        rw [er, (N q hq).1] at h1
        have := (N' r (hsub r hr)).1
        rw [er, ← Option.some.inj h1] at this
        exact this
      · exact F'.keep _ _ (T'.other _ _ (hideAll_get _ (N q hq).1 hr) (fun h => (N q hq).2.1 (List.mem_singleton.mp h)))
end
section
local macro_rules | `(tactic| walk_at "call ref") => `(tactic| (
  k_here; (with_reducible show wpAny _ _ (call (Value.ref 210) _ _) _ _ _); k_dflt (
  (first | (with_unfolding_all refine' con_use (wild_wrb _ ?a1 ?a2) ?B ?Xb ?Tb ?F ?N ?hf ?hke ?hd ?hu ?hro ?hpick ?hoff ?hup ?_) | (with_unfolding_all refine' con_use (wild_wab _ ?a1 ?a2) ?B ?Xb ?Tb ?F ?N ?hf ?hke ?hd ?hu ?hro ?hpick ?hoff ?hup ?_));
  walk_at "m use"; (case a1 => assumption); (case a2 => assumption); k_whole;
  intro x9 h9 tk9 hP9 F9 N9 hne9; clear hne9; (try dsimp only [List.cons_append, List.nil_append] at N9); (try dsimp only); (try k_sweep); (try k_fold); walk_say "CONTRACT wild")))
local macro_rules | `(tactic| walk_at "pyIter ref") => `(tactic| (k_here; (with_reducible show wpAny _ _ (pyIter (Value.ref 46)) _ _ _); refine stop_in ?_))
local macro_rules | `(tactic| walk_at "exec For Name Name cons nil") => `(tactic| (k_here; (with_reducible show wpAny _ _ (exec (PySem.Stmt.For (PySem.Expr.Name (PySem.Str.ofString "item") _) _ _ _ _) _) _ _ _); refine stop_in ?_))
theorem refused_star {w : World} {dp un : Nat} {gd : Option (List Code)} {env : Env} {A₀ : Around} {base h₀ : Heap} {L : Addr} {m : Str → Option Value} {news : List (Addr × Obj)} {s : Shared} {Q E : Value → Shared → Prop}
    {p : Program} {loose : List Str} {mean : ExcName → Option Value} {mg mb : Str → Option Value} {l : Addr} {ns : List Int} {t : Tok} {ep : Nat}
    (B : Below A₀ base [] h₀) (Xb : (Mine.hd.heap_39 w.params).In base) (Tb : Top p loose mean mg mb base) (F : Fr h₀ L s.heap m) (N : News h₀ L s.heap news)
    (hf : env.frame = some L) (hke : env.scope.kind = .function) (hd : dp + 160 < recursionLimit) (hu : un + 1000 < cLine) (hm : (l, listOf #[.str (wa ns) t] ep) ∈ news)
    (h4 : ns.length ≤ 4) (hst : ns.any starK = true)
    (k : ∀ h' tk', Fr h₀ L h' m → News h₀ L h' news → Q (.bool true) { s with heap := h', toks := tk' }) :
    wpAny (model PySem.Challenge.rw_ez0048_01.row.prog w) (A0 dp un gd [env]) (call (.ref 317) [.ref l]) Q E s := by
  have hsw := sw_wa ns
  have hwl : (wa ns).length ≤ 30 := by have h1 := body_len ns; simp only [wa, Str.length, List.size_toArray, List.length_cons]; omega
  refine' catch_enter (ro := [(l, listOf #[.str (wa ns) t] ep)]) B Xb Tb F N (fun q hq => by rw [List.mem_singleton.mp hq]; exact hm) hf hke (by omega) ?k6 ?k7 ?k9 ?kB ?_ ?c2 ?c3 ?c4 ?c5 k
  (case k6 => k_is)
  (case k7 => k_is)
  (case k9 => exact fun _ _ => BindsTo.of_eq rfl)
  (case kB => exact locs rfl)
  (case c2 => exact rfl)
  (case c3 => exact rfl)
  (case c4 => exact rfl)
  (case c5 => decide)
  clear k F N hm
  intro g L' h₁ F' N' B' X' T' D'
  (try dsimp only); (try k_fold)
  k_steps
  refine ⟨?_⟩
  rename Fr _ _ _ _ => F6
  with_unfolding_all refine' For_invV (frBase F6) ?k1 ?k2 ?_
  (case k1 => rfl)
  (case k2 => rfl)
  dsimp only [frBase]
  k_steps
  refine ⟨?_⟩
  rename News _ _ _ _ => N6
  rename (Mine.hd.heap_39 w.params).In _ => X6
  refine loop_M (fun _ m l => m = _ ∧ l = _) (iterOf_tuple rfl (tup46 (X6.keeps F6.keep))) F6 N6 ?ex ⟨rfl, rfl⟩ (fun i v m₁ n₁ I oI h tk hi => absurd hi (Nat.not_lt_zero _)) ?_
  (case ex =>
    intro b hb
    rw [List.mem_singleton.mp hb]
    obtain ⟨o, ho, _⟩ := tup46 X6
    exact ⟨fr_ne F6 ho, .inl ⟨o, ho⟩⟩)
  clear F6 N6
  rintro m₁ l₁ h₁ tk₁ ⟨rfl, rfl⟩ F6 N6
  k_steps
  refine' catchEnd_ ?ceT ?ceF ?ceN rfl ?ceM rfl
  (case ceT => assumption)
  (case ceF => assumption)
  (case ceN => assumption)
  (case ceM => walk_at "m in")
end

end
section
section
variable {w : World} {A : Around} {E : Value → Shared → Prop} {s : Shared} {h₀ : Heap} {L a b : Addr} {m : Str → Option Value} {news : List (Addr × Obj)}
/-- two lists joined: a new one -/
theorem cat_lists {vs ws : List Value} {n1 n2 : Nat} {Q : Value → Shared → Prop} (F : Fr h₀ L s.heap m) (N : News h₀ L s.heap news) (ha : (a, listOf vs.toArray n1) ∈ news) (hb : (b, listOf ws.toArray n2) ∈ news) (hz : vs.length + ws.length ≤ 1000)
    (h : ∀ D h', Fr h₀ L h' m → News h₀ L h' ((D, listOf (vs ++ ws).toArray 0) :: news) → AllLt D news → Q (.ref D) { s with heap := h' }) :
    wpAny (model PySem.Challenge.rw_ez0048_01.row.prog w) A (binaryOp .Add (.ref a) (.ref b)) Q E s :=
  add_lists (hsz := by rw [sizeLine_eq]; omega) F N (News.isList N ha) (News.isList N hb) fun h' F' N' => h _ h' F' N' (allLt_of fun q hq => Heap.lt_size (N q hq).1)
theorem notin_strs {vs : List Value} {ss : List Str} {n : Nat} {k : Str} {t : Tok} {c : Bool} {Q : Value → Shared → Prop} (N : News h₀ L s.heap news) (hm : (a, listOf vs.toArray n) ∈ news) (hi : StrsAre vs ss) (e : decide (k ∈ ss) = c) (h : Q (.bool (!c)) s) :
    wpAny (model PySem.Challenge.rw_ez0048_01.row.prog w) A (compareOp .NotIn (.str k t) (.ref a)) Q E s :=
  notin_list_strs (News.isList N hm) hi (by
    have : ss.any (· == k) = c := by rw [← e, Bool.eq_iff_iff, List.any_eq_true, decide_eq_true_iff]; exact ⟨fun ⟨x, hx, hk⟩ => by rw [← eq_of_beq hk]; exact hx, fun h => ⟨k, h, by simp⟩⟩
    rw [this]; exact h)
theorem strs_carried : ∀ {vs : List Value} {ss : List Str}, StrsAre vs ss → CarriedAll vs (ss.map PyData.str)
  | _, _, .nil => .nil
  | _, _, .cons _ t r => .cons (.str _ t) (strs_carried r)
theorem strs_sameAll : ∀ ss : List Str, PySem.Spec.sameAll (ss.map PyData.str) (ss.map PyData.str) = true
  | [] => by simp [PySem.Spec.sameAll]
  | x :: r => by simp [PySem.Spec.sameAll, PySem.Spec.same, strs_sameAll r]
theorem strs_canLay : ∀ {ss : List Str}, (∀ x ∈ ss, PyData.strOk x = true) → PyData.canLayAll0 (ss.map PyData.str) = true
  | [], _ => rfl
  | x :: r, h => by
    have h1 : PyData.strOk x = true := h x (.head _)
    have h2 := strs_canLay (ss := r) fun y hy => h y (.tail _ hy)
    simp [PyData.canLayAll0, PyData.canLay0, h1, h2]
theorem strs_depth : ∀ ss : List Str, PyData.depthAll (ss.map PyData.str) = 0
  | [] => rfl
  | _ :: r => by simp [PyData.depthAll, PyData.depth, strs_depth r]
theorem strs_shaped {ss : List Str} (h : ∀ x ∈ ss, PyData.strOk x = true) : SeqAt.shaped (.list (ss.map PyData.str)) = true := by
  simp [SeqAt.shaped, PyData.canLay0, PyData.depth, strs_canLay h, strs_depth]
theorem ne_strs {vs ws : List Value} {ss : List Str} {n1 n2 : Nat} {Q : Value → Shared → Prop} (N : News h₀ L s.heap news) (ha : (a, listOf vs.toArray n1) ∈ news) (hb : (b, listOf ws.toArray n2) ∈ news) (hi : StrsAre vs ss) (hj : StrsAre ws ss) (hl : ∀ x ∈ ss, PyData.strOk x = true) (hu : A.units + 64 < cLine) (h : Q (.bool false) s) :
    wpAny (model PySem.Challenge.rw_ez0048_01.row.prog w) A (compareOp .NotEq (.ref a) (.ref b)) Q E s :=
  ne_dataH_same (reads_newData (News.isList N ha) (strs_carried hi)) (reads_newData (News.isList N hb) (strs_carried hj)) (strs_shaped hl) (strs_shaped hl) hu (SeqAt.noMix_of_shape (.list .str) rfl _ _ (list_map_has fun _ => rfl) (list_map_has fun _ => rfl))
    (by rw [show PySem.Spec.same (.list (ss.map PyData.str)) (.list (ss.map PyData.str)) = true from by simp only [PySem.Spec.same]; exact strs_sameAll ss]; exact h)
end

end
section
theorem news_gl {h₀ h : Heap} {L : Addr} {q1 q2 q3 q4 : Addr × Obj} {gl r : List (Addr × Obj)} (N : News h₀ L h ([] ++ ((q1 :: q2 :: q3 :: q4 :: gl) ++ r))) : News h₀ L h (q1 :: q2 :: q3 :: q4 :: (r ++ gl)) := fun p hp => N p (by
  simp only [List.nil_append, List.cons_append, List.mem_cons, List.mem_append] at hp ⊢
  rcases hp with h | h | h | h | h | h <;> simp [h])
theorem str_a : Str.ofString "a" = wa [] := by decide +kernel
theorem strOk_wr (ns : List Int) : PyData.strOk (wr ns) = true := by
  have h := body_ascii ns
  simp only [PyData.strOk, wr, List.all_toArray, List.all_append, List.all_cons, List.all_nil] at h ⊢
  simp only [Bool.and_eq_true, List.all_eq_true, decide_eq_true_eq] at h ⊢
  first
    | exact ⟨by decide, fun x hx => Nat.lt_trans (h x hx) (by decide)⟩
    | (refine ⟨by decide, by decide, by decide, by decide, fun x hx => Nat.lt_trans (h x hx) (by decide)⟩)
theorem strOk_wa (ns : List Int) : PyData.strOk (wa ns) = true := by
  have h := body_ascii ns
  simp only [PyData.strOk, wa, List.all_toArray, List.all_cons] at h ⊢
  simp only [Bool.and_eq_true, List.all_eq_true, decide_eq_true_eq] at h ⊢
  exact ⟨by decide, fun x hx => Nat.lt_trans (h x hx) (by decide)⟩
theorem put_in {xs : List Str} {k : Str} (h : k ∈ xs) : put xs k = xs := by unfold put; rw [if_pos h]
theorem put_out {xs : List Str} {k : Str} (h : k ∉ xs) : put xs k = xs ++ [k] := by unfold put; rw [if_neg h]
theorem put_keep {xs : List Str} {k x : Str} (h : x ∈ xs) : x ∈ put xs k := by
  unfold put; split
  · exact h
  · exact List.mem_append_left _ h
theorem put_self (xs : List Str) (k : Str) : k ∈ put xs k := by
  unfold put; split
  next h => exact h
  next => simp
theorem fold_keep : ∀ (ts acc : List Str) {x : Str}, x ∈ acc → x ∈ ts.foldl put acc
  | [], _, _, h => h
  | t :: r, acc, _, h => fold_keep r (put acc t) (put_keep h)
theorem fold_has : ∀ (ts acc : List Str) {x : Str}, x ∈ ts → x ∈ ts.foldl put acc
  | t :: r, acc, x, h => by
    rcases List.mem_cons.mp h with rfl | h
    · exact fold_keep r _ (put_self _ _)
    · exact fold_has r _ h
theorem fold_same : ∀ (ts acc : List Str), (∀ x ∈ ts, x ∈ acc) → ts.foldl put acc = acc
  | [], _, _ => rfl
  | t :: r, acc, h => by
    rw [List.foldl_cons, put_in (h t (.head _))]
    exact fold_same r acc fun x hx => h x (.tail _ hx)
/-- the paths that the law asks about -/
def lawPs (sts : List (List Int)) (pn : List Int) : List (Bool × List Int) := sts.map (fun r => (false, r)) ++ [(false, pn), (true, [])] ++ sts.map (fun r => (false, r))
def lawTs (sts : List (List Int)) (pn : List Int) : List Str := sts.map wr ++ (if pn.any starK then [] else [wr pn]) ++ [wa []]
theorem lawPs_txt (sts : List (List Int)) (pn : List Int) : (lawPs sts pn).map txt = sts.map wr ++ [wr pn, wa []] ++ sts.map wr := by
  have e : (txt ∘ fun r : List Int => (false, r)) = wr := by funext r; simp [txt]
  simp only [lawPs, List.map_append, List.map_cons, List.map_nil, List.map_map, e]
  rfl
theorem filter_all {sts : List (List Int)} (h : ∀ r ∈ sts, r.any starK = false) : (sts.map (fun r => (false, r))).filter (fun p => !starP p) = sts.map (fun r => (false, r)) := by
  rw [List.filter_eq_self]
  intro p hp
  obtain ⟨r, hr, rfl⟩ := List.mem_map.mp hp
  simp [starP, h r hr]
theorem filter_none {sts : List (List Int)} (h : ∀ r ∈ sts, r.any starK = false) : (sts.map (fun r => (false, r))).filter starP = [] := by
  rw [List.filter_eq_nil_iff]
  intro p hp
  obtain ⟨r, hr, rfl⟩ := List.mem_map.mp hp
  simp [starP, h r hr]
theorem exOf_law {sts : List (List Int)} {pn : List Int} (h : ∀ r ∈ sts, r.any starK = false) : exOf (lawPs sts pn) = (lawTs sts pn).foldl put [] := by
  have e : ∀ l : List (Bool × List Int), ∀ acc, l.foldl (fun a p => put a (txt p)) acc = (l.map txt).foldl put acc := fun l acc => by rw [List.foldl_map]
  have e2 : (txt ∘ fun r : List Int => (false, r)) = wr := by funext r; simp [txt]
  unfold exOf
  rw [e, lawPs, List.filter_append, List.filter_append, filter_all h, List.map_append, List.foldl_append, List.map_map, e2]
  have hm : ((sts.map (fun r => (false, r)) ++ [(false, pn), (true, [])].filter (fun p => !starP p)).map txt) = lawTs sts pn := by
    rw [List.map_append, List.map_map, e2, lawTs]
    cases hs : pn.any starK <;> simp [starP, hs, txt]
  rw [hm]
  exact fold_same _ _ fun x hx => fold_has _ _ (by rw [lawTs]; exact List.mem_append_left _ (List.mem_append_left _ hx))
theorem wiOf_law {sts : List (List Int)} {pn : List Int} (h : ∀ r ∈ sts, r.any starK = false) : wiOf (lawPs sts pn) = if pn.any starK then [wr pn] else [] := by
  unfold wiOf
  rw [lawPs, List.filter_append, List.filter_append, filter_none h]
  cases hs : pn.any starK <;> simp [starP, hs, txt]
theorem exOf_law_ne (sts : List (List Int)) (pn : List Int) : exOf (lawPs sts pn) ≠ [] := exOf_ne (p := (true, [])) (by simp [lawPs]) rfl
theorem any_star (pn : List Int) : pn.any starK = (pn.any (· == 4) || pn.any (· == 5)) := by
  induction pn with
  | nil => rfl
  | cons k r ih =>
    simp only [List.any_cons, ih, starK]
    cases k == 4 <;> cases k == 5 <;> cases r.any (· == 4) <;> cases r.any (· == 5) <;> rfl
theorem lawV {ys : List Value} {sts : List (List Int)} {pn : List Int} {t1 t2 : Tok} (h : StrsAre ys (sts.map wr)) : StrsAre ((ys ++ [Value.str (wr pn) t1, Value.str (Str.ofString "a") t2]) ++ ys) ((lawPs sts pn).map txt) := by
  rw [lawPs_txt, str_a]
  exact (h.append' (.cons _ _ (.cons _ _ .nil))).append' h
theorem sep_law (w : World) {l : Addr} {ys : List Value} {sts : List (List Int)} {pn : List Int} {t1 t2 : Tok} {ep : Nat} (hy : StrsAre ys (sts.map wr)) (hi5 : sts.length < 5) (h4 : pn.length ≤ 4) (h7 : ∀ k ∈ pn, 0 ≤ k ∧ k < 7)
    (hstp : ∀ s ∈ sts, s.length ≤ 4 ∧ ∀ k ∈ s, k = 0 ∨ k = 1 ∨ k = 2 ∨ k = 3 ∨ k = 6) :
    Con w 278 [.ref l] [] [(l, listOf ((ys ++ [Value.str (wr pn) t1, Value.str (Str.ofString "a") t2]) ++ ys).toArray ep)] [] 120 800
      (fun (x : Addr × Addr × Addr × Addr × Tok × Nat × Obj × Value × List (Addr × Obj)) => TDict w x.2.2.2.2.2.2.1 (exOf (lawPs sts pn)) ∧ (x.2.2.2.1 == sysModules) = false ∧
        ((wiOf (lawPs sts pn) = [] ∧ x.2.2.2.2.2.2.2.1 = .none) ∨ wiOf (lawPs sts pn) ≠ [] ∧ ∃ D e x' d t1 t t3 pt n, x.2.2.2.2.2.2.2.1 = .ref D ∧ x.2.2.2.2.2.2.2.2 = [(D, listOf #[.ref x'] e), (x', instObj 262 d), (d, mdict w pn t1 t t3 pt n)]))
      (fun _ => []) (fun ⟨R, E, dE, D, t, n, od, G, gl⟩ => (R, tupOf #[.ref E, G]) :: (E, instObj 123 dE) :: (dE, edict w D t n) :: (D, od) :: gl) (fun x => .ref x.1) := by
  have hns : ∀ r ∈ sts, r.any starK = false := fun r hr => lit_nostar (hstp r hr).2
  have hl : ys.length = sts.length := by rw [strsAre_len hy, List.length_map]
  have hm : ∀ p ∈ lawPs sts pn, (p.1 = false ∧ p.2 ∈ sts) ∨ p = (false, pn) ∨ p = (true, []) := by
    intro p hp
    simp only [lawPs, List.mem_append, List.mem_map, List.mem_cons, List.not_mem_nil, or_false] at hp
    rcases hp with (⟨r, hr, rfl⟩ | h | h) | ⟨r, hr, rfl⟩
    · exact .inl ⟨rfl, hr⟩
    · exact .inr (.inl h)
    · exact .inr (.inr h)
    · exact .inl ⟨rfl, hr⟩
  refine sep_con w (lawV hy) ?_ ?_ ?_ ?_ ?_ (exOf_law_ne sts pn) ?_
  · simp only [List.length_append, List.length_cons, List.length_nil]; omega
  · simp
  · intro p hp
    rcases hm p hp with ⟨_, h⟩ | rfl | rfl
    · exact (hstp _ h).1
    · exact h4
    · exact Nat.zero_le _
  · intro p hp
    rcases hm p hp with ⟨_, h⟩ | rfl | rfl
    · exact lits_ok (hstp _ h).2
    · exact h7
    · exact fun _ h => nomatch h
  · intro p hp h1
    rcases hm p hp with ⟨h, _⟩ | rfl | rfl
    · rw [h] at h1; cases h1
    · cases h1
    · rfl
  · rw [wiOf_law hns]
    split
    · exact .inr ⟨rfl, h4, h7⟩
    · exact .inl rfl
/-- a statement is done: what stands -/
def Now (h₀ : Heap) (L : Addr) (m : Str → Option Value) (news : List (Addr × Obj)) (s : Shared) (f : Flow) (s' : Shared) : Prop :=
  f = .next ∧ ∃ h' tk', s' = { s with heap := h', toks := tk' } ∧ Fr h₀ L h' m ∧ News h₀ L h' news
theorem now_ {h₀ : Heap} {L : Addr} {m : Str → Option Value} {news : List (Addr × Obj)} {s : Shared} {h' : Heap} {tk' : Nat} (F : Fr h₀ L h' m) (N : News h₀ L h' news) : Now h₀ L m news s .next { s with heap := h', toks := tk' } := ⟨rfl, h', tk', rfl, F, N⟩
theorem lawTs_star {ys : List Value} {sts : List (List Int)} {pn : List Int} {tk : Tok} (hst : pn.any starK = true) (h : StrsAre ys (sts.map wr)) : StrsAre (ys ++ [] ++ [Value.str (Str.ofString "a") tk]) (lawTs sts pn) := by
  rw [lawTs, hst, str_a]
  exact (h.append' .nil).append' (.cons _ _ .nil)
theorem lawTs_plain {ys : List Value} {sts : List (List Int)} {pn : List Int} {tk tk' : Tok} (hst : pn.any starK = false) (h : StrsAre ys (sts.map wr)) : StrsAre (ys ++ [Value.str (wr pn) tk'] ++ [Value.str (Str.ofString "a") tk]) (lawTs sts pn) := by
  rw [lawTs, hst, str_a]
  exact (h.append' (.cons _ _ .nil)).append' (.cons _ _ .nil)
theorem news_small {h₀ h : Heap} {L : Addr} {q1 q2 q3 q4 q5 q6 q7 q8 q9 q10 : Addr × Obj} {r : List (Addr × Obj)} (N : News h₀ L h (q1 :: q2 :: q3 :: q4 :: q5 :: q6 :: q7 :: q8 :: q9 :: q10 :: r)) :
    News h₀ L h (q5 :: q1 :: q6 :: q7 :: q8 :: q10 :: r) := fun p hp => N p (by
  simp only [List.mem_cons] at hp ⊢
  rcases hp with h | h | h | h | h | h | h <;> simp [h])
theorem fold_len : ∀ (ts acc : List Str), (ts.foldl put acc).length ≤ acc.length + ts.length
  | [], acc => by simp
  | t :: r, acc => by
    rw [List.foldl_cons]
    have h1 := fold_len r (put acc t)
    have h2 := put_len acc t
    simp only [List.length_cons]; omega
theorem lawTs_len (sts : List (List Int)) (pn : List Int) : (lawTs sts pn).length ≤ sts.length + 2 := by
  rw [lawTs]; split <;> simp
theorem allLt_lt {a : Addr} {q : Addr × Obj} {l : List (Addr × Obj)} (h : AllLt a l) (hm : q ∈ l) : q.1 < a := Nat.lt_of_le_of_ne (Nat.le_of_not_lt fun h' => by
  induction l with
  | nil => cases hm
  | cons p l ih =>
    rcases List.mem_cons.mp hm with rfl | hm
    · exact Nat.lt_asymm h.1 h'
    · exact ih h.2 hm) (allLt_ne h q hm)
theorem wa_eq (ns : List Int) : Str.ofString "a" ++ (⟨(body ns).toArray⟩ : Str) = wa ns := by
  rw [str_a, wa, str_app]
  simp [wa, body]
section
variable {prog : Program} {w : World} {A : Around} {E : Value → Shared → Prop} {s : Shared} {h₀ : Heap} {L : Addr} {m : Str → Option Value} {news : List (Addr × Obj)} {Q : Value → Shared → Prop} {ns : List Int}
theorem slice_wr4 {value slice : PySem.Expr} {t ui : Tok} (hF : Fr h₀ L s.heap m) (hN : News h₀ L s.heap news) (h4 : ns.length ≤ 4) (h : ∀ h' t' k, Fr h₀ L h' m → News h₀ L h' news → Q (.str ⟨(body ns).toArray⟩ t') { s with heap := h', toks := k })
    (hs : subscripted slice false (.str (wr ns) t) (.ref s.heap.objs.size) = operate [.ref s.heap.objs.size, .str (wr ns) t] (getItem (.str (wr ns) t) (.ref s.heap.objs.size)))
    (ht : ∀ r, letTemporaryGo value (.str (wr ns) t) r = pure ()) :
    wpAny (model prog w) A (subscriptTail value slice (.str (wr ns) t) (.ref s.heap.objs.size)) Q E { s with heap := s.heap.push { cls := .type "slice", data := .fields #[.int 4 ui, .none, .none] } } :=
  slice_strN_sn hF hN (fun h' t' k a b => by rw [slice4]; exact h h' t' k a b) hs ht (by have := wr_len h4; rw [sizeLine_eq]; omega)
theorem add_wa {t u : Tok} (h4 : ns.length ≤ 4) (h : ∀ t' tk, Q (.str (wa ns) t') { s with toks := tk }) : wpAny (model prog w) A (binaryOp .Add (.str (Str.ofString "a") t) (.str ⟨(body ns).toArray⟩ u)) Q E s :=
  PyProof.Rows.add_str (fun t' tk => by rw [wa_eq]; exact h t' tk) (by
    have := body_len ns
    rw [str_a, sizeLine_eq]
    simp only [Str.length, List.size_toArray, wa, List.length_cons]
    simp only [body, List.flatMap_nil, List.length_nil]
    simp only [body] at this
    omega)
end
theorem fold_mem : ∀ (ts acc : List Str) {x : Str}, x ∈ ts.foldl put acc → x ∈ acc ∨ x ∈ ts
  | [], _, _, h => .inl h
  | t :: r, acc, x, h => by
    rcases fold_mem r (put acc t) h with h | h
    · unfold put at h
      split at h
      · exact .inl h
      · rcases List.mem_append.mp h with h | h
        · exact .inl h
        · rw [List.mem_singleton.mp h]; exact .inr (.head _)
    · exact .inr (.tail _ h)
theorem lawXs_ok {sts : List (List Int)} {pn : List Int} : ∀ x ∈ (lawTs sts pn).foldl put [], PyData.strOk x = true := by
  intro x hx
  rcases fold_mem _ _ hx with h | h
  · cases h
  · unfold lawTs at h
    rcases List.mem_append.mp h with h | h
    · rcases List.mem_append.mp h with h | h
      · obtain ⟨r, _, rfl⟩ := List.mem_map.mp h
        exact strOk_wr r
      · split at h
        · cases h
        · rw [List.mem_singleton.mp h]; exact strOk_wr pn
    · rw [List.mem_singleton.mp h]; exact strOk_wa []
theorem lawXs_pos (sts : List (List Int)) (pn : List Int) : 0 < ((lawTs sts pn).foldl put []).length :=
  List.length_pos_iff.mpr fun e => by
    have : wa [] ∈ (lawTs sts pn).foldl put [] := fold_has _ _ (by unfold lawTs; simp)
    rw [e] at this; cases this
theorem lawXs_len {sts : List (List Int)} (pn : List Int) (h : sts.length < 5) : ((lawTs sts pn).foldl put []).length ≤ 1000 := by
  have h1 := fold_len (lawTs sts pn) []
  have h2 := lawTs_len sts pn
  simp only [List.length_nil] at h1
  omega
theorem news_ten {h₀ h : Heap} {L : Addr} {q1 q2 q3 q4 q5 q6 q7 q8 q9 q10 : Addr × Obj} {r : List (Addr × Obj)} (N : News h₀ L h (q1 :: q2 :: q3 :: q4 :: q5 :: q6 :: q7 :: q8 :: q9 :: q10 :: r)) :
    News h₀ L h (q1 :: q3 :: q4 :: q5 :: q9 :: q10 :: r) := fun p hp => N p (by
  simp only [List.mem_cons] at hp ⊢
  rcases hp with h | h | h | h | h | h | h <;> simp [h])

end
section
local macro_rules | `(tactic| walk_at "call ref") => loose `(tactic| (
  k_here; (with_reducible show wpAny _ _ (call (Value.ref 278) _ _) _ _ _); k_dflt (
  (with_unfolding_all refine' con_use (sep_con _ ?a1 ?a2 ?a3 ?a4 ?a5 ?a6 ?a7 ?a8) ?B ?Xb ?Tb ?F ?N ?hf ?hke ?hd ?hu ?hro ?hpick ?hoff ?hup ?_);
  walk_at "m use"; (case a1 => assumption); (case a2 => assumption); (case a3 => assumption); (case a4 => assumption); (case a5 => assumption); (case a6 => assumption); (case a7 => assumption); (case a8 => assumption); k_whole;
  intro x9 h9 tk9 hP8 F9 N9 hne8; obtain ⟨R8, E8, dE8, D8, t8, n8, od8, G8, gl8⟩ := x9; replace N9 := news_gl N9; (try dsimp only at hP8 hne8); obtain ⟨hT8, lo8, hG8⟩ := hP8; (try dsimp only); (try k_sweep); (try k_fold); walk_say "CONTRACT sep")))

theorem refused_nil (w : World) {l : Addr} {ep : Nat} :
    Con w 317 [.ref l] [] [(l, listOf #[] ep)] [] 160 1000 (fun (_ : Unit) => True) (fun _ => []) (fun _ => []) (fun _ => .bool false) := by
  walk_at "m enter"
  k_steps
  walk_at "m outw"
  refine' leaveM_ (by assumption) (by assumption) rfl () trivial rfl ?M ?O
  (case M => walk_at "m in")
  (case O => walk_at "m off")
theorem refused_plain (w : World) {l : Addr} {ns : List Int} {t : Tok} {ep : Nat} (h4 : ns.length ≤ 4) (h7 : ∀ k ∈ ns, 0 ≤ k ∧ k < 7) (hst : ns.any starK = false) :
    Con w 317 [.ref l] [] [(l, listOf #[.str (wa ns) t] ep)] [] 160 1000 (fun (_ : Unit) => True) (fun _ => []) (fun _ => []) (fun _ => .bool false) := by
  have hV : StrsAre [.str (wa ns) t] ([(true, ns)].map txt) := .cons _ _ .nil
  have hz : [Value.str (wa ns) t].length ≤ 20 := by simp
  have hpos : [Value.str (wa ns) t].toArray.isEmpty = false := rfl
  have h4' : ∀ p ∈ [(true, ns)], p.2.length ≤ 4 := fun p hp => by rw [List.mem_singleton.mp hp]; exact h4
  have h7' : ∀ p ∈ [(true, ns)], ∀ k ∈ p.2, 0 ≤ k ∧ k < 7 := fun p hp => by rw [List.mem_singleton.mp hp]; exact h7
  have hA : ∀ p ∈ [(true, ns)], p.1 = true → starP p = false := fun p hp _ => by rw [List.mem_singleton.mp hp]; exact hst
  have hex : exOf [(true, ns)] ≠ [] := exOf_ne (p := (true, ns)) (by simp) hst
  have hw : wiOf [(true, ns)] = [] ∨ wiOf [(true, ns)] = [wr ([] : List Int)] ∧ ([] : List Int).length ≤ 4 ∧ ∀ k ∈ ([] : List Int), 0 ≤ k ∧ k < 7 := .inl (by unfold wiOf; simp [starP, hst])
  walk_at "m enter"
  k_steps
  walk_at "m outw"
  refine' leaveM_ (by assumption) (by assumption) rfl () trivial rfl ?M ?O
  (case M => walk_at "m in")
  (case O => walk_at "m off")

end
section
local macro_rules | `(tactic| walk_at "slice1") => `(tactic| (
  k_here; (with_reducible show wpAny _ _ (subscriptTail _ (PySem.Expr.Slice (some _) none none _) (Value.ref _) (Value.ref _)) _ _ _); k_dflt (
  (refine' slice1 ?F ?N ?t ?v ?_ ?s ?g; (case F => k_asm); (case N => k_asm); (case t => k_mem); (case v => omega); (case s => with_unfolding_all rfl); (case g => (intro _; with_unfolding_all rfl))); k_whole); intro D' h' F' N' l1; (try k_lt l1); (try k_sweep)))
local macro_rules | `(tactic| walk_at "subscriptTail Name Slice ref ref") => `(tactic| walk_at "slice1")
local macro_rules | `(tactic| walk_at "subscriptTail Call Slice ref ref") => `(tactic| walk_at "slice1")
local macro_rules | `(tactic| walk_at "m cut") => loose `(tactic| first | (obtain ⟨_, hne9⟩ := hne9; walk_at "m cut") | skip)
local macro_rules | `(tactic| walk_at "call ref") => loose `(tactic| (
  k_here; (with_reducible show wpAny _ _ (call (Value.ref 198) _ _) _ _ _); k_dflt (
  (with_unfolding_all refine' con_use (path_con _ ?a1 ?a2) ?B ?Xb ?Tb ?F ?N ?hf ?hke ?hd ?hu ?hro ?hpick ?hoff ?hup ?_);
  walk_at "m use"; (case a1 => assumption); (case a2 => assumption); k_whole;
  intro x9 h9 tk9 hP9 F9 N9 hne9; obtain ⟨a9, vs9, tups9⟩ := x9; replace N9 := news_swap N9; (try dsimp only [List.cons_append, List.nil_append] at N9); (try dsimp only at hP9); (have hl9 : vs9.length ≤ 4 := by rw [hP9.length]; assumption); (rw [NeAll] at hne9); (simp only [neAll_consL, neAll_nil_iff, NeOne, and_true, and_assoc] at hne9); walk_at "m cut"; (try dsimp only); (try k_sweep); (try k_fold); walk_say "CONTRACT path")))

local macro_rules | `(tactic| walk_at "call ref") => loose `(tactic| (
  k_here; (with_reducible show wpAny _ _ (call (Value.ref 286) _ _) _ _ _);
  k_dflt (
  (with_unfolding_all refine' con_use (next_con _ ?a1 ?a2 ?a3 ?a4 ?a5 ?a6 ?a7) ?B ?Xb ?Tb ?F ?N ?hf ?hke ?hd ?hu ?hro ?hpick ?hoff ?hup ?_);
  walk_at "m use"; (case a6 => assumption); (case a1 => omega); (case a2 => omega); (case a3 => omega); (case a4 => omega); (case a5 => omega); (case a7 => omega); k_whole;
  intro x9 h9 tk9 hP9 F9 N9 hne9; obtain ⟨r9, u9, v9⟩ := x9; (try dsimp only [List.cons_append, List.nil_append] at N9); (try dsimp only at hP9); obtain ⟨lo9, hi9⟩ := hP9; clear hne9; (try dsimp only); (try k_sweep); (try k_fold); walk_say "CONTRACT next")))
local macro_rules | `(tactic| walk_at "call ref") => loose `(tactic| (
  k_here; (with_reducible show wpAny _ _ (call (Value.ref 291) [_, Value.int 7 _] _) _ _ _);
  k_dflt (
  (with_unfolding_all refine' con_use (row_con _ ?a1 ?a2 ?a3 ?a4 ?a5 ?a6 ?a7) ?B ?Xb ?Tb ?F ?N ?hf ?hke ?hd ?hu ?hro ?hpick ?hoff ?hup ?_);
  walk_at "m use"; (case a6 => assumption); (case a1 => omega); (case a2 => omega); (case a3 => omega); (case a4 => omega); (case a5 => omega); (case a7 => k_ne); k_whole;
  intro x9 h9 tk9 hP9 F9 N9 hne9; obtain ⟨i9, u9, pa9, pe9, pv9, pn9⟩ := x9; (try dsimp only [List.cons_append, List.nil_append] at N9); (try dsimp only at hP9); obtain ⟨lo9, hi9, hI9, hl9, hb9⟩ := hP9; (simp only [NeAll, NeOne, and_true, and_assoc] at hne9); (try dsimp only); (try k_sweep); (try k_fold); walk_say "CONTRACT row")))
local macro_rules | `(tactic| walk_at "call ref") => loose `(tactic| (
  k_here; (with_reducible show wpAny _ _ (call (Value.ref 291) [_, Value.int 5 _] _) _ _ _);
  k_dflt (
  (with_unfolding_all refine' con_use (row_con _ ?a1 ?a2 ?a3 ?a4 ?a5 ?a6 ?a7) ?B ?Xb ?Tb ?F ?N ?hf ?hke ?hd ?hu ?hro ?hpick ?hoff ?hup ?_);
  walk_at "m use"; (case a6 => assumption); (case a1 => omega); (case a2 => omega); (case a3 => omega); (case a4 => omega); (case a5 => omega); (case a7 => k_ne); k_whole;
  intro x9 h9 tk9 hP9 F9 N9 hne8; obtain ⟨i8, u8, ra8, re8, rv8, rn8⟩ := x9; (try dsimp only [List.cons_append, List.nil_append] at N9); (try dsimp only at hP9); obtain ⟨lo8, hi8, hI8, hl8, hb8⟩ := hP9; (simp only [NeAll, NeOne, and_true, and_assoc] at hne8); (try dsimp only); (try k_sweep); (try k_fold); walk_say "CONTRACT row")))
local macro_rules | `(tactic| walk_at "call ref") => `(tactic| (
  k_here; (with_reducible show wpAny _ _ (call (Value.ref 296) _ _) _ _ _);
  k_dflt (
  (with_unfolding_all refine' con_use (written_con _ ?a1 ?a2 ?a3) ?B ?Xb ?Tb ?F ?N ?hf ?hke ?hd ?hu ?hro ?hpick ?hoff ?hup ?_);
  walk_at "m use"; (case a1 => assumption); (case a2 => assumption); (case a3 => assumption); k_whole;
  intro x9 h9 tk9 hP9 F9 N9 hne9; (try dsimp only [List.cons_append, List.nil_append] at N9); clear hne9; (try dsimp only); (try k_sweep); (try k_fold); walk_say "CONTRACT written")))
local macro_rules | `(tactic| walk_at "m num") => `(tactic| ((try simp only [depth_mark, depth_under_make, depth_under_kw, depth_in1, depth_deeper, depth_caller, units_deeper, units_in1, units_under_make, Around.mark_units, units_caller]); (try dsimp only); first | decide | omega))
local macro_rules | `(tactic| walk_at "exec Assign") => `(tactic| (k_here; (with_reducible show wpAny _ _ (exec (PySem.Stmt.Assign [PySem.Expr.Name _ _] (PySem.Expr.ListComp _ _ _ _) _) _) _ _ _); refine stop_in ?_))
local macro_rules | `(tactic| walk_at "eval ListComp") => `(tactic| (k_here; refine stop_in ?_))
local macro_rules | `(tactic| walk_at "exec For") => `(tactic| (k_here; refine stop_in ?_))
local macro_rules | `(tactic| walk_at "exec For Name Call cons nil") => `(tactic| (k_here; refine stop_in ?_))
local macro_rules | `(tactic| walk_at "exec For Name Name cons nil") => `(tactic| (k_here; refine stop_in ?_))
local macro_rules | `(tactic| walk_at "exec For Name BinOp cons nil") => `(tactic| (k_here; refine stop_in ?_))
local macro_rules | `(tactic| walk_at "pyIter ref") => `(tactic| (k_here; refine stop_in ?_))
local macro_rules | `(tactic| walk_at "call type:range") => `(tactic| (k_here; k_dflt (refine' range1_rows ?F ?N ?_; (case F => k_asm); (case N => k_asm); k_whole); intro h' tk' t1' u1' v1' R' F' N' K'; (try k_sweep)))
local macro_rules | `(tactic| walk_at "m cutl") => loose `(tactic| first | (obtain ⟨_, l5⟩ := l5; walk_at "m cutl") | skip)
local macro_rules | `(tactic| walk_at "call ref") => loose `(tactic| (
  k_here; (with_reducible show wpAny _ _ (call (Value.ref 310) _ _) _ _ _);
  k_dflt (
  (with_unfolding_all refine' con_use (table_con _ ?a1 ?a2 ?a3 ?a4) ?B ?Xb ?Tb ?F ?N ?hf ?hke ?hd ?hu ?hro ?hpick ?hoff ?hup ?_);
  walk_at "m use"; (case a1 => assumption); (case a2 => assumption); (case a3 => assumption); (case a4 => assumption); k_whole;
  intro x9 h9 tk9 hP7 F9 N9 hne7; obtain ⟨Ta7, rs7, tn7, led7⟩ := x9; replace N9 := news_swap N9; (try dsimp only [List.cons_append, List.nil_append] at N9); (try dsimp only at hP7 hne7);
  (have hP6 := hP7); (have hrl7 : rs7.length = stp.length + 1 := by rw [hP7.length]; simp); (obtain ⟨c7, cw7, cn7, hrc7, hcm7, hcI7⟩ := hP7.at (rowsN_at (ps := pn9) (ts := stp) (Nat.lt_succ_self stp.length)));
  (have hmem7 : (toI (rowN pn9 stp stp.length)).any (· == (pn9.length : Int)) = segs false pn9 stp := (any_toI rfl).trans (law_match hpT));
  (have hlen7 : cw7.length = (rowN pn9 stp stp.length).length := by have := hcI7.length; rw [toI, List.length_map] at this; exact this);
  (have hcz7 : cw7.length ≤ 1000 := by rw [hlen7]; exact Nat.le_trans (rowN_len _ _ _) (Nat.le_trans (Nat.succ_le_succ (show pn9.length ≤ 4 by assumption)) (by decide)));
  (have hanc7 := law_anc (ps := pn9) hpT); (rw [← hlen7] at hanc7);
  (replace N9 := news_add (q := (c7, listOf cw7.toArray cn7)) N9 (by walk_at "m tail"));
  (try dsimp only); (try k_sweep); (try k_fold); walk_say "CONTRACT table")))
local macro_rules | `(tactic| walk_at "call ref") => `(tactic| (
  k_here; (with_reducible show wpAny _ _ (call (Value.ref 231) _ _) _ _ _); k_dflt (
  (with_unfolding_all refine' con_use (match_con _ ?a1 ?a2 ?a3 ?a4 ?a5) ?B ?Xb ?Tb ?F ?N ?hf ?hke ?hd ?hu ?hro ?hpick ?hoff ?hup ?_);
  (case a5 => assumption); walk_at "m use"; (case a1 => assumption); (case a2 => assumption); (case a3 => assumption); (case a4 => assumption); k_whole;
  intro x9 h9 tk9 hP7 F9 N9 hne7; clear hne7; (try dsimp only [List.cons_append, List.nil_append] at N9); (try dsimp only); (try k_sweep); (try k_fold); walk_say "CONTRACT match")))
local macro_rules | `(tactic| walk_at "call ref") => `(tactic| (
  k_here; (with_reducible show wpAny _ _ (call (Value.ref 238) _ _) _ _ _); k_dflt (
  (with_unfolding_all refine' con_use (anc_con _ ?a1 ?a2 ?a3 ?a4 ?a5) ?B ?Xb ?Tb ?F ?N ?hf ?hke ?hd ?hu ?hro ?hpick ?hoff ?hup ?_);
  (case a5 => assumption); walk_at "m use"; (case a1 => assumption); (case a2 => assumption); (case a3 => assumption); (case a4 => assumption); k_whole;
  intro x9 h9 tk9 hP7 F9 N9 hne7; clear hne7; (try dsimp only [List.cons_append, List.nil_append] at N9); (try dsimp only); (try k_sweep); (try k_fold); walk_say "CONTRACT anc")))
local macro_rules | `(tactic| walk_at "call ref") => `(tactic| (
  k_here; (with_reducible show wpAny _ _ (call (Value.ref 245) _ _) _ _ _); k_dflt (
  (with_unfolding_all refine' con_use (desc_con _ ?a1 ?a2 ?a3 ?a4 ?a5) ?B ?Xb ?Tb ?F ?N ?hf ?hke ?hd ?hu ?hro ?hpick ?hoff ?hup ?_);
  (case a5 => assumption); walk_at "m use"; (case a1 => assumption); (case a2 => assumption); (case a3 => assumption); (case a4 => assumption); k_whole;
  intro x9 h9 tk9 hP7 F9 N9 hne7; clear hne7; (try dsimp only [List.cons_append, List.nil_append] at N9); (try dsimp only); (try k_sweep); (try k_fold); walk_say "CONTRACT desc")))
local macro_rules | `(tactic| walk_at "call ref") => `(tactic| (
  k_here; (with_reducible show wpAny _ _ (call (Value.ref 210) _ _) _ _ _); k_dflt (
  (with_unfolding_all refine' con_use (wild_wrb _ ?a1 ?a2) ?B ?Xb ?Tb ?F ?N ?hf ?hke ?hd ?hu ?hro ?hpick ?hoff ?hup ?_);
  walk_at "m use"; (case a1 => assumption); (case a2 => assumption); k_whole;
  intro x9 h9 tk9 hP7 F9 N9 hne7; clear hne7; (try dsimp only [List.cons_append, List.nil_append] at N9); (try dsimp only); (try k_sweep); (try k_fold); walk_say "CONTRACT wild")))
local macro_rules | `(tactic| walk_at "compareOp In int ref") => `(tactic| (k_here; k_dflt (refine' in_ints ?N ?m ?i ?e ?_; (case N => k_asm); (case m => first | k_mem | walk_at "m tail"); (case i => assumption); (case e => assumption); k_whole)))
local macro_rules | `(tactic| walk_at "m back") => `(tactic| (k_here; (with_reducible show wpAny _ _ (subscriptTail _ _ (Value.ref _) (Value.int (-1) _)) _ _ _); k_dflt (refine' list_back ?N ?m ?v ?e ?z ?_ ?s ?g; (case N => k_asm); (case m => k_mem); (case v => assumption); (case e => assumption); (case z => omega); (case s => with_unfolding_all rfl); (case g => (intro _; with_unfolding_all rfl))); k_whole))
local macro_rules | `(tactic| walk_at "subscriptTail Name UnaryOp ref int") => `(tactic| walk_at "m back")
local macro_rules | `(tactic| walk_at "m offs") => `(tactic| ((try dsimp only); first | exact forall_nil | exact off_three (by assumption) (by assumption) (by assumption) | (refine List.forall_mem_cons.mpr (And.intro ?a ?b); (case a => k_all); (case b => walk_at "m offs"))))
local macro_rules | `(tactic| walk_at "m cuth") => loose `(tactic| first | (obtain ⟨_, hne⟩ := hne; walk_at "m cuth") | skip)
local macro_rules | `(tactic| k_ne) => `(tactic| (refine neN ?_; (try dsimp only); first | with_reducible assumption | (refine Ne.symm ?_; with_reducible assumption) | (refine Nat.ne_of_lt ?_; with_reducible assumption) | (refine Nat.ne_of_gt ?_; with_reducible assumption)))
local macro_rules | `(tactic| walk_at "m tail") => `(tactic| first | assumption | (refine List.mem_cons_of_mem _ ?_; walk_at "m tail") | (refine List.mem_append_left _ ?_; walk_at "m tail") | (refine List.mem_append_right _ ?_; walk_at "m tail"))
local macro_rules | `(tactic| walk_at "call builtin:len") => `(tactic| (k_here; (with_reducible show wpAny _ _ (call (Value.builtin "len") [Value.ref _]) _ _ _); k_dflt (refine' list_len ?N ?m ?z ?_; (case N => k_asm); (case m => k_mem); (case z => assumption); k_whole); intro t6 tk6))

local macro_rules | `(tactic| walk_at "call ref") => loose `(tactic| (
  k_here; (with_reducible show wpAny _ _ (call (Value.ref 278) _ _) _ _ _); k_dflt (
  (with_unfolding_all refine' con_use (sep_law _ ?a1 ?a2 ?a3 ?a4 ?a5) ?B ?Xb ?Tb ?F ?N ?hf ?hke ?hd ?hu ?hro ?hpick ?hoff ?hup ?_);
  walk_at "m use"; (case a1 => assumption); (case a2 => assumption); (case a3 => assumption); (case a4 => assumption); (case a5 => assumption); k_whole;
  intro x9 h9 tk9 hP8 F9 N9 hne8; obtain ⟨R8, E8, dE8, D8, t8, n8, od8, G8, gl8⟩ := x9; replace N9 := news_gl N9; (try dsimp only [List.cons_append, List.nil_append] at N9); (try dsimp only at hP8 hne8); obtain ⟨hT8, lo8, hG8⟩ := hP8; (try dsimp only); (try k_sweep); (try k_fold); walk_say "CONTRACT sep")))
local macro_rules | `(tactic| walk_at "binaryOp Add ref ref") => loose `(tactic| (k_here; (with_reducible show wpAny _ _ (binaryOp Operator.Add (Value.ref _) (Value.ref _)) _ _ _); k_dflt (refine' cat_lists ?clF ?clN ?cla ?clb ?clz ?_; (case clF => k_asm); (case clN => k_asm); (case cla => k_mem); (case clb => k_mem); (case clz => (simp only [List.length_append, List.length_cons, List.length_nil]; omega)); k_whole); intro D' h' F' N' l1; (try k_lt l1); (try k_sweep)))
local macro_rules | `(tactic| walk_at "compareOp NotIn str ref") => `(tactic| (k_here; k_dflt (refine' notin_strs ?niN ?nim ?nih ?nie ?_; (case niN => k_asm); (case nim => k_mem); (case nih => assumption); (case nie => assumption); k_whole)))
local macro_rules | `(tactic| walk_at "compareOp NotEq ref ref") => `(tactic| (k_here; (with_reducible show wpAny _ _ (compareOp CmpOp.NotEq (Value.ref _) (Value.ref _)) _ _ _); k_dflt (refine' ne_strs ?neN ?nea ?neb ?nei ?nej ?nel ?neu ?_; (case neN => k_asm); (case nea => k_mem); (case neb => k_mem); (case nei => assumption); (case nej => assumption); (case nel => assumption); (case neu => walk_at "m num"); k_whole)))
local macro_rules | `(tactic| walk_at "call type:list") => loose `(tactic| (k_here; (with_reducible show wpAny _ _ (call (Value.type "list") [Value.ref _]) _ _ _); k_dflt (
  (with_unfolding_all refine' list_exact (od := od8) ?leB ?leX ?leT ?leF ?leN ?lef ?lek ?led ?leu ?le1 ?le2 ?le3 ?leD ?leo ?lez ?lep ?_);
  (case leB => k_asm); (case leX => k_asm); (case leT => k_asm); (case leF => k_asm); (case leN => k_asm); (case lef => rfl); (case lek => rfl); (case led => walk_at "m num"); (case leu => walk_at "m num"); (case le1 => k_memK); (case le2 => k_memK); (case le3 => k_memK); (case leD => assumption); (case leo => assumption); (case lez => assumption); (case lep => assumption); k_whole;
  intro h8 g8 tk8 a8 vs8 ep8 F8 N8 hS8 hne9 hB8; (try dsimp only); (try k_sweep); (try k_fold); walk_say "LIST exact")))

theorem law_tail3 {w : World} {s : Shared} {h₀ : Heap} {L : Addr} {m : Str → Option Value} {Q : Flow → Shared → Prop} {p : Program} {loose : List Str} {mean : ExcName → Option Value} {mg mb : Str → Option Value}
    {name qual : Str} {params : Arguments} {body : List Stmt} {scope : Scope} {dV kV doc pm cdv ct oc : Value} {an od : Option Addr} {osl : Array (Option Value)} {fa : Addr} {cd : Value}
    (ho : (Mine.hd.heap_39 w.params).lookup 322 = some ⟨oc, od, .func (fnOf name qual params body scope dV kV doc pm an cdv ct), osl⟩)
    {P E dE D tx pa : Addr} {t : Tok} {n : Nat} {oD : Obj} {G : Value} {gl : List (Addr × Obj)} {ys pv : List Value} {nt pe : Nat} {sts : List (List Int)} {pn : List Int}
    (K0 : Below callerA h₀ [] h₀) (X0 : (Mine.hd.heap_39 w.params).In h₀) (T0 : Top p loose mean mg mb h₀)
    (F9 : Fr h₀ L s.heap (fun z => if z = Str.ofString "plain" then some (.ref P) else if z = Str.ofString "stars" then some G else if z = Str.ofString "exact" then some (.ref E) else if z = Str.ofString "starred" then some (.bool (pn.any starK)) else if z = Str.ofString "texts" then some (.ref tx) else if z = Str.ofString "pattern" then some (.ref pa) else m z))
    (N9 : News h₀ L s.heap ((P, listOf #[] 0) :: (E, instObj 123 dE) :: (dE, edict w D t n) :: (D, oD) :: (tx, listOf ys.toArray nt) :: (pa, listOf pv.toArray pe) :: gl))
    (p1 : E < P) (p2 : dE < P) (p3 : D < P) (p4 : tx < P) (p5 : pa < P) (p6 : AllLt P gl)
    (hT : TDict w oD ((lawTs sts pn).foldl put [])) (lo : (D == sysModules) = false)
    (hI : IntsAre pv pn) (h4 : pn.length ≤ 4) (h7 : ∀ k ∈ pn, 0 ≤ k ∧ k < 7) (hy : StrsAre ys (sts.map wr)) (hi5 : sts.length < 5) (hg : s.gens = #[])
    (k : ∀ (P2 : Addr) (zs : List Value) (nz : Nat) (h' : Heap) (tk' : Nat) (m' : Str → Option Value), Fr h₀ L h' (fun z => if z = Str.ofString "plain" then some (.ref P2) else if z = Str.ofString "stars" then some G else if z = Str.ofString "exact" then some (.ref E) else if z = Str.ofString "starred" then some (.bool (pn.any starK)) else if z = Str.ofString "pattern" then some (.ref pa) else m' z) →
      News h₀ L h' ((P2, listOf zs.toArray nz) :: (E, instObj 123 dE) :: (dE, edict w D t n) :: (D, oD) :: (pa, listOf pv.toArray pe) :: gl) → StrsAre zs ((lawTs sts pn).foldl put []) →
      wpAny (model PySem.Challenge.rw_ez0048_01.row.prog w) (callerA.deeper (envOfC qual scope L fa cd)) (execs (body.drop 12) (envOfC qual scope L fa cd)) Q (fun _ _ => False) { s with heap := h', toks := tk' }) :
    wpAny (model PySem.Challenge.rw_ez0048_01.row.prog w) (callerA.deeper (envOfC qual scope L fa cd)) (execs (body.drop 11) (envOfC qual scope L fa cd)) Q (fun _ _ => False) s := by
  cases ho
  dsimp only [List.drop] at k ⊢
  have hyl : ys.length = sts.length := by rw [strsAre_len hy, List.length_map]
  have htl := lawTs_len sts pn
  rcases hst : pn.any starK with _ | _
  all_goals (
    rw [hst] at F9
    k_steps
    refine ⟨?_⟩
    with_unfolding_all refine' For_invV h₀ ?k1 ?k2 ?_
    (case k1 => rfl)
    (case k2 => rfl)
    k_steps
    refine ⟨?_⟩
    rename Fr _ _ _ _ => F7
    rename News _ _ _ _ => N7
    obtain ⟨vs3, hV, N8⟩ : ∃ vs3, StrsAre vs3 (lawTs sts pn) ∧ News h₀ L _ ((P, listOf #[] 0) :: (D', listOf vs3.toArray 0) :: (E, instObj 123 dE) :: (dE, edict w D t n) :: (D, oD) :: (pa, listOf pv.toArray pe) :: gl) := ⟨_, by first | exact lawTs_star hst hy | exact lawTs_plain hst hy, news_small N7⟩
    have hPD : P < D' := allLt_lt (q := (P, listOf #[] 0)) l1 (by simp)
    clear N7 l1
    have hVl := strsAre_len hV
    refine loop_M (fun i m' l => ∃ zs nz, m' (Str.ofString "plain") = some (.ref P) ∧ m' (Str.ofString "stars") = some G ∧ m' (Str.ofString "exact") = some (.ref E) ∧ m' (Str.ofString "starred") = some (.bool (pn.any starK)) ∧ m' (Str.ofString "pattern") = some (.ref pa) ∧
        StrsAre zs (((lawTs sts pn).take i).foldl put []) ∧ l = (P, listOf zs.toArray nz) :: (D', listOf vs3.toArray 0) :: (E, instObj 123 dE) :: (dE, edict w D t n) :: (D, oD) :: (pa, listOf pv.toArray pe) :: gl)
      (iterOf_list rfl (News.isList N8 (by k_memK))) F7 N8 ?_ ?_ ?_ ?_
    · intro q hq
      rw [List.mem_singleton.mp hq]
      exact ⟨(N8 (D', listOf vs3.toArray 0) (by k_memK)).2.1, .inr ⟨_, fun i m l ⟨zs, nz, _, _, _, _, _, _, e⟩ => by rw [e]; k_memK⟩⟩
    · exact ⟨[], _, by with_unfolding_all rfl, by with_unfolding_all rfl, by with_unfolding_all rfl, by rw [hst]; with_unfolding_all rfl, by with_unfolding_all rfl, .nil, rfl⟩
    · rintro i v m₂ l₂ I oI h₂ tk₂ hi hP ⟨zs, nz, f1, f2, f3, f4, f5, hZ, rfl⟩ hneI F9 N9
      simp only [NeOne] at hneI
      obtain ⟨e1, e2, e3, e4, e5, e6, e7⟩ := hneI
      obtain ⟨x, t9, rfl, hx⟩ := strsAre_get hV (by simpa using hP)
      have hi' : i < (lawTs sts pn).length := (List.getElem?_eq_some_iff.mp hx).1
      have hZl : zs.length ≤ 20 := by
        have h1 := strsAre_len hZ
        have h2 := fold_len ((lawTs sts pn).take i) []
        rw [List.length_take] at h2
        simp only [List.length_nil] at h2
        omega
      have hm := with_cons f1 (with_cons f2 (with_cons f3 (with_cons f4 (with_cons f5 rfl))))
      rw [hm] at F9
      replace F9 : Fr h₀ L _ _ := F9
      replace N9 : News h₀ L _ _ := N9
      clear hm f1 f2 f3 f4 f5 F7 N8
      have htk := take_snoc hx
      by_cases hin : x ∈ ((lawTs sts pn).take i).foldl put []
      · have hc : decide (x ∈ ((lawTs sts pn).take i).foldl put []) = true := decide_eq_true hin
        k_steps
        refine turnM_next ((P, listOf zs.toArray nz) :: (D', listOf vs3.toArray 0) :: (E, instObj 123 dE) :: (dE, edict w D t n) :: (D, oD) :: (pa, listOf pv.toArray pe) :: gl) (by assumption) (by assumption) (by k_memK) (by walk_at "m in") (by walk_at "m all")
          ⟨zs, nz, by with_unfolding_all rfl, by with_unfolding_all rfl, by with_unfolding_all rfl, by with_unfolding_all rfl, by with_unfolding_all rfl, by rw [htk, List.foldl_append]; show StrsAre zs (put _ x); rw [put_in hin]; exact hZ, rfl⟩
      · have hc : decide (x ∈ ((lawTs sts pn).take i).foldl put []) = false := decide_eq_false hin
        k_steps
        rename News _ _ _ _ => N8
        rw [List.push_toArray] at N8
        refine turnM_next ((P, listOf (zs ++ [Value.str x t9]).toArray (nz + 1)) :: (D', listOf vs3.toArray 0) :: (E, instObj 123 dE) :: (dE, edict w D t n) :: (D, oD) :: (pa, listOf pv.toArray pe) :: gl) (by assumption) (by assumption) (by k_memK) (by walk_at "m in") (by walk_at "m all")
          ⟨zs ++ [Value.str x t9], nz + 1, by with_unfolding_all rfl, by with_unfolding_all rfl, by with_unfolding_all rfl, by with_unfolding_all rfl, by with_unfolding_all rfl, by rw [htk, List.foldl_append]; show StrsAre _ (put _ x); rw [put_out hin]; exact strsAre_snoc hZ, rfl⟩
    · rintro m₂ l₂ h₂ tk₂ ⟨zs, nz, f1, f2, f3, f4, f5, hZ, rfl⟩ F9 N9
      have hm := with_cons f1 (with_cons f2 (with_cons f3 (with_cons f4 (with_cons f5 rfl))))
      rw [hm] at F9
      replace F9 : Fr h₀ L _ _ := F9
      replace N9 : News h₀ L _ _ := N9
      clear hm f1 f2 f3 f4 f5 F7 N8
      rw [show vs3.toArray.size = (lawTs sts pn).length by simp [hVl], List.take_length] at hZ
      exact k P zs nz h₂ tk₂ m₂ F9 (fun q hq => N9 q (by simp only [List.mem_cons] at hq ⊢; rcases hq with h | h | h | h | h | h <;> simp [h])) hZ)

end
section
local macro_rules | `(tactic| walk_at "slice1") => `(tactic| (
  k_here; (with_reducible show wpAny _ _ (subscriptTail _ (PySem.Expr.Slice (some _) none none _) (Value.ref _) (Value.ref _)) _ _ _); k_dflt (
  (refine' slice1 ?F ?N ?t ?v ?_ ?s ?g; (case F => k_asm); (case N => k_asm); (case t => k_mem); (case v => omega); (case s => with_unfolding_all rfl); (case g => (intro _; with_unfolding_all rfl))); k_whole); intro D' h' F' N' l1; (try k_lt l1); (try k_sweep)))
local macro_rules | `(tactic| walk_at "subscriptTail Name Slice ref ref") => `(tactic| walk_at "slice1")
local macro_rules | `(tactic| walk_at "subscriptTail Call Slice ref ref") => `(tactic| walk_at "slice1")
local macro_rules | `(tactic| walk_at "m cut") => loose `(tactic| first | (obtain ⟨_, hne9⟩ := hne9; walk_at "m cut") | skip)
local macro_rules | `(tactic| walk_at "call ref") => loose `(tactic| (
  k_here; (with_reducible show wpAny _ _ (call (Value.ref 198) _ _) _ _ _); k_dflt (
  (with_unfolding_all refine' con_use (path_con _ ?a1 ?a2) ?B ?Xb ?Tb ?F ?N ?hf ?hke ?hd ?hu ?hro ?hpick ?hoff ?hup ?_);
  walk_at "m use"; (case a1 => assumption); (case a2 => assumption); k_whole;
  intro x9 h9 tk9 hP9 F9 N9 hne9; obtain ⟨a9, vs9, tups9⟩ := x9; replace N9 := news_swap N9; (try dsimp only [List.cons_append, List.nil_append] at N9); (try dsimp only at hP9); (have hl9 : vs9.length ≤ 4 := by rw [hP9.length]; assumption); (rw [NeAll] at hne9); (simp only [neAll_consL, neAll_nil_iff, NeOne, and_true, and_assoc] at hne9); walk_at "m cut"; (try dsimp only); (try k_sweep); (try k_fold); walk_say "CONTRACT path")))

local macro_rules | `(tactic| walk_at "call ref") => loose `(tactic| (
  k_here; (with_reducible show wpAny _ _ (call (Value.ref 286) _ _) _ _ _);
  k_dflt (
  (with_unfolding_all refine' con_use (next_con _ ?a1 ?a2 ?a3 ?a4 ?a5 ?a6 ?a7) ?B ?Xb ?Tb ?F ?N ?hf ?hke ?hd ?hu ?hro ?hpick ?hoff ?hup ?_);
  walk_at "m use"; (case a6 => assumption); (case a1 => omega); (case a2 => omega); (case a3 => omega); (case a4 => omega); (case a5 => omega); (case a7 => omega); k_whole;
  intro x9 h9 tk9 hP9 F9 N9 hne9; obtain ⟨r9, u9, v9⟩ := x9; (try dsimp only [List.cons_append, List.nil_append] at N9); (try dsimp only at hP9); obtain ⟨lo9, hi9⟩ := hP9; clear hne9; (try dsimp only); (try k_sweep); (try k_fold); walk_say "CONTRACT next")))
local macro_rules | `(tactic| walk_at "call ref") => loose `(tactic| (
  k_here; (with_reducible show wpAny _ _ (call (Value.ref 291) [_, Value.int 7 _] _) _ _ _);
  k_dflt (
  (with_unfolding_all refine' con_use (row_con _ ?a1 ?a2 ?a3 ?a4 ?a5 ?a6 ?a7) ?B ?Xb ?Tb ?F ?N ?hf ?hke ?hd ?hu ?hro ?hpick ?hoff ?hup ?_);
  walk_at "m use"; (case a6 => assumption); (case a1 => omega); (case a2 => omega); (case a3 => omega); (case a4 => omega); (case a5 => omega); (case a7 => k_ne); k_whole;
  intro x9 h9 tk9 hP9 F9 N9 hne9; obtain ⟨i9, u9, pa9, pe9, pv9, pn9⟩ := x9; (try dsimp only [List.cons_append, List.nil_append] at N9); (try dsimp only at hP9); obtain ⟨lo9, hi9, hI9, hl9, hb9⟩ := hP9; (simp only [NeAll, NeOne, and_true, and_assoc] at hne9); (try dsimp only); (try k_sweep); (try k_fold); walk_say "CONTRACT row")))
local macro_rules | `(tactic| walk_at "call ref") => loose `(tactic| (
  k_here; (with_reducible show wpAny _ _ (call (Value.ref 291) [_, Value.int 5 _] _) _ _ _);
  k_dflt (
  (with_unfolding_all refine' con_use (row_con _ ?a1 ?a2 ?a3 ?a4 ?a5 ?a6 ?a7) ?B ?Xb ?Tb ?F ?N ?hf ?hke ?hd ?hu ?hro ?hpick ?hoff ?hup ?_);
  walk_at "m use"; (case a6 => assumption); (case a1 => omega); (case a2 => omega); (case a3 => omega); (case a4 => omega); (case a5 => omega); (case a7 => k_ne); k_whole;
  intro x9 h9 tk9 hP9 F9 N9 hne8; obtain ⟨i8, u8, ra8, re8, rv8, rn8⟩ := x9; (try dsimp only [List.cons_append, List.nil_append] at N9); (try dsimp only at hP9); obtain ⟨lo8, hi8, hI8, hl8, hb8⟩ := hP9; (simp only [NeAll, NeOne, and_true, and_assoc] at hne8); (try dsimp only); (try k_sweep); (try k_fold); walk_say "CONTRACT row")))
local macro_rules | `(tactic| walk_at "call ref") => `(tactic| (
  k_here; (with_reducible show wpAny _ _ (call (Value.ref 296) _ _) _ _ _);
  k_dflt (
  (with_unfolding_all refine' con_use (written_con _ ?a1 ?a2 ?a3) ?B ?Xb ?Tb ?F ?N ?hf ?hke ?hd ?hu ?hro ?hpick ?hoff ?hup ?_);
  walk_at "m use"; (case a1 => assumption); (case a2 => assumption); (case a3 => assumption); k_whole;
  intro x9 h9 tk9 hP9 F9 N9 hne9; (try dsimp only [List.cons_append, List.nil_append] at N9); clear hne9; (try dsimp only); (try k_sweep); (try k_fold); walk_say "CONTRACT written")))
local macro_rules | `(tactic| walk_at "m num") => `(tactic| ((try simp only [depth_mark, depth_under_make, depth_under_kw, depth_in1, depth_deeper, depth_caller, units_deeper, units_in1, units_under_make, Around.mark_units, units_caller]); (try dsimp only); first | decide | omega))
local macro_rules | `(tactic| walk_at "exec Assign") => `(tactic| (k_here; (with_reducible show wpAny _ _ (exec (PySem.Stmt.Assign [PySem.Expr.Name _ _] (PySem.Expr.ListComp _ _ _ _) _) _) _ _ _); refine stop_in ?_))
local macro_rules | `(tactic| walk_at "eval ListComp") => `(tactic| (k_here; refine stop_in ?_))
local macro_rules | `(tactic| walk_at "exec For") => `(tactic| (k_here; refine stop_in ?_))
local macro_rules | `(tactic| walk_at "exec For Name Call cons nil") => `(tactic| (k_here; refine stop_in ?_))
local macro_rules | `(tactic| walk_at "exec For Name Name cons nil") => `(tactic| (k_here; refine stop_in ?_))
local macro_rules | `(tactic| walk_at "exec For Name BinOp cons nil") => `(tactic| (k_here; refine stop_in ?_))
local macro_rules | `(tactic| walk_at "pyIter ref") => `(tactic| (k_here; refine stop_in ?_))
local macro_rules | `(tactic| walk_at "call type:range") => `(tactic| (k_here; k_dflt (refine' range1_rows ?F ?N ?_; (case F => k_asm); (case N => k_asm); k_whole); intro h' tk' t1' u1' v1' R' F' N' K'; (try k_sweep)))
local macro_rules | `(tactic| walk_at "m cutl") => loose `(tactic| first | (obtain ⟨_, l5⟩ := l5; walk_at "m cutl") | skip)
local macro_rules | `(tactic| walk_at "call ref") => loose `(tactic| (
  k_here; (with_reducible show wpAny _ _ (call (Value.ref 310) _ _) _ _ _);
  k_dflt (
  (with_unfolding_all refine' con_use (table_con _ ?a1 ?a2 ?a3 ?a4) ?B ?Xb ?Tb ?F ?N ?hf ?hke ?hd ?hu ?hro ?hpick ?hoff ?hup ?_);
  walk_at "m use"; (case a1 => assumption); (case a2 => assumption); (case a3 => assumption); (case a4 => assumption); k_whole;
  intro x9 h9 tk9 hP7 F9 N9 hne7; obtain ⟨Ta7, rs7, tn7, led7⟩ := x9; replace N9 := news_swap N9; (try dsimp only [List.cons_append, List.nil_append] at N9); (try dsimp only at hP7 hne7);
  (have hP6 := hP7); (have hrl7 : rs7.length = stp.length + 1 := by rw [hP7.length]; simp); (obtain ⟨c7, cw7, cn7, hrc7, hcm7, hcI7⟩ := hP7.at (rowsN_at (ps := pn9) (ts := stp) (Nat.lt_succ_self stp.length)));
  (have hmem7 : (toI (rowN pn9 stp stp.length)).any (· == (pn9.length : Int)) = segs false pn9 stp := (any_toI rfl).trans (law_match hpT));
  (have hlen7 : cw7.length = (rowN pn9 stp stp.length).length := by have := hcI7.length; rw [toI, List.length_map] at this; exact this);
  (have hcz7 : cw7.length ≤ 1000 := by rw [hlen7]; exact Nat.le_trans (rowN_len _ _ _) (Nat.le_trans (Nat.succ_le_succ (show pn9.length ≤ 4 by assumption)) (by decide)));
  (have hanc7 := law_anc (ps := pn9) hpT); (rw [← hlen7] at hanc7);
  (replace N9 := news_add (q := (c7, listOf cw7.toArray cn7)) N9 (by walk_at "m tail"));
  (try dsimp only); (try k_sweep); (try k_fold); walk_say "CONTRACT table")))
local macro_rules | `(tactic| walk_at "call ref") => `(tactic| (
  k_here; (with_reducible show wpAny _ _ (call (Value.ref 231) _ _) _ _ _); k_dflt (
  (with_unfolding_all refine' con_use (match_con _ ?a1 ?a2 ?a3 ?a4 ?a5) ?B ?Xb ?Tb ?F ?N ?hf ?hke ?hd ?hu ?hro ?hpick ?hoff ?hup ?_);
  (case a5 => assumption); walk_at "m use"; (case a1 => assumption); (case a2 => assumption); (case a3 => assumption); (case a4 => assumption); k_whole;
  intro x9 h9 tk9 hP7 F9 N9 hne7; clear hne7; (try dsimp only [List.cons_append, List.nil_append] at N9); (try dsimp only); (try k_sweep); (try k_fold); walk_say "CONTRACT match")))
local macro_rules | `(tactic| walk_at "call ref") => `(tactic| (
  k_here; (with_reducible show wpAny _ _ (call (Value.ref 238) _ _) _ _ _); k_dflt (
  (with_unfolding_all refine' con_use (anc_con _ ?a1 ?a2 ?a3 ?a4 ?a5) ?B ?Xb ?Tb ?F ?N ?hf ?hke ?hd ?hu ?hro ?hpick ?hoff ?hup ?_);
  (case a5 => assumption); walk_at "m use"; (case a1 => assumption); (case a2 => assumption); (case a3 => assumption); (case a4 => assumption); k_whole;
  intro x9 h9 tk9 hP7 F9 N9 hne7; clear hne7; (try dsimp only [List.cons_append, List.nil_append] at N9); (try dsimp only); (try k_sweep); (try k_fold); walk_say "CONTRACT anc")))
local macro_rules | `(tactic| walk_at "call ref") => `(tactic| (
  k_here; (with_reducible show wpAny _ _ (call (Value.ref 245) _ _) _ _ _); k_dflt (
  (with_unfolding_all refine' con_use (desc_con _ ?a1 ?a2 ?a3 ?a4 ?a5) ?B ?Xb ?Tb ?F ?N ?hf ?hke ?hd ?hu ?hro ?hpick ?hoff ?hup ?_);
  (case a5 => assumption); walk_at "m use"; (case a1 => assumption); (case a2 => assumption); (case a3 => assumption); (case a4 => assumption); k_whole;
  intro x9 h9 tk9 hP7 F9 N9 hne7; clear hne7; (try dsimp only [List.cons_append, List.nil_append] at N9); (try dsimp only); (try k_sweep); (try k_fold); walk_say "CONTRACT desc")))
local macro_rules | `(tactic| walk_at "call ref") => `(tactic| (
  k_here; (with_reducible show wpAny _ _ (call (Value.ref 210) _ _) _ _ _); k_dflt (
  (with_unfolding_all refine' con_use (wild_wrb _ ?a1 ?a2) ?B ?Xb ?Tb ?F ?N ?hf ?hke ?hd ?hu ?hro ?hpick ?hoff ?hup ?_);
  walk_at "m use"; (case a1 => assumption); (case a2 => assumption); k_whole;
  intro x9 h9 tk9 hP7 F9 N9 hne7; clear hne7; (try dsimp only [List.cons_append, List.nil_append] at N9); (try dsimp only); (try k_sweep); (try k_fold); walk_say "CONTRACT wild")))
local macro_rules | `(tactic| walk_at "compareOp In int ref") => `(tactic| (k_here; k_dflt (refine' in_ints ?N ?m ?i ?e ?_; (case N => k_asm); (case m => first | k_mem | walk_at "m tail"); (case i => assumption); (case e => assumption); k_whole)))
local macro_rules | `(tactic| walk_at "m back") => `(tactic| (k_here; (with_reducible show wpAny _ _ (subscriptTail _ _ (Value.ref _) (Value.int (-1) _)) _ _ _); k_dflt (refine' list_back ?N ?m ?v ?e ?z ?_ ?s ?g; (case N => k_asm); (case m => k_mem); (case v => assumption); (case e => assumption); (case z => omega); (case s => with_unfolding_all rfl); (case g => (intro _; with_unfolding_all rfl))); k_whole))
local macro_rules | `(tactic| walk_at "subscriptTail Name UnaryOp ref int") => `(tactic| walk_at "m back")
local macro_rules | `(tactic| walk_at "m offs") => `(tactic| ((try dsimp only); first | exact forall_nil | exact off_three (by assumption) (by assumption) (by assumption) | (refine List.forall_mem_cons.mpr (And.intro ?a ?b); (case a => k_all); (case b => walk_at "m offs"))))
local macro_rules | `(tactic| walk_at "m cuth") => loose `(tactic| first | (obtain ⟨_, hne⟩ := hne; walk_at "m cuth") | skip)
local macro_rules | `(tactic| k_ne) => `(tactic| (refine neN ?_; (try dsimp only); first | with_reducible assumption | (refine Ne.symm ?_; with_reducible assumption) | (refine Nat.ne_of_lt ?_; with_reducible assumption) | (refine Nat.ne_of_gt ?_; with_reducible assumption)))
local macro_rules | `(tactic| walk_at "m tail") => `(tactic| first | assumption | (refine List.mem_cons_of_mem _ ?_; walk_at "m tail") | (refine List.mem_append_left _ ?_; walk_at "m tail") | (refine List.mem_append_right _ ?_; walk_at "m tail"))
local macro_rules | `(tactic| walk_at "call builtin:len") => `(tactic| (k_here; (with_reducible show wpAny _ _ (call (Value.builtin "len") [Value.ref _]) _ _ _); k_dflt (refine' list_len ?N ?m ?z ?_; (case N => k_asm); (case m => k_mem); (case z => assumption); k_whole); intro t6 tk6))

local macro_rules | `(tactic| walk_at "call ref") => loose `(tactic| (
  k_here; (with_reducible show wpAny _ _ (call (Value.ref 278) _ _) _ _ _); k_dflt (
  (with_unfolding_all refine' con_use (sep_law _ ?a1 ?a2 ?a3 ?a4 ?a5) ?B ?Xb ?Tb ?F ?N ?hf ?hke ?hd ?hu ?hro ?hpick ?hoff ?hup ?_);
  walk_at "m use"; (case a1 => assumption); (case a2 => assumption); (case a3 => assumption); (case a4 => assumption); (case a5 => assumption); k_whole;
  intro x9 h9 tk9 hP8 F9 N9 hne8; obtain ⟨R8, E8, dE8, D8, t8, n8, od8, G8, gl8⟩ := x9; replace N9 := news_gl N9; (try dsimp only [List.cons_append, List.nil_append] at N9); (try dsimp only at hP8 hne8); obtain ⟨hT8, lo8, hG8⟩ := hP8; (try dsimp only); (try k_sweep); (try k_fold); walk_say "CONTRACT sep")))
local macro_rules | `(tactic| walk_at "binaryOp Add ref ref") => loose `(tactic| (k_here; (with_reducible show wpAny _ _ (binaryOp Operator.Add (Value.ref _) (Value.ref _)) _ _ _); k_dflt (refine' cat_lists ?clF ?clN ?cla ?clb ?clz ?_; (case clF => k_asm); (case clN => k_asm); (case cla => k_mem); (case clb => k_mem); (case clz => (simp only [List.length_append, List.length_cons, List.length_nil]; omega)); k_whole); intro D' h' F' N' l1; (try k_lt l1); (try k_sweep)))
local macro_rules | `(tactic| walk_at "compareOp NotIn str ref") => `(tactic| (k_here; k_dflt (refine' notin_strs ?niN ?nim ?nih ?nie ?_; (case niN => k_asm); (case nim => k_mem); (case nih => assumption); (case nie => assumption); k_whole)))
local macro_rules | `(tactic| walk_at "compareOp NotEq ref ref") => `(tactic| (k_here; (with_reducible show wpAny _ _ (compareOp CmpOp.NotEq (Value.ref _) (Value.ref _)) _ _ _); k_dflt (refine' ne_strs ?neN ?nea ?neb ?nei ?nej ?nel ?neu ?_; (case neN => k_asm); (case nea => k_mem); (case neb => k_mem); (case nei => assumption); (case nej => assumption); (case nel => assumption); (case neu => walk_at "m num"); k_whole)))
local macro_rules | `(tactic| walk_at "call type:list") => loose `(tactic| (k_here; (with_reducible show wpAny _ _ (call (Value.type "list") [Value.ref _]) _ _ _); k_dflt (
  (with_unfolding_all refine' list_exact (od := od8) ?leB ?leX ?leT ?leF ?leN ?lef ?lek ?led ?leu ?le1 ?le2 ?le3 ?leD ?leo ?lez ?lep ?_);
  (case leB => k_asm); (case leX => k_asm); (case leT => k_asm); (case leF => k_asm); (case leN => k_asm); (case lef => rfl); (case lek => rfl); (case led => walk_at "m num"); (case leu => walk_at "m num"); (case le1 => k_memK); (case le2 => k_memK); (case le3 => k_memK); (case leD => assumption); (case leo => assumption); (case lez => assumption); (case lep => assumption); k_whole;
  intro h8 g8 tk8 a8 vs8 ep8 F8 N8 hS8 hne9 hB8; (try dsimp only); (try k_sweep); (try k_fold); walk_say "LIST exact")))

local macro_rules | `(tactic| walk_at "call ref") => loose `(tactic| (
  k_here; (with_reducible show wpAny _ _ (call (Value.ref 317) _ _) _ _ _); k_dflt (
  (first
   | (with_unfolding_all refine' con_use (refused_nil _) ?B ?Xb ?Tb ?F ?N ?hf ?hke ?hd ?hu ?hro ?hpick ?hoff ?hup ?_; walk_at "m use")
   | (with_unfolding_all refine' con_use (refused_plain _ ?a1 ?a2 ?a3) ?B ?Xb ?Tb ?F ?N ?hf ?hke ?hd ?hu ?hro ?hpick ?hoff ?hup ?_; walk_at "m use"; (case a1 => assumption); (case a2 => assumption); (case a3 => assumption)));
  k_whole;
  intro x9 h9 tk9 hP7 F9 N9 hne7; clear hne7; (try dsimp only [List.cons_append, List.nil_append] at N9); (try dsimp only); (try k_sweep); (try k_fold); walk_say "CONTRACT refused")))
local macro_rules | `(tactic| walk_at "call ref") => loose `(tactic| (
  k_here; (with_reducible show wpAny _ _ (call (Value.ref 317) _ _) _ _ _); k_dflt (
  (with_unfolding_all refine' refused_star ?B ?Xb ?Tb ?F ?N ?hf ?hke ?hd ?hu ?rsm ?a1 ?a2 ?_);
  (case B => k_asm); (case Xb => k_asm); (case Tb => k_asm); (case F => k_asm); (case N => k_asm); (case hf => rfl); (case hke => rfl); (case hd => walk_at "m num"); (case hu => walk_at "m num"); (case rsm => k_mem); (case a1 => assumption); (case a2 => assumption); k_whole;
  intro h9 tk9 F9 N9; (try dsimp only); (try k_sweep); (try k_fold); walk_say "CONTRACT refused star")))
local macro_rules | `(tactic| walk_at "m slw") => `(tactic| (k_here; (with_reducible show wpAny _ _ (subscriptTail _ (PySem.Expr.Slice (some _) none none _) (Value.str (wr _) _) (Value.ref _)) _ _ _); k_dflt ((refine' slice_wr4 (s := ⟨_, _, _, _, _⟩) ?swF ?swN ?sw4 ?_ ?swh ?swt); (case swF => k_asm); (case swN => k_asm); (case sw4 => assumption); (case swh => with_unfolding_all rfl); (case swt => (intro _; with_unfolding_all rfl)); k_whole); intro h' t' tk' F' N'; (try k_sweep)))
local macro_rules | `(tactic| walk_at "subscriptTail Call Slice str ref") => `(tactic| walk_at "m slw")
local macro_rules | `(tactic| walk_at "subscriptTail Name Slice str ref") => `(tactic| walk_at "m slw")
local macro_rules | `(tactic| walk_at "binaryOp Add str str") => `(tactic| (k_here; k_dflt (refine' add_wa ?aw4 ?_; (case aw4 => assumption); k_whole); intro t' tk'; (try k_sweep)))
local macro_rules | `(tactic| walk_at "call ref") => loose `(tactic| (
  k_here; (with_reducible show wpAny _ _ (call (Value.ref 271) _ _) _ _ _); k_dflt (
  (with_unfolding_all refine' con_use (compile_con _ ?a1 ?a2) ?B ?Xb ?Tb ?F ?N ?hf ?hke ?hd ?hu ?hro ?hpick ?hoff ?hup ?_);
  walk_at "m use"; (case a1 => assumption); (case a2 => assumption); k_whole;
  intro x9 h9 tk9 hP9 F9 N9 hne9; obtain ⟨D9, e9, x9, d9, t91, t93, pt9, n9⟩ := x9; (try dsimp only [List.cons_append, List.nil_append] at N9); clear hne9; (try dsimp only); (try k_sweep); (try k_fold); walk_say "CONTRACT compile")))

theorem news_nine {h₀ h : Heap} {L : Addr} {q1 q2 q3 q4 q5 q6 q7 q8 q9 : Addr × Obj} (N : News h₀ L h [q1, q2, q3, q4, q5, q6, q7, q8, q9]) : News h₀ L h [q1, q2, q3, q5, q9] := fun p hp => N p (by
  simp only [List.mem_cons, List.not_mem_nil, or_false] at hp ⊢
  rcases hp with h | h | h | h | h <;> simp [h])
theorem law_tail4 {w : World} {s : Shared} {h₀ : Heap} {L : Addr} {m : Str → Option Value} {Q : Flow → Shared → Prop} {p : Program} {loose : List Str} {mean : ExcName → Option Value} {mg mb : Str → Option Value}
    {name qual : Str} {params : Arguments} {body : List Stmt} {scope : Scope} {dV kV doc pm cdv ct oc : Value} {an od : Option Addr} {osl : Array (Option Value)} {fa : Addr} {cd : Value}
    (ho : (Mine.hd.heap_39 w.params).lookup 322 = some ⟨oc, od, .func (fnOf name qual params body scope dV kV doc pm an cdv ct), osl⟩)
    {P E dE D pa : Addr} {t : Tok} {n : Nat} {od8 : Obj} {G : Value} {gl : List (Addr × Obj)} {zs pv : List Value} {nz pe : Nat} {xs : List Str} {pn : List Int}
    (K0 : Below callerA h₀ [] h₀) (X0 : (Mine.hd.heap_39 w.params).In h₀) (T0 : Top p loose mean mg mb h₀)
    (F9 : Fr h₀ L s.heap (fun z => if z = Str.ofString "plain" then some (.ref P) else if z = Str.ofString "stars" then some G else if z = Str.ofString "exact" then some (.ref E) else if z = Str.ofString "starred" then some (.bool (pn.any starK)) else if z = Str.ofString "pattern" then some (.ref pa) else m z))
    (N9 : News h₀ L s.heap ((P, listOf zs.toArray nz) :: (E, instObj 123 dE) :: (dE, edict w D t n) :: (D, od8) :: (pa, listOf pv.toArray pe) :: gl))
    (hT : TDict w od8 xs) (lo : (D == sysModules) = false) (hZ : StrsAre zs xs) (hz : xs.length ≤ 1000) (hpos : 0 < xs.length) (hok : ∀ x ∈ xs, PyData.strOk x = true)
    (hG : (pn.any starK = false ∧ G = .none) ∨ pn.any starK = true ∧ ∃ D2 e x d t1 t3 t4 pt n2, G = .ref D2 ∧ gl = [(D2, listOf #[.ref x] e), (x, instObj 262 d), (d, mdict w pn t1 t3 t4 pt n2)])
    (hI : IntsAre pv pn) (h4 : pn.length ≤ 4) (h7 : ∀ k ∈ pn, 0 ≤ k ∧ k < 7) (hg : AllBare s.gens)
    (hend : ∀ h' g' tk' m', Fr h₀ L h' m' → AllBare g' → Q (.ret (.bool true)) { s with heap := h', gens := g', toks := tk' }) :
    wpAny (model PySem.Challenge.rw_ez0048_01.row.prog w) (callerA.deeper (envOfC qual scope L fa cd)) (execs (body.drop 12) (envOfC qual scope L fa cd)) Q (fun _ _ => False) s := by
  cases ho
  dsimp only [List.drop]
  rcases hG with ⟨hst, rfl⟩ | ⟨hst, D2, e2, x2, d2, t1, t3, t4, pt2, n2, rfl, rfl⟩
  · rw [hst] at F9
    k_steps
    exact hend _ _ _ _ (by assumption) (hB8 hg)
  · rw [hst] at F9
    k_steps
    refine ⟨?_⟩
    have N7 : News h₀ L h8 [(D2, listOf #[.ref x2] e2), (x2, instObj 262 d2), (d2, mdict w pn t1 t3 t4 pt2 n2), (pa, listOf pv.toArray pe)] := fun q hq => N8 q (by
      simp only [List.mem_cons, List.not_mem_nil, or_false] at hq ⊢
      rcases hq with h | h | h | h <;> simp [h])
    clear N8 hne9
    with_unfolding_all refine' comp_M (h₀ := h₀) ?hclos2 ?hcell2 ?hkind2 ?hnames2 ?hx2 ?_
    (case hclos2 => with_unfolding_all rfl)
    (case hcell2 => decide)
    (case hkind2 => rfl)
    (case hnames2 => decide)
    (case hx2 => rfl)
    k_steps
    refine ⟨_, _, [D2], _, _, fun i' ys l => (i' = 0 ∧ ys = [] ∨ i' = 1 ∧ ys = [Value.str (wr pn) t3]) ∧ l = [(D2, listOf #[.ref x2] e2), (x2, instObj 262 d2), (d2, mdict w pn t1 t3 t4 pt2 n2), (pa, listOf pv.toArray pe)],
      iterOf_list rfl (News.isList N7 (by k_memK)), ?_, ?_, F8, N7, ?_, ?_, ?_, ?_⟩
    · rw [sizeLine_eq]; simp
    · rintro i' ys l ⟨⟨rfl, rfl⟩ | ⟨rfl, rfl⟩, _⟩ <;> rfl
    · intro b hb
      rw [List.mem_singleton.mp hb]
      exact ⟨(N7 (D2, listOf #[.ref x2] e2) (by k_memK)).2.1, .inr ⟨_, fun i ys l ⟨_, e⟩ => by rw [e]; k_memK⟩⟩
    · exact ⟨.inl ⟨rfl, rfl⟩, rfl⟩
    · rintro i' v ys l C oC mc Da oDa I oI h tk hi' hP ⟨hJ, rfl⟩ hne hT hm F9 N9
      rcases hJ with ⟨rfl, rfl⟩ | ⟨rfl, _⟩
      · obtain rfl : v = .ref x2 := by simpa using hP.symm
        simp only [NeAll, NeOne, and_true, and_assoc] at hne
        walk_at "m cuth"
        k_steps
        refine' eltM_ _ (by assumption) (by assumption) ?h3 ?hs ?ho ⟨.inr ⟨rfl, rfl⟩, rfl⟩
        (case hs => walk_at "m in")
        (case h3 => walk_at "m in")
        (case ho => walk_at "m offs")
      · exact absurd hi' (by simp)
    · rintro Dc ep ys l h tk ⟨hJ, rfl⟩ hne F9 N9
      rcases hJ with ⟨h0, _⟩ | ⟨_, rfl⟩
      · exact absurd h0 (by simp)
      replace F9 : Fr h₀ L _ _ := F9
      replace N9 : News h₀ L _ _ := N9
      clear F8 N7 hne
      k_steps
      refine ⟨?_⟩
      with_unfolding_all refine' comp_M (h₀ := h₀) ?hclos4 ?hcell4 ?hkind4 ?hnames4 ?hx4 ?_
      (case hclos4 => with_unfolding_all rfl)
      (case hcell4 => decide)
      (case hkind4 => rfl)
      (case hnames4 => decide)
      (case hx4 => rfl)
      k_steps
      rename Fr _ _ _ _ => F8
      rename News _ _ _ _ => N8
      obtain ⟨tk8, N7⟩ : ∃ tk8, News h₀ L h9 [(D9, listOf #[.ref x9] e9), (x9, instObj 262 d9), (d9, mdict w pn t91 tk8 t93 pt9 n9), (Dc, listOf #[Value.str (wr pn) t3] ep), (pa, listOf pv.toArray pe)] := ⟨_, news_nine N8⟩
      clear N8
      refine ⟨_, _, [D9], _, _, fun i' ys l => (i' = 0 ∧ ys = [] ∨ i' = 1 ∧ ys = [Value.str (wr pn) tk8]) ∧ l = [(D9, listOf #[.ref x9] e9), (x9, instObj 262 d9), (d9, mdict w pn t91 tk8 t93 pt9 n9), (Dc, listOf #[Value.str (wr pn) t3] ep), (pa, listOf pv.toArray pe)],
        iterOf_list rfl (News.isList N7 (by k_memK)), ?_, ?_, F8, N7, ?_, ?_, ?_, ?_⟩
      · rw [sizeLine_eq]; simp
      · rintro i' ys l ⟨⟨rfl, rfl⟩ | ⟨rfl, rfl⟩, _⟩ <;> rfl
      · intro b hb
        rw [List.mem_singleton.mp hb]
        exact ⟨(N7 (D9, listOf #[.ref x9] e9) (by k_memK)).2.1, .inr ⟨_, fun i ys l ⟨_, e⟩ => by rw [e]; k_memK⟩⟩
      · exact ⟨.inl ⟨rfl, rfl⟩, rfl⟩
      · rintro i' v ys l C oC mc Da oDa I oI h tk hi' hP ⟨hJ, rfl⟩ hne hT hm F9 N9
        rcases hJ with ⟨rfl, rfl⟩ | ⟨rfl, _⟩
        · obtain rfl : v = .ref x9 := by simpa using hP.symm
          simp only [NeAll, NeOne, and_true, and_assoc] at hne
          walk_at "m cuth"
          k_steps
          refine' eltM_ _ (by assumption) (by assumption) ?h3 ?hs ?ho ⟨.inr ⟨rfl, rfl⟩, rfl⟩
          (case hs => walk_at "m in")
          (case h3 => walk_at "m in")
          (case ho => walk_at "m offs")
        · exact absurd hi' (by simp)
      · rintro Dd epd ys l h tk ⟨hJ, rfl⟩ hne F9 N9
        rcases hJ with ⟨h0, _⟩ | ⟨_, rfl⟩
        · exact absurd h0 (by simp)
        replace F9 : Fr h₀ L _ _ := F9
        replace N9 : News h₀ L _ _ := N9
        clear F8 N7 hne
        have hc1 : StrsAre [Value.str (wr pn) t3] [wr pn] := .cons _ _ .nil
        have hc2 : StrsAre [Value.str (wr pn) tk8] [wr pn] := .cons _ _ .nil
        have hc3 : ∀ x ∈ [wr pn], PyData.strOk x = true := fun x hx => by rw [List.mem_singleton.mp hx]; exact strOk_wr pn
        k_steps
        exact hend _ _ _ _ (by assumption) (hB8 hg)

end
section
local macro_rules | `(tactic| walk_at "slice1") => `(tactic| (
  k_here; (with_reducible show wpAny _ _ (subscriptTail _ (PySem.Expr.Slice (some _) none none _) (Value.ref _) (Value.ref _)) _ _ _); k_dflt (
  (refine' slice1 ?F ?N ?t ?v ?_ ?s ?g; (case F => k_asm); (case N => k_asm); (case t => k_mem); (case v => omega); (case s => with_unfolding_all rfl); (case g => (intro _; with_unfolding_all rfl))); k_whole); intro D' h' F' N' l1; (try k_lt l1); (try k_sweep)))
local macro_rules | `(tactic| walk_at "subscriptTail Name Slice ref ref") => `(tactic| walk_at "slice1")
local macro_rules | `(tactic| walk_at "subscriptTail Call Slice ref ref") => `(tactic| walk_at "slice1")
local macro_rules | `(tactic| walk_at "m cut") => loose `(tactic| first | (obtain ⟨_, hne9⟩ := hne9; walk_at "m cut") | skip)
local macro_rules | `(tactic| walk_at "call ref") => loose `(tactic| (
  k_here; (with_reducible show wpAny _ _ (call (Value.ref 198) _ _) _ _ _); k_dflt (
  (with_unfolding_all refine' con_use (path_con _ ?a1 ?a2) ?B ?Xb ?Tb ?F ?N ?hf ?hke ?hd ?hu ?hro ?hpick ?hoff ?hup ?_);
  walk_at "m use"; (case a1 => assumption); (case a2 => assumption); k_whole;
  intro x9 h9 tk9 hP9 F9 N9 hne9; obtain ⟨a9, vs9, tups9⟩ := x9; replace N9 := news_swap N9; (try dsimp only [List.cons_append, List.nil_append] at N9); (try dsimp only at hP9); (have hl9 : vs9.length ≤ 4 := by rw [hP9.length]; assumption); (rw [NeAll] at hne9); (simp only [neAll_consL, neAll_nil_iff, NeOne, and_true, and_assoc] at hne9); walk_at "m cut"; (try dsimp only); (try k_sweep); (try k_fold); walk_say "CONTRACT path")))

local macro_rules | `(tactic| walk_at "call ref") => loose `(tactic| (
  k_here; (with_reducible show wpAny _ _ (call (Value.ref 286) _ _) _ _ _);
  k_dflt (
  (with_unfolding_all refine' con_use (next_con _ ?a1 ?a2 ?a3 ?a4 ?a5 ?a6 ?a7) ?B ?Xb ?Tb ?F ?N ?hf ?hke ?hd ?hu ?hro ?hpick ?hoff ?hup ?_);
  walk_at "m use"; (case a6 => assumption); (case a1 => omega); (case a2 => omega); (case a3 => omega); (case a4 => omega); (case a5 => omega); (case a7 => omega); k_whole;
  intro x9 h9 tk9 hP9 F9 N9 hne9; obtain ⟨r9, u9, v9⟩ := x9; (try dsimp only [List.cons_append, List.nil_append] at N9); (try dsimp only at hP9); obtain ⟨lo9, hi9⟩ := hP9; clear hne9; (try dsimp only); (try k_sweep); (try k_fold); walk_say "CONTRACT next")))
local macro_rules | `(tactic| walk_at "call ref") => loose `(tactic| (
  k_here; (with_reducible show wpAny _ _ (call (Value.ref 291) [_, Value.int 7 _] _) _ _ _);
  k_dflt (
  (with_unfolding_all refine' con_use (row_con _ ?a1 ?a2 ?a3 ?a4 ?a5 ?a6 ?a7) ?B ?Xb ?Tb ?F ?N ?hf ?hke ?hd ?hu ?hro ?hpick ?hoff ?hup ?_);
  walk_at "m use"; (case a6 => assumption); (case a1 => omega); (case a2 => omega); (case a3 => omega); (case a4 => omega); (case a5 => omega); (case a7 => k_ne); k_whole;
  intro x9 h9 tk9 hP9 F9 N9 hne9; obtain ⟨i9, u9, pa9, pe9, pv9, pn9⟩ := x9; (try dsimp only [List.cons_append, List.nil_append] at N9); (try dsimp only at hP9); obtain ⟨lo9, hi9, hI9, hl9, hb9⟩ := hP9; (simp only [NeAll, NeOne, and_true, and_assoc] at hne9); (try dsimp only); (try k_sweep); (try k_fold); walk_say "CONTRACT row")))
local macro_rules | `(tactic| walk_at "call ref") => loose `(tactic| (
  k_here; (with_reducible show wpAny _ _ (call (Value.ref 291) [_, Value.int 5 _] _) _ _ _);
  k_dflt (
  (with_unfolding_all refine' con_use (row_con _ ?a1 ?a2 ?a3 ?a4 ?a5 ?a6 ?a7) ?B ?Xb ?Tb ?F ?N ?hf ?hke ?hd ?hu ?hro ?hpick ?hoff ?hup ?_);
  walk_at "m use"; (case a6 => assumption); (case a1 => omega); (case a2 => omega); (case a3 => omega); (case a4 => omega); (case a5 => omega); (case a7 => k_ne); k_whole;
  intro x9 h9 tk9 hP9 F9 N9 hne8; obtain ⟨i8, u8, ra8, re8, rv8, rn8⟩ := x9; (try dsimp only [List.cons_append, List.nil_append] at N9); (try dsimp only at hP9); obtain ⟨lo8, hi8, hI8, hl8, hb8⟩ := hP9; (simp only [NeAll, NeOne, and_true, and_assoc] at hne8); (try dsimp only); (try k_sweep); (try k_fold); walk_say "CONTRACT row")))
local macro_rules | `(tactic| walk_at "call ref") => `(tactic| (
  k_here; (with_reducible show wpAny _ _ (call (Value.ref 296) _ _) _ _ _);
  k_dflt (
  (with_unfolding_all refine' con_use (written_con _ ?a1 ?a2 ?a3) ?B ?Xb ?Tb ?F ?N ?hf ?hke ?hd ?hu ?hro ?hpick ?hoff ?hup ?_);
  walk_at "m use"; (case a1 => assumption); (case a2 => assumption); (case a3 => assumption); k_whole;
  intro x9 h9 tk9 hP9 F9 N9 hne9; (try dsimp only [List.cons_append, List.nil_append] at N9); clear hne9; (try dsimp only); (try k_sweep); (try k_fold); walk_say "CONTRACT written")))
local macro_rules | `(tactic| walk_at "m num") => `(tactic| ((try simp only [depth_mark, depth_under_make, depth_under_kw, depth_in1, depth_deeper, depth_caller, units_deeper, units_in1, units_under_make, Around.mark_units, units_caller]); (try dsimp only); first | decide | omega))
local macro_rules | `(tactic| walk_at "exec Assign") => `(tactic| (k_here; (with_reducible show wpAny _ _ (exec (PySem.Stmt.Assign [PySem.Expr.Name _ _] (PySem.Expr.ListComp _ _ _ _) _) _) _ _ _); refine stop_in ?_))
local macro_rules | `(tactic| walk_at "eval ListComp") => `(tactic| (k_here; refine stop_in ?_))
local macro_rules | `(tactic| walk_at "exec For") => `(tactic| (k_here; refine stop_in ?_))
local macro_rules | `(tactic| walk_at "exec For Name Call cons nil") => `(tactic| (k_here; refine stop_in ?_))
local macro_rules | `(tactic| walk_at "exec For Name Name cons nil") => `(tactic| (k_here; refine stop_in ?_))
local macro_rules | `(tactic| walk_at "exec For Name BinOp cons nil") => `(tactic| (k_here; refine stop_in ?_))
local macro_rules | `(tactic| walk_at "pyIter ref") => `(tactic| (k_here; refine stop_in ?_))
local macro_rules | `(tactic| walk_at "call type:range") => `(tactic| (k_here; k_dflt (refine' range1_rows ?F ?N ?_; (case F => k_asm); (case N => k_asm); k_whole); intro h' tk' t1' u1' v1' R' F' N' K'; (try k_sweep)))
local macro_rules | `(tactic| walk_at "m cutl") => loose `(tactic| first | (obtain ⟨_, l5⟩ := l5; walk_at "m cutl") | skip)
local macro_rules | `(tactic| walk_at "call ref") => loose `(tactic| (
  k_here; (with_reducible show wpAny _ _ (call (Value.ref 310) _ _) _ _ _);
  k_dflt (
  (with_unfolding_all refine' con_use (table_con _ ?a1 ?a2 ?a3 ?a4) ?B ?Xb ?Tb ?F ?N ?hf ?hke ?hd ?hu ?hro ?hpick ?hoff ?hup ?_);
  walk_at "m use"; (case a1 => assumption); (case a2 => assumption); (case a3 => assumption); (case a4 => assumption); k_whole;
  intro x9 h9 tk9 hP7 F9 N9 hne7; obtain ⟨Ta7, rs7, tn7, led7⟩ := x9; replace N9 := news_swap N9; (try dsimp only [List.cons_append, List.nil_append] at N9); (try dsimp only at hP7 hne7);
  (have hP6 := hP7); (have hrl7 : rs7.length = stp.length + 1 := by rw [hP7.length]; simp); (obtain ⟨c7, cw7, cn7, hrc7, hcm7, hcI7⟩ := hP7.at (rowsN_at (ps := pn9) (ts := stp) (Nat.lt_succ_self stp.length)));
  (have hmem7 : (toI (rowN pn9 stp stp.length)).any (· == (pn9.length : Int)) = segs false pn9 stp := (any_toI rfl).trans (law_match hpT));
  (have hlen7 : cw7.length = (rowN pn9 stp stp.length).length := by have := hcI7.length; rw [toI, List.length_map] at this; exact this);
  (have hcz7 : cw7.length ≤ 1000 := by rw [hlen7]; exact Nat.le_trans (rowN_len _ _ _) (Nat.le_trans (Nat.succ_le_succ (show pn9.length ≤ 4 by assumption)) (by decide)));
  (have hanc7 := law_anc (ps := pn9) hpT); (rw [← hlen7] at hanc7);
  (replace N9 := news_add (q := (c7, listOf cw7.toArray cn7)) N9 (by walk_at "m tail"));
  (try dsimp only); (try k_sweep); (try k_fold); walk_say "CONTRACT table")))
local macro_rules | `(tactic| walk_at "call ref") => `(tactic| (
  k_here; (with_reducible show wpAny _ _ (call (Value.ref 231) _ _) _ _ _); k_dflt (
  (with_unfolding_all refine' con_use (match_con _ ?a1 ?a2 ?a3 ?a4 ?a5) ?B ?Xb ?Tb ?F ?N ?hf ?hke ?hd ?hu ?hro ?hpick ?hoff ?hup ?_);
  (case a5 => assumption); walk_at "m use"; (case a1 => assumption); (case a2 => assumption); (case a3 => assumption); (case a4 => assumption); k_whole;
  intro x9 h9 tk9 hP7 F9 N9 hne7; clear hne7; (try dsimp only [List.cons_append, List.nil_append] at N9); (try dsimp only); (try k_sweep); (try k_fold); walk_say "CONTRACT match")))
local macro_rules | `(tactic| walk_at "call ref") => `(tactic| (
  k_here; (with_reducible show wpAny _ _ (call (Value.ref 238) _ _) _ _ _); k_dflt (
  (with_unfolding_all refine' con_use (anc_con _ ?a1 ?a2 ?a3 ?a4 ?a5) ?B ?Xb ?Tb ?F ?N ?hf ?hke ?hd ?hu ?hro ?hpick ?hoff ?hup ?_);
  (case a5 => assumption); walk_at "m use"; (case a1 => assumption); (case a2 => assumption); (case a3 => assumption); (case a4 => assumption); k_whole;
  intro x9 h9 tk9 hP7 F9 N9 hne7; clear hne7; (try dsimp only [List.cons_append, List.nil_append] at N9); (try dsimp only); (try k_sweep); (try k_fold); walk_say "CONTRACT anc")))
local macro_rules | `(tactic| walk_at "call ref") => `(tactic| (
  k_here; (with_reducible show wpAny _ _ (call (Value.ref 245) _ _) _ _ _); k_dflt (
  (with_unfolding_all refine' con_use (desc_con _ ?a1 ?a2 ?a3 ?a4 ?a5) ?B ?Xb ?Tb ?F ?N ?hf ?hke ?hd ?hu ?hro ?hpick ?hoff ?hup ?_);
  (case a5 => assumption); walk_at "m use"; (case a1 => assumption); (case a2 => assumption); (case a3 => assumption); (case a4 => assumption); k_whole;
  intro x9 h9 tk9 hP7 F9 N9 hne7; clear hne7; (try dsimp only [List.cons_append, List.nil_append] at N9); (try dsimp only); (try k_sweep); (try k_fold); walk_say "CONTRACT desc")))
local macro_rules | `(tactic| walk_at "call ref") => `(tactic| (
  k_here; (with_reducible show wpAny _ _ (call (Value.ref 210) _ _) _ _ _); k_dflt (
  (with_unfolding_all refine' con_use (wild_wrb _ ?a1 ?a2) ?B ?Xb ?Tb ?F ?N ?hf ?hke ?hd ?hu ?hro ?hpick ?hoff ?hup ?_);
  walk_at "m use"; (case a1 => assumption); (case a2 => assumption); k_whole;
  intro x9 h9 tk9 hP7 F9 N9 hne7; clear hne7; (try dsimp only [List.cons_append, List.nil_append] at N9); (try dsimp only); (try k_sweep); (try k_fold); walk_say "CONTRACT wild")))
local macro_rules | `(tactic| walk_at "compareOp In int ref") => `(tactic| (k_here; k_dflt (refine' in_ints ?N ?m ?i ?e ?_; (case N => k_asm); (case m => first | k_mem | walk_at "m tail"); (case i => assumption); (case e => assumption); k_whole)))
local macro_rules | `(tactic| walk_at "m back") => `(tactic| (k_here; (with_reducible show wpAny _ _ (subscriptTail _ _ (Value.ref _) (Value.int (-1) _)) _ _ _); k_dflt (refine' list_back ?N ?m ?v ?e ?z ?_ ?s ?g; (case N => k_asm); (case m => k_mem); (case v => assumption); (case e => assumption); (case z => omega); (case s => with_unfolding_all rfl); (case g => (intro _; with_unfolding_all rfl))); k_whole))
local macro_rules | `(tactic| walk_at "subscriptTail Name UnaryOp ref int") => `(tactic| walk_at "m back")
local macro_rules | `(tactic| walk_at "m offs") => `(tactic| ((try dsimp only); first | exact forall_nil | exact off_three (by assumption) (by assumption) (by assumption) | (refine List.forall_mem_cons.mpr (And.intro ?a ?b); (case a => k_all); (case b => walk_at "m offs"))))
local macro_rules | `(tactic| walk_at "m cuth") => loose `(tactic| first | (obtain ⟨_, hne⟩ := hne; walk_at "m cuth") | skip)
local macro_rules | `(tactic| k_ne) => `(tactic| (refine neN ?_; (try dsimp only); first | with_reducible assumption | (refine Ne.symm ?_; with_reducible assumption) | (refine Nat.ne_of_lt ?_; with_reducible assumption) | (refine Nat.ne_of_gt ?_; with_reducible assumption)))
local macro_rules | `(tactic| walk_at "m tail") => `(tactic| first | assumption | (refine List.mem_cons_of_mem _ ?_; walk_at "m tail") | (refine List.mem_append_left _ ?_; walk_at "m tail") | (refine List.mem_append_right _ ?_; walk_at "m tail"))
local macro_rules | `(tactic| walk_at "call builtin:len") => `(tactic| (k_here; (with_reducible show wpAny _ _ (call (Value.builtin "len") [Value.ref _]) _ _ _); k_dflt (refine' list_len ?N ?m ?z ?_; (case N => k_asm); (case m => k_mem); (case z => assumption); k_whole); intro t6 tk6))

local macro_rules | `(tactic| walk_at "call ref") => loose `(tactic| (
  k_here; (with_reducible show wpAny _ _ (call (Value.ref 278) _ _) _ _ _); k_dflt (
  (with_unfolding_all refine' con_use (sep_law _ ?a1 ?a2 ?a3 ?a4 ?a5) ?B ?Xb ?Tb ?F ?N ?hf ?hke ?hd ?hu ?hro ?hpick ?hoff ?hup ?_);
  walk_at "m use"; (case a1 => assumption); (case a2 => assumption); (case a3 => assumption); (case a4 => assumption); (case a5 => assumption); k_whole;
  intro x9 h9 tk9 hP8 F9 N9 hne8; obtain ⟨R8, E8, dE8, D8, t8, n8, od8, G8, gl8⟩ := x9; replace N9 := news_gl N9; (try dsimp only [List.cons_append, List.nil_append] at N9); (try dsimp only at hP8 hne8); obtain ⟨hT8, lo8, hG8⟩ := hP8; (try dsimp only); (try k_sweep); (try k_fold); walk_say "CONTRACT sep")))
local macro_rules | `(tactic| walk_at "binaryOp Add ref ref") => loose `(tactic| (k_here; (with_reducible show wpAny _ _ (binaryOp Operator.Add (Value.ref _) (Value.ref _)) _ _ _); k_dflt (refine' cat_lists ?clF ?clN ?cla ?clb ?clz ?_; (case clF => k_asm); (case clN => k_asm); (case cla => k_mem); (case clb => k_mem); (case clz => (simp only [List.length_append, List.length_cons, List.length_nil]; omega)); k_whole); intro D' h' F' N' l1; (try k_lt l1); (try k_sweep)))
local macro_rules | `(tactic| walk_at "compareOp NotIn str ref") => `(tactic| (k_here; k_dflt (refine' notin_strs ?niN ?nim ?nih ?nie ?_; (case niN => k_asm); (case nim => k_mem); (case nih => assumption); (case nie => assumption); k_whole)))
local macro_rules | `(tactic| walk_at "compareOp NotEq ref ref") => `(tactic| (k_here; (with_reducible show wpAny _ _ (compareOp CmpOp.NotEq (Value.ref _) (Value.ref _)) _ _ _); k_dflt (refine' ne_strs ?neN ?nea ?neb ?nei ?nej ?nel ?neu ?_; (case neN => k_asm); (case nea => k_mem); (case neb => k_mem); (case nei => assumption); (case nej => assumption); (case nel => assumption); (case neu => walk_at "m num"); k_whole)))
local macro_rules | `(tactic| walk_at "call type:list") => loose `(tactic| (k_here; (with_reducible show wpAny _ _ (call (Value.type "list") [Value.ref _]) _ _ _); k_dflt (
  (with_unfolding_all refine' list_exact (od := od8) ?leB ?leX ?leT ?leF ?leN ?lef ?lek ?led ?leu ?le1 ?le2 ?le3 ?leD ?leo ?lez ?lep ?_);
  (case leB => k_asm); (case leX => k_asm); (case leT => k_asm); (case leF => k_asm); (case leN => k_asm); (case lef => rfl); (case lek => rfl); (case led => walk_at "m num"); (case leu => walk_at "m num"); (case le1 => k_memK); (case le2 => k_memK); (case le3 => k_memK); (case leD => assumption); (case leo => assumption); (case lez => assumption); (case lep => assumption); k_whole;
  intro h8 g8 tk8 a8 vs8 ep8 F8 N8 hS8 hne9 hB8; (try dsimp only); (try k_sweep); (try k_fold); walk_say "LIST exact")))

section
local macro_rules | `(tactic| walk_at "execs cons") => `(tactic| (k_here; (with_reducible show wpAny _ _ (execs (PySem.Stmt.For _ _ _ _ _ :: _) _) _ _ _); refine stop_in ?_))
theorem law_tail2 {w : World} {s : Shared} {h₀ : Heap} {L : Addr} {m : Str → Option Value} {Q : Flow → Shared → Prop} {p : Program} {loose : List Str} {mean : ExcName → Option Value} {mg mb : Str → Option Value}
    {name qual : Str} {params : Arguments} {body : List Stmt} {scope : Scope} {dV kV doc pm cdv ct oc : Value} {an od : Option Addr} {osl : Array (Option Value)} {fa : Addr} {cd : Value}
    (ho : (Mine.hd.heap_39 w.params).lookup 322 = some ⟨oc, od, .func (fnOf name qual params body scope dV kV doc pm an cdv ct), osl⟩)
    {tx pa : Addr} {ys pv : List Value} {nt pe : Nat} {sts : List (List Int)} {pn : List Int}
    (K0 : Below callerA h₀ [] h₀) (X0 : (Mine.hd.heap_39 w.params).In h₀) (T0 : Top p loose mean mg mb h₀)
    (F9 : Fr h₀ L s.heap (fun z => if z = Str.ofString "starred" then some (.bool (pn.any starK)) else if z = Str.ofString "texts" then some (.ref tx) else if z = Str.ofString "pattern" then some (.ref pa) else m z))
    (N9 : News h₀ L s.heap ((tx, listOf ys.toArray nt) :: (pa, listOf pv.toArray pe) :: []))
    (hI : IntsAre pv pn) (h4 : pn.length ≤ 4) (h7 : ∀ k ∈ pn, 0 ≤ k ∧ k < 7) (hy : StrsAre ys (sts.map wr))
    (hstp : ∀ s ∈ sts, s.length ≤ 4 ∧ ∀ k ∈ s, k = 0 ∨ k = 1 ∨ k = 2 ∨ k = 3 ∨ k = 6) (hi5 : sts.length < 5) (hg : s.gens = #[])
    (hend : ∀ h' g' tk' m', Fr h₀ L h' m' → AllBare g' → Q (.ret (.bool true)) { s with heap := h', gens := g', toks := tk' }) :
    wpAny (model PySem.Challenge.rw_ez0048_01.row.prog w) (callerA.deeper (envOfC qual scope L fa cd)) (execs (body.drop 8) (envOfC qual scope L fa cd)) Q (fun _ _ => False) s := by
  have ho2 := ho
  cases ho
  dsimp only [List.drop]
  have hyl : ys.length = sts.length := by rw [strsAre_len hy, List.length_map]
  have hns : ∀ r ∈ sts, r.any starK = false := fun r hr => lit_nostar (hstp r hr).2
  rcases hst : pn.any starK with _ | _
  all_goals (
    rw [hst] at F9
    k_steps
    refine ⟨?_⟩
    rename Fr _ _ _ _ => F7
    rename News _ _ _ _ => N7
    rename _ < _ ∧ _ < _ ∧ _ < _ ∧ _ < _ ∧ _ < _ ∧ _ < _ ∧ _ < _ ∧ _ < _ ∧ _ < _ ∧ _ => l5
    obtain ⟨_, q2, q3, q4, _, _, _, q8, q9, q10⟩ := l5
    have hT9 := hT8
    rw [exOf_law hns] at hT9
    refine law_tail3 (G := G8) (gl := gl8) ho2 K0 X0 T0 (by rw [hst]; exact F7) (news_ten N7) q2 q3 q4 q8 q9 q10 hT9 lo8 hI h4 h7 hy hi5 hg fun P2 zs nz h' tk' m' F N hZ => ?_
    refine law_tail4 (G := G8) (gl := gl8) ho2 K0 X0 T0 F N hT9 lo8 hZ (lawXs_len pn hi5) (lawXs_pos sts pn) lawXs_ok ?hG hI h4 h7 (.of_eq hg) hend
    (case hG =>
      rw [wiOf_law hns, hst] at hG8
      first
        | exact .inl ⟨hst, hG8.elim (fun h => h.2) (fun h => absurd rfl h.1)⟩
        | exact .inr ⟨hst, hG8.elim (fun h => nomatch h.1) (fun h => h.2)⟩))
end

end
section
local macro_rules | `(tactic| walk_at "slice1") => `(tactic| (
  k_here; (with_reducible show wpAny _ _ (subscriptTail _ (PySem.Expr.Slice (some _) none none _) (Value.ref _) (Value.ref _)) _ _ _); k_dflt (
  (refine' slice1 ?F ?N ?t ?v ?_ ?s ?g; (case F => k_asm); (case N => k_asm); (case t => k_mem); (case v => omega); (case s => with_unfolding_all rfl); (case g => (intro _; with_unfolding_all rfl))); k_whole); intro D' h' F' N' l1; (try k_lt l1); (try k_sweep)))
local macro_rules | `(tactic| walk_at "subscriptTail Name Slice ref ref") => `(tactic| walk_at "slice1")
local macro_rules | `(tactic| walk_at "subscriptTail Call Slice ref ref") => `(tactic| walk_at "slice1")
local macro_rules | `(tactic| walk_at "m cut") => loose `(tactic| first | (obtain ⟨_, hne9⟩ := hne9; walk_at "m cut") | skip)
local macro_rules | `(tactic| walk_at "call ref") => loose `(tactic| (
  k_here; (with_reducible show wpAny _ _ (call (Value.ref 198) _ _) _ _ _); k_dflt (
  (with_unfolding_all refine' con_use (path_con _ ?a1 ?a2) ?B ?Xb ?Tb ?F ?N ?hf ?hke ?hd ?hu ?hro ?hpick ?hoff ?hup ?_);
  walk_at "m use"; (case a1 => assumption); (case a2 => assumption); k_whole;
  intro x9 h9 tk9 hP9 F9 N9 hne9; obtain ⟨a9, vs9, tups9⟩ := x9; replace N9 := news_swap N9; (try dsimp only [List.cons_append, List.nil_append] at N9); (try dsimp only at hP9); (have hl9 : vs9.length ≤ 4 := by rw [hP9.length]; assumption); (rw [NeAll] at hne9); (simp only [neAll_consL, neAll_nil_iff, NeOne, and_true, and_assoc] at hne9); walk_at "m cut"; (try dsimp only); (try k_sweep); (try k_fold); walk_say "CONTRACT path")))

local macro_rules | `(tactic| walk_at "call ref") => loose `(tactic| (
  k_here; (with_reducible show wpAny _ _ (call (Value.ref 286) _ _) _ _ _);
  k_dflt (
  (with_unfolding_all refine' con_use (next_con _ ?a1 ?a2 ?a3 ?a4 ?a5 ?a6 ?a7) ?B ?Xb ?Tb ?F ?N ?hf ?hke ?hd ?hu ?hro ?hpick ?hoff ?hup ?_);
  walk_at "m use"; (case a6 => assumption); (case a1 => omega); (case a2 => omega); (case a3 => omega); (case a4 => omega); (case a5 => omega); (case a7 => omega); k_whole;
  intro x9 h9 tk9 hP9 F9 N9 hne9; obtain ⟨r9, u9, v9⟩ := x9; (try dsimp only [List.cons_append, List.nil_append] at N9); (try dsimp only at hP9); obtain ⟨lo9, hi9⟩ := hP9; clear hne9; (try dsimp only); (try k_sweep); (try k_fold); walk_say "CONTRACT next")))
local macro_rules | `(tactic| walk_at "call ref") => loose `(tactic| (
  k_here; (with_reducible show wpAny _ _ (call (Value.ref 291) [_, Value.int 7 _] _) _ _ _);
  k_dflt (
  (with_unfolding_all refine' con_use (row_con _ ?a1 ?a2 ?a3 ?a4 ?a5 ?a6 ?a7) ?B ?Xb ?Tb ?F ?N ?hf ?hke ?hd ?hu ?hro ?hpick ?hoff ?hup ?_);
  walk_at "m use"; (case a6 => assumption); (case a1 => omega); (case a2 => omega); (case a3 => omega); (case a4 => omega); (case a5 => omega); (case a7 => k_ne); k_whole;
  intro x9 h9 tk9 hP9 F9 N9 hne9; obtain ⟨i9, u9, pa9, pe9, pv9, pn9⟩ := x9; (try dsimp only [List.cons_append, List.nil_append] at N9); (try dsimp only at hP9); obtain ⟨lo9, hi9, hI9, hl9, hb9⟩ := hP9; (simp only [NeAll, NeOne, and_true, and_assoc] at hne9); (try dsimp only); (try k_sweep); (try k_fold); walk_say "CONTRACT row")))
local macro_rules | `(tactic| walk_at "call ref") => loose `(tactic| (
  k_here; (with_reducible show wpAny _ _ (call (Value.ref 291) [_, Value.int 5 _] _) _ _ _);
  k_dflt (
  (with_unfolding_all refine' con_use (row_con _ ?a1 ?a2 ?a3 ?a4 ?a5 ?a6 ?a7) ?B ?Xb ?Tb ?F ?N ?hf ?hke ?hd ?hu ?hro ?hpick ?hoff ?hup ?_);
  walk_at "m use"; (case a6 => assumption); (case a1 => omega); (case a2 => omega); (case a3 => omega); (case a4 => omega); (case a5 => omega); (case a7 => k_ne); k_whole;
  intro x9 h9 tk9 hP9 F9 N9 hne8; obtain ⟨i8, u8, ra8, re8, rv8, rn8⟩ := x9; (try dsimp only [List.cons_append, List.nil_append] at N9); (try dsimp only at hP9); obtain ⟨lo8, hi8, hI8, hl8, hb8⟩ := hP9; (simp only [NeAll, NeOne, and_true, and_assoc] at hne8); (try dsimp only); (try k_sweep); (try k_fold); walk_say "CONTRACT row")))
local macro_rules | `(tactic| walk_at "call ref") => `(tactic| (
  k_here; (with_reducible show wpAny _ _ (call (Value.ref 296) _ _) _ _ _);
  k_dflt (
  (with_unfolding_all refine' con_use (written_con _ ?a1 ?a2 ?a3) ?B ?Xb ?Tb ?F ?N ?hf ?hke ?hd ?hu ?hro ?hpick ?hoff ?hup ?_);
  walk_at "m use"; (case a1 => assumption); (case a2 => assumption); (case a3 => assumption); k_whole;
  intro x9 h9 tk9 hP9 F9 N9 hne9; (try dsimp only [List.cons_append, List.nil_append] at N9); clear hne9; (try dsimp only); (try k_sweep); (try k_fold); walk_say "CONTRACT written")))
local macro_rules | `(tactic| walk_at "m num") => `(tactic| ((try simp only [depth_mark, depth_under_make, depth_under_kw, depth_in1, depth_deeper, depth_caller, units_deeper, units_in1, units_under_make, Around.mark_units, units_caller]); (try dsimp only); first | decide | omega))
local macro_rules | `(tactic| walk_at "exec Assign") => `(tactic| (k_here; (with_reducible show wpAny _ _ (exec (PySem.Stmt.Assign [PySem.Expr.Name _ _] (PySem.Expr.ListComp _ _ _ _) _) _) _ _ _); refine stop_in ?_))
local macro_rules | `(tactic| walk_at "eval ListComp") => `(tactic| (k_here; refine stop_in ?_))
local macro_rules | `(tactic| walk_at "exec For") => `(tactic| (k_here; refine stop_in ?_))
local macro_rules | `(tactic| walk_at "exec For Name Call cons nil") => `(tactic| (k_here; refine stop_in ?_))
local macro_rules | `(tactic| walk_at "exec For Name Name cons nil") => `(tactic| (k_here; refine stop_in ?_))
local macro_rules | `(tactic| walk_at "exec For Name BinOp cons nil") => `(tactic| (k_here; refine stop_in ?_))
local macro_rules | `(tactic| walk_at "pyIter ref") => `(tactic| (k_here; refine stop_in ?_))
local macro_rules | `(tactic| walk_at "call type:range") => `(tactic| (k_here; k_dflt (refine' range1_rows ?F ?N ?_; (case F => k_asm); (case N => k_asm); k_whole); intro h' tk' t1' u1' v1' R' F' N' K'; (try k_sweep)))
local macro_rules | `(tactic| walk_at "m cutl") => loose `(tactic| first | (obtain ⟨_, l5⟩ := l5; walk_at "m cutl") | skip)
local macro_rules | `(tactic| walk_at "call ref") => loose `(tactic| (
  k_here; (with_reducible show wpAny _ _ (call (Value.ref 310) _ _) _ _ _);
  k_dflt (
  (with_unfolding_all refine' con_use (table_con _ ?a1 ?a2 ?a3 ?a4) ?B ?Xb ?Tb ?F ?N ?hf ?hke ?hd ?hu ?hro ?hpick ?hoff ?hup ?_);
  walk_at "m use"; (case a1 => assumption); (case a2 => assumption); (case a3 => assumption); (case a4 => assumption); k_whole;
  intro x9 h9 tk9 hP7 F9 N9 hne7; obtain ⟨Ta7, rs7, tn7, led7⟩ := x9; replace N9 := news_swap N9; (try dsimp only [List.cons_append, List.nil_append] at N9); (try dsimp only at hP7 hne7);
  (have hP6 := hP7); (have hrl7 : rs7.length = stp.length + 1 := by rw [hP7.length]; simp); (obtain ⟨c7, cw7, cn7, hrc7, hcm7, hcI7⟩ := hP7.at (rowsN_at (ps := pn9) (ts := stp) (Nat.lt_succ_self stp.length)));
  (have hmem7 : (toI (rowN pn9 stp stp.length)).any (· == (pn9.length : Int)) = segs false pn9 stp := (any_toI rfl).trans (law_match hpT));
  (have hlen7 : cw7.length = (rowN pn9 stp stp.length).length := by have := hcI7.length; rw [toI, List.length_map] at this; exact this);
  (have hcz7 : cw7.length ≤ 1000 := by rw [hlen7]; exact Nat.le_trans (rowN_len _ _ _) (Nat.le_trans (Nat.succ_le_succ (show pn9.length ≤ 4 by assumption)) (by decide)));
  (have hanc7 := law_anc (ps := pn9) hpT); (rw [← hlen7] at hanc7);
  (replace N9 := news_add (q := (c7, listOf cw7.toArray cn7)) N9 (by walk_at "m tail"));
  (try dsimp only); (try k_sweep); (try k_fold); walk_say "CONTRACT table")))
local macro_rules | `(tactic| walk_at "call ref") => `(tactic| (
  k_here; (with_reducible show wpAny _ _ (call (Value.ref 231) _ _) _ _ _); k_dflt (
  (with_unfolding_all refine' con_use (match_con _ ?a1 ?a2 ?a3 ?a4 ?a5) ?B ?Xb ?Tb ?F ?N ?hf ?hke ?hd ?hu ?hro ?hpick ?hoff ?hup ?_);
  (case a5 => assumption); walk_at "m use"; (case a1 => assumption); (case a2 => assumption); (case a3 => assumption); (case a4 => assumption); k_whole;
  intro x9 h9 tk9 hP7 F9 N9 hne7; clear hne7; (try dsimp only [List.cons_append, List.nil_append] at N9); (try dsimp only); (try k_sweep); (try k_fold); walk_say "CONTRACT match")))
local macro_rules | `(tactic| walk_at "call ref") => `(tactic| (
  k_here; (with_reducible show wpAny _ _ (call (Value.ref 238) _ _) _ _ _); k_dflt (
  (with_unfolding_all refine' con_use (anc_con _ ?a1 ?a2 ?a3 ?a4 ?a5) ?B ?Xb ?Tb ?F ?N ?hf ?hke ?hd ?hu ?hro ?hpick ?hoff ?hup ?_);
  (case a5 => assumption); walk_at "m use"; (case a1 => assumption); (case a2 => assumption); (case a3 => assumption); (case a4 => assumption); k_whole;
  intro x9 h9 tk9 hP7 F9 N9 hne7; clear hne7; (try dsimp only [List.cons_append, List.nil_append] at N9); (try dsimp only); (try k_sweep); (try k_fold); walk_say "CONTRACT anc")))
local macro_rules | `(tactic| walk_at "call ref") => `(tactic| (
  k_here; (with_reducible show wpAny _ _ (call (Value.ref 245) _ _) _ _ _); k_dflt (
  (with_unfolding_all refine' con_use (desc_con _ ?a1 ?a2 ?a3 ?a4 ?a5) ?B ?Xb ?Tb ?F ?N ?hf ?hke ?hd ?hu ?hro ?hpick ?hoff ?hup ?_);
  (case a5 => assumption); walk_at "m use"; (case a1 => assumption); (case a2 => assumption); (case a3 => assumption); (case a4 => assumption); k_whole;
  intro x9 h9 tk9 hP7 F9 N9 hne7; clear hne7; (try dsimp only [List.cons_append, List.nil_append] at N9); (try dsimp only); (try k_sweep); (try k_fold); walk_say "CONTRACT desc")))
local macro_rules | `(tactic| walk_at "call ref") => `(tactic| (
  k_here; (with_reducible show wpAny _ _ (call (Value.ref 210) _ _) _ _ _); k_dflt (
  (with_unfolding_all refine' con_use (wild_wrb _ ?a1 ?a2) ?B ?Xb ?Tb ?F ?N ?hf ?hke ?hd ?hu ?hro ?hpick ?hoff ?hup ?_);
  walk_at "m use"; (case a1 => assumption); (case a2 => assumption); k_whole;
  intro x9 h9 tk9 hP7 F9 N9 hne7; clear hne7; (try dsimp only [List.cons_append, List.nil_append] at N9); (try dsimp only); (try k_sweep); (try k_fold); walk_say "CONTRACT wild")))
local macro_rules | `(tactic| walk_at "compareOp In int ref") => `(tactic| (k_here; k_dflt (refine' in_ints ?N ?m ?i ?e ?_; (case N => k_asm); (case m => first | k_mem | walk_at "m tail"); (case i => assumption); (case e => assumption); k_whole)))
local macro_rules | `(tactic| walk_at "m back") => `(tactic| (k_here; (with_reducible show wpAny _ _ (subscriptTail _ _ (Value.ref _) (Value.int (-1) _)) _ _ _); k_dflt (refine' list_back ?N ?m ?v ?e ?z ?_ ?s ?g; (case N => k_asm); (case m => k_mem); (case v => assumption); (case e => assumption); (case z => omega); (case s => with_unfolding_all rfl); (case g => (intro _; with_unfolding_all rfl))); k_whole))
local macro_rules | `(tactic| walk_at "subscriptTail Name UnaryOp ref int") => `(tactic| walk_at "m back")
local macro_rules | `(tactic| walk_at "m offs") => `(tactic| ((try dsimp only); first | exact forall_nil | exact off_three (by assumption) (by assumption) (by assumption) | (refine List.forall_mem_cons.mpr (And.intro ?a ?b); (case a => k_all); (case b => walk_at "m offs"))))
local macro_rules | `(tactic| walk_at "m cuth") => loose `(tactic| first | (obtain ⟨_, hne⟩ := hne; walk_at "m cuth") | skip)
local macro_rules | `(tactic| k_ne) => `(tactic| (refine neN ?_; (try dsimp only); first | with_reducible assumption | (refine Ne.symm ?_; with_reducible assumption) | (refine Nat.ne_of_lt ?_; with_reducible assumption) | (refine Nat.ne_of_gt ?_; with_reducible assumption)))
local macro_rules | `(tactic| walk_at "m tail") => `(tactic| first | assumption | (refine List.mem_cons_of_mem _ ?_; walk_at "m tail") | (refine List.mem_append_left _ ?_; walk_at "m tail") | (refine List.mem_append_right _ ?_; walk_at "m tail"))
local macro_rules | `(tactic| walk_at "call builtin:len") => `(tactic| (k_here; (with_reducible show wpAny _ _ (call (Value.builtin "len") [Value.ref _]) _ _ _); k_dflt (refine' list_len ?N ?m ?z ?_; (case N => k_asm); (case m => k_mem); (case z => assumption); k_whole); intro t6 tk6))

theorem law_tail {w : World} {s : Shared} {h₀ : Heap} {L : Addr} {m : Str → Option Value} {Q : Flow → Shared → Prop} {p : Program} {loose : List Str} {mean : ExcName → Option Value} {mg mb : Str → Option Value}
    {name qual : Str} {params : Arguments} {body : List Stmt} {scope : Scope} {dV kV doc pm cdv ct oc : Value} {an od : Option Addr} {osl : Array (Option Value)} {fa : Addr} {cd : Value}
    (ho : (Mine.hd.heap_39 w.params).lookup 322 = some ⟨oc, od, .func (fnOf name qual params body scope dV kV doc pm an cdv ct), osl⟩)
    {rw pa : Addr} {rvals pv : List Value} {nr pe : Nat} {rled : List (Addr × Obj)} {sts : List (List Int)} {pn : List Int}
    (K0 : Below callerA h₀ [] h₀) (X0 : (Mine.hd.heap_39 w.params).In h₀) (T0 : Top p loose mean mg mb h₀)
    (F9 : Fr h₀ L s.heap (fun z => if z = Str.ofString "pattern" then some (.ref pa) else if z = Str.ofString "rows" then some (.ref rw) else m z))
    (N9 : News h₀ L s.heap ((rw, listOf rvals.toArray nr) :: (pa, listOf pv.toArray pe) :: rled))
    (hI : IntsAre pv pn) (h4 : pn.length ≤ 4) (h7 : ∀ k ∈ pn, 0 ≤ k ∧ k < 7)
    (hsts : StepsIn rled sts rvals) (hstp : ∀ s ∈ sts, s.length ≤ 4 ∧ ∀ k ∈ s, k = 0 ∨ k = 1 ∨ k = 2 ∨ k = 3 ∨ k = 6) (hi5 : sts.length < 5) (hg : s.gens = #[])
    (hend : ∀ h' g' tk' m', Fr h₀ L h' m' → AllBare g' → Q (.ret (.bool true)) { s with heap := h', gens := g', toks := tk' }) :
    wpAny (model PySem.Challenge.rw_ez0048_01.row.prog w) (callerA.deeper (envOfC qual scope L fa cd)) (execs (body.drop 6) (envOfC qual scope L fa cd)) Q (fun _ _ => False) s := by
  have ho2 := ho
  cases ho
  dsimp only [List.drop]
  have hsl := hsts.length
  refine wpAny_execs_cons ?_
  with_unfolding_all refine' comp_A (h₀ := h₀) ?hsw3 ?hclos3 ?hcell3 ?hkind3 ?hnames3 ?hx3 ?hy3 ?hp3 ?_
  (case hsw3 => with_unfolding_all rfl)
  (case hclos3 => with_unfolding_all rfl)
  (case hcell3 => decide)
  (case hkind3 => rfl)
  (case hnames3 => decide)
  (case hx3 => rfl)
  (case hy3 => rfl)
  (case hp3 => rfl)
  k_steps
  refine ⟨_, _, [rw], _, _, fun i' ys l => ∃ ss, StrsAre ys ss ∧ i' ≤ sts.length ∧ ss = (sts.take i').map wr ∧ l = (rw, listOf rvals.toArray nr) :: (pa, listOf pv.toArray pe) :: rled,
    iterOf_list rfl (News.isList N9 (by k_memK)), ?_, ?_, F9, N9, ?_, ?_, ?_, ?_⟩
  · rw [sizeLine_eq, List.size_toArray, hsl]; exact Nat.le_trans (Nat.le_of_lt hi5) (by decide)
  · rintro i' ys l ⟨ss, h1, h2, rfl, _⟩
    rw [strsAre_len h1, List.length_map, List.length_take]; exact Nat.min_eq_left h2
  · intro b hb
    rw [List.mem_singleton.mp hb]
    exact ⟨(N9 (rw, listOf rvals.toArray nr) (by k_memK)).2.1, .inr ⟨_, fun i ys l ⟨_, _, _, _, e⟩ => by rw [e]; k_memK⟩⟩
  · exact ⟨[], .nil, Nat.zero_le _, rfl, rfl⟩
  · rintro i' v ys l C oC mc D oD I oI h tk hi' hP ⟨ss, h1, h2, rfl, rfl⟩ hne hT hm F8 N8
    simp only [NeAll, NeOne, and_true, and_assoc] at hne
    walk_at "m cuth"
    have hP' : rvals[i']? = some v := by simpa using hP
    obtain ⟨a1, w1, r1, n1, rfl, hr1, hm1, hI1⟩ := hsts.at hP'
    have hlt' : i' < sts.length := (List.getElem?_eq_some_iff.mp hr1).1
    obtain ⟨hr4, hrl⟩ := hstp r1 (List.mem_of_getElem? hr1)
    have hr7 := lits_ok hrl
    replace N8 := news_add (q := (a1, listOf w1.toArray n1)) N8 (by walk_at "m tail")
    k_steps
    refine' eltM_ _ (by assumption) (by assumption) ?h3 ?hs ?ho ⟨_, strsAre_snoc h1, hlt', ?e2, rfl⟩
    (case hs => walk_at "m in")
    (case h3 => walk_at "m in")
    (case ho => walk_at "m offs")
    (case e2 => rw [take_snoc hr1, List.map_append]; rfl)
  · rintro D ep ys l h tk ⟨ss, h1, h2, rfl, rfl⟩ hne F8 N8
    rw [show rvals.toArray.size = sts.length by simp [hsl], List.take_length] at h1
    replace F8 : Fr h₀ L _ _ := F8
    replace N8 : News h₀ L _ _ := N8
    clear F9 N9 hne
    have N9 : News h₀ L h ((D, listOf ys.toArray ep) :: (pa, listOf pv.toArray pe) :: []) := fun q hq => N8 q (by simp only [List.mem_cons, List.not_mem_nil, or_false] at hq ⊢; rcases hq with h | h <;> simp [h])
    clear N8
    refine wpAny_execs_cons (wpAny_mono (Q := Now h₀ L (fun z => if z = Str.ofString "starred" then some (.bool (pn.any starK)) else if z = Str.ofString "texts" then some (.ref D) else if z = Str.ofString "pattern" then some (.ref pa) else if z = Str.ofString "rows" then some (.ref rw) else m z)
      ((D, listOf ys.toArray ep) :: (pa, listOf pv.toArray pe) :: []) { s with heap := h, toks := tk }) ?first (fun f s' hN => ?_) fun _ _ e => e)
    (case first =>
      have hst := any_star pn
      rcases hb4 : pn.any (· == 4) with _ | _ <;> rcases hb5 : pn.any (· == 5) with _ | _ <;> (rw [hb4, hb5] at hst; rw [hst]; k_steps)
      all_goals exact now_ (by assumption) (by assumption))
    obtain ⟨rfl, h', tk', rfl, F7, N7⟩ := hN
    exact law_tail2 ho2 K0 X0 T0 F7 N7 hI h4 h7 h1 hstp hi5 hg hend
theorem law_tail_use {w : World} {s : Shared} {h₀ : Heap} {L : Addr} {m : Str → Option Value} {Q : Flow → Shared → Prop} {E : Value → Shared → Prop} {p : Program} {loose : List Str} {mean : ExcName → Option Value} {mg mb : Str → Option Value}
    {name qual : Str} {params : Arguments} {body C : List Stmt} {env : Env} {scope : Scope} {dV kV doc pm cdv ct oc : Value} {an od : Option Addr} {osl : Array (Option Value)} {fa : Addr} {cd : Value}
    (ho : (Mine.hd.heap_39 w.params).lookup 322 = some ⟨oc, od, .func (fnOf name qual params body scope dV kV doc pm an cdv ct), osl⟩) (hC : C = body.drop 6) (he : env = envOfC qual scope L fa cd)
    {rw pa : Addr} {rvals pv : List Value} {nr pe : Nat} {rled : List (Addr × Obj)} {sts : List (List Int)} {pn : List Int}
    (K0 : Below callerA h₀ [] h₀) (X0 : (Mine.hd.heap_39 w.params).In h₀) (T0 : Top p loose mean mg mb h₀)
    (F9 : Fr h₀ L s.heap (fun z => if z = Str.ofString "pattern" then some (.ref pa) else if z = Str.ofString "rows" then some (.ref rw) else m z))
    (N9 : News h₀ L s.heap ((rw, listOf rvals.toArray nr) :: (pa, listOf pv.toArray pe) :: rled))
    (hI : IntsAre pv pn) (h4 : pn.length ≤ 4) (h7 : ∀ k ∈ pn, 0 ≤ k ∧ k < 7)
    (hsts : StepsIn rled sts rvals) (hstp : ∀ s ∈ sts, s.length ≤ 4 ∧ ∀ k ∈ s, k = 0 ∨ k = 1 ∨ k = 2 ∨ k = 3 ∨ k = 6) (hi5 : sts.length < 5) (hg : s.gens = #[])
    (hend : ∀ h' g' tk' m', Fr h₀ L h' m' → AllBare g' → Q (.ret (.bool true)) { s with heap := h', gens := g', toks := tk' }) :
    wpAny (model PySem.Challenge.rw_ez0048_01.row.prog w) (callerA.deeper env) (execs C env) Q E s := by
  subst hC he
  exact wpAny_mono (law_tail ho K0 X0 T0 F9 N9 hI h4 h7 hsts hstp hi5 hg hend) (fun _ _ h => h) fun _ _ h => h.elim
theorem news_end {h₀ h : Heap} {L : Addr} {q1 q2 q3 q4 q5 q6 q7 q8 : Addr × Obj} {r r' : List (Addr × Obj)} (N : News h₀ L h (q1 :: q2 :: q3 :: q4 :: q5 :: q6 :: q7 :: q8 :: (r ++ r'))) :
    News h₀ L h (q1 :: q4 :: r) := fun p hp => N p (by
  simp only [List.mem_cons, List.mem_append] at hp ⊢
  rcases hp with h | h | h <;> simp [h])

end
section
local macro_rules | `(tactic| walk_at "slice1") => `(tactic| (
  k_here; (with_reducible show wpAny _ _ (subscriptTail _ (PySem.Expr.Slice (some _) none none _) (Value.ref _) (Value.ref _)) _ _ _); k_dflt (
  (refine' slice1 ?F ?N ?t ?v ?_ ?s ?g; (case F => k_asm); (case N => k_asm); (case t => k_mem); (case v => omega); (case s => with_unfolding_all rfl); (case g => (intro _; with_unfolding_all rfl))); k_whole); intro D' h' F' N' l1; (try k_lt l1); (try k_sweep)))
local macro_rules | `(tactic| walk_at "subscriptTail Name Slice ref ref") => `(tactic| walk_at "slice1")
local macro_rules | `(tactic| walk_at "subscriptTail Call Slice ref ref") => `(tactic| walk_at "slice1")
local macro_rules | `(tactic| walk_at "m cut") => loose `(tactic| first | (obtain ⟨_, hne9⟩ := hne9; walk_at "m cut") | skip)
local macro_rules | `(tactic| walk_at "call ref") => loose `(tactic| (
  k_here; (with_reducible show wpAny _ _ (call (Value.ref 198) _ _) _ _ _); k_dflt (
  (with_unfolding_all refine' con_use (path_con _ ?a1 ?a2) ?B ?Xb ?Tb ?F ?N ?hf ?hke ?hd ?hu ?hro ?hpick ?hoff ?hup ?_);
  walk_at "m use"; (case a1 => assumption); (case a2 => assumption); k_whole;
  intro x9 h9 tk9 hP9 F9 N9 hne9; obtain ⟨a9, vs9, tups9⟩ := x9; replace N9 := news_swap N9; (try dsimp only [List.cons_append, List.nil_append] at N9); (try dsimp only at hP9); (have hl9 : vs9.length ≤ 4 := by rw [hP9.length]; assumption); (rw [NeAll] at hne9); (simp only [neAll_consL, neAll_nil_iff, NeOne, and_true, and_assoc] at hne9); walk_at "m cut"; (try dsimp only); (try k_sweep); (try k_fold); walk_say "CONTRACT path")))

local macro_rules | `(tactic| walk_at "call ref") => loose `(tactic| (
  k_here; (with_reducible show wpAny _ _ (call (Value.ref 286) _ _) _ _ _);
  k_dflt (
  (with_unfolding_all refine' con_use (next_con _ ?a1 ?a2 ?a3 ?a4 ?a5 ?a6 ?a7) ?B ?Xb ?Tb ?F ?N ?hf ?hke ?hd ?hu ?hro ?hpick ?hoff ?hup ?_);
  walk_at "m use"; (case a6 => assumption); (case a1 => omega); (case a2 => omega); (case a3 => omega); (case a4 => omega); (case a5 => omega); (case a7 => omega); k_whole;
  intro x9 h9 tk9 hP9 F9 N9 hne9; obtain ⟨r9, u9, v9⟩ := x9; (try dsimp only [List.cons_append, List.nil_append] at N9); (try dsimp only at hP9); obtain ⟨lo9, hi9⟩ := hP9; clear hne9; (try dsimp only); (try k_sweep); (try k_fold); walk_say "CONTRACT next")))
local macro_rules | `(tactic| walk_at "call ref") => loose `(tactic| (
  k_here; (with_reducible show wpAny _ _ (call (Value.ref 291) [_, Value.int 7 _] _) _ _ _);
  k_dflt (
  (with_unfolding_all refine' con_use (row_con _ ?a1 ?a2 ?a3 ?a4 ?a5 ?a6 ?a7) ?B ?Xb ?Tb ?F ?N ?hf ?hke ?hd ?hu ?hro ?hpick ?hoff ?hup ?_);
  walk_at "m use"; (case a6 => assumption); (case a1 => omega); (case a2 => omega); (case a3 => omega); (case a4 => omega); (case a5 => omega); (case a7 => k_ne); k_whole;
  intro x9 h9 tk9 hP9 F9 N9 hne9; obtain ⟨i9, u9, pa9, pe9, pv9, pn9⟩ := x9; (try dsimp only [List.cons_append, List.nil_append] at N9); (try dsimp only at hP9); obtain ⟨lo9, hi9, hI9, hl9, hb9⟩ := hP9; (simp only [NeAll, NeOne, and_true, and_assoc] at hne9); (try dsimp only); (try k_sweep); (try k_fold); walk_say "CONTRACT row")))
local macro_rules | `(tactic| walk_at "call ref") => loose `(tactic| (
  k_here; (with_reducible show wpAny _ _ (call (Value.ref 291) [_, Value.int 5 _] _) _ _ _);
  k_dflt (
  (with_unfolding_all refine' con_use (row_con _ ?a1 ?a2 ?a3 ?a4 ?a5 ?a6 ?a7) ?B ?Xb ?Tb ?F ?N ?hf ?hke ?hd ?hu ?hro ?hpick ?hoff ?hup ?_);
  walk_at "m use"; (case a6 => assumption); (case a1 => omega); (case a2 => omega); (case a3 => omega); (case a4 => omega); (case a5 => omega); (case a7 => k_ne); k_whole;
  intro x9 h9 tk9 hP9 F9 N9 hne8; obtain ⟨i8, u8, ra8, re8, rv8, rn8⟩ := x9; (try dsimp only [List.cons_append, List.nil_append] at N9); (try dsimp only at hP9); obtain ⟨lo8, hi8, hI8, hl8, hb8⟩ := hP9; (simp only [NeAll, NeOne, and_true, and_assoc] at hne8); (try dsimp only); (try k_sweep); (try k_fold); walk_say "CONTRACT row")))
local macro_rules | `(tactic| walk_at "call ref") => `(tactic| (
  k_here; (with_reducible show wpAny _ _ (call (Value.ref 296) _ _) _ _ _);
  k_dflt (
  (with_unfolding_all refine' con_use (written_con _ ?a1 ?a2 ?a3) ?B ?Xb ?Tb ?F ?N ?hf ?hke ?hd ?hu ?hro ?hpick ?hoff ?hup ?_);
  walk_at "m use"; (case a1 => assumption); (case a2 => assumption); (case a3 => assumption); k_whole;
  intro x9 h9 tk9 hP9 F9 N9 hne9; (try dsimp only [List.cons_append, List.nil_append] at N9); clear hne9; (try dsimp only); (try k_sweep); (try k_fold); walk_say "CONTRACT written")))
local macro_rules | `(tactic| walk_at "m num") => `(tactic| ((try simp only [depth_mark, depth_under_make, depth_under_kw, depth_in1, depth_deeper, depth_caller, units_deeper, units_in1, units_under_make, Around.mark_units, units_caller]); (try dsimp only); first | decide | omega))
local macro_rules | `(tactic| walk_at "exec Assign") => `(tactic| (k_here; (with_reducible show wpAny _ _ (exec (PySem.Stmt.Assign [PySem.Expr.Name _ _] (PySem.Expr.ListComp _ _ _ _) _) _) _ _ _); refine stop_in ?_))
local macro_rules | `(tactic| walk_at "eval ListComp") => `(tactic| (k_here; refine stop_in ?_))
local macro_rules | `(tactic| walk_at "exec For") => `(tactic| (k_here; refine stop_in ?_))
local macro_rules | `(tactic| walk_at "exec For Name Call cons nil") => `(tactic| (k_here; refine stop_in ?_))
local macro_rules | `(tactic| walk_at "exec For Name Name cons nil") => `(tactic| (k_here; refine stop_in ?_))
local macro_rules | `(tactic| walk_at "exec For Name BinOp cons nil") => `(tactic| (k_here; refine stop_in ?_))
local macro_rules | `(tactic| walk_at "pyIter ref") => `(tactic| (k_here; refine stop_in ?_))
local macro_rules | `(tactic| walk_at "call type:range") => `(tactic| (k_here; k_dflt (refine' range1_rows ?F ?N ?_; (case F => k_asm); (case N => k_asm); k_whole); intro h' tk' t1' u1' v1' R' F' N' K'; (try k_sweep)))
local macro_rules | `(tactic| walk_at "m cutl") => loose `(tactic| first | (obtain ⟨_, l5⟩ := l5; walk_at "m cutl") | skip)
local macro_rules | `(tactic| walk_at "call ref") => loose `(tactic| (
  k_here; (with_reducible show wpAny _ _ (call (Value.ref 310) _ _) _ _ _);
  k_dflt (
  (with_unfolding_all refine' con_use (table_con _ ?a1 ?a2 ?a3 ?a4) ?B ?Xb ?Tb ?F ?N ?hf ?hke ?hd ?hu ?hro ?hpick ?hoff ?hup ?_);
  walk_at "m use"; (case a1 => assumption); (case a2 => assumption); (case a3 => assumption); (case a4 => assumption); k_whole;
  intro x9 h9 tk9 hP7 F9 N9 hne7; obtain ⟨Ta7, rs7, tn7, led7⟩ := x9; replace N9 := news_swap N9; (try dsimp only [List.cons_append, List.nil_append] at N9); (try dsimp only at hP7 hne7);
  (have hP6 := hP7); (have hrl7 : rs7.length = stp.length + 1 := by rw [hP7.length]; simp); (obtain ⟨c7, cw7, cn7, hrc7, hcm7, hcI7⟩ := hP7.at (rowsN_at (ps := pn9) (ts := stp) (Nat.lt_succ_self stp.length)));
  (have hmem7 : (toI (rowN pn9 stp stp.length)).any (· == (pn9.length : Int)) = segs false pn9 stp := (any_toI rfl).trans (law_match hpT));
  (have hlen7 : cw7.length = (rowN pn9 stp stp.length).length := by have := hcI7.length; rw [toI, List.length_map] at this; exact this);
  (have hcz7 : cw7.length ≤ 1000 := by rw [hlen7]; exact Nat.le_trans (rowN_len _ _ _) (Nat.le_trans (Nat.succ_le_succ (show pn9.length ≤ 4 by assumption)) (by decide)));
  (have hanc7 := law_anc (ps := pn9) hpT); (rw [← hlen7] at hanc7);
  (replace N9 := news_add (q := (c7, listOf cw7.toArray cn7)) N9 (by walk_at "m tail"));
  (try dsimp only); (try k_sweep); (try k_fold); walk_say "CONTRACT table")))
local macro_rules | `(tactic| walk_at "call ref") => `(tactic| (
  k_here; (with_reducible show wpAny _ _ (call (Value.ref 231) _ _) _ _ _); k_dflt (
  (with_unfolding_all refine' con_use (match_con _ ?a1 ?a2 ?a3 ?a4 ?a5) ?B ?Xb ?Tb ?F ?N ?hf ?hke ?hd ?hu ?hro ?hpick ?hoff ?hup ?_);
  (case a5 => assumption); walk_at "m use"; (case a1 => assumption); (case a2 => assumption); (case a3 => assumption); (case a4 => assumption); k_whole;
  intro x9 h9 tk9 hP7 F9 N9 hne7; clear hne7; (try dsimp only [List.cons_append, List.nil_append] at N9); (try dsimp only); (try k_sweep); (try k_fold); walk_say "CONTRACT match")))
local macro_rules | `(tactic| walk_at "call ref") => `(tactic| (
  k_here; (with_reducible show wpAny _ _ (call (Value.ref 238) _ _) _ _ _); k_dflt (
  (with_unfolding_all refine' con_use (anc_con _ ?a1 ?a2 ?a3 ?a4 ?a5) ?B ?Xb ?Tb ?F ?N ?hf ?hke ?hd ?hu ?hro ?hpick ?hoff ?hup ?_);
  (case a5 => assumption); walk_at "m use"; (case a1 => assumption); (case a2 => assumption); (case a3 => assumption); (case a4 => assumption); k_whole;
  intro x9 h9 tk9 hP7 F9 N9 hne7; clear hne7; (try dsimp only [List.cons_append, List.nil_append] at N9); (try dsimp only); (try k_sweep); (try k_fold); walk_say "CONTRACT anc")))
local macro_rules | `(tactic| walk_at "call ref") => `(tactic| (
  k_here; (with_reducible show wpAny _ _ (call (Value.ref 245) _ _) _ _ _); k_dflt (
  (with_unfolding_all refine' con_use (desc_con _ ?a1 ?a2 ?a3 ?a4 ?a5) ?B ?Xb ?Tb ?F ?N ?hf ?hke ?hd ?hu ?hro ?hpick ?hoff ?hup ?_);
  (case a5 => assumption); walk_at "m use"; (case a1 => assumption); (case a2 => assumption); (case a3 => assumption); (case a4 => assumption); k_whole;
  intro x9 h9 tk9 hP7 F9 N9 hne7; clear hne7; (try dsimp only [List.cons_append, List.nil_append] at N9); (try dsimp only); (try k_sweep); (try k_fold); walk_say "CONTRACT desc")))
local macro_rules | `(tactic| walk_at "call ref") => `(tactic| (
  k_here; (with_reducible show wpAny _ _ (call (Value.ref 210) _ _) _ _ _); k_dflt (
  (with_unfolding_all refine' con_use (wild_wrb _ ?a1 ?a2) ?B ?Xb ?Tb ?F ?N ?hf ?hke ?hd ?hu ?hro ?hpick ?hoff ?hup ?_);
  walk_at "m use"; (case a1 => assumption); (case a2 => assumption); k_whole;
  intro x9 h9 tk9 hP7 F9 N9 hne7; clear hne7; (try dsimp only [List.cons_append, List.nil_append] at N9); (try dsimp only); (try k_sweep); (try k_fold); walk_say "CONTRACT wild")))
local macro_rules | `(tactic| walk_at "compareOp In int ref") => `(tactic| (k_here; k_dflt (refine' in_ints ?N ?m ?i ?e ?_; (case N => k_asm); (case m => first | k_mem | walk_at "m tail"); (case i => assumption); (case e => assumption); k_whole)))
local macro_rules | `(tactic| walk_at "m back") => `(tactic| (k_here; (with_reducible show wpAny _ _ (subscriptTail _ _ (Value.ref _) (Value.int (-1) _)) _ _ _); k_dflt (refine' list_back ?N ?m ?v ?e ?z ?_ ?s ?g; (case N => k_asm); (case m => k_mem); (case v => assumption); (case e => assumption); (case z => omega); (case s => with_unfolding_all rfl); (case g => (intro _; with_unfolding_all rfl))); k_whole))
local macro_rules | `(tactic| walk_at "subscriptTail Name UnaryOp ref int") => `(tactic| walk_at "m back")
local macro_rules | `(tactic| walk_at "m offs") => `(tactic| ((try dsimp only); first | exact forall_nil | exact off_three (by assumption) (by assumption) (by assumption) | (refine List.forall_mem_cons.mpr (And.intro ?a ?b); (case a => k_all); (case b => walk_at "m offs"))))
local macro_rules | `(tactic| walk_at "m cuth") => loose `(tactic| first | (obtain ⟨_, hne⟩ := hne; walk_at "m cuth") | skip)
local macro_rules | `(tactic| k_ne) => `(tactic| (refine neN ?_; (try dsimp only); first | with_reducible assumption | (refine Ne.symm ?_; with_reducible assumption) | (refine Nat.ne_of_lt ?_; with_reducible assumption) | (refine Nat.ne_of_gt ?_; with_reducible assumption)))
local macro_rules | `(tactic| walk_at "m tail") => `(tactic| first | assumption | (refine List.mem_cons_of_mem _ ?_; walk_at "m tail") | (refine List.mem_append_left _ ?_; walk_at "m tail") | (refine List.mem_append_right _ ?_; walk_at "m tail"))
local macro_rules | `(tactic| walk_at "call builtin:len") => `(tactic| (k_here; (with_reducible show wpAny _ _ (call (Value.builtin "len") [Value.ref _]) _ _ _); k_dflt (refine' list_len ?N ?m ?z ?_; (case N => k_asm); (case m => k_mem); (case z => assumption); k_whole); intro t6 tk6))

-- the law's call, its end with generators left bare
local macro_rules | `(tactic| walk_at "m go0") => `(tactic| (
  k_fill;
  intro w s₀ s₁ mg mb G Y fa o pm cd doc dV kV ho hd hcd hD hmg hg args vals as hpre hlay hrd hwl hlo;
  have KX := kIn_of Y;
  have X := (Ground.X G).1;
  have V := (Ground.X G).2;
  (try w_nolog (first | (have GL := glob_more (Ground.glob G (by first | k_qdec | decide +kernel) (by first | k_qdec | decide +kernel)) V) | (have GL := glob_more (Ground.glob G (by decide +kernel) (by decide +kernel)) V)));
  refine Ground.open G ?_;
  intro T B D TE TW;
  (try (refine guard_noD D (by decide +kernel) ?_; clear D));
  obtain ⟨_, _, M⟩ := bmod_of_top T;
  have TA := at_of_top T;
  (try (obtain ⟨_, _, he, B0⟩ := based_of_top T rfl hmg ho hd; have he' : cd = _ := he; subst he'; clear he));
  clear hmg;
  wrow_args hpre hlay hrd hwl hlo;
  all_goals (
    (first | refine callC_kw (enter_call ?_) | refine enter_call ?_ | refine callC_kw (enter_callW ?_) | refine enter_callW ?_ | w_how);
    w_top on;
    have K0 := below_caller (Top.heap T);
    w_call any ho hd hcd hD T F;
    clear hd TA;
    k_drop;
    skip)))

theorem law_holds : PySem.Challenge.rw_ez0048_01.Holds := Mine.hd (by
  walk_at "m go0"
  all_goals try k_fold
  k_steps
  refine ⟨?_⟩
  rename Fr _ _ _ _ => F6
  with_unfolding_all refine' For_invV (frBase F6) ?k1 ?k2 ?_
  (case k1 => rfl)
  (case k2 => rfl)
  dsimp only [frBase]
  k_steps
  refine ⟨?_⟩
  rename World => w0
  rename IsRange _ _ _ _ _ _ _ _ => R7
  rename Fr _ _ _ _ => F7
  rename News _ _ _ _ => N7
  rename _ = Data.cell (some (Value.int _ _)) => hcell
  rename IntsAre _ (List.take 60 _) => hIs
  rename (List.take 60 _).length = min 60 _ => hls
  replace N7 := news_law N7
  refine loop_M (LawJ w0 pa9 pv9 pe9 pn9 vs9 tups9 (frLoc F7))
    (iterOf_range (n := r9.toNat) rfl R7 (small_one (by omega) (by omega) (by omega) (by omega)) (by rw [rangeSize_nat]; congr 1; omega)) F7 N7 (fun _ h => nomatch h) ?_ ?_ ?_
  · unfold LawJ
    refine ⟨_, _, _, _, _, _, _, _, _, _, _, _, _, _, _, _, [], _, [], [], ⟨by with_unfolding_all rfl, by with_unfolding_all rfl, by with_unfolding_all rfl, by with_unfolding_all rfl⟩, rfl, hIs, by omega, hcell, .nil, fun _ h => (nomatch h), rfl, by omega, by omega, ⟨?_, ?_, ?_, ?_, ?_, ?_, ?_, ?_⟩, ⟨?_, ?_, ?_, ?_, ?_, ?_, ?_⟩⟩
    all_goals (try dsimp only [frLoc, List.nil_append])
    all_goals first | k_ne | walk_at "m ne" | (refine neN ?_; omega) | (rename _ < _ ∧ _ => l5; walk_at "m cutl"; exact allLt_neOne l5)
  · rintro i v m₂ l₂ I oI h₂ tk₂ hi ⟨t11, rfl⟩ hJ hneI F9 N9
    have hi5 : i < 5 := Nat.lt_of_lt_of_le hi (Int.toNat_le.mpr (Int.le_of_lt hi9))
    with_unfolding_all refine' law_turn_use ?lto ?ltC ?lte ?lt1 ?lt2 ?lt3 ?lt4 ?lt5 ?lt6 ?lt7 ?lt8 hi5 hJ hneI F9 N9
    (case lto => k_is)
    (case ltC => exact rfl)
    (case lte => exact rfl)
    (case lt1 => assumption)
    (case lt2 => assumption)
    (case lt3 => assumption)
    (case lt4 => assumption)
    (case lt5 => assumption)
    (case lt6 => assumption)
    (case lt7 => assumption)
    (case lt8 => assumption)
  · rintro m₂ l₂ h₂ tk₂ ⟨st, x, rw, sc, d, pt, iS, uS, ws, wn, t1, t3, tx, n, oc, ct, rvals, nr, rled, sts, ⟨f1, f2, f3, f4⟩, rfl, hws, hwl, hoc, hsts, hstp, hsl, hi0, hi1, ⟨r1, r2, r3, r4, r5, r6, r7, r8⟩, ⟨s1, s2, s3, s4, s5, s6, s7⟩⟩ F9 N9
    have hi5 : sts.length < 5 := by rw [hsl]; exact Int.toNat_lt (by omega) |>.mpr hi9
    have hm := with_cons f2 (with_cons f4 rfl)
    rw [hm] at F9
    replace F9 : Fr (frBase F7) (frLoc F7) _ _ := F9
    replace N9 : News (frBase F7) (frLoc F7) _ _ := N9
    dsimp only [frBase, frLoc] at F9 N9
    with_unfolding_all refine' law_tail_use ?lto ?ltC ?lte ?lt1 ?lt2 ?lt3 F9 (news_end N9) ?lt4 ?lt5 ?lt6 hsts hstp hi5 ?lt7 ?_
    (case lto => k_is)
    (case ltC => exact rfl)
    (case lte => exact rfl)
    (case lt1 => assumption)
    (case lt2 => assumption)
    (case lt3 => assumption)
    (case lt4 => assumption)
    (case lt5 => assumption)
    (case lt6 => assumption)
    (case lt7 => assumption)
    clear F9 N9 N7
    intro h8 g8 tk8 m8 F8 hB8
    k_steps
    refine ⟨.inl ⟨.bool true, _, [], rfl, raisesW_false ?wn, .bool true, ?wp, fun _ => ⟨List.nodup_nil, fun _ h => nomatch h⟩⟩, .of_keep F8.keep, rfl, hB8⟩
    (case wn => wrow_none_raised)
    (case wp => wrow_post))

end
end Mine
theorem PySem.Challenge.cw_ez0048_01_holds : PySem.Challenge.rw_ez0048_01.Holds := by
  exact Mine.law_holds
