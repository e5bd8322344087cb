import PyProof.Rows.All
import Wide.All
import OpenK.AllK
import Wide.FinOn
import PyProof.FactsBase
import PyProof.TableTree
import PyProof.FactsTree
import PyProof.PlainAttrs
import PySem.Challenge.RW_wn0029_01
set_option Elab.async false
set_option compiler.extract_closed false

section
open PySem PySem.W PyProof.Rows
namespace Mine
set_option maxRecDepth 100000 in
set_option maxHeartbeats 8000000 in
open_top hd for PySem.Challenge.rw_wn0029_01
end Mine
end

section
open PySem PySem.W PyProof.Rows
namespace Mine
/-- a text of the code points -/
noncomputable def S (l : List Nat) : Str := ⟨l.toArray⟩
theorem S_list (l : List Nat) : (S l).cps.toList = l := by simp [S]
theorem S_of (x : Str) : S x.cps.toList = x := by simp [S]
theorem S_inj {a b : List Nat} (h : S a = S b) : a = b := by rw [← S_list a, h, S_list]
theorem S_append (a b : List Nat) : S a ++ S b = S (a ++ b) := Str.ext' (Array.toList_inj.mp (by rw [Str.cps_append, Array.toList_append, S_list, S_list, S_list]))
theorem S_length (l : List Nat) : (S l).length = l.length := by show (S l).cps.size = _; simp [S]
theorem str_eq {x y : Str} (h : x.cps.toList = y.cps.toList) : x = y := by rw [← S_of x, h, S_of]

/-- each c is put as z -/
noncomputable def put (c : Nat) (z : List Nat) (l : List Nat) : List Nat := l.flatMap fun a => if a = c then z else [a]
theorem put_append (c : Nat) (z a b : List Nat) : put c z (a ++ b) = put c z a ++ put c z b := by simp [put]
theorem put_free (c : Nat) (z : List Nat) : ∀ l : List Nat, c ∉ l → put c z l = l
  | [], _ => rfl
  | a :: r, h => by
    have h1 : ¬ a = c := fun e => h (e ▸ List.mem_cons_self ..)
    have h2 : c ∉ r := fun m => h (List.mem_cons_of_mem _ m)
    have := put_free c z r h2
    unfold put at *
    simp [h1, this]
theorem put_join (c : Nat) (z : Str) : ∀ parts : List Str, (∀ p ∈ parts, c ∉ p.cps.toList) → put c z.cps.toList (Str.join ⟨#[c]⟩ parts).cps.toList = (Str.join z parts).cps.toList
  | [], _ => rfl
  | [p], h => put_free c _ _ (h p (List.mem_singleton.mpr rfl))
  | p :: q :: r, h => by
    have ih := put_join c z (q :: r) fun a ha => h a (List.mem_cons_of_mem _ ha)
    show put c z.cps.toList (p ++ ⟨#[c]⟩ ++ Str.join ⟨#[c]⟩ (q :: r)).cps.toList = (p ++ z ++ Str.join z (q :: r)).cps.toList
    simp only [Str.cps_append, Array.toList_append]
    rw [put_append, put_append, ih, put_free c _ _ (h p (List.mem_cons_self ..))]
    congr 2
    simp [put]
theorem replace_put (x z : Str) (c : Nat) : (Txt.replace x ⟨#[c]⟩ z).cps.toList = put c z.cps.toList x.cps.toList := by
  rw [StrLaws.replace_one, ← put_join c z _ (StrLaws.split_free x c), StrLaws.join_split]
theorem put_length (c : Nat) (z : List Nat) : ∀ l : List Nat, (put c z l).length ≤ l.length * (1 + z.length)
  | [] => by simp [put]
  | a :: r => by
    have ih := put_length c z r
    have e : put c z (a :: r) = (if a = c then z else [a]) ++ put c z r := by simp [put]
    have h1 : (if a = c then z else [a]).length ≤ 1 + z.length := by split <;> simp <;> omega
    rw [e, List.length_append, List.length_cons, Nat.succ_mul]
    omega
theorem replace_S (l : List Nat) (z : List Nat) (c : Nat) : Txt.replace (S l) ⟨#[c]⟩ (S z) = S (put c z l) := str_eq (by rw [replace_put, S_list, S_list, S_list])
theorem lit0 : Str.ofString "" = S [] := by decide +kernel
end Mine
end

section
set_option maxRecDepth 100000
open PySem PySem.W PySem.Calls PyProof.Rows
namespace Mine
/-- a def's end: all that stood at its start stands, what it made is new -/
noncomputable def LeaveA (g : Heap) (R : Result → Shared → Prop) (v : Value) (s' : Shared) : Prop :=
  ∃ L' m' news', Fr g L' s'.heap m' ∧ News g L' s'.heap news' ∧ ((∀ b o, g.get? b = some o → s'.heap.get? b = some o) → (∀ p ∈ news', s'.heap.get? p.1 = some p.2 ∧ g.get? p.1 = none) → R (.ok (.ret v)) s')
theorem leaveA_ {g : Heap} {L' : Addr} {m' : Str → Option Value} {news' : List (Addr × Obj)} {R : Result → Shared → Prop} {v : Value} {s' : Shared} (F' : Fr g L' s'.heap m') (N' : News g L' s'.heap news')
    (k : (∀ b o, g.get? b = some o → s'.heap.get? b = some o) → (∀ p ∈ news', s'.heap.get? p.1 = some p.2 ∧ g.get? p.1 = none) → R (.ok (.ret v)) s') : LeaveA g R v s' := ⟨L', m', news', F', N', k⟩
theorem leaveA_use {g : Heap} {R : Result → Shared → Prop} {v : Value} {s' : Shared} (h : LeaveA g R v s') : R (.ok (.ret v)) s' := by
  obtain ⟨L', m', news', F', N', k⟩ := h
  exact k F'.keep fun p hp => ⟨(N' p hp).1, (N' p hp).2.2⟩

section
variable {prog : Program} {w : World} {A A₀ : Around} {s : Shared} {K : Frag} {L : Addr} {h₀ base : Heap} {m mg mb : Str → Option Value} {p : Program} {loose : List Str} {mean : ExcName → Option Value}

theorem enterA {env : Env} {outer : List Env} {R : Result → Shared → Prop} {name qual : Str} {params : Arguments} {body : List Stmt} {scope : Scope} {dV kV doc pm cdv ct oc : Value} {an od : Option Addr} {osl : Array (Option Value)} {f : Addr} {args : Args} {binds : List (Str × Value)}
    (B : Below A₀ base outer h₀) (F : Fr h₀ L s.heap m) (X₀ : K.In h₀) (T : Top p loose mean mg mb h₀) (hA : A.frames = some (env :: outer)) (hf : env.frame = some L) (hke : env.scope.kind = .function)
    (ho : K.lookup f = some ⟨oc, od, .func (fnOf name qual params body scope dV kV doc pm an cdv ct), osl⟩) (hcd : codeIn K cdv qual = true) (hroom : A.depth < recursionLimit)
    (hbind : BindsTo s (fnOf name qual params body scope dV kV doc pm an cdv ct) args binds) (hloc : ∀ y ∈ binds, scope.names.lookup y.1 = some .local)
    (h : ∀ h₁, Fr s.heap s.heap.objs.size h₁ (fun y => binds.reverse.lookup y) → News s.heap s.heap.objs.size h₁ [] → Below A base (env :: outer) s.heap → K.In s.heap → Top p loose mean mg mb s.heap →
      wpAny (model prog w) (A.deeper (envOf qual scope s.heap.objs.size f cdv)) (execs body (envOf qual scope s.heap.objs.size f cdv))
        (fun fl s' => LeaveA s.heap R (match fl with | .ret v => v | _ => .none) s')
        (fun _ _ => False)
        { s with heap := h₁, toks := s.toks + binds.length })
    (hco : scope.isCoroutine = false) (hgen : scope.isGenerator = false) (hk : scope.kind = .function)
    (hcell : ∀ x ∈ scope.names, x.2 ≠ .cell) : codeAny (model prog w) A (.call (.ref f) args) R s := by
  obtain ⟨FG, BG, st, lv⟩ := groundX (R := R) B F (News.nil (h₀ := h₀) (L := L)) hA hf hke
  have XS : K.In s.heap := X₀.keeps F.keep
  have TS : Top p loose mean mg mb s.heap := T.keeps F.keep
  refine codeAny_call_def (fd := fnOf name qual params body scope dV kV doc pm an cdv ct) (body := body) (binds := binds) hroom (XS _ _ ho) rfl TS.nolimit (codeRec_of XS hcd) rfl hbind hcell hloc (fun h₁ hns hk₁ => ?_) hco hgen hk
  exact wpAny_mono (h h₁ ⟨hns, hk₁, Nat.le_refl _⟩ News.nil BG XS TS) (fun fl s' hl => leaveA_use hl) fun _ _ y => y.elim
end

/-- what a call hands back: all that stood stands; tl is what it made -/
noncomputable abbrev RetOf (s : Shared) (Q : Value → Shared → Prop) (Out : List (Addr × Obj) → Value → Prop) : Prop :=
  ∀ r tl h' tk', (∀ b o, s.heap.get? b = some o → h'.get? b = some o) → (∀ p ∈ tl, h'.get? p.1 = some p.2 ∧ s.heap.get? p.1 = none) → Out tl r → Q r { s with heap := h', toks := tk' }

/-- a call of the def at f with the values vs, from any def's frame -/
noncomputable abbrev Ct (w : World) (p : Program) (loose : List Str) (mean : ExcName → Option Value) (mg mb : Str → Option Value) (f : Addr) (vs : List Value) (Out : List (Addr × Obj) → Value → Prop) : Prop :=
  ∀ (dp un : Nat) (gd : Option (List Code)) (cn : Str) (cs : Scope) (a : Addr) (ccd : Value) (cl : List (Str × Addr)) (outer : List Env) (A₀ : Around) (base h₀ : Heap) (L : Addr) (m : Str → Option Value) (s : Shared) (Q E : Value → Shared → Prop),
    Below A₀ base outer h₀ → Fr h₀ L s.heap m → (Mine.hd.heap_39 w.params).In h₀ → Top p loose mean mg mb h₀ → cs.kind = .function → dp + 10 < recursionLimit → un + 80 < cLine → RetOf s Q Out →
    wpAny (model PySem.Challenge.rw_wn0029_01.row.prog w) (ktrTop dp un gd cn cs L a ccd cl outer) (call (.ref f) vs) Q E s

theorem Ct.use {w : World} {p : Program} {loose : List Str} {mean : ExcName → Option Value} {mg mb : Str → Option Value} {f : Addr} {vs : List Value} {Out : List (Addr × Obj) → Value → Prop} (C : Ct w p loose mean mg mb f vs Out)
    {dp un : Nat} {gd : Option (List Code)} {cn : Str} {cs : Scope} {a : Addr} {ccd : Value} {cl : List (Str × Addr)} {outer : List Env} {A₀ : Around} {base h₀ : Heap} {L : Addr} {m : Str → Option Value} {s : Shared} {Q E : Value → Shared → Prop} {news : List (Addr × Obj)}
    (B : Below A₀ base outer h₀) (F : Fr h₀ L s.heap m) (X : (Mine.hd.heap_39 w.params).In h₀) (N : News h₀ L s.heap news) (T : Top p loose mean mg mb h₀) (hk : cs.kind = .function) (hd : dp + 10 < recursionLimit) (hu : un + 80 < cLine)
    (h : ∀ r tl h' tk', Fr h₀ L h' m → News h₀ L h' (tl ++ news) → (∀ p ∈ tl, ∀ q ∈ news, p.1 ≠ q.1) → s.toks ≤ tk' → Out tl r → Q r { s with heap := h', toks := tk' }) :
    wpAny (model PySem.Challenge.rw_wn0029_01.row.prog w) (ktrTop dp un gd cn cs L a ccd cl outer) (call (.ref f) vs) Q E s := by
  have key := C dp un gd cn cs a ccd cl outer A₀ base h₀ L m s (fun r s' => s.toks ≤ s'.toks → Q r s') E B F X T hk hd hu
  refine wpAny_mono (wpAny_toks_of (Nat.le_refl _) (key ?_)) (fun r s' ⟨h1, h2⟩ => h2 h1) fun _ _ e => e.2
  intro r tl h' tk' hkeep htl ho hle
  obtain ⟨oL, es, ep, hL, hLd, hLk, hLf⟩ := F.ns
  refine h r tl h' tk' ⟨⟨oL, es, ep, hkeep _ _ hL, hLd, hLk, hLf⟩, fun b o e => hkeep _ _ (F.keep b o e), F.above⟩ (fun q hq => ?_) (fun q hq r hr e => ?_) hle ho
  · rcases List.mem_append.mp hq with hq | hq
    · refine ⟨(htl q hq).1, fun e => ?_, ?_⟩
      · have := (htl q hq).2; rw [e, hL] at this; cases this
      · cases hb : h₀.get? q.1 with
        | none => rfl
        | some o => have := (htl q hq).2; rw [F.keep _ _ hb] at this; cases this
    · exact ⟨hkeep _ _ (N q hq).1, (N q hq).2⟩
  · have h1 := (htl q hq).2
    rw [e, (N r hr).1] at h1
    cases h1

section
variable {prog : Program} {w : World} {A : Around} {s : Shared} {env : Env} {g : Heap} {target : PySem.Expr} {body : List Stmt} {Q : Flow → Shared → Prop}

/-- a for loop over an iterator that walks; the turn knows how many tokens are gone at least -/
theorem forW {I : Addr} {fp wr : List Addr} {n : Nat} {P : Nat → Value → Prop} {St : Nat → Heap → Prop} {m : Str → Option Value} {news : List (Addr × Obj)}
    (W : Walks prog w A I fp wr n P St) (keep : List (Addr × Obj)) (J : Nat → (Str → Option Value) → List (Addr × Obj) → Prop)
    (hkp : ∀ b ∈ fp, b ∈ wr ∨ (∃ o, g.get? b = some o) ∨ ∃ o, (b, o) ∈ keep) (hJk : ∀ i m nx, J i m nx → ∀ p ∈ keep, p ∈ nx)
    (hLf : env.locals ∉ fp) (hwr : ∀ b ∈ wr, g.get? b = none) (hnw : ∀ p ∈ news, p.1 ∉ wr)
    (hob : ∀ i h, St i h → ∀ b ∈ wr, ∃ o, h.get? b = some o) (hst : St 0 s.heap) (F : Fr g env.locals s.heap m) (N : News g env.locals s.heap news) (h0 : J 0 m news)
    (step : ∀ i v m₁ nx h tk own, i < n → P i v → J i m₁ nx → OwnOff own (nx.map (·.1)) → s.toks ≤ tk → Fr g env.locals h m₁ → News g env.locals h (nx ++ own) →
      wpAny (model prog w) A (assign target env v) (fun _ s₂ => wpAny (model prog w) A (execs body env) (InvPostG g env.locals (J (i + 1)) own { s with heap := h, toks := tk } Q) (fun _ _ => False) s₂) (fun _ _ => False) { s with heap := h, toks := tk })
    (done : ∀ h tk m₁ nx, J n m₁ nx → s.toks ≤ tk → Fr g env.locals h m₁ → News g env.locals h nx → Q .next { s with heap := h, toks := tk })
    (hgo : ∀ i v (s : Shared) (Q : Unit → Shared → Prop) (E : Value → Shared → Prop), St i s.heap → Q () s → wpAny (model prog w) A (letOwnedTupleGo target (.ref I) v) Q E s) :
    codeAny (model prog w) A (.forLoop target (.ref I) body [] env) (fun r s' => match r with | .ok f => Q f s' | .error e => cameBackBy (model prog w) A env (fun _ _ => False) e s') s := by
  have hLw : env.locals ∉ wr := fun h => hLf (W.sub _ h)
  have old : ∀ b o, g.get? b = some o → b ∉ wr := fun b o e hb => by rw [hwr b hb] at e; cases e
  refine codeAny_forLoop_any
    (fun k s' => ∃ h' tk m' nx i, s' = { s with heap := h', toks := tk } ∧ St i h' ∧ Fr g env.locals h' m' ∧ News g env.locals h' nx ∧ (∀ p ∈ nx, p.1 ∉ wr) ∧ J i m' nx ∧ i ≤ n ∧ s.toks ≤ tk ∧ k = n + 1 - i) ?_ (n + 1)
    ⟨s.heap, s.toks, m, news, 0, rfl, hst, F, N, hnw, h0, Nat.zero_le _, Nat.le_refl _, rfl⟩
  rintro k s' ⟨h', tk, m', nx, i, rfl, hst', F', N', hnw', hJ, hi, htk, rfl⟩
  have next : ∀ h₁ : Heap, (∀ b o, b ∉ wr → h'.get? b = some o → h₁.get? b = some o) → Fr g env.locals h₁ m' ∧ News g env.locals h₁ nx := fun h₁ hk₁ =>
    ⟨⟨F'.ns.at' fun o e => hk₁ _ o hLw e, fun b o e => hk₁ b o (old b o e) (F'.keep b o e), F'.above⟩, fun p hp => ⟨hk₁ _ _ (hnw' p hp) (N' p hp).1, (N' p hp).2⟩⟩
  by_cases hlt : i < n
  · refine wpAny_with_toks (n := s.toks) htk (W.item i _ _ _ hlt hst' fun v h₁ tk₁ hP hst₁ hk₁ htk₁ => ?_)
    obtain ⟨F₁, N₁⟩ := next h₁ hk₁
    have Nown : News g env.locals h₁ (ownOf g wr h₁) := news_ownOf hLw
    have hoff : OwnOff (ownOf g wr h₁) (nx.map (·.1)) := by
      intro p hp b hb e
      obtain ⟨q, hq, rfl⟩ := List.mem_map.mp hb
      exact hnw' q hq (e ▸ ownOf_sub p hp)
    have N₂ : News g env.locals h₁ (nx ++ ownOf g wr h₁) := fun p hp => (List.mem_append.mp hp).elim (N₁ p) (Nown p)
    refine hgo (i + 1) v _ _ _ hst₁ ?_
    refine wpAny_mono (wpAny_toks_of (n := s.toks) htk₁ (step i v m' nx h₁ tk₁ (ownOf g wr h₁) hlt hP hJ hoff htk₁ F₁ N₂)) (fun _ s₂ h₂ => ?_) fun _ _ e => e.2.elim
    obtain ⟨htk₂, h₂⟩ := h₂
    refine wpAny_mono (wpAny_toks_of (n := s.toks) htk₂ h₂) (fun f s₃ h₃ => ?_) fun _ _ e => e.2.elim
    obtain ⟨htk₃, h₃⟩ := h₃
    have fin : InvEndG g env.locals (J (i + 1)) (ownOf g wr h₁) { s with heap := h₁, toks := tk₁ } s₃ → ∃ k', k' < n + 1 - i ∧ ∃ h' tk m' nx i, s₃ = { s with heap := h', toks := tk } ∧ St i h' ∧ Fr g env.locals h' m' ∧ News g env.locals h' nx ∧ (∀ p ∈ nx, p.1 ∉ wr) ∧ J i m' nx ∧ i ≤ n ∧ s.toks ≤ tk ∧ k' = n + 1 - i := by
      rintro ⟨h₄, tk₄, m₂, news', nx', rfl, F₃, N₃, hn₃, ho₃, hoff₃, hJ₃⟩
      have gone : ∀ b ∈ fp, ∀ o, h₁.get? b = some o → h₄.get? b = some o := by
        intro b hb o e
        rcases hkp b hb with hw | ⟨o', ho'⟩ | ⟨o', ho'⟩
        · exact (N₃ (b, o) (ho₃ _ (mem_ownOf hw (hwr b hw) e))).1
        · have : o' = o := by have q := F₁.keep b o' ho'; rw [e] at q; exact (Option.some.inj q).symm
          exact this ▸ F₃.keep b o' ho'
        · have q : h₁.get? b = some o' := (N₁ (b, o') (hJk _ _ _ hJ _ ho')).1
          have : o' = o := by rw [e] at q; exact (Option.some.inj q).symm
          exact this ▸ (N₃ (b, o') (hn₃ _ (hJk _ _ _ hJ₃ _ ho'))).1
      refine ⟨n + 1 - (i + 1), by omega, h₄, tk₄, m₂, nx', i + 1, rfl, W.frame _ _ _ hst₁ gone, F₃, fun p hp => N₃ p (hn₃ p hp), ?_, hJ₃, hlt, htk₃, rfl⟩
      intro p hp hw
      obtain ⟨o, ho⟩ : ∃ o, h₁.get? p.1 = some o := hob _ _ hst₁ _ hw
      exact hoff₃ _ (mem_ownOf hw (hwr _ hw) ho) p.1 (List.mem_map.mpr ⟨p, hp, rfl⟩) rfl
    cases f with
    | ret v => exact h₃
    | brk => exact h₃
    | cont => exact fin h₃
    | next => exact fin h₃
  · have hin : i = n := by omega
    subst hin
    refine wpAny_with_toks (n := s.toks) htk (W.done _ _ _ hst' fun h₁ tk₁ hk₁ htk₁ => wpAny_execs_nil ?_)
    obtain ⟨F₁, N₁⟩ := next h₁ hk₁
    exact done h₁ tk₁ m' nx hJ htk₁ F₁ N₁

theorem iterListW {l : Addr} {vs : List Value} {c : Nat} {m : Str → Option Value} {news : List (Addr × Obj)} (hh : A.handled = none)
    (F : Fr g env.locals s.heap m) (N : News g env.locals s.heap news) (hm : (l, listOf vs.toArray c) ∈ news) (J : Nat → (Str → Option Value) → List (Addr × Obj) → Prop)
    (hJk : ∀ i m nx, J i m nx → (l, listOf vs.toArray c) ∈ nx) (h0 : J 0 m news)
    (step : ∀ i v m₁ nx h tk own, vs[i]? = some v → J i m₁ nx → OwnOff own (nx.map (·.1)) → s.toks ≤ tk → Fr g env.locals h m₁ → News g env.locals h (nx ++ own) →
      wpAny (model prog w) A (assign target env v) (fun _ s₂ => wpAny (model prog w) A (execs body env) (InvPostG g env.locals (J (i + 1)) own { s with heap := h, toks := tk } Q) (fun _ _ => False) s₂) (fun _ _ => False) { s with heap := h, toks := tk })
    (done : ∀ h tk m₁ nx, J vs.length m₁ nx → s.toks ≤ tk → Fr g env.locals h m₁ → News g env.locals h nx → Q .next { s with heap := h, toks := tk }) :
    wpAny (model prog w) A (pyIter (.ref l)) (fun it s₂ => codeAny (model prog w) A (.forLoop target it body [] env) (fun r s' => match r with | .ok f => Q f s' | .error e => cameBackBy (model prog w) A env (fun _ _ => False) e s') s₂) (fun _ _ => False) s := by
  have hax := N _ hm
  have hl : s.heap.IsList l vs.toArray := ⟨_, hax.1, rfl, c, rfl⟩
  have hlt : l < s.heap.objs.size := Heap.lt_size hax.1
  have hne : l ≠ s.heap.objs.size := Nat.ne_of_lt hlt
  refine wpAny_pyIter_list hl ?_
  refine forW (Walks.list hh s.heap.objs.size l hne vs.toArray) [(l, listOf vs.toArray c)] J ?_ (fun i m nx hJ p hp => by rw [List.mem_singleton.mp hp]; exact hJk i m nx hJ) ?_ ?_ (fun p hp hI => ?_) ?_ ?_ (F.push _) (fun p hp => ⟨Heap.get?_push_of_some _ (N p hp).1, (N p hp).2⟩) h0 ?_ ?_ (fun i v s Q E st q => letGo_listiter st.1 q)
  · intro b hb
    rcases List.mem_cons.mp hb with rfl | hb
    · exact .inl (List.mem_singleton.mpr rfl)
    · exact .inr (.inr ⟨_, by rw [List.mem_singleton.mp hb]; exact List.mem_singleton.mpr rfl⟩)
  · intro hI
    rcases List.mem_cons.mp hI with e | hI
    · exact absurd F.ns.lt (e ▸ Nat.lt_irrefl _)
    · exact hax.2.1 (List.mem_singleton.mp hI).symm
  · intro b hb
    rw [List.mem_singleton.mp hb]
    exact next_is_new F
  · exact absurd (Heap.lt_size (N p hp).1) ((List.mem_singleton.mp hI) ▸ Nat.lt_irrefl _)
  · intro i h st b hb
    obtain ⟨it, hit, _⟩ := st.1
    exact ⟨it, by rw [List.mem_singleton.mp hb]; exact hit⟩
  · exact ⟨⟨_, Heap.get?_push_size _ rfl, rfl, rfl⟩, hl.at fun o e => Heap.get?_push_of_some _ e⟩
  · intro i v m₁ nx h tk own hi hP
    exact step i v m₁ nx h tk own (by simpa using hP)
  · intro h tk m₁ nx hJ
    exact done h tk m₁ nx (by simpa using hJ)
end

/-- the frame's names hold these values -/
noncomputable def Has (m : Str → Option Value) : List (Str × Value) → Prop
  | [] => True
  | p :: r => m p.1 = some p.2 ∧ Has m r
theorem Has.all {m : Str → Option Value} : ∀ {ps : List (Str × Value)}, Has m ps → ∀ p ∈ ps, m p.1 = some p.2
  | [], _, _, hp => nomatch hp
  | q :: r, h, p, hp => by
    rcases List.mem_cons.mp hp with rfl | hp
    · exact h.1
    · exact Has.all h.2 p hp
theorem frHas {g h : Heap} {L : Addr} {m : Str → Option Value} {ps : List (Str × Value)} (F : Fr g L h m) (H : Has m ps) : Fr g L h (kstB m ps) := by
  have e : kstB m ps = m := by
    funext z
    exact kstB_eq H.all fun _ => rfl
  rw [e]; exact F
end Mine
end

section
set_option maxRecDepth 100000
open PySem PySem.W PySem.Calls PyProof.Rows
namespace Mine
open Builtin Builtin.Str

theorem slice_is (x : Str) (l u : Option Int) : Txt.slice x l u = StrLaws.sliceText x l u := rfl
theorem slice_ij (l : List Nat) {i j : Nat} (hij : i ≤ j) (hj : j ≤ l.length) : Txt.slice (S l) (some (i : Int)) (some (j : Int)) = S ((l.drop i).take (j - i)) := by
  rw [slice_is, StrLaws.sliceText_nat (S l) hij (by rw [S_length]; exact hj), S_list]; rfl
theorem slice_to (l : List Nat) {j : Nat} (hj : j ≤ l.length) : Txt.slice (S l) none (some (j : Int)) = S (l.take j) := by
  rw [slice_is, StrLaws.sliceText_to ⟨by omega, by rw [S_list]; omega⟩, S_list]
  show S _ = S _
  congr 1
theorem slice_from_in (l : List Nat) {i : Nat} (hi : i ≤ l.length) : Txt.slice (S l) (some (i : Int)) none = S (l.drop i) := by
  rw [slice_is, StrLaws.sliceText_from ⟨by omega, by rw [S_list]; omega⟩, S_list]
  show S _ = S _
  congr 1
  have e : ((l.length : Int) - (i : Int)).toNat = (l.drop i).length := by rw [List.length_drop]; omega
  rw [e, Int.toNat_natCast, List.take_length]
theorem idx_past (u : Option Int) (i len : Nat) (h : len ≤ i) : strSliceIndices (some (i : Int)) u 1 len = strSliceIndices (some (len : Int)) u 1 len := by
  have h1 : ¬ ((i : Int) < 0) := by omega
  have h2 : ¬ ((len : Int) < 0) := by omega
  have e : max (0 : Int) (min (i : Int) (len : Int)) = max (0 : Int) (min (len : Int) (len : Int)) := by omega
  have hp : ((1 : Int) > 0) = True := by simp
  simp only [strSliceIndices, h1, h2, if_false, hp, if_true, e]
theorem slice_from (l : List Nat) (i : Nat) : Txt.slice (S l) (some (i : Int)) none = S (l.drop i) := by
  by_cases h : i ≤ l.length
  · exact slice_from_in l h
  · have e : Txt.slice (S l) (some (i : Int)) none = Txt.slice (S l) (some (l.length : Int)) none := by
      unfold Txt.slice
      rw [S_length, idx_past none i l.length (by omega)]
    rw [e, slice_from_in l (Nat.le_refl _), List.drop_of_length_le (Nat.le_refl _), List.drop_of_length_le (by omega)]
theorem slice_but_last (l : List Nat) (h : 1 ≤ l.length) : Txt.slice (S l) none (some (-1)) = S l.dropLast := by
  rw [slice_is, StrLaws.sliceText_to_neg (by decide) (by rw [S_length]; omega), S_list, S_length]
  show S _ = S _
  congr 1
  have e : (-1 + (l.length : Int) - 0).toNat = l.length - 1 := by omega
  rw [e, List.drop_zero, ← List.dropLast_eq_take]
theorem slice_rev (l : List Nat) (u : Tok) : Txt.sliceBy (S l) none none (-1, u) = S l.reverse := by
  apply str_eq
  rw [step_rev_list, S_list]
  apply List.ext_getElem
  · rw [S_length]; simp
  · intro i h1 h2
    have hi : i < l.length := by simpa [S_length] using h1
    have hd : ∀ n, n < l.length → (S l).cps.getD n 0 = l.getD n 0 := by
      intro n hn
      simp [S, Array.getD, hn]
    simp only [List.getElem_map, List.getElem_range, List.getElem_reverse, S_length]
    rw [hd _ (by omega), List.getD_eq_getElem?_getD, List.getElem?_eq_getElem (by omega)]
    rfl

theorem charAt_S (l : List Nat) {i : Int} {k c : Nat} (hi : i = (k : Int)) (hc : l[k]? = some c) : Txt.item (S l) i = S [c] := by
  subst hi
  have h := StrLaws.at_nonneg (x := S l) (i := (k : Int)) (n := c) (by omega) (by simpa [S] using hc)
  unfold Txt.item Txt.charAt
  rw [h]; rfl

section
variable {prog : Program} {w : World} {A : Around} {E : Value → Shared → Prop} {s : Shared} {value slice : PySem.Expr} {l : List Nat} {t u : Tok} {Q : Value → Shared → Prop}
theorem item_S {i : Int} {k c : Nat} (hi : i = (k : Int)) (hc : l[k]? = some c) (hl : l.length ≤ 1000000) (h : Q (.str (S [c]) s.toks) { s with toks := s.toks + 1 })
    (hs : subscripted slice false (.str (S l) t) (.int i u) = operate [.str (S l) t, .int i u] (getItem (.str (S l) t) (.int i u)) := by with_unfolding_all rfl)
    (ht : ∀ r, letTemporaryGo value (.str (S l) t) r = pure () := by intro _; with_unfolding_all rfl) :
    wpAny (model prog w) A (subscriptTail value slice (.str (S l) t) (.int i u)) Q E s := by
  have hk : k < l.length := by
    rcases Nat.lt_or_ge k l.length with h | h
    · exact h
    · rw [List.getElem?_eq_none h] at hc; cases hc
  refine item_str (fitsSsize_of (N := 9223372036854775808) (by omega) (by omega) (Int.le_refl _)) (by omega) (by rw [S_length]; omega) ?_ hs ht
  rw [charAt_S l hi hc]
  exact fun _ => h
theorem eq_one {c d : Nat} {y : Str} (hy : y = S [d]) : (S [c] == y) = decide (c = d) := by
  subst hy
  by_cases h : c = d
  · subst h; simp
  · rw [decide_eq_false h]
    exact beq_eq_false_iff_ne.mpr fun e => h (by have := S_inj e; simpa using this)
theorem cmp_one {c d : Nat} {y : Str} (hy : y = S [d]) (h : Q (.bool (decide (c = d))) s) : wpAny (model prog w) A (compareOp .Eq (.str (S [c]) t) (.str y u)) Q E s :=
  eq_str (by rw [eq_one hy]; exact h)
theorem cmp_lit {y z : Str} {l m : List Nat} (hy : y = S l) (hz : z = S m) (h : Q (.bool (decide (l = m))) s) : wpAny (model prog w) A (compareOp .Eq (.str y t) (.str z u)) Q E s := by
  subst hy hz
  refine eq_str ?_
  by_cases e : l = m
  · subst e; simpa using h
  · rw [decide_eq_false e] at h
    rw [show (S l == S m) = false from beq_eq_false_iff_ne.mpr fun q => e (S_inj q)]
    exact h
theorem len_S (hl : l.length ≤ 1000000) (h : ∀ t' k, Q (.int (l.length : Int) t') { s with toks := k }) : wpAny (model prog w) A (call (.builtin "len") [.str (S l) t]) Q E s :=
  SBL.len (by rw [S_length]; omega) (by rw [S_length]; exact h _ _)
theorem fitsS (hl : l.length ≤ 1000000) : (S l).length ≤ sizeLine := by rw [S_length, sizeLine_eq]; omega

/-- the sign at place i -/
noncomputable def At (l : List Nat) (i : Int) (c : Nat) : Prop := ∃ k : Nat, i = (k : Int) ∧ l[k]? = some c
theorem At.mk' {i : Int} {k c : Nat} (hi : i = (k : Int)) (hc : l[k]? = some c) : At l i c := ⟨k, hi, hc⟩
theorem item_At {i : Int} {c : Nat} (hc : At l i c) (hl : l.length ≤ 1000000) (h : Q (.str (S [c]) s.toks) { s with toks := s.toks + 1 })
    (hs : subscripted slice false (.str (S l) t) (.int i u) = operate [.str (S l) t, .int i u] (getItem (.str (S l) t) (.int i u)) := by with_unfolding_all rfl)
    (ht : ∀ r, letTemporaryGo value (.str (S l) t) r = pure () := by intro _; with_unfolding_all rfl) :
    wpAny (model prog w) A (subscriptTail value slice (.str (S l) t) (.int i u)) Q E s := by
  obtain ⟨k, hi, hc⟩ := hc
  exact item_S hi hc hl h hs ht
theorem ne_same {y z : Str} {l : List Nat} (hy : y = S l) (hz : z = S l) (h : Q (.bool false) s) : wpAny (model prog w) A (compareOp .NotEq (.str y t) (.str z u)) Q E s := by
  subst hy hz
  refine ne_str ?_
  simpa using h
theorem ne_one {c d : Nat} {y : Str} (hy : y = S [d]) (h : Q (.bool (!decide (c = d))) s) : wpAny (model prog w) A (compareOp .NotEq (.str (S [c]) t) (.str y u)) Q E s :=
  ne_str (by rw [bne, eq_one hy]; exact h)
theorem add_S {l m : List Nat} (hl : l.length ≤ 1000000) (hm : m.length ≤ 1000000) (h : ∀ t' k, Q (.str (S (l ++ m)) t') { s with toks := k }) : wpAny (model prog w) A (binaryOp .Add (.str (S l) t) (.str (S m) u)) Q E s := by
  refine add_str (fun t' k => ?_) (by rw [S_length, S_length, sizeLine_eq]; omega)
  rw [S_append]
  exact h t' k
end
end Mine
end

section
set_option maxRecDepth 100000
open PySem PySem.W PySem.Calls PyProof.Rows
namespace Mine
section
variable {prog : Program} {w : World} {A : Around} {s : Shared} {env : Env} {g : Heap} {test : PySem.Expr} {body : List Stmt} {pos : Pos} {Q : Flow → Shared → Prop}

/-- a turn's end of a while -/
noncomputable def WEnd (g : Heap) (L : Addr) (J : Nat → (Str → Option Value) → List (Addr × Obj) → Prop) (n : Nat) (s s₃ : Shared) : Prop :=
  ∃ k h' tk' m' nx', k < n ∧ s₃ = { s with heap := h', toks := tk' } ∧ Fr g L h' m' ∧ News g L h' nx' ∧ J k m' nx'
noncomputable def WPost (g : Heap) (L : Addr) (J : Nat → (Str → Option Value) → List (Addr × Obj) → Prop) (n : Nat) (s : Shared) (Q : Flow → Shared → Prop) (f : Flow) (s₃ : Shared) : Prop :=
  match f with
  | .ret v => Q (.ret v) s₃
  | .brk => Q .next s₃
  | _ => WEnd g L J n s s₃
theorem WEnd.intro {L : Addr} {J : Nat → (Str → Option Value) → List (Addr × Obj) → Prop} {n : Nat} (k : Nat) {h' : Heap} {tk' : Nat} {m' : Str → Option Value} {nx' : List (Addr × Obj)} (hk : k < n) (F : Fr g L h' m') (N : News g L h' nx') (hJ : J k m' nx') :
    WEnd g L J n s { s with heap := h', toks := tk' } := ⟨k, h', tk', m', nx', hk, rfl, F, N, hJ⟩

theorem WhileJ {m : Str → Option Value} {news : List (Addr × Obj)} (J : Nat → (Str → Option Value) → List (Addr × Obj) → Prop) (n : Nat) (F : Fr g env.locals s.heap m) (N : News g env.locals s.heap news) (h0 : J n m news)
    (turn : ∀ n m₁ nx h tk, J n m₁ nx → Fr g env.locals h m₁ → News g env.locals h nx →
      wpAny (model prog w) A (isTrue test env (eval test env)) (fun b s₂ => if b = true then wpAny (model prog w) A (execs body env) (WPost g env.locals J n s Q) (fun _ _ => False) s₂ else Q .next s₂) (fun _ _ => False) { s with heap := h, toks := tk }) :
    wpAny (model prog w) A (exec (.While test body [] pos) env) Q (fun _ _ => False) s := by
  refine wpAny_While (codeAny_whileLoop (fun k s' => ∃ h tk m₁ nx, s' = { s with heap := h, toks := tk } ∧ Fr g env.locals h m₁ ∧ News g env.locals h nx ∧ J k m₁ nx) ?_ n ⟨s.heap, s.toks, m, news, rfl, F, N, h0⟩)
  rintro k s' ⟨h, tk, m₁, nx, rfl, F₁, N₁, hJ⟩
  refine wpAny_mono (turn k m₁ nx h tk hJ F₁ N₁) (fun b s₂ h₂ => ?_) fun _ _ e => e.elim
  cases b with
  | false =>
    simp only [Bool.false_eq_true, if_false] at h₂ ⊢
    exact wpAny_execs_nil h₂
  | true =>
    simp only [if_true] at h₂ ⊢
    refine wpAny_mono h₂ (fun f s₃ h₃ => ?_) fun _ _ e => e.elim
    have fin : WEnd g env.locals J k s s₃ → ∃ m, m < k ∧ ∃ h tk m₁ nx, s₃ = { s with heap := h, toks := tk } ∧ Fr g env.locals h m₁ ∧ News g env.locals h nx ∧ J m m₁ nx := by
      rintro ⟨k', h', tk', m', nx', hk, e, F', N', hJ'⟩
      exact ⟨k', hk, h', tk', m', nx', e, F', N', hJ'⟩
    cases f with
    | ret v => exact h₃
    | brk => exact h₃
    | next => exact fin h₃
    | cont => exact fin h₃

/-- where a while ends -/
noncomputable def WOut (g : Heap) (L : Addr) (X : (Str → Option Value) → List (Addr × Obj) → Prop) (s s₃ : Shared) : Prop :=
  ∃ h' tk' m' nx', s₃ = { s with heap := h', toks := tk' } ∧ Fr g L h' m' ∧ News g L h' nx' ∧ X m' nx'
theorem WOut.intro {L : Addr} {X : (Str → Option Value) → List (Addr × Obj) → Prop} {h' : Heap} {tk' : Nat} {m' : Str → Option Value} {nx' : List (Addr × Obj)} (F : Fr g L h' m') (N : News g L h' nx') (hX : X m' nx') :
    WOut g L X s { s with heap := h', toks := tk' } := ⟨h', tk', m', nx', rfl, F, N, hX⟩
noncomputable def WTest (prog : Program) (w : World) (A : Around) (g : Heap) (env : Env) (body : List Stmt) (J : Nat → (Str → Option Value) → List (Addr × Obj) → Prop) (X : (Str → Option Value) → List (Addr × Obj) → Prop) (n : Nat) (s : Shared) (Q : Flow → Shared → Prop) (b : Bool) (s₂ : Shared) : Prop :=
  match b with
  | true => wpAny (model prog w) A (execs body env) (fun f s₃ => match f with
      | .ret v => Q (.ret v) s₃
      | .brk => WOut g env.locals X s s₃
      | _ => WEnd g env.locals J n s s₃) (fun _ _ => False) s₂
  | false => WOut g env.locals X s s₂
theorem WhileK {m : Str → Option Value} {news : List (Addr × Obj)} (J : Nat → (Str → Option Value) → List (Addr × Obj) → Prop) (X : (Str → Option Value) → List (Addr × Obj) → Prop) (n : Nat) (F : Fr g env.locals s.heap m) (N : News g env.locals s.heap news) (h0 : J n m news)
    (turn : ∀ n m₁ nx h tk, J n m₁ nx → Fr g env.locals h m₁ → News g env.locals h nx →
      wpAny (model prog w) A (isTrue test env (eval test env)) (WTest prog w A g env body J X n s Q) (fun _ _ => False) { s with heap := h, toks := tk })
    (done : ∀ h tk m₁ nx, X m₁ nx → Fr g env.locals h m₁ → News g env.locals h nx → Q .next { s with heap := h, toks := tk }) :
    wpAny (model prog w) A (exec (.While test body [] pos) env) Q (fun _ _ => False) s := by
  refine WhileJ J n F N h0 fun n m₁ nx h tk hJ F₁ N₁ => ?_
  refine wpAny_mono (turn n m₁ nx h tk hJ F₁ N₁) (fun b s₂ h₂ => ?_) fun _ _ e => e.elim
  have out : ∀ s₃, WOut g env.locals X s s₃ → Q .next s₃ := by
    rintro s₃ ⟨h', tk', m', nx', rfl, F', N', hX⟩
    exact done h' tk' m' nx' hX F' N'
  cases b with
  | false =>
    simp only [Bool.false_eq_true, if_false]
    exact out _ h₂
  | true =>
    simp only [if_true]
    refine wpAny_mono h₂ (fun f s₃ h₃ => ?_) fun _ _ e => e.elim
    cases f with
    | ret v => exact h₃
    | brk => exact out _ h₃
    | next => exact h₃
    | cont => exact h₃
end

/-- the walk stops here -/
theorem stopAt {α : Type} {M : Model} {A : Around} {E : Value → Shared → Prop} {s : Shared} {t : Sem α} {Q : α → Shared → Prop}
    (h : ∀ (T : α → Sem α) (Qk : α → Shared → Prop), (∀ f s, Q f s → wpAny M A (T f) Qk E s) → wpAny M A t (fun f s => wpAny M A (T f) Qk E s) E s) : wpAny M A t Q E s := by
  intro Γ p hΓ
  have key := h pure Q (fun f s' q => wpAny_pure q)
  exact Sem.wp_mono M Γ t (fun a p' s' h' => h' Γ p' hΓ) (fun _ _ _ h' => h') p s (key Γ p hΓ)

/-- a tree that no line takes -/
noncomputable def Hold {α : Type} (t : Sem α) : Sem α := t
theorem hold {α : Type} {M : Model} {A : Around} {E : Value → Shared → Prop} {s : Shared} {t : Sem α} {Q : α → Shared → Prop} (h : wpAny M A (Hold t) Q E s) : wpAny M A t Q E s := h
theorem unhold {α : Type} {M : Model} {A : Around} {E : Value → Shared → Prop} {s : Shared} {t : Sem α} {Q : α → Shared → Prop} (h : wpAny M A t Q E s) : wpAny M A (Hold t) Q E s := h
end Mine
end

section
set_option maxRecDepth 100000
open PySem PySem.W PySem.Calls PyProof.Rows
namespace Mine
noncomputable def OffOf (add nx : List (Addr × Obj)) : Prop := ∀ p ∈ add, ∀ q ∈ nx, p.1 ≠ q.1
theorem OffOf.nil {nx : List (Addr × Obj)} : OffOf [] nx := fun _ h => nomatch h
theorem OffOf.cat {a b nx : List (Addr × Obj)} (hb : OffOf b (a ++ nx)) (ha : OffOf a nx) : OffOf (b ++ a) nx := by
  intro p hp q hq
  rcases List.mem_append.mp hp with hp | hp
  · exact hb p hp q (List.mem_append_right _ hq)
  · exact ha p hp q hq
theorem up {nd nx a : List (Addr × Obj)} {p : Addr × Obj} (hs : ∀ p ∈ nd, p ∈ nx) (h : p ∈ a ++ nd) : p ∈ a ++ nx := (List.mem_append.mp h).elim (List.mem_append_left _) fun h => List.mem_append_right _ (hs p h)
theorem OffOf.one {D : Addr} {o : Obj} {nx : List (Addr × Obj)} (h : ∀ p ∈ nx, p.1 < D) : OffOf [(D, o)] nx := by
  intro p hp q hq
  rw [List.mem_singleton.mp hp]
  exact Nat.ne_of_gt (h q hq)

section
variable {prog : Program} {w : World} {A : Around} {g : Heap} {fname : Str} {scope : Scope} {L a : Addr} {cd : Value} {m : Str → Option Value} {nd : List (Addr × Obj)} {e e1 e2 : PySem.Expr} {pos : Pos}

/-- the expression's value is this datum, whatever else has been made -/
noncomputable def EvD (prog : Program) (w : World) (A : Around) (g : Heap) (L : Addr) (env : Env) (m : Str → Option Value) (nd : List (Addr × Obj)) (e : PySem.Expr) (d : Dat) : Prop :=
  ∀ (s : Shared) (nx : List (Addr × Obj)) (Q : Value → Shared → Prop), Fr g L s.heap m → News g L s.heap nx → (∀ p ∈ nd, p ∈ nx) →
    (∀ v add h' tk', Fr g L h' m → News g L h' (add ++ nx) → OffOf add nx → DatIn (add ++ nd) v d → Q v { s with heap := h', toks := tk' }) →
    wpAny (model prog w) A (eval e env) Q (fun _ _ => False) s

theorem EvD.name {x : Str} {v : Value} {d : Dat} (hv : m x = some v) (hD : DatIn nd v d) (hk : scope.kind = .function := by rfl) (hl : (envOf fname scope L a cd).kindOf x = some .local := by rfl) (hd : (x == ("__debug__" : Str)) = false := by decide) :
    EvD prog w A g L (envOf fname scope L a cd) m nd (.Name x pos) d :=
  fun s nx Q F N hs k => ld F hv (k v [] s.heap s.toks F N OffOf.nil hD) hk hl hd
theorem EvD.const {x : Str} {k : Nat} {env : Env} : EvD prog w A g L env m nd (.Constant (.str x) k pos) (.str x) :=
  fun s nx Q F N hs k => Calls.Constant_str (k _ [] _ _ F N OffOf.nil (.str _ _))
theorem EvD.constS {x : Str} {l : List Nat} {k : Nat} {env : Env} (hx : x = S l) : EvD prog w A g L env m nd (.Constant (.str x) k pos) (.str (S l)) := hx ▸ EvD.const

theorem EvD.two {env : Env} {d1 d2 : Dat} {op : Operator} (h1 : EvD prog w A g L env m nd e1 d1) (h2 : EvD prog w A g L env m nd e2 d2) {d : Dat}
    (h : ∀ (s : Shared) (nx nl : List (Addr × Obj)) (v1 v2 : Value) (Q : Value → Shared → Prop), Fr g L s.heap m → News g L s.heap nx → (∀ p ∈ nl, p ∈ nx) → DatIn nl v1 d1 → DatIn nl v2 d2 →
      (∀ v add h' tk', Fr g L h' m → News g L h' (add ++ nx) → OffOf add nx → DatIn (add ++ nl) v d → Q v { s with heap := h', toks := tk' }) → wpAny (model prog w) A (binaryOp op v1 v2) Q (fun _ _ => False) s) :
    EvD prog w A g L env m nd (.BinOp e1 op e2 pos) d := by
  intro s nx Q F N hs k
  refine wpAny_BinOp (h1 s nx _ F N hs fun v1 a1 s1 t1 F1 N1 O1 D1 => ?_)
  refine h2 { s with heap := s1, toks := t1 } (a1 ++ nx) _ F1 N1 (fun p hp => List.mem_append_right _ (hs p hp)) fun v2 a2 s2 t2 F2 N2 O2 D2 => ?_
  have hl : ∀ p ∈ a2 ++ (a1 ++ nd), p ∈ a2 ++ (a1 ++ nx) := fun p hp => by
    rcases List.mem_append.mp hp with hp | hp
    · exact List.mem_append_left _ hp
    · rcases List.mem_append.mp hp with hp | hp
      · exact List.mem_append_right _ (List.mem_append_left _ hp)
      · exact List.mem_append_right _ (List.mem_append_right _ (hs p hp))
  refine h { s with heap := s2, toks := t2 } (a2 ++ (a1 ++ nx)) (a2 ++ (a1 ++ nd)) v1 v2 _ F2 N2 hl (D1.mono fun p hp => List.mem_append_right _ hp) (D2.mono fun p hp => ?_) fun v a3 s3 t3 F3 N3 O3 D3 => ?_
  · rcases List.mem_append.mp hp with hp | hp
    · exact List.mem_append_left _ hp
    · exact List.mem_append_right _ (List.mem_append_right _ hp)
  have e : a3 ++ (a2 ++ (a1 ++ nx)) = (a3 ++ a2 ++ a1) ++ nx := by simp
  have e2 : a3 ++ (a2 ++ (a1 ++ nd)) = (a3 ++ a2 ++ a1) ++ nd := by simp
  rw [e] at N3
  rw [e2] at D3
  refine k v (a3 ++ a2 ++ a1) s3 t3 F3 N3 ?_ D3
  intro p hp q hq
  rcases List.mem_append.mp hp with hp | hp
  · rcases List.mem_append.mp hp with hp | hp
    · exact O3 p hp q (List.mem_append_right _ (List.mem_append_right _ hq))
    · exact O2 p hp q (List.mem_append_right _ hq)
  · exact O1 p hp q hq

theorem EvD.addS {env : Env} {x y : List Nat} (hx : x.length ≤ 1000000) (hy : y.length ≤ 1000000) (h1 : EvD prog w A g L env m nd e1 (.str (S x))) (h2 : EvD prog w A g L env m nd e2 (.str (S y))) :
    EvD prog w A g L env m nd (.BinOp e1 .Add e2 pos) (.str (S (x ++ y))) :=
  h1.two h2 fun s nx nl v1 v2 Q F N hl D1 D2 k => by
    cases D1; cases D2
    exact add_S hx hy fun t' k' => k _ [] s.heap k' F N OffOf.nil (.str _ _)

theorem EvD.addL {env : Env} {x y : List Dat} (hx : x.length ≤ 1000000) (hy : y.length ≤ 1000000) (h1 : EvD prog w A g L env m nd e1 (.list x)) (h2 : EvD prog w A g L env m nd e2 (.list y)) :
    EvD prog w A g L env m nd (.BinOp e1 .Add e2 pos) (.list (x ++ y)) :=
  h1.two h2 fun s nx nl v1 v2 Q F N hl D1 D2 k => by
    cases D1 with
    | list m1 r1 =>
      cases D2 with
      | list m2 r2 =>
        refine kmk_add_lit F N ⟨_, (N _ (hl _ m1)).1, rfl, _, rfl⟩ ⟨_, (N _ (hl _ m2)).1, rfl, _, rfl⟩ rfl (fun D h' F' N' hlt => ?_) ?_
        · exact k _ [(D, _)] h' s.toks F' N' (OffOf.one hlt) (.list (List.mem_append_left _ (List.mem_singleton.mpr rfl)) ((DatAll.append (r1.mono fun p hp => List.mem_append_right _ hp) (r2.mono fun p hp => List.mem_append_right _ hp))))
        · have q1 := r1.length
          have q2 := r2.length
          simp only [sizeLine_eq]
          simp
          omega

theorem EvD.list1 {env : Env} {d1 : Dat} (h1 : EvD prog w A g L env m nd e1 d1) (he : starEach [e1] env = [(false, eval e1 env)] := by rfl) :
    EvD prog w A g L env m nd (.List [e1] pos) (.list [d1]) := by
  intro s nx Q F N hs k
  refine List_ (spliced_more (h1 s nx _ F N hs fun v a1 s1 t1 F1 N1 O1 D1 => spliced_none ?_) (by rw [he]; rfl))
  refine newList_K F1 N1 (fun D h' F' N' hlt => ?_) (by rw [sizeLine_eq]; exact Nat.le_of_ble_eq_true rfl)
  have e : ((D, listOf [v].toArray 0) :: (a1 ++ nx)) = ([(D, listOf [v].toArray 0)] ++ a1) ++ nx := rfl
  rw [e] at N'
  refine k _ ([(D, _)] ++ a1) h' t1 F' N' (OffOf.cat (OffOf.one hlt) O1) (.list (vs := [v]) (n := 0) ?_ (.cons (D1.mono fun p hp => ?_) .nil))
  · exact List.mem_cons_self ..
  · exact List.mem_cons_of_mem _ hp

theorem EvD.item0 {env : Env} {d : Dat} {ds : List Dat} {p : Pos} {k : Nat} (h1 : EvD prog w A g L env m nd e1 (.list (d :: ds))) :
    EvD prog w A g L env m nd (.Subscript e1 (.Constant (.int 0) k p) pos) d := by
  intro s nx Q F N hs kk
  refine Subscript_ (h1 s nx _ F N hs fun v a1 s1 t1 F1 N1 O1 D1 => wpAny_Constant_int ?_)
  cases D1 with
  | list m1 r1 =>
    cases r1 with
    | cons hd ht =>
      have hl : s1.IsList _ _ := ⟨_, (N1 _ (up hs m1)).1, rfl, _, rfl⟩
      exact tail_any (s := { s with heap := s1, toks := t1 + 1 }) hl.typeIs slot_list_getitem.lookup (wpAny_getItem_list (s := { s with heap := s1, toks := t1 + 1 }) hl (by decide) (by decide) rfl (kk _ a1 s1 _ F1 N1 O1 hd)) rfl

theorem EvD.tail1 {env : Env} {d : Dat} {ds : List Dat} {p p2 : Pos} {k : Nat} (hds : ds.length ≤ 1000000) (h1 : EvD prog w A g L env m nd e1 (.list (d :: ds))) :
    EvD prog w A g L env m nd (.Subscript e1 (.Slice (some (.Constant (.int 1) k p)) none none p2) pos) (.list ds) := by
  intro s nx Q F N hs kk
  refine Subscript_ (h1 s nx _ F N hs fun v a1 s1 t1 F1 N1 O1 D1 => wpAny_Slice (evalPart_some_step (wpAny_Constant_int (evalPart_none_step (evalPart_none_step ?_)))))
  cases D1 with
  | @list la vs n _ m1 r1 =>
    have hl : s1.IsList la vs.toArray := ⟨_, (N1 _ (up hs m1)).1, rfl, _, rfl⟩
    have hlen := r1.length
    refine tail_any (s := { s with heap := s1.push _, toks := t1 + 1 }) (Heap.IsList.typeIs (s := { s with heap := s1.push _, toks := t1 + 1 }) (hl.push _)) list_getitem_lookup
      (wpAny_getItem_list_slice (s := { s with heap := s1.push _, toks := t1 + 1 }) (hl.push _) (Heap.IsSliceOf.new ..) (.int _ _) .none .none (by simp) ?_ ?_) rfl
    · have N2 := News.push (F1.push { cls := .type "slice", data := .fields #[.int 1 t1, .none, .none] }) (N1.grown fun _ _ e => Heap.get?_push_of_some _ e) { cls := .type "list", data := .seq (slicePick vs.toArray (some 1) none none) }
      have e : slicePick vs.toArray (some 1) none none = (vs.drop 1).toArray := by
        have hb := kms_bounds (some 1) none vs.toArray.size
        rw [kmk_pick_nat _ hb]
        have e1 : kms_lo (some 1) vs.toArray.size = 1 := by
          simp only [kms_lo, List.size_toArray]
          rw [if_neg (by decide)]
          rw [hlen, List.length_cons]
          show min 1 _ = 1
          omega
        have e2 : kms_hi none vs.toArray.size = vs.length := by simp [kms_hi]
        rw [e1, e2]
        congr 1
        rw [List.take_of_length_le]
        simp
      rw [e] at N2 ⊢
      have lt : ∀ p ∈ a1 ++ nx, p.1 < (s1.push { cls := .type "slice", data := .fields #[.int 1 t1, .none, .none] }).objs.size := fun p hp => by rw [Heap.size_push]; exact Nat.lt_succ_of_lt (Heap.lt_size (N1 p hp).1)
      refine kk _ ([(_, listOf (vs.drop 1).toArray 0)] ++ a1) _ _ ((F1.push _).push _) N2 (OffOf.cat (OffOf.one lt) O1) (.list (vs := vs.drop 1) (n := 0) (List.mem_cons_self ..) ?_)
      cases r1 with
      | cons hd ht => exact ht.mono fun p hp => List.mem_cons_of_mem _ hp
    · rw [List.size_toArray, hlen, List.length_cons, sizeLine_eq]; omega
end
end Mine
end

section
set_option maxRecDepth 100000
open PySem PySem.W PySem.Calls PyProof.Rows
namespace Mine
theorem anewM1 : True := by first | walk1 | trivial
/-- _law_meant on code points -/
noncomputable def meant (ahead l : List Nat) : List Nat := put 76 (ahead ++ [10]) (put 83 (ahead ++ [32]) (put 66 (ahead ++ [92]) (put 81 (ahead ++ [34]) l)))

theorem add_tok {prog : Program} {w : World} {A : Around} {E : Value → Shared → Prop} {s : Shared} {x y : Str} {t u : Tok} {Q : Value → Shared → Prop} (hsz : x.length + y.length ≤ sizeLine)
    (hq : ∀ t' k, s.toks ≤ k → (t' = u ∨ t' = t ∨ t' = s.toks) → (x.length = 0 → t' = u) → (x.length ≠ 0 → y.length ≠ 0 → t' = s.toks) → Q (.str (x ++ y) t') { s with toks := k }) :
    wpAny (model prog w) A (binaryOp .Add (.str x t) (.str y u)) Q E s := by
  refine P.add_str ?_
  by_cases h1 : x.length = 0
  · have e : x = Str.empty := Str.ext' (Array.eq_empty_of_size_eq_zero h1)
    simp only [h1, beq_self_eq_true, if_true]
    have := hq u s.toks (Nat.le_refl _) (.inl rfl) (fun _ => rfl) (fun h => absurd h1 h)
    rw [e, Str.empty_append] at this
    exact this
  · have h1' : (x.length == 0) = false := beq_eq_false_iff_ne.mpr h1
    simp only [h1', Bool.false_eq_true, if_false]
    by_cases h2 : y.length = 0
    · have e : y = Str.empty := Str.ext' (Array.eq_empty_of_size_eq_zero h2)
      simp only [h2, beq_self_eq_true, if_true]
      have := hq t s.toks (Nat.le_refl _) (.inr (.inl rfl)) (fun h => absurd h h1) (fun _ h => absurd h2 h)
      rw [e, Str.append_empty] at this
      exact this
    · have h2' : (y.length == 0) = false := beq_eq_false_iff_ne.mpr h2
      simp only [h2', Bool.false_eq_true, if_false]
      exact ⟨by rw [Str.length_append]; exact hsz, hq s.toks (s.toks + 1) (by omega) (.inr (.inr rfl)) (fun h => absurd h h1) (fun _ _ => rfl)⟩

theorem lit_ne {c d : Nat} (a : List Nat) (h : c ≠ d) : (S [c] == S (a ++ [d])) = false := by
  apply beq_eq_false_iff_ne.mpr
  intro e
  have := S_inj e
  have h2 := congrArg List.getLast? this
  simp at h2
  exact h h2

noncomputable def stepC : Nat → Nat
  | 0 => 81 | 1 => 66 | 2 => 83 | _ => 76
noncomputable def stepD : Nat → Nat
  | 0 => 34 | 1 => 92 | 2 => 32 | _ => 10
noncomputable def meantK (a l : List Nat) : Nat → List Nat
  | 0 => l
  | n + 1 => put (stepC n) (a ++ [stepD n]) (meantK a l n)
theorem meantK_4 (a l : List Nat) : meantK a l 4 = meant a l := rfl
theorem meantK_len {a l : List Nat} (hl : l.length ≤ 4096) (ha : a.length ≤ 1) : ∀ n, n ≤ 4 → (meantK a l n).length ≤ 4096 * 3 ^ n
  | 0, _ => by simpa [meantK] using hl
  | n + 1, hn => by
    have ih := meantK_len hl ha n (by omega)
    have h := put_length (stepC n) (a ++ [stepD n]) (meantK a l n)
    have e : 1 + (a ++ [stepD n]).length ≤ 3 := by simp; omega
    show (put (stepC n) (a ++ [stepD n]) (meantK a l n)).length ≤ _
    have h2 := Nat.mul_le_mul ih e
    have h3 : (meantK a l n).length * (1 + (a ++ [stepD n]).length) ≤ (4096 * 3 ^ n) * 3 := h2
    rw [Nat.pow_succ, ← Nat.mul_assoc]
    omega

theorem rep_step {prog : Program} {w : World} {A : Around} {E : Value → Shared → Prop} {s : Shared} {a l : List Nat} {y z : Str} {n : Nat} {t u v : Tok} {Q : Value → Shared → Prop}
    (hn : n < 4) (hy : y = S [stepC n]) (hz : z = S [stepD n]) (hl : l.length ≤ 4096) (ha : a.length ≤ 1) (hu : @Ne Nat u 0) (hv : @Ne Nat v 0) (huv : @Ne Nat u v)
    (hq : ∀ t' k, Q (.str (S (meantK a l (n + 1))) t') { s with toks := k }) :
    wpAny (model prog w) A (call (.builtin "str.replace") [.str (S (meantK a l n)) t, .str y u, .str (S a ++ z) v]) Q E s := by
  subst hy hz
  have e : stepC n ≠ stepD n := by
    match n, hn with
    | 0, _ => decide
    | 1, _ => decide
    | 2, _ => decide
    | 3, _ => decide
  have hlen := meantK_len hl ha n (by omega)
  have h4 : 4096 * 3 ^ n ≤ 4096 * 3 ^ 3 := Nat.mul_le_mul_left _ (Nat.pow_le_pow_right (by decide) (by omega))
  rw [S_append]
  refine SC.replace hu hv huv (lit_ne a e) ?_ fun t' k => ?_
  · rw [S_length, S_length]
    have h1 : (a ++ [stepD n]).length ≤ 2 := by simp; omega
    have h2 : ((meantK a l n).length + 1) * (a ++ [stepD n]).length ≤ ((meantK a l n).length + 1) * 2 := Nat.mul_le_mul_left _ h1
    have h5 : 4096 * 3 ^ 3 = 110592 := by decide
    omega
  · have := hq t' k
    rw [show Txt.replace (S (meantK a l n)) (S [stepC n]) (S (a ++ [stepD n])) = S (meantK a l (n + 1)) from replace_S _ _ _]
    exact this

local macro_rules | `(tactic| walk_at "execs cons") => `(tactic| (with_reducible refine wpAny_execs_cons ?_; (try dsimp only)))
theorem add_lit {prog : Program} {w : World} {A : Around} {E : Value → Shared → Prop} {s : Shared} {a : List Nat} {y : Str} {t u : Tok} {Q : Value → Shared → Prop} (ha : a.length ≤ 1) (hy : y.length = 1)
    (hq : ∀ t' k, s.toks ≤ k → (@Eq Nat t' u ∨ @Eq Nat t' s.toks) → Q (.str (S a ++ y) t') { s with toks := k }) :
    wpAny (model prog w) A (binaryOp .Add (.str (S a) t) (.str y u)) Q E s := by
  refine add_tok (by rw [S_length, hy]; exact Nat.le_trans (Nat.add_le_add_right ha _) (Nat.le_of_ble_eq_true rfl)) fun t' k h1 h2 h3 h4 => hq t' k h1 ?_
  by_cases e : (S a).length = 0
  · exact .inl (h3 e)
  · exact .inr (h4 e (by omega))
local macro_rules | `(tactic| walk_at "binaryOp Add str str") => `(tactic| with_reducible refine hold ?_)
local macro_rules | `(tactic| walk_at "call builtin:str.replace") => `(tactic| with_reducible refine hold ?_)

set_option maxHeartbeats 8000000 in
theorem meant_ct (w : World) (p : Program) (loose : List Str) (mean : ExcName → Option Value) (mg mb : Str → Option Value) (l a : List Nat) (t u : Tok) (hl : l.length ≤ 4096) (ha : a.length ≤ 1) :
    Ct w p loose mean mg mb 114 [.str (S l) t, .str (S a) u] (fun tl r => ∃ t', r = .str (S (meant a l)) t') := by
  unfold Ct
  w_top off
  k_fill
  intro dp un gd cn cs adr ccd cl outer A₀ base h₀ L m s Q E B F X T hk hd hu hret
  refine wpAny_call ?_
  k_dflt (refine' enterA (binds := [(Str.ofString "text", .str (S l) t), (Str.ofString "ahead", .str (S a) u)]) B F X T rfl rfl hk ?k6 ?k7 ?k8 ?k9 ?kB ?_ ?c2 ?c3 ?c4 ?c5; (case k6 => k_is); (case k7 => k_is); (case k8 => ktr_room); (case k9 => exact BindsTo.of_eq rfl); (case c5 => decide); (case kB => exact locs rfl); (case c2 => exact rfl); (case c3 => exact rfl); (case c4 => exact rfl); k_whole)
  intro h₁ F' N' B' X' T'
  clear B F X T
  have htk : 2 ≤ s.toks + 2 := by omega
  dsimp only [List.length_cons, List.length_nil]
  revert htk
  generalize s.toks + 2 = tk0
  intro htk
  refine wpAny_execs_cons ?_
  refine wpAny_For ?_
  k_steps
  dsimp only
  rename News _ _ _ _ => N'
  rename Fr _ _ _ _ => F'
  refine iterListW (vs := [_, _, _, _]) rfl F' N' (List.Mem.head _) (fun i m nx => nx = _ ∧ ∃ t', Has m [(Str.ofString "text", .str (S (meantK a l i)) t'), (Str.ofString "ahead", .str (S a) u)]) ?hk ⟨rfl, t, rfl, rfl, trivial⟩ ?hs ?hd
  case hk => rintro i m nx ⟨rfl, _⟩; exact List.Mem.head _
  case hs =>
    rintro i v m₁ nx h tk own hv ⟨rfl, t1, hm1⟩ hoff htk1 F1 N1
    have F2 := frHas F1 hm1; dsimp only [kstB] at F2
    clear F1 hm1 F' N'
    simp only [List.cons_append, List.nil_append] at N1
    dsimp only at htk1
    rcases i with _ | _ | _ | _ | i
    all_goals (first | (obtain rfl := Option.some.inj hv) | exact absurd hv (by simp))
    all_goals clear hv
    k_steps
    all_goals (
      refine unhold ?_
      refine add_lit (by assumption) (by decide +kernel) ?_
      intro t2 k2 hk2 ht2
      dsimp only at hk2 ht2)
    k_steps
    all_goals (
      refine unhold ?_
      (first | refine rep_step (n := 0) (by decide) (by decide +kernel) (by decide +kernel) ?h1 ?h2 ?h3 ?h4 ?h5 ?_ | refine rep_step (n := 1) (by decide) (by decide +kernel) (by decide +kernel) ?h1 ?h2 ?h3 ?h4 ?h5 ?_ | refine rep_step (n := 2) (by decide) (by decide +kernel) (by decide +kernel) ?h1 ?h2 ?h3 ?h4 ?h5 ?_ | refine rep_step (n := 3) (by decide) (by decide +kernel) (by decide +kernel) ?h1 ?h2 ?h3 ?h4 ?h5 ?_); (case h1 => assumption); (case h2 => assumption); (case h3 => omega); (case h4 => omega); (case h5 => omega); intro t3 k3)
    k_steps
    all_goals (
      rename News _ _ _ _ => N3
      rename Fr _ _ _ _ => F3
      exact InvEndG.intro F3 N3 ⟨rfl, _, rfl, rfl, trivial⟩ hoff (fun p hp => List.mem_append_left own hp) (fun p hp => List.mem_append_right [_, _, _, _, _] hp))
  case hd =>
    rintro h tk m₁ nx ⟨rfl, t1, hm1⟩ htk1 F1 N1
    have F2 := frHas F1 hm1; dsimp only [kstB] at F2
    clear F1 hm1 F' N'
    k_steps
    dsimp only
    rename News _ _ _ _ => N3
    rename Fr _ _ _ _ => F3
    exact leaveA_ F3 N3 fun hk1 _ => hret _ [] _ _ hk1 (fun _ h => nomatch h) ⟨_, rfl⟩
end Mine
end

section
open PySem PySem.W
namespace Mine
noncomputable abbrev Rows := List (List (List Nat))
noncomputable def wD (w : List Nat) : Dat := .str (S w)
noncomputable def rowD (r : List (List Nat)) : Dat := .list (r.map wD)
noncomputable def rowsD (R : Rows) : Dat := .list (R.map rowD)

/-- what one escaped sign means -/
noncomputable def here1 (c : Nat) : Nat := if c = 81 then 34 else if c = 66 then 92 else if c = 83 then 32 else if c = 76 then 10 else c
theorem meant_one (c : Nat) : meant [] [c] = [here1 c] := by
  unfold meant here1
  by_cases h1 : c = 81
  · subst h1; decide
  · by_cases h2 : c = 66
    · subst h2; decide
    · by_cases h3 : c = 83
      · subst h3; decide
      · by_cases h4 : c = 76
        · subst h4; decide
        · simp [put, h1, h2, h3, h4]

structure RS where
  clear : Rows
  within : Rows
  bare : Rows
  beyond : Rows
  later : List Nat

noncomputable def insideR (c : Nat) (z : RS) : Rows :=
  if c = 34 ∧ z.later = [34] then ([] :: z.beyond.headD []) :: z.beyond.tail
  else if c = 34 then [[]] :: z.clear
  else ((here1 c :: (z.within.headD []).headD []) :: (z.within.headD []).tail) :: z.within.tail
noncomputable def nakedR (c : Nat) (z : RS) : Rows := [here1 c :: (z.bare.headD []).headD []] :: z.bare.tail
noncomputable def stepR (c : Nat) (z : RS) : RS :=
  ⟨if c = 32 then z.clear else if c = 34 then z.within else nakedR c z, insideR c z, if c = 32 then [[]] :: z.clear else nakedR c z, z.within, [c]⟩
noncomputable def initR : RS := ⟨[], [[[]]], [[[]]], [[[]]], []⟩
noncomputable def runR (l : List Nat) : RS := l.foldr stepR initR
noncomputable def rowsOf (l : List Nat) : Rows := (runR l).clear

/-- as long as the text at most -/
noncomputable def Bd (n : Nat) (R : Rows) : Prop := R.length ≤ n + 1 ∧ ∀ r ∈ R, r.length ≤ n + 1 ∧ ∀ w ∈ r, w.length ≤ n + 1
theorem Bd.mono {n : Nat} {R : Rows} (h : Bd n R) : Bd (n + 1) R :=
  ⟨Nat.le_succ_of_le h.1, fun r hr => ⟨Nat.le_succ_of_le (h.2 r hr).1, fun w hw => Nat.le_succ_of_le ((h.2 r hr).2 w hw)⟩⟩
structure Fine (n : Nat) (z : RS) : Prop where
  w : ∃ w0 wr W, z.within = (w0 :: wr) :: W
  b : ∃ b0 br B, z.bare = (b0 :: br) :: B
  y : ∃ Y0 Y, z.beyond = Y0 :: Y
  bc : Bd n z.clear
  bw : Bd n z.within
  bb : Bd n z.bare
  byd : Bd n z.beyond
theorem Bd.cons {n : Nat} {r : List (List Nat)} {R : Rows} (h : Bd n R) (h1 : r.length ≤ n + 2) (h2 : ∀ w ∈ r, w.length ≤ n + 2) : Bd (n + 1) (r :: R) := by
  refine ⟨by rw [List.length_cons]; have := h.1; omega, fun q hq => ?_⟩
  rcases List.mem_cons.mp hq with rfl | hq
  · exact ⟨h1, h2⟩
  · exact h.mono.2 q hq
theorem Bd.swap {n : Nat} {r r' : List (List Nat)} {R : Rows} (h : Bd n (r :: R)) (h1 : r'.length ≤ n + 2) (h2 : ∀ w ∈ r', w.length ≤ n + 2) : Bd (n + 1) (r' :: R) := by
  refine ⟨Nat.le_succ_of_le h.1, fun q hq => ?_⟩
  rcases List.mem_cons.mp hq with rfl | hq
  · exact ⟨h1, h2⟩
  · exact h.mono.2 q (List.mem_cons_of_mem _ hq)
theorem fine_init : Fine 0 initR := by
  refine ⟨⟨[], [], [], rfl⟩, ⟨[], [], [], rfl⟩, ⟨[[]], [], rfl⟩, ?_, ?_, ?_, ?_⟩
  all_goals simp [Bd, initR]
theorem fine_step {n : Nat} {c : Nat} {z : RS} (h : Fine n z) : Fine (n + 1) (stepR c z) := by
  obtain ⟨w0, wr, W, hw⟩ := h.w
  obtain ⟨b0, br, B, hb⟩ := h.b
  obtain ⟨Y0, Y, hy⟩ := h.y
  have bw := h.bw
  have bb := h.bb
  have byd := h.byd
  have bc := h.bc
  rw [hw] at bw
  rw [hb] at bb
  rw [hy] at byd
  have hw0 := (bw.2 _ (List.mem_cons_self ..))
  have hb0 := (bb.2 _ (List.mem_cons_self ..))
  have hy0 := (byd.2 _ (List.mem_cons_self ..))
  have h1 : Bd (n + 1) ([[]] :: z.clear) := bc.cons (by simp) (by simp)
  have e0 : nakedR c z = [here1 c :: b0] :: B := by simp [nakedR, hb]
  have h2 : Bd (n + 1) (nakedR c z) := by
    rw [e0]
    refine bb.swap (by simp) fun w hw' => ?_
    rw [List.mem_singleton.mp hw', List.length_cons]
    have := hb0.2 b0 (List.mem_cons_self ..)
    omega
  have e1 : insideR c z = if c = 34 ∧ z.later = [34] then ([] :: Y0) :: Y else if c = 34 then [[]] :: z.clear else ((here1 c :: w0) :: wr) :: W := by
    simp [insideR, hw, hy]
  have h3 : Bd (n + 1) (insideR c z) := by
    rw [e1]
    split
    · refine byd.swap (by rw [List.length_cons]; have := hy0.1; omega) fun w hw' => ?_
      rcases List.mem_cons.mp hw' with rfl | hw'
      · simp
      · have := hy0.2 w hw'; omega
    · split
      · exact h1
      · refine bw.swap (by rw [List.length_cons]; have := hw0.1; rw [List.length_cons] at this; omega) fun w hw' => ?_
        rcases List.mem_cons.mp hw' with rfl | hw'
        · rw [List.length_cons]; have := hw0.2 w0 (List.mem_cons_self ..); omega
        · have := hw0.2 w (List.mem_cons_of_mem _ hw'); omega
  refine ⟨?_, ?_, ⟨_, _, hw⟩, ?_, h3, ?_, h.bw.mono⟩
  · show ∃ w0 wr W, insideR c z = (w0 :: wr) :: W
    rw [e1]
    split
    · exact ⟨_, _, _, rfl⟩
    · split <;> exact ⟨_, _, _, rfl⟩
  · show ∃ b0 br B, (if c = 32 then [[]] :: z.clear else nakedR c z) = (b0 :: br) :: B
    rw [e0]
    split <;> exact ⟨_, _, _, rfl⟩
  · show Bd (n + 1) (if c = 32 then z.clear else if c = 34 then z.within else nakedR c z)
    split
    · exact bc.mono
    · split
      · exact h.bw.mono
      · exact h2
  · show Bd (n + 1) (if c = 32 then [[]] :: z.clear else nakedR c z)
    split
    · exact h1
    · exact h2
theorem fine_run : ∀ l : List Nat, Fine l.length (runR l)
  | [] => fine_init
  | c :: l => fine_step (fine_run l)
end Mine
end

section
set_option maxRecDepth 100000
open PySem PySem.W PySem.Calls PyProof.Rows
namespace Mine
section
variable {prog : Program} {w : World} {A : Around} {s : Shared} {env : Env} {g : Heap} {target : PySem.Expr} {body : List Stmt} {Q : Flow → Shared → Prop}

theorem iterStrW {l : List Nat} {t : Tok} {m : Str → Option Value} {news : List (Addr × Obj)} (hh : A.handled = none)
    (F : Fr g env.locals s.heap m) (N : News g env.locals s.heap news) (J : Nat → (Str → Option Value) → List (Addr × Obj) → Prop) (h0 : J 0 m news)
    (step : ∀ i c t m₁ nx h tk own, l[i]? = some c → J i m₁ nx → OwnOff own (nx.map (·.1)) → s.toks ≤ tk → Fr g env.locals h m₁ → News g env.locals h (nx ++ own) →
      wpAny (model prog w) A (assign target env (.str (S [c]) t)) (fun _ s₂ => wpAny (model prog w) A (execs body env) (InvPostG g env.locals (J (i + 1)) own { s with heap := h, toks := tk } Q) (fun _ _ => False) s₂) (fun _ _ => False) { s with heap := h, toks := tk })
    (done : ∀ h tk m₁ nx, J l.length m₁ nx → s.toks ≤ tk → Fr g env.locals h m₁ → News g env.locals h nx → Q .next { s with heap := h, toks := tk })
    (ht : ∀ I v, letOwnedTupleGo target (.ref I) v = pure () := by intro _ _; rfl) :
    wpAny (model prog w) A (pyIter (.str (S l) t)) (fun it s₂ => codeAny (model prog w) A (.forLoop target it body [] env) (fun r s' => match r with | .ok f => Q f s' | .error e => cameBackBy (model prog w) A env (fun _ _ => False) e s') s₂) (fun _ _ => False) s := by
  have go : ∀ (o : Obj) (cls : String), Walks prog w A s.heap.objs.size [s.heap.objs.size] [s.heap.objs.size] (S l).cps.size (SignAt (S l)) (fun i h => h.IsStrIter s.heap.objs.size cls (S l) t i) → (s.heap.push o).IsStrIter s.heap.objs.size cls (S l) t 0 →
      codeAny (model prog w) A (.forLoop target (.ref s.heap.objs.size) body [] env) (fun r s' => match r with | .ok f => Q f s' | .error e => cameBackBy (model prog w) A env (fun _ _ => False) e s') { s with heap := s.heap.push o } := by
    intro o cls W hst
    have hsz : (S l).cps.size = l.length := S_length l
    refine forW W [] J (fun b hb => .inl hb) (fun _ _ _ _ p hp => nomatch hp) ?_ ?_ (fun p hp hI => ?_) ?_ hst (F.push _) (fun p hp => ⟨Heap.get?_push_of_some _ (N p hp).1, (N p hp).2⟩) h0 ?_ ?_ (fun i v s Q E st q => wpAny_of_eq (ht _ v) q)
    · intro hI
      exact absurd F.ns.lt ((List.mem_singleton.mp hI) ▸ Nat.lt_irrefl _)
    · intro b hb
      rw [List.mem_singleton.mp hb]
      exact next_is_new F
    · exact absurd (Heap.lt_size (N p hp).1) ((List.mem_singleton.mp hI) ▸ Nat.lt_irrefl _)
    · intro i h st b hb
      obtain ⟨it, hit, _⟩ := st
      exact ⟨it, by rw [List.mem_singleton.mp hb]; exact hit⟩
    · rintro i v m₁ nx h tk own hi ⟨c, u, hc, rfl⟩ hJ hoff htk F₁ N₁
      exact step i c u m₁ nx h tk own (by simpa [S] using hc) hJ hoff htk F₁ N₁
    · intro h tk m₁ nx hJ
      rw [hsz] at hJ
      exact done h tk m₁ nx hJ
  cases ha : (S l).cps.all (· < 128)
  · exact wpAny_pyIter_wide ha (go _ _ (Walks.strWide hh _ (S l) t) ⟨_, Heap.get?_push_size _ rfl, rfl, rfl⟩)
  · exact wpAny_pyIter_ascii ha (go _ _ (Walks.strAscii hh _ (S l) t) ⟨_, Heap.get?_push_size _ rfl, rfl, rfl⟩)
end

/-- level two: a def that calls one of level one -/
noncomputable abbrev Ct2 (w : World) (p : Program) (loose : List Str) (mean : ExcName → Option Value) (mg mb : Str → Option Value) (f : Addr) (vs : List Value) (Out : List (Addr × Obj) → Value → Prop) : Prop :=
  ∀ (dp un : Nat) (gd : Option (List Code)) (cn : Str) (cs : Scope) (a : Addr) (ccd : Value) (cl : List (Str × Addr)) (outer : List Env) (A₀ : Around) (base h₀ : Heap) (L : Addr) (m : Str → Option Value) (s : Shared) (Q E : Value → Shared → Prop),
    Below A₀ base outer h₀ → Fr h₀ L s.heap m → (Mine.hd.heap_39 w.params).In h₀ → Top p loose mean mg mb h₀ → cs.kind = .function → dp + 40 < recursionLimit → un + 400 < cLine → RetOf s Q Out →
    wpAny (model PySem.Challenge.rw_wn0029_01.row.prog w) (ktrTop dp un gd cn cs L a ccd cl outer) (call (.ref f) vs) Q E s

theorem meant_call {w : World} {p : Program} {loose : List Str} {mean : ExcName → Option Value} {mg mb : Str → Option Value} {l a : List Nat} {t u : Tok} {y : Str}
    {dp un : Nat} {gd : Option (List Code)} {cn : Str} {cs : Scope} {ad : Addr} {ccd : Value} {cl : List (Str × Addr)} {outer : List Env} {A₀ : Around} {base h₀ : Heap} {L : Addr} {m : Str → Option Value} {s : Shared} {Q E : Value → Shared → Prop} {news : List (Addr × Obj)}
    (hy : y = S a) (hl : l.length ≤ 4096) (ha : a.length ≤ 1)
    (B : Below A₀ base outer h₀) (F : Fr h₀ L s.heap m) (X : (Mine.hd.heap_39 w.params).In h₀) (N : News h₀ L s.heap news) (T : Top p loose mean mg mb h₀) (hk : cs.kind = .function) (hd : dp + 10 < recursionLimit) (hu : un + 80 < cLine)
    (h : ∀ t' h' tk', Fr h₀ L h' m → News h₀ L h' news → s.toks ≤ tk' → Q (.str (S (meant a l)) t') { s with heap := h', toks := tk' }) :
    wpAny (model PySem.Challenge.rw_wn0029_01.row.prog w) (ktrTop dp un gd cn cs L ad ccd cl outer) (call (.ref 114) [.str (S l) t, .str y u]) Q E s := by
  subst hy
  refine Ct.use (meant_ct w p loose mean mg mb l a t u hl ha) B F X N T hk hd hu fun r tl h' tk' F' N' _ htk ho => ?_
  obtain ⟨t', rfl⟩ := ho
  exact h t' h' tk' F' (fun q hq => N' q (List.mem_append_right _ hq)) htk
end Mine
end

section
set_option maxRecDepth 100000
open PySem PySem.W PySem.Calls PyProof.Rows
namespace Mine
local macro_rules | `(tactic| walk_at "execs cons") => `(tactic| (with_reducible refine wpAny_execs_cons ?_; (try dsimp only)))
local macro_rules | `(tactic| walk_at "my item") => `(tactic| (refine' item_S ?hi ?hc ?hl ?_; (case hc => assumption); (case hi => omega); (case hl => first | omega | (simp only [List.length_append, List.length_cons, List.length_nil]; omega))))
local macro_rules | `(tactic| walk_at "subscriptTail Name Name str int") => `(tactic| walk_at "my item")
local macro_rules | `(tactic| walk_at "subscriptTail Name Constant str int") => `(tactic| walk_at "my item")
local macro_rules | `(tactic| walk_at "compareOp Eq str str") => `(tactic| (with_reducible show wpAny _ _ (compareOp CmpOp.Eq (Value.str (S [_]) _) (Value.str (Str.ofString _) _)) _ _ _; first | refine cmp_one (d := 32) (by decide +kernel) ?_ | refine cmp_one (d := 34) (by decide +kernel) ?_ | refine cmp_one (d := 92) (by decide +kernel) ?_ | refine cmp_one (d := 10) (by decide +kernel) ?_))
local macro_rules | `(tactic| walk_at "call builtin:len") => `(tactic| (with_reducible show wpAny _ _ (call (Value.builtin "len") [Value.str (S _) _]) _ _ _; (refine' len_S ?hl ?_; (case hl => first | omega | (simp only [List.length_append, List.length_cons, List.length_nil]; omega))); intro t9 k9))
local macro_rules | `(tactic| walk_at "my fits") => `(tactic| (refine fitsS ?_; first | omega | (simp only [List.length_append, List.length_cons, List.length_nil]; omega)))
local macro_rules | `(tactic| walk_at "my slice") => `(tactic| (first
  | ((with_reducible show wpAny _ _ (subscriptTail _ (Expr.Slice (some _) (some _) none _) _ _) _ _ _); (with_reducible rename Fr _ _ _ _ => F'); (with_reducible rename News _ _ _ _ => N'); (refine slice_strN_ss (hsz := ?hsz) (s := ⟨_, _, _, _, _⟩) F' N' ?_); (case hsz => walk_at "my fits"); intro _ _ _ _ _; (try k_sweep); (try dsimp only))
  | ((with_reducible show wpAny _ _ (subscriptTail _ (Expr.Slice none (some _) none _) _ _) _ _ _); (with_reducible rename Fr _ _ _ _ => F'); (with_reducible rename News _ _ _ _ => N'); (refine slice_strN_ns (hsz := ?hsz) (s := ⟨_, _, _, _, _⟩) F' N' ?_); (case hsz => walk_at "my fits"); intro _ _ _ _ _; (try k_sweep); (try dsimp only))
  | ((with_reducible show wpAny _ _ (subscriptTail _ (Expr.Slice (some _) none none _) _ _) _ _ _); (with_reducible rename Fr _ _ _ _ => F'); (with_reducible rename News _ _ _ _ => N'); (refine slice_strN_sn (hsz := ?hsz) (s := ⟨_, _, _, _, _⟩) F' N' ?_); (case hsz => walk_at "my fits"); intro _ _ _ _ _; (try k_sweep); (try dsimp only))))
local macro_rules | `(tactic| walk_at "subscriptTail Name Slice str ref") => `(tactic| walk_at "my slice")
local macro_rules | `(tactic| walk_at "subscriptTail Name Slice str ref") => `(tactic| ((with_reducible show wpAny _ _ (subscriptTail _ (Expr.Slice none none (some _) _) _ _) _ _ _); (with_reducible rename Fr _ _ _ _ => F'); (with_reducible rename News _ _ _ _ => N'); k_dflt (refine slice_strK_nn (hsz := ?hsz) (s := ⟨_, _, _, _, _⟩) F' N' (by decide) ?_); (case hsz => walk_at "my fits"); intro _ _ _ _ _; (try k_sweep); (try dsimp only)))
local macro_rules | `(tactic| walk_at "my len") => `(tactic| first | omega | ((try simp only [List.length_append, List.length_cons, List.length_nil]); first | done | omega))
local macro_rules | `(tactic| walk_at "my item") => `(tactic| (refine' item_At ?hc ?hl ?_; (case hc => assumption); (case hl => walk_at "my len")))
local macro_rules | `(tactic| walk_at "compareOp NotEq str str") => `(tactic| (with_reducible show wpAny _ _ (compareOp CmpOp.NotEq (Value.str (S [_]) _) (Value.str (Str.ofString _) _)) _ _ _; first | refine ne_one (d := 32) (by decide +kernel) ?_ | refine ne_one (d := 34) (by decide +kernel) ?_ | refine ne_one (d := 92) (by decide +kernel) ?_ | refine ne_one (d := 10) (by decide +kernel) ?_))
local macro_rules | `(tactic| walk_at "my add") => `(tactic| (with_reducible show wpAny _ _ (binaryOp Operator.Add (Value.str (S _) _) (Value.str (S _) _)) _ _ _; (refine' add_S ?hl ?hm ?_; (case hl => walk_at "my len"); (case hm => walk_at "my len")); intro t9 k9))
local macro_rules | `(tactic| walk_at "exec While") => `(tactic| with_reducible refine hold ?_)
local macro_rules | `(tactic| walk_at "exec While Compare cons nil") => `(tactic| with_reducible refine hold ?_)
local macro_rules | `(tactic| walk_at "exec While BoolOp cons nil") => `(tactic| with_reducible refine hold ?_)
local macro_rules | `(tactic| walk_at "exec For") => `(tactic| with_reducible refine hold ?_)
local macro_rules | `(tactic| walk_at "exec For Name Name cons nil") => `(tactic| with_reducible refine hold ?_)
local macro_rules | `(tactic| walk_at "exec For Name Call cons nil") => `(tactic| with_reducible refine hold ?_)
local macro_rules | `(tactic| walk_at "exec For Name Subscript cons nil") => `(tactic| with_reducible refine hold ?_)
local macro_rules | `(tactic| walk_at "exec For Tuple List cons nil") => `(tactic| with_reducible refine hold ?_)
local macro_rules | `(tactic| walk_at "ite") => `(tactic| k_dflt (first
  | refine ite_pos (by first | omega | (simp only [decide_eq_true_eq, decide_eq_false_iff_not, Bool.not_eq_true', Bool.not_eq_true, Bool.not_eq_false']; omega)) ?_
  | refine ite_neg (by first | omega | (simp only [decide_eq_true_eq, decide_eq_false_iff_not, Bool.not_eq_true', Bool.not_eq_true, Bool.not_eq_false', Bool.not_eq_false, Decidable.not_not]; omega)) ?_))

section
theorem anewM2 : True := by first | walk1 | trivial
theorem drop_blanks : ∀ (l : List Nat) (j : Nat), (∀ i, i < j → l[i]? = some 32) → (∀ c, l[j]? = some c → c ≠ 32) → l.drop j = l.dropWhile (· == 32)
  | [], j, _, _ => by simp
  | c :: r, 0, _, h => by
    have := h c rfl
    simp [this]
  | c :: r, j + 1, h1, h2 => by
    have e : c = 32 := by simpa using h1 0 (by omega)
    have ih := drop_blanks r j (fun i hi => by simpa using h1 (i + 1) (by omega)) (fun d hd => h2 d (by simpa using hd))
    simp [e, ih]

set_option maxHeartbeats 8000000 in
theorem strip_ct (w : World) (p : Program) (loose : List Str) (mean : ExcName → Option Value) (mg mb : Str → Option Value) (l : List Nat) (t u : Tok) (hl : l.length ≤ 4096) :
    Ct w p loose mean mg mb 60 [.str (S (l ++ [46])) t, .int (l.length : Int) u] (fun _ r => ∃ t', r = .str (S (l.dropWhile (· == 32) ++ [46])) t') := by
  unfold Ct
  w_top off
  k_fill
  intro dp un gd cn cs adr ccd cl outer A₀ base h₀ L m s Q E B F X T hk hd hu hret
  refine wpAny_call ?_
  k_dflt (refine' enterA (binds := [(Str.ofString "s", .str (S (l ++ [46])) t), (Str.ofString "amount", .int (l.length : Int) u)]) B F X T rfl rfl hk ?k6 ?k7 ?k8 ?k9 ?kB ?_ ?c2 ?c3 ?c4 ?c5; (case k6 => k_is); (case k7 => k_is); (case k8 => ktr_room); (case k9 => exact BindsTo.of_eq rfl); (case c5 => decide); (case kB => exact locs rfl); (case c2 => exact rfl); (case c3 => exact rfl); (case c4 => exact rfl); k_whole)
  intro h₁ F' N' B' X' T'
  clear B F X T
  refine wpAny_execs_cons ?_
  refine stopAt fun Tk Qk hQk => ?_
  k_steps
  refine hQk _ _ ?_
  clear hQk Qk Tk
  rename News _ _ _ _ => N1
  rename Fr _ _ _ _ => F1
  dsimp only
  refine wpAny_execs_cons ?_
  refine WhileK (fun n m nx => nx = [] ∧ n ≤ l.length ∧ (∀ i, i < l.length - n → l[i]? = some 32) ∧ ∃ (a k : Int) (t1 t2 t3 : Tok), a = (n : Int) ∧ k = (l.length : Int) - (n : Int) ∧ Has m [(Str.ofString "s", .str (S (l ++ [46])) t1), (Str.ofString "amount", .int a t2), (Str.ofString "lpos", .int k t3)])
    (fun m nx => nx = [] ∧ ∃ (j : Nat) (a k : Int) (t1 t2 t3 : Tok), j ≤ l.length ∧ l.drop j = l.dropWhile (· == 32) ∧ k = (j : Int) ∧ Has m [(Str.ofString "s", .str (S (l ++ [46])) t1), (Str.ofString "amount", .int a t2), (Str.ofString "lpos", .int k t3)])
    l.length F1 N1 ⟨rfl, Nat.le_refl _, fun i hi => absurd hi (by omega), _, _, t, u, _, rfl, by omega, rfl, rfl, rfl, trivial⟩ ?_ ?_
  · rintro n m₁ nx h tk ⟨rfl, hn, hb, a, k, t1, t2, t3, ha, hkk, hm⟩ F2 N2
    have F3 := frHas F2 hm; dsimp only [kstB] at F3
    clear F1 N1 F2 hm
    dsimp only
    have hci : (l.length - n) < (l ++ [46]).length := by simp; omega
    obtain ⟨c, hc⟩ : ∃ c, (l ++ [46])[l.length - n]? = some c := ⟨_, List.getElem?_eq_getElem hci⟩
    refine stopAt fun Tk Qk hQk => ?_
    k_steps
    all_goals refine hQk _ _ ?_
    all_goals clear hQk Qk Tk
    · rename News _ _ _ _ => N3
      rename Fr _ _ _ _ => F4
      dsimp only [WTest]
      refine stopAt fun Tk Qk hQk => ?_
      k_steps
      refine hQk _ _ ?_
      clear hQk Qk Tk N3 F4
      dsimp only
      rename News _ _ _ _ => N3
      rename Fr _ _ _ _ => F4
      rename c = 32 => hc32
      rename a ≠ 0 => ha0
      refine WEnd.intro (n - 1) (by omega) F4 N3 ⟨rfl, by omega, fun i hi => ?_, _, _, _, _, _, ?_, ?_, rfl, rfl, rfl, trivial⟩
      · by_cases hi2 : i < l.length - n
        · exact hb i hi2
        · have e : i = l.length - n := by omega
          rw [← e, List.getElem?_append_left (by omega), hc32] at hc
          exact hc
      · omega
      · omega
    · rename News _ _ _ _ => N3
      rename Fr _ _ _ _ => F4
      rename ¬ c = 32 => hc32
      rename a ≠ 0 => ha0
      refine WOut.intro F4 N3 ⟨rfl, l.length - n, a, k, _, _, _, by omega, drop_blanks _ _ hb fun d hd => ?_, by omega, rfl, rfl, rfl, trivial⟩
      rw [List.getElem?_append_left (by omega), hd] at hc
      rw [Option.some.inj hc]; exact hc32
    · rename News _ _ _ _ => N3
      rename Fr _ _ _ _ => F4
      refine WOut.intro F4 N3 ⟨rfl, l.length - n, a, k, _, _, _, by omega, drop_blanks _ _ hb fun d hd => ?_, by omega, rfl, rfl, rfl, trivial⟩
      rw [List.getElem?_eq_none (by omega)] at hd
      cases hd
  · rintro h tk m₁ nx ⟨rfl, j, a, k, t1, t2, t3, hj, hdj, hkj, hm⟩ F2 N2
    have F3 := frHas F2 hm; dsimp only [kstB] at F3
    clear F1 N1 F2 hm
    dsimp only
    refine wpAny_execs_cons ?_
    refine stopAt fun Tk Qk hQk => ?_
    k_steps
    refine hQk _ _ ?_
    clear hQk Qk Tk N2 F3
    rename News _ _ _ _ => N3
    rename Fr _ _ _ _ => F4
    dsimp only
    refine wpAny_execs_cons ?_
    refine WhileK (fun n m nx => nx = [] ∧ ∃ (r : Int) (t1 t2 t3 t4 : Tok), r = (l.length : Int) ∧ Has m [(Str.ofString "s", .str (S (l ++ [46])) t1), (Str.ofString "amount", .int a t2), (Str.ofString "lpos", .int k t3), (Str.ofString "rpos", .int r t4)])
      (fun m nx => nx = [] ∧ ∃ (r : Int) (t1 t2 t3 t4 : Tok), r = (l.length : Int) ∧ Has m [(Str.ofString "s", .str (S (l ++ [46])) t1), (Str.ofString "amount", .int a t2), (Str.ofString "lpos", .int k t3), (Str.ofString "rpos", .int r t4)])
      0 F4 N3 ⟨rfl, _, _, _, _, _, ?_, rfl, rfl, rfl, rfl, trivial⟩ ?_ ?_
    · simp only [List.length_append, List.length_cons, List.length_nil]; omega
    · rintro n m₁ nx h tk ⟨rfl, r, t1, t2, t3, t4, hr, hm⟩ F2 N2
      have F3 := frHas F2 hm; dsimp only [kstB] at F3
      clear F2 hm N3 F4
      dsimp only
      have hc : (l ++ [46])[l.length]? = some 46 := by simp
      refine stopAt fun Tk Qk hQk => ?_
      k_steps
      all_goals refine hQk _ _ ?_
      all_goals clear hQk Qk Tk
      all_goals (try dsimp only)
      · exact WOut.intro ‹_› ‹_› ⟨rfl, r, _, _, _, _, hr, rfl, rfl, rfl, rfl, trivial⟩
      · exact WOut.intro ‹_› ‹_› ⟨rfl, r, _, _, _, _, hr, rfl, rfl, rfl, rfl, trivial⟩
    · rintro h tk m₁ nx ⟨rfl, r, t1, t2, t3, t4, hr, hm⟩ F2 N2
      have F3 := frHas F2 hm; dsimp only [kstB] at F3
      clear F2 hm N3 F4
      dsimp only
      refine stopAt fun Tk Qk hQk => ?_
      k_steps
      refine hQk _ _ ?_
      clear hQk Qk Tk
      dsimp only
      rename News _ _ _ _ => N3
      rename Fr _ _ _ _ => F4
      refine leaveA_ F4 N3 fun hk1 _ => hret _ [] _ _ hk1 (fun _ h => nomatch h) ⟨_, congrArg (fun x => Value.str x _) ?_⟩
      have e1 : r + 1 = ((l.length + 1 : Nat) : Int) := by omega
      rw [hkj, e1, slice_ij _ (by omega) (by simp), ← hdj, List.drop_append_of_le_length hj]
      congr 2
      rw [List.take_of_length_le]
      simp; omega
end

section
theorem anewM3 : True := by first | walk1 | trivial
/-- the name that parse257 reads behind the opening quote -/
noncomputable def nameL : List Nat → List Nat
  | [] => []
  | [c] => if c = 34 then [] else [c]
  | c :: d :: r => if c = 34 then (if d = 34 then 34 :: nameL r else []) else c :: nameL (d :: r)
theorem nameL_other {c : Nat} (r : List Nat) (h : c ≠ 34) : nameL (c :: r) = c :: nameL r := by
  cases r with
  | nil => simp [nameL, h]
  | cons d r => simp [nameL, h]
theorem nameL_two (r : List Nat) : nameL (34 :: 34 :: r) = 34 :: nameL r := by simp [nameL]
theorem nameL_end : nameL [34] = [] := by simp [nameL]
theorem nameL_out {d : Nat} (r : List Nat) (h : d ≠ 34) : nameL (34 :: d :: r) = [] := by simp [nameL, h]

local macro_rules | `(tactic| walk_at "compareOp NotEq str str") => `(tactic| with_reducible refine hold ?_)
local macro_rules | `(tactic| walk_at "binaryOp Add str str") => `(tactic| walk_at "my add")

set_option maxHeartbeats 8000000 in
theorem parse_ct (w : World) (p : Program) (loose : List Str) (mean : ExcName → Option Value) (mg mb : Str → Option Value) (l : List Nat) (t : Tok) (hl : l.length ≤ 4096) :
    Ct w p loose mean mg mb 53 [.str (S (50 :: 53 :: 55 :: 32 :: 34 :: l)) t] (fun _ r => ∃ t', r = .str (S (nameL l)) t') := by
  unfold Ct
  w_top off
  k_fill
  intro dp un gd cn cs adr ccd cl outer A₀ base h₀ L m s Q E B F X T hk hd hu hret
  refine wpAny_call ?_
  k_dflt (refine' enterA (binds := [(Str.ofString "resp", .str (S (50 :: 53 :: 55 :: 32 :: 34 :: l)) t)]) B F X T rfl rfl hk ?k6 ?k7 ?k8 ?k9 ?kB ?_ ?c2 ?c3 ?c4 ?c5; (case k6 => k_is); (case k7 => k_is); (case k8 => ktr_room); (case k9 => exact BindsTo.of_eq rfl); (case c5 => decide); (case kB => exact locs rfl); (case c2 => exact rfl); (case c3 => exact rfl); (case c4 => exact rfl); k_whole)
  intro h₁ F' N' B' X' T'
  clear B F X T
  refine stopAt fun Tk Qk hQk => ?_
  k_steps
  repeat ((refine unhold ?_; first
      | (k_dflt (first
    | (refine ne_same (l := [50, 53, 55]) ?a (by decide +kernel) ?_; (case a => exact slice_to (j := 3) _ (by simp)))
    | (refine ne_same (l := [32, 34]) ?a (by decide +kernel) ?_; (case a => exact slice_ij (i := 3) (j := 5) _ (by omega) (by simp)))
    | refine ne_one (d := 34) (by decide +kernel) ?_))); k_steps)
  refine unhold ?_
  rename News _ _ _ _ => N1
  rename Fr _ _ _ _ => F1
  refine WhileK (fun n m nx => nx = [] ∧ ∃ (k : Nat) (d : List Nat) (i N : Int) (t1 t2 t3 t4 : Tok), k + n = l.length ∧ d.length ≤ k ∧ i = (k : Int) + 5 ∧ N = (l.length : Int) + 5 ∧ nameL l = d ++ nameL (l.drop k) ∧ Has m [(Str.ofString "resp", .str (S (50 :: 53 :: 55 :: 32 :: 34 :: l)) t1), (Str.ofString "dirname", .str (S d) t2), (Str.ofString "i", .int i t3), (Str.ofString "n", .int N t4)])
    (fun m nx => nx = [] ∧ ∃ t1, Has m [(Str.ofString "dirname", .str (S (nameL l)) t1)])
    l.length F1 N1 ⟨rfl, 0, [], _, _, t, _, _, _, by omega, Nat.le_refl _, rfl, by simp only [List.length_cons]; omega, rfl, rfl, congrArg (fun x => some (Value.str x _)) lit0, rfl, rfl, trivial⟩ ?_ ?_
  · rintro n m₁ nx h tk ⟨rfl, k, d, i, N, t1, t2, t3, t4, hkn, hdk, hi, hN, hname, hm⟩ F2 N2
    have F3 := frHas F2 hm; dsimp only [kstB] at F3
    clear F1 N1 F2 hm
    refine stopAt fun Tk Qk hQk => ?_
    k_steps
    repeat ((refine unhold ?_; first
        | (k_dflt (first
      | (refine ne_same (l := [50, 53, 55]) ?a (by decide +kernel) ?_; (case a => exact slice_to (j := 3) _ (by simp)))
      | (refine ne_same (l := [32, 34]) ?a (by decide +kernel) ?_; (case a => exact slice_ij (i := 3) (j := 5) _ (by omega) (by simp)))
      | refine ne_one (d := 34) (by decide +kernel) ?_))); k_steps)
    refine hQk _ _ ?_
    clear hQk Qk Tk
    rcases Nat.eq_zero_or_pos n with hn | hn
    · have e : decide (i < N) = false := by rw [decide_eq_false_iff_not]; omega
      rw [e]
      have e2 : l.drop k = [] := List.drop_of_length_le (by omega)
      rw [e2] at hname
      exact WOut.intro ‹_› ‹_› ⟨rfl, t2, by rw [hname]; simp only [nameL, List.append_nil]; rfl, trivial⟩
    · have e : decide (i < N) = true := by rw [decide_eq_true_iff]; omega
      rw [e]
      dsimp only [WTest]
      have hk1 : k < l.length := by omega
      have hdc : l.drop k = l[k] :: l.drop (k + 1) := List.drop_eq_getElem_cons hk1
      generalize hc : l[k] = c at hdc
      have hA : At (50 :: 53 :: 55 :: 32 :: 34 :: l) i c := ⟨k + 5, by omega, by simp [hk1, hc]⟩
      rw [hdc] at hname
      by_cases hc34 : c = 34
      · subst hc34
        rcases Nat.lt_or_ge (k + 1) l.length with hk2 | hk2
        · have hdc2 : l.drop (k + 1) = l[k + 1] :: l.drop (k + 2) := List.drop_eq_getElem_cons hk2
          generalize he : l[k + 1] = e at hdc2
          have hA2 : At (50 :: 53 :: 55 :: 32 :: 34 :: l) (i + 1) e := ⟨k + 6, by omega, by simp [hk2, he]⟩
          rw [hdc2] at hname
          by_cases he34 : e = 34
          · subst he34
            rw [nameL_two] at hname
            refine stopAt fun Tk Qk hQk => ?_
            k_steps
            repeat ((refine unhold ?_; first
                | (k_dflt (first
              | (refine ne_same (l := [50, 53, 55]) ?a (by decide +kernel) ?_; (case a => exact slice_to (j := 3) _ (by simp)))
              | (refine ne_same (l := [32, 34]) ?a (by decide +kernel) ?_; (case a => exact slice_ij (i := 3) (j := 5) _ (by omega) (by simp)))
              | refine ne_one (d := 34) (by decide +kernel) ?_))); k_steps)
            refine hQk _ _ ?_
            clear hQk Qk Tk
            exact WEnd.intro (n - 2) (by omega) ‹_› ‹_› ⟨rfl, k + 2, d ++ [34], i + 1 + 1, _, _, _, _, _, by omega, by simp; omega, by omega, hN, by rw [hname, List.append_assoc]; rfl, rfl, rfl, rfl, rfl, trivial⟩
          · rw [nameL_out _ he34] at hname
            refine stopAt fun Tk Qk hQk => ?_
            k_steps
            repeat ((refine unhold ?_; first
                | (k_dflt (first
              | (refine ne_same (l := [50, 53, 55]) ?a (by decide +kernel) ?_; (case a => exact slice_to (j := 3) _ (by simp)))
              | (refine ne_same (l := [32, 34]) ?a (by decide +kernel) ?_; (case a => exact slice_ij (i := 3) (j := 5) _ (by omega) (by simp)))
              | refine ne_one (d := 34) (by decide +kernel) ?_))); k_steps)
            refine hQk _ _ ?_
            clear hQk Qk Tk
            exact WOut.intro ‹_› ‹_› ⟨rfl, _, by rw [hname, List.append_nil]; rfl, trivial⟩
        · have hdc2 : l.drop (k + 1) = [] := List.drop_of_length_le hk2
          rw [hdc2, nameL_end] at hname
          refine stopAt fun Tk Qk hQk => ?_
          k_steps
          repeat ((refine unhold ?_; first
              | (k_dflt (first
            | (refine ne_same (l := [50, 53, 55]) ?a (by decide +kernel) ?_; (case a => exact slice_to (j := 3) _ (by simp)))
            | (refine ne_same (l := [32, 34]) ?a (by decide +kernel) ?_; (case a => exact slice_ij (i := 3) (j := 5) _ (by omega) (by simp)))
            | refine ne_one (d := 34) (by decide +kernel) ?_))); k_steps)
          refine hQk _ _ ?_
          clear hQk Qk Tk
          exact WOut.intro ‹_› ‹_› ⟨rfl, _, by rw [hname, List.append_nil]; rfl, trivial⟩
      · rw [nameL_other _ hc34] at hname
        refine stopAt fun Tk Qk hQk => ?_
        k_steps
        repeat ((refine unhold ?_; first
            | (k_dflt (first
          | (refine ne_same (l := [50, 53, 55]) ?a (by decide +kernel) ?_; (case a => exact slice_to (j := 3) _ (by simp)))
          | (refine ne_same (l := [32, 34]) ?a (by decide +kernel) ?_; (case a => exact slice_ij (i := 3) (j := 5) _ (by omega) (by simp)))
          | refine ne_one (d := 34) (by decide +kernel) ?_))); k_steps)
        refine hQk _ _ ?_
        clear hQk Qk Tk
        exact WEnd.intro (n - 1) (by omega) ‹_› ‹_› ⟨rfl, k + 1, d ++ [c], i + 1, _, _, _, _, _, by omega, by simp; omega, by omega, hN, by rw [hname, List.append_assoc]; rfl, rfl, rfl, rfl, rfl, trivial⟩
  · rintro h tk m₁ nx ⟨rfl, t1, hm⟩ F2 N2
    have F3 := frHas F2 hm; dsimp only [kstB] at F3
    clear F1 N1 F2 hm
    dsimp only
    k_steps
    repeat ((refine unhold ?_; first
        | (k_dflt (first
      | (refine ne_same (l := [50, 53, 55]) ?a (by decide +kernel) ?_; (case a => exact slice_to (j := 3) _ (by simp)))
      | (refine ne_same (l := [32, 34]) ?a (by decide +kernel) ?_; (case a => exact slice_ij (i := 3) (j := 5) _ (by omega) (by simp)))
      | refine ne_one (d := 34) (by decide +kernel) ?_))); k_steps)
    refine hQk _ _ ?_
    dsimp only
    exact leaveA_ ‹_› ‹_› fun hk1 _ => hret _ [] _ _ hk1 (fun _ h => nomatch h) ⟨_, rfl⟩
end

section
theorem anewM4 : True := by first | walk1 | trivial
theorem cmp_diff {prog : Program} {w : World} {A : Around} {E : Value → Shared → Prop} {s : Shared} {l : List Nat} {t u : Tok} {z : Str} {Q : Value → Shared → Prop} (hz : z = S [34]) (hne : l ≠ [34]) (h : Q (.bool false) s) : wpAny (model prog w) A (compareOp .Eq (.str (S l) t) (.str z u)) Q E s :=
  cmp_lit rfl hz (by rw [decide_eq_false hne]; exact h)
local macro_rules | `(tactic| walk_at "compareOp Eq str str") => `(tactic| k_dflt (refine cmp_diff (by decide +kernel) (by assumption) ?_))
local macro_rules | `(tactic| walk_at "pyIter str") => `(tactic| with_reducible refine hold ?_)
local macro_rules | `(tactic| walk_at "eval BinOp") => `(tactic| with_reducible refine hold ?_)
local macro_rules | `(tactic| walk_at "call ref") => `(tactic| with_reducible refine hold ?_)

theorem rev_drop (l : List Nat) (i c : Nat) (h : l.reverse[i]? = some c) : i < l.length ∧ l.drop (l.length - (i + 1)) = c :: l.drop (l.length - i) := by
  have hi : i < l.length := by
    rcases Nat.lt_or_ge i l.length with h1 | h1
    · exact h1
    · rw [List.getElem?_eq_none (by simpa using h1)] at h; cases h
  refine ⟨hi, ?_⟩
  have hlt : l.length - (i + 1) < l.length := by omega
  rw [List.drop_eq_getElem_cons hlt]
  rw [List.getElem?_reverse hi] at h
  have e1 : l.length - 1 - i = l.length - (i + 1) := by omega
  rw [e1, List.getElem?_eq_getElem hlt] at h
  have e2 : l.length - (i + 1) + 1 = l.length - i := by omega
  rw [Option.some.inj h, e2]
theorem own_off {add nx own cur : List (Addr × Obj)} (h : OwnOff own (nx.map (·.1))) (ho : OffOf add cur) (hs : ∀ p ∈ own, p ∈ cur) : OwnOff own ((add ++ nx).map (·.1)) := by
  intro p hp b hb
  obtain ⟨q, hq, rfl⟩ := List.mem_map.mp hb
  rcases List.mem_append.mp hq with hq | hq
  · exact fun e => ho q hq p (hs p hp) e.symm
  · exact h p hp _ (List.mem_map.mpr ⟨q, hq, rfl⟩)
local macro_rules | `(tactic| walk_at "my mem") => `(tactic| (intro p hp; (try simp only [List.mem_append, List.mem_cons] at hp ⊢); first | assumption | grind))

theorem datStr0 {nx : List (Addr × Obj)} {t : Tok} : DatIn nx (.str (Str.ofString "") t) (.str (S [])) := by rw [lit0]; exact .str _ _
/-- the state between two turns of _law_rows -/
noncomputable def RowsJ (z : RS) (m : Str → Option Value) (nx : List (Addr × Obj)) : Prop :=
  ∃ (vC vW vB vY : Value) (t2 : Tok), Has m [(Str.ofString "clear", vC), (Str.ofString "within", vW), (Str.ofString "bare", vB), (Str.ofString "beyond", vY), (Str.ofString "later", .str (S z.later) t2)] ∧
    DatIn nx vC (rowsD z.clear) ∧ DatIn nx vW (rowsD z.within) ∧ DatIn nx vB (rowsD z.bare) ∧ DatIn nx vY (rowsD z.beyond)

set_option maxHeartbeats 8000000 in
theorem rows_ct (w : World) (p : Program) (loose : List Str) (mean : ExcName → Option Value) (mg mb : Str → Option Value) (l : List Nat) (t : Tok) (hl : l.length ≤ 4000) :
    Ct2 w p loose mean mg mb 128 [.str (S l) t] (fun tl r => DatIn tl r (rowsD (rowsOf l))) := by
  unfold Ct2
  w_top off
  k_fill
  intro dp un gd cn cs adr ccd cl outer A₀ base h₀ L m s Q E B F X T hk hd hu hret
  refine wpAny_call ?_
  k_dflt (refine' enterA (binds := [(Str.ofString "hidden", .str (S l) t)]) B F X T rfl rfl hk ?k6 ?k7 ?k8 ?k9 ?kB ?_ ?c2 ?c3 ?c4 ?c5; (case k6 => k_is); (case k7 => k_is); (case k8 => ktr_room); (case k9 => exact BindsTo.of_eq rfl); (case c5 => decide); (case kB => exact locs rfl); (case c2 => exact rfl); (case c3 => exact rfl); (case c4 => exact rfl); k_whole)
  intro h₁ F' N' B' X' T'
  clear B F X T
  refine @stopAt Flow _ _ _ _ _ _ ?_
  intro Tk Qk hQk
  k_steps
  repeat ((refine unhold ?_; first
      | (k_dflt (refine' meant_call ?h1 ?h2 ?h3 ?h4 ?h5 ?h6 ?h7 ?h8 ?h9 ?h10 ?h11 ?_; (case h1 => exact lit0); (case h2 => walk_at "my len"); (case h3 => walk_at "my len"); (case h4 => k_asm); (case h5 => k_asm); (case h6 => k_asm); (case h7 => k_asm); (case h8 => k_asm); (case h9 => first | exact rfl | assumption); (case h10 => (dsimp only; omega)); (case h11 => (dsimp only; omega)); intro t9 h9 k9 F9 N9 l9))); k_steps)
  refine unhold ?_
  refine wpAny_For ?_
  k_steps
  repeat ((refine unhold ?_; first
      | (k_dflt (refine' meant_call ?h1 ?h2 ?h3 ?h4 ?h5 ?h6 ?h7 ?h8 ?h9 ?h10 ?h11 ?_; (case h1 => exact lit0); (case h2 => walk_at "my len"); (case h3 => walk_at "my len"); (case h4 => k_asm); (case h5 => k_asm); (case h6 => k_asm); (case h7 => k_asm); (case h8 => k_asm); (case h9 => first | exact rfl | assumption); (case h10 => (dsimp only; omega)); (case h11 => (dsimp only; omega)); intro t9 h9 k9 F9 N9 l9))); k_steps)
  refine unhold ?_
  rw [slice_rev]
  rename News _ _ _ _ => N1
  rename Fr _ _ _ _ => F1
  refine iterStrW rfl F1 N1 (fun i m nx => RowsJ (runR (l.drop (l.length - i))) m nx) ?_ ?_ ?_
  · rw [Nat.sub_zero, List.drop_length]
    refine ⟨_, _, _, _, _, ⟨rfl, rfl, rfl, rfl, congrArg (fun x => some (Value.str x _)) lit0, trivial⟩, ?_, ?_, ?_, ?_⟩
    · exact .list (by k_mem) .nil
    · exact .list (by k_mem) (.cons (.list (by k_mem) (.cons datStr0 .nil)) .nil)
    · exact .list (by k_mem) (.cons (.list (by k_mem) (.cons datStr0 .nil)) .nil)
    · exact .list (by k_mem) (.cons (.list (by k_mem) (.cons datStr0 .nil)) .nil)
  · rintro i c t m₁ nx h tk own hc ⟨vC, vW, vB, vY, t2, hm, DC, DW, DB, DY⟩ hoff htk F3 N3
    obtain ⟨hi, hdrop⟩ := rev_drop l i c hc
    have F2 := frHas F3 hm; dsimp only [kstB] at F2
    clear F1 N1 F3 hm htk hQk hc
    rw [hdrop]
    show wpAny _ _ _ (fun _ s₂ => wpAny _ _ _ (InvPostG _ _ (RowsJ (stepR c (runR (l.drop (l.length - i))))) _ _ _) _ s₂) _ _
    have fz := fine_run (l.drop (l.length - i))
    have hlen : (l.drop (l.length - i)).length ≤ 4000 := by rw [List.length_drop]; omega
    revert DC DW DB DY F2 fz
    generalize runR (l.drop (l.length - i)) = z
    generalize (l.drop (l.length - i)).length = n at hlen
    intro DC DW DB DY F2 fz
    obtain ⟨w0, wr, W, hw⟩ := fz.w
    obtain ⟨b0, br, B0, hb⟩ := fz.b
    obtain ⟨Y0, Y, hy⟩ := fz.y
    have bw := fz.bw
    have bb := fz.bb
    have byd := fz.byd
    have bc := fz.bc
    rw [hw] at bw DW
    rw [hb] at bb DB
    rw [hy] at byd DY
    have DW' : DatIn nx vW (.list (.list (.str (S w0) :: wr.map wD) :: W.map rowD)) := DW
    have DB' : DatIn nx vB (.list (.list (.str (S b0) :: br.map wD) :: B0.map rowD)) := DB
    have DY' : DatIn nx vY (.list (.list (Y0.map wD) :: Y.map rowD)) := DY
    have DC' : DatIn nx vC (.list (z.clear.map rowD)) := DC
    have hm1 := meant_one c
    have lW := bw.1
    have lB := bb.1
    have lY := byd.1
    have lC := bc.1
    have lw := (bw.2 _ (List.mem_cons_self ..)).1
    have lY0 := (byd.2 _ (List.mem_cons_self ..)).1
    have lw0 := (bw.2 _ (List.mem_cons_self ..)).2 w0 (List.mem_cons_self ..)
    have lb0 := (bb.2 _ (List.mem_cons_self ..)).2 b0 (List.mem_cons_self ..)
    rw [List.length_cons] at lW lB lY lw
    have en : nakedR c z = [here1 c :: b0] :: B0 := by simp [nakedR, hb]
    clear DW DB DY DC bw bb byd bc fz
    by_cases c34 : c = 34
    · by_cases hlat : z.later = [34]
      · rw [hlat] at F2
        have ei : insideR c z = ([] :: Y0) :: Y := by simp [insideR, hw, hy, c34, hlat]
        subst c34
        k_steps
        repeat ((refine unhold ?_; first
            | (k_dflt (refine' meant_call ?h1 ?h2 ?h3 ?h4 ?h5 ?h6 ?h7 ?h8 ?h9 ?h10 ?h11 ?_; (case h1 => exact lit0); (case h2 => walk_at "my len"); (case h3 => walk_at "my len"); (case h4 => k_asm); (case h5 => k_asm); (case h6 => k_asm); (case h7 => k_asm); (case h8 => k_asm); (case h9 => first | exact rfl | assumption); (case h10 => (dsimp only; omega)); (case h11 => (dsimp only; omega)); intro t9 h9 k9 F9 N9 l9))); k_steps)
        refine unhold ?_
        rename Fr _ _ _ _ => F1a
        rename News _ _ _ _ => N1a
        rw [hm1] at F1a
        refine (EvD.addL (by simp) (by rw [List.length_map]; omega) (EvD.list1 (EvD.addL (by simp) (by rw [List.length_map]; omega) (EvD.list1 (EvD.constS lit0)) (EvD.item0 (EvD.name rfl DY')))) (EvD.tail1 (by rw [List.length_map]; omega) (EvD.name rfl DY'))) _ _ _ F1a N1a (fun p hp => List.mem_append_left _ hp) fun v1 add1 h1 tk1 F1b N1b O1 D1 => ?_
        clear F1a N1a
        k_steps
        repeat ((refine unhold ?_; first
            | (k_dflt (refine' meant_call ?h1 ?h2 ?h3 ?h4 ?h5 ?h6 ?h7 ?h8 ?h9 ?h10 ?h11 ?_; (case h1 => exact lit0); (case h2 => walk_at "my len"); (case h3 => walk_at "my len"); (case h4 => k_asm); (case h5 => k_asm); (case h6 => k_asm); (case h7 => k_asm); (case h8 => k_asm); (case h9 => first | exact rfl | assumption); (case h10 => (dsimp only; omega)); (case h11 => (dsimp only; omega)); intro t9 h9 k9 F9 N9 l9))); k_steps)
        refine unhold ?_
        rename Fr _ _ _ _ => F2a
        rename News _ _ _ _ => N2a
        refine (EvD.addL (by simp) (by rw [List.length_map]; omega) (EvD.list1 (EvD.list1 (EvD.addS (by simp) (by omega) (EvD.name rfl (.str _ _)) (EvD.item0 (EvD.item0 (EvD.name rfl DB')))))) (EvD.tail1 (by rw [List.length_map]; omega) (EvD.name rfl DB'))) _ _ _ F2a N2a (fun p hp => List.mem_append_right _ (List.mem_append_left _ hp)) fun v2 add2 h2 tk2 F2b N2b O2 D2 => ?_
        clear F2a N2a
        k_steps
        repeat ((refine unhold ?_; first
            | (k_dflt (refine' meant_call ?h1 ?h2 ?h3 ?h4 ?h5 ?h6 ?h7 ?h8 ?h9 ?h10 ?h11 ?_; (case h1 => exact lit0); (case h2 => walk_at "my len"); (case h3 => walk_at "my len"); (case h4 => k_asm); (case h5 => k_asm); (case h6 => k_asm); (case h7 => k_asm); (case h8 => k_asm); (case h9 => first | exact rfl | assumption); (case h10 => (dsimp only; omega)); (case h11 => (dsimp only; omega)); intro t9 h9 k9 F9 N9 l9))); k_steps)
        rename Fr _ _ _ _ => F9
        rename News _ _ _ _ => N9
        have e1 : (stepR 34 z).clear = (w0 :: wr) :: W := by simp [stepR, hw]
        have e2 : (stepR 34 z).within = ([] :: Y0) :: Y := ei
        have e3 : (stepR 34 z).bare = [here1 34 :: b0] :: B0 := by simp [stepR, en]
        have e4 : (stepR 34 z).beyond = (w0 :: wr) :: W := hw
        refine InvEndG.intro (nx := add2 ++ (add1 ++ nx)) F9 N9 ⟨_, _, _, _, _, ⟨rfl, rfl, rfl, rfl, rfl, trivial⟩, ?_, ?_, ?_, ?_⟩ ?_ ?_ ?_
        · rw [e1]; exact DW'.mono fun p hp => List.mem_append_right _ (List.mem_append_right _ hp)
        · rw [e2]; exact D1.mono fun p hp => List.mem_append_right _ hp
        · rw [e3]; exact D2.mono (by walk_at "my mem")
        · rw [e4]; exact DW'.mono fun p hp => List.mem_append_right _ (List.mem_append_right _ hp)
        · exact own_off (own_off hoff O1 fun p hp => List.mem_append_right _ hp) O2 fun p hp => List.mem_append_right _ (List.mem_append_right _ hp)
        · walk_at "my mem"
        · walk_at "my mem"
      · have ei : insideR c z = [[]] :: z.clear := by simp [insideR, hw, hy, c34, hlat]
        subst c34
        k_steps
        repeat ((refine unhold ?_; first
            | (k_dflt (refine' meant_call ?h1 ?h2 ?h3 ?h4 ?h5 ?h6 ?h7 ?h8 ?h9 ?h10 ?h11 ?_; (case h1 => exact lit0); (case h2 => walk_at "my len"); (case h3 => walk_at "my len"); (case h4 => k_asm); (case h5 => k_asm); (case h6 => k_asm); (case h7 => k_asm); (case h8 => k_asm); (case h9 => first | exact rfl | assumption); (case h10 => (dsimp only; omega)); (case h11 => (dsimp only; omega)); intro t9 h9 k9 F9 N9 l9))); k_steps)
        refine unhold ?_
        rename Fr _ _ _ _ => F1a
        rename News _ _ _ _ => N1a
        rw [hm1] at F1a
        refine (EvD.addL (by simp) (by rw [List.length_map]; omega) (EvD.list1 (EvD.list1 (EvD.constS lit0))) (EvD.name rfl DC')) _ _ _ F1a N1a (fun p hp => List.mem_append_left _ hp) fun v1 add1 h1 tk1 F1b N1b O1 D1 => ?_
        clear F1a N1a
        k_steps
        repeat ((refine unhold ?_; first
            | (k_dflt (refine' meant_call ?h1 ?h2 ?h3 ?h4 ?h5 ?h6 ?h7 ?h8 ?h9 ?h10 ?h11 ?_; (case h1 => exact lit0); (case h2 => walk_at "my len"); (case h3 => walk_at "my len"); (case h4 => k_asm); (case h5 => k_asm); (case h6 => k_asm); (case h7 => k_asm); (case h8 => k_asm); (case h9 => first | exact rfl | assumption); (case h10 => (dsimp only; omega)); (case h11 => (dsimp only; omega)); intro t9 h9 k9 F9 N9 l9))); k_steps)
        refine unhold ?_
        rename Fr _ _ _ _ => F2a
        rename News _ _ _ _ => N2a
        refine (EvD.addL (by simp) (by rw [List.length_map]; omega) (EvD.list1 (EvD.list1 (EvD.addS (by simp) (by omega) (EvD.name rfl (.str _ _)) (EvD.item0 (EvD.item0 (EvD.name rfl DB')))))) (EvD.tail1 (by rw [List.length_map]; omega) (EvD.name rfl DB'))) _ _ _ F2a N2a (fun p hp => List.mem_append_right _ (List.mem_append_left _ hp)) fun v2 add2 h2 tk2 F2b N2b O2 D2 => ?_
        clear F2a N2a
        k_steps
        repeat ((refine unhold ?_; first
            | (k_dflt (refine' meant_call ?h1 ?h2 ?h3 ?h4 ?h5 ?h6 ?h7 ?h8 ?h9 ?h10 ?h11 ?_; (case h1 => exact lit0); (case h2 => walk_at "my len"); (case h3 => walk_at "my len"); (case h4 => k_asm); (case h5 => k_asm); (case h6 => k_asm); (case h7 => k_asm); (case h8 => k_asm); (case h9 => first | exact rfl | assumption); (case h10 => (dsimp only; omega)); (case h11 => (dsimp only; omega)); intro t9 h9 k9 F9 N9 l9))); k_steps)
        rename Fr _ _ _ _ => F9
        rename News _ _ _ _ => N9
        have e1 : (stepR 34 z).clear = (w0 :: wr) :: W := by simp [stepR, hw]
        have e2 : (stepR 34 z).within = [[]] :: z.clear := ei
        have e3 : (stepR 34 z).bare = [here1 34 :: b0] :: B0 := by simp [stepR, en]
        have e4 : (stepR 34 z).beyond = (w0 :: wr) :: W := hw
        refine InvEndG.intro (nx := add2 ++ (add1 ++ nx)) F9 N9 ⟨_, _, _, _, _, ⟨rfl, rfl, rfl, rfl, rfl, trivial⟩, ?_, ?_, ?_, ?_⟩ ?_ ?_ ?_
        · rw [e1]; exact DW'.mono fun p hp => List.mem_append_right _ (List.mem_append_right _ hp)
        · rw [e2]; exact D1.mono fun p hp => List.mem_append_right _ hp
        · rw [e3]; exact D2.mono (by walk_at "my mem")
        · rw [e4]; exact DW'.mono fun p hp => List.mem_append_right _ (List.mem_append_right _ hp)
        · exact own_off (own_off hoff O1 fun p hp => List.mem_append_right _ hp) O2 fun p hp => List.mem_append_right _ (List.mem_append_right _ hp)
        · walk_at "my mem"
        · walk_at "my mem"
    · by_cases c32 : c = 32
      · have ei : insideR c z = ((here1 c :: w0) :: wr) :: W := by simp [insideR, hw, c34]
        have e1 : (stepR c z).clear = z.clear := by simp [stepR, c32]
        have e2 : (stepR c z).within = ((here1 c :: w0) :: wr) :: W := ei
        have e3 : (stepR c z).bare = [[]] :: z.clear := by simp [stepR, c32]
        have e4 : (stepR c z).beyond = (w0 :: wr) :: W := hw
        k_steps
        repeat ((refine unhold ?_; first
            | (k_dflt (refine' meant_call ?h1 ?h2 ?h3 ?h4 ?h5 ?h6 ?h7 ?h8 ?h9 ?h10 ?h11 ?_; (case h1 => exact lit0); (case h2 => walk_at "my len"); (case h3 => walk_at "my len"); (case h4 => k_asm); (case h5 => k_asm); (case h6 => k_asm); (case h7 => k_asm); (case h8 => k_asm); (case h9 => first | exact rfl | assumption); (case h10 => (dsimp only; omega)); (case h11 => (dsimp only; omega)); intro t9 h9 k9 F9 N9 l9))); k_steps)
        refine unhold ?_
        rename Fr _ _ _ _ => F1a
        rename News _ _ _ _ => N1a
        rw [hm1] at F1a
        refine (EvD.addL (by simp) (by rw [List.length_map]; omega) (EvD.list1 (EvD.addL (by simp) (by rw [List.length_map]; omega) (EvD.list1 (EvD.addS (by simp) (by omega) (EvD.name rfl (.str _ _)) (EvD.item0 (EvD.item0 (EvD.name rfl DW'))))) (EvD.tail1 (by rw [List.length_map]; omega) (EvD.item0 (EvD.name rfl DW'))))) (EvD.tail1 (by rw [List.length_map]; omega) (EvD.name rfl DW'))) _ _ _ F1a N1a (fun p hp => List.mem_append_left _ hp) fun v1 add1 h1 tk1 F1b N1b O1 D1 => ?_
        clear F1a N1a
        k_steps
        repeat ((refine unhold ?_; first
            | (k_dflt (refine' meant_call ?h1 ?h2 ?h3 ?h4 ?h5 ?h6 ?h7 ?h8 ?h9 ?h10 ?h11 ?_; (case h1 => exact lit0); (case h2 => walk_at "my len"); (case h3 => walk_at "my len"); (case h4 => k_asm); (case h5 => k_asm); (case h6 => k_asm); (case h7 => k_asm); (case h8 => k_asm); (case h9 => first | exact rfl | assumption); (case h10 => (dsimp only; omega)); (case h11 => (dsimp only; omega)); intro t9 h9 k9 F9 N9 l9))); k_steps)
        refine unhold ?_
        rename Fr _ _ _ _ => F2a
        rename News _ _ _ _ => N2a
        refine (EvD.addL (by simp) (by rw [List.length_map]; omega) (EvD.list1 (EvD.list1 (EvD.addS (by simp) (by omega) (EvD.name rfl (.str _ _)) (EvD.item0 (EvD.item0 (EvD.name rfl DB')))))) (EvD.tail1 (by rw [List.length_map]; omega) (EvD.name rfl DB'))) _ _ _ F2a N2a (fun p hp => List.mem_append_right _ (List.mem_append_left _ hp)) fun v2 add2 h2 tk2 F2b N2b O2 D2 => ?_
        clear F2a N2a
        k_steps
        repeat ((refine unhold ?_; first
            | (k_dflt (refine' meant_call ?h1 ?h2 ?h3 ?h4 ?h5 ?h6 ?h7 ?h8 ?h9 ?h10 ?h11 ?_; (case h1 => exact lit0); (case h2 => walk_at "my len"); (case h3 => walk_at "my len"); (case h4 => k_asm); (case h5 => k_asm); (case h6 => k_asm); (case h7 => k_asm); (case h8 => k_asm); (case h9 => first | exact rfl | assumption); (case h10 => (dsimp only; omega)); (case h11 => (dsimp only; omega)); intro t9 h9 k9 F9 N9 l9))); k_steps)
        refine unhold ?_
        rename Fr _ _ _ _ => F3a
        rename News _ _ _ _ => N3a
        refine (EvD.addL (by simp) (by rw [List.length_map]; omega) (EvD.list1 (EvD.list1 (EvD.constS lit0))) (EvD.name rfl DC')) _ _ _ F3a N3a (fun p hp => List.mem_append_right _ (List.mem_append_right _ (List.mem_append_left _ hp))) fun v3 add3 h3 tk3 F3b N3b O3 D3 => ?_
        clear F3a N3a
        k_steps
        repeat ((refine unhold ?_; first
            | (k_dflt (refine' meant_call ?h1 ?h2 ?h3 ?h4 ?h5 ?h6 ?h7 ?h8 ?h9 ?h10 ?h11 ?_; (case h1 => exact lit0); (case h2 => walk_at "my len"); (case h3 => walk_at "my len"); (case h4 => k_asm); (case h5 => k_asm); (case h6 => k_asm); (case h7 => k_asm); (case h8 => k_asm); (case h9 => first | exact rfl | assumption); (case h10 => (dsimp only; omega)); (case h11 => (dsimp only; omega)); intro t9 h9 k9 F9 N9 l9))); k_steps)
        rename Fr _ _ _ _ => F9
        rename News _ _ _ _ => N9
        refine InvEndG.intro (nx := add3 ++ (add2 ++ (add1 ++ nx))) F9 N9 ⟨_, _, _, _, _, ⟨rfl, rfl, rfl, rfl, rfl, trivial⟩, ?_, ?_, ?_, ?_⟩ ?_ ?_ ?_
        · rw [e1]; exact DC'.mono fun p hp => List.mem_append_right _ (List.mem_append_right _ (List.mem_append_right _ hp))
        · rw [e2]; exact D1.mono (by walk_at "my mem")
        · rw [e3]; exact D3.mono (by walk_at "my mem")
        · rw [e4]; exact DW'.mono fun p hp => List.mem_append_right _ (List.mem_append_right _ (List.mem_append_right _ hp))
        · exact own_off (own_off (own_off hoff O1 fun p hp => List.mem_append_right _ hp) O2 fun p hp => List.mem_append_right _ (List.mem_append_right _ hp)) O3 fun p hp => List.mem_append_right _ (List.mem_append_right _ (List.mem_append_right _ hp))
        · walk_at "my mem"
        · walk_at "my mem"
      · have ei : insideR c z = ((here1 c :: w0) :: wr) :: W := by simp [insideR, hw, c34]
        have e1 : (stepR c z).clear = [here1 c :: b0] :: B0 := by simp [stepR, c32, c34, en]
        have e2 : (stepR c z).within = ((here1 c :: w0) :: wr) :: W := ei
        have e3 : (stepR c z).bare = [here1 c :: b0] :: B0 := by simp [stepR, c32, en]
        have e4 : (stepR c z).beyond = (w0 :: wr) :: W := hw
        k_steps
        repeat ((refine unhold ?_; first
            | (k_dflt (refine' meant_call ?h1 ?h2 ?h3 ?h4 ?h5 ?h6 ?h7 ?h8 ?h9 ?h10 ?h11 ?_; (case h1 => exact lit0); (case h2 => walk_at "my len"); (case h3 => walk_at "my len"); (case h4 => k_asm); (case h5 => k_asm); (case h6 => k_asm); (case h7 => k_asm); (case h8 => k_asm); (case h9 => first | exact rfl | assumption); (case h10 => (dsimp only; omega)); (case h11 => (dsimp only; omega)); intro t9 h9 k9 F9 N9 l9))); k_steps)
        refine unhold ?_
        rename Fr _ _ _ _ => F1a
        rename News _ _ _ _ => N1a
        rw [hm1] at F1a
        refine (EvD.addL (by simp) (by rw [List.length_map]; omega) (EvD.list1 (EvD.addL (by simp) (by rw [List.length_map]; omega) (EvD.list1 (EvD.addS (by simp) (by omega) (EvD.name rfl (.str _ _)) (EvD.item0 (EvD.item0 (EvD.name rfl DW'))))) (EvD.tail1 (by rw [List.length_map]; omega) (EvD.item0 (EvD.name rfl DW'))))) (EvD.tail1 (by rw [List.length_map]; omega) (EvD.name rfl DW'))) _ _ _ F1a N1a (fun p hp => List.mem_append_left _ hp) fun v1 add1 h1 tk1 F1b N1b O1 D1 => ?_
        clear F1a N1a
        k_steps
        repeat ((refine unhold ?_; first
            | (k_dflt (refine' meant_call ?h1 ?h2 ?h3 ?h4 ?h5 ?h6 ?h7 ?h8 ?h9 ?h10 ?h11 ?_; (case h1 => exact lit0); (case h2 => walk_at "my len"); (case h3 => walk_at "my len"); (case h4 => k_asm); (case h5 => k_asm); (case h6 => k_asm); (case h7 => k_asm); (case h8 => k_asm); (case h9 => first | exact rfl | assumption); (case h10 => (dsimp only; omega)); (case h11 => (dsimp only; omega)); intro t9 h9 k9 F9 N9 l9))); k_steps)
        refine unhold ?_
        rename Fr _ _ _ _ => F2a
        rename News _ _ _ _ => N2a
        refine (EvD.addL (by simp) (by rw [List.length_map]; omega) (EvD.list1 (EvD.list1 (EvD.addS (by simp) (by omega) (EvD.name rfl (.str _ _)) (EvD.item0 (EvD.item0 (EvD.name rfl DB')))))) (EvD.tail1 (by rw [List.length_map]; omega) (EvD.name rfl DB'))) _ _ _ F2a N2a (fun p hp => List.mem_append_right _ (List.mem_append_left _ hp)) fun v2 add2 h2 tk2 F2b N2b O2 D2 => ?_
        clear F2a N2a
        k_steps
        repeat ((refine unhold ?_; first
            | (k_dflt (refine' meant_call ?h1 ?h2 ?h3 ?h4 ?h5 ?h6 ?h7 ?h8 ?h9 ?h10 ?h11 ?_; (case h1 => exact lit0); (case h2 => walk_at "my len"); (case h3 => walk_at "my len"); (case h4 => k_asm); (case h5 => k_asm); (case h6 => k_asm); (case h7 => k_asm); (case h8 => k_asm); (case h9 => first | exact rfl | assumption); (case h10 => (dsimp only; omega)); (case h11 => (dsimp only; omega)); intro t9 h9 k9 F9 N9 l9))); k_steps)
        rename Fr _ _ _ _ => F9
        rename News _ _ _ _ => N9
        refine InvEndG.intro (nx := add2 ++ (add1 ++ nx)) F9 N9 ⟨_, _, _, _, _, ⟨rfl, rfl, rfl, rfl, rfl, trivial⟩, ?_, ?_, ?_, ?_⟩ ?_ ?_ ?_
        · rw [e1]; exact D2.mono (by walk_at "my mem")
        · rw [e2]; exact D1.mono fun p hp => List.mem_append_right _ hp
        · rw [e3]; exact D2.mono (by walk_at "my mem")
        · rw [e4]; exact DW'.mono fun p hp => List.mem_append_right _ (List.mem_append_right _ hp)
        · exact own_off (own_off hoff O1 fun p hp => List.mem_append_right _ hp) O2 fun p hp => List.mem_append_right _ (List.mem_append_right _ hp)
        · walk_at "my mem"
        · walk_at "my mem"
  · rintro h tk m₁ nx ⟨vC, vW, vB, vY, t2, hm, DC, DW, DB, DY⟩ htk F3 N3
    have F2 := frHas F3 hm; dsimp only [kstB] at F2
    clear F1 N1 F3 hm htk
    rw [List.length_reverse, Nat.sub_self, List.drop_zero] at DC
    dsimp only
    k_steps
    repeat ((refine unhold ?_; first
        | (k_dflt (refine' meant_call ?h1 ?h2 ?h3 ?h4 ?h5 ?h6 ?h7 ?h8 ?h9 ?h10 ?h11 ?_; (case h1 => exact lit0); (case h2 => walk_at "my len"); (case h3 => walk_at "my len"); (case h4 => k_asm); (case h5 => k_asm); (case h6 => k_asm); (case h7 => k_asm); (case h8 => k_asm); (case h9 => first | exact rfl | assumption); (case h10 => (dsimp only; omega)); (case h11 => (dsimp only; omega)); intro t9 h9 k9 F9 N9 l9))); k_steps)
    refine hQk _ _ ?_
    dsimp only
    exact leaveA_ ‹_› ‹_› fun hk1 hn1 => hret _ nx _ _ hk1 hn1 DC
end

section
section
variable {prog : Program} {w : World} {A : Around} {s : Shared} {env : Env} {g : Heap} {target : PySem.Expr} {body : List Stmt} {Q : Flow → Shared → Prop}

/-- a turn's end where a break may leave at X -/
noncomputable def XPost (g : Heap) (L : Addr) (J : (Str → Option Value) → List (Addr × Obj) → Prop) (X : (Str → Option Value) → List (Addr × Obj) → Prop) (own : List (Addr × Obj)) (s s₁ : Shared) (f : Flow) (s₂ : Shared) : Prop :=
  match f with
  | .ret _ => False
  | .brk => WOut g L X s s₂
  | _ => InvEndG g L J own s₁ s₂

theorem iterRangeX {r : Addr} {b : Int} {t₀ u₀ v₀ : Tok} {n : Nat} {m : Str → Option Value} {news : List (Addr × Obj)} (hh : A.handled = none)
    (hr : IsRange s.heap r 0 b 1 t₀ u₀ v₀) (hb : b = (n : Int)) (hn : n ≤ 1000000)
    (F : Fr g env.locals s.heap m) (N : News g env.locals s.heap news) (J : Nat → (Str → Option Value) → List (Addr × Obj) → Prop) (X : (Str → Option Value) → List (Addr × Obj) → Prop) (h0 : J 0 m news)
    (step : ∀ (i : Nat) (k : Int) t m₁ nx h tk own, i < n → k = (i : Int) → J i m₁ nx → OwnOff own (nx.map (·.1)) → s.toks ≤ tk → Fr g env.locals h m₁ → News g env.locals h (nx ++ own) →
      wpAny (model prog w) A (assign target env (.int k t)) (fun _ s₂ => wpAny (model prog w) A (execs body env) (XPost g env.locals (J (i + 1)) X own s { s with heap := h, toks := tk }) (fun _ _ => False) s₂) (fun _ _ => False) { s with heap := h, toks := tk })
    (last : ∀ m nx, J n m nx → X m nx)
    (done : ∀ h tk m₁ nx, X m₁ nx → Fr g env.locals h m₁ → News g env.locals h nx → Q .next { s with heap := h, toks := tk })
    (ht : ∀ I v, letOwnedTupleGo target (.ref I) v = pure () := by intro _ _; rfl) :
    wpAny (model prog w) A (pyIter (.ref r)) (fun it s₂ => codeAny (model prog w) A (.forLoop target it body [] env) (fun r s' => match r with | .ok f => Q f s' | .error e => cameBackBy (model prog w) A env (fun _ _ => False) e s') s₂) (fun _ _ => False) s := by
  have hsm : Builtin.Range.small 0 b 1 = true := small_one (by omega) (by omega) (by omega) (by omega)
  have hsz : Builtin.Range.rangeSize 0 b 1 = (n : Int) := by
    subst hb
    simp only [Builtin.Range.rangeSize]
    simp
    try omega
  refine wpAny_pyIter_range hr hsm ?_
  refine forW (LCg.range_walks hh 0 n) [] J (fun b hb => .inl hb) (fun _ _ _ _ p hp => nomatch hp) ?_ ?_ (fun p hp hI => ?_) ?_ (by show IsRangeIter _ _ _ _ _; rw [hsz]; simpa using Heap.get?_push_size _ rfl) (F.push _) (fun p hp => ⟨Heap.get?_push_of_some _ (N p hp).1, (N p hp).2⟩) h0 ?_ ?_ (fun i v s Q E st q => wpAny_of_eq (ht _ v) q)
  · intro hI
    exact absurd F.ns.lt ((List.mem_singleton.mp hI) ▸ Nat.lt_irrefl _)
  · intro b hb
    rw [List.mem_singleton.mp hb]
    exact next_is_new F
  · exact absurd (Heap.lt_size (N p hp).1) ((List.mem_singleton.mp hI) ▸ Nat.lt_irrefl _)
  · intro i h st b hb
    exact ⟨_, by rw [List.mem_singleton.mp hb]; exact st⟩
  · rintro i v m₁ nx h tk own hi ⟨t, rfl⟩ hJ hoff htk F₁ N₁
    refine wpAny_mono (step i (0 + (i : Int)) t m₁ nx h tk own hi (by omega) hJ hoff htk F₁ N₁) (fun _ s₂ h₂ => wpAny_mono h₂ (fun f s₃ h₃ => ?_) fun _ _ e => e) fun _ _ e => e
    cases f with
    | ret v => exact h₃.elim
    | brk =>
      obtain ⟨h', tk', m', nx', rfl, F', N', hX⟩ := h₃
      exact done h' tk' m' nx' hX F' N'
    | next => exact h₃
    | cont => exact h₃
  · intro h tk m₁ nx hJ _ F₁ N₁
    exact done h tk m₁ nx (last _ _ hJ) F₁ N₁
end

/-- what is pushed onto the list at the head of the ledger -/
theorem appendN {prog : Program} {w : World} {A : Around} {E : Value → Shared → Prop} {s : Shared} {g : Heap} {L D : Addr} {m : Str → Option Value} {vs : List Value} {n : Nat} {x : Value} {nx : List (Addr × Obj)} {Q : Value → Shared → Prop}
    (F : Fr g L s.heap m) (N : News g L s.heap nx) (hD : (D, listOf vs.toArray n) ∈ nx) (hsz : vs.length ≤ 1000000)
    (h : ∀ h' nx', Fr g L h' m → News g L h' nx' → (D, listOf (vs ++ [x]).toArray (n + 1)) ∈ nx' → (∀ p ∈ nx, p.1 ≠ D → p ∈ nx') → Q .none { s with heap := h' }) :
    wpAny (model prog w) A (call (.builtin "list.append") [.ref D, x]) Q E s := by
  have hax := N _ hD
  refine append_at (hsz := by rw [List.size_toArray, sizeLine_eq]; omega) hax.1 fun h' hs hD' => ?_
  have F' : Fr g L h' m := F.change hs hax.2.1 hax.2.2
  refine h h' ((D, listOf (vs ++ [x]).toArray (n + 1)) :: nx.filter fun p => decide (p.1 ≠ D)) F' (fun p hp => ?_) (List.mem_cons_self ..) fun p hp hne => List.mem_cons_of_mem _ (List.mem_filter.mpr ⟨hp, by simpa using hne⟩)
  rcases List.mem_cons.mp hp with rfl | hp
  · refine ⟨hD'.trans ?_, hax.2.1, hax.2.2⟩
    rw [List.push_toArray]
  · obtain ⟨h1, h2⟩ := List.mem_filter.mp hp
    exact ⟨hs.extBut _ _ (by simpa using h2) (N p h1).1, (N p h1).2⟩

section
variable {prog : Program} {w : World} {A : Around} {h₀ : Heap} {L : Addr} {m : Str → Option Value} {env : Env} {elt : PySem.Expr} {x : Str} {scope : Scope} {cl : List (Str × Addr)} {s : Shared} {S : List (Addr × Obj) → Prop} {Fin : List Value → List (Addr × Obj) → Prop}

/-- a turn of a comprehension that makes new data alone -/
noncomputable def CEnd (h₀ : Heap) (L : Addr) (m : Str → Option Value) (s : Shared) (all nx : List (Addr × Obj)) (d : Dat) (y : Value) (s₂ : Shared) : Prop :=
  ∃ add h' tk', s₂ = { s with heap := h', toks := tk' } ∧ Fr h₀ L h' m ∧ News h₀ L h' (add ++ all) ∧ OffOf add all ∧ DatIn (add ++ nx) y d
theorem CEnd.intro {all nx add : List (Addr × Obj)} {d : Dat} {y : Value} {h' : Heap} {tk' : Nat} (F : Fr h₀ L h' m) (N : News h₀ L h' (add ++ all)) (O : OffOf add all) (D : DatIn (add ++ nx) y d) : CEnd h₀ L m s all nx d y { s with heap := h', toks := tk' } :=
  ⟨add, h', tk', rfl, F, N, O, D⟩
theorem CEnd.plain {all nx : List (Addr × Obj)} {d : Dat} {y : Value} {h' : Heap} {tk' : Nat} (F : Fr h₀ L h' m) (N : News h₀ L h' all) (D : DatIn nx y d) : CEnd h₀ L m s all nx d y { s with heap := h', toks := tk' } :=
  ⟨[], h', tk', rfl, F, N, OffOf.nil, D⟩

theorem datAll_get {nd : List (Addr × Obj)} : ∀ {vs : List Value} {ds : List Dat}, DatAll nd vs ds → ∀ (i : Nat) (v : Value), vs[i]? = some v → ∃ d, ds[i]? = some d ∧ DatIn nd v d
  | _, _, .nil, i, v, h => by simp at h
  | _, _, .cons h1 h2, 0, v, h => ⟨_, rfl, by simp at h; exact h ▸ h1⟩
  | _, _, .cons h1 h2, i + 1, v, h => by
    simp only [List.getElem?_cons_succ] at h ⊢
    exact datAll_get h2 i v h

theorem restD {nd : List (Addr × Obj)} {vs : List Value} {ds es : List Dat} (hlen : es.length = ds.length) (hd : DatAll nd vs ds) (hS : ∀ add, S (add ++ nd))
    (turn : ∀ (i : Nat) (d e : Dat) (v : Value) I oI C oC D m₂ ys nx h tk (E' : Value → Shared → Prop), ds[i]? = some d → es[i]? = some e → DatIn nx v d → (∀ p ∈ nd, p ∈ nx) → LCg.NsObj oC m₂ → m₂ x = some v → Fr h₀ L h m → News h₀ L h ((I, oI) :: (C, oC) :: (D, LCg.lst ys) :: nx) → LCg.Off3 I C D nx → ((@Ne Nat I C) ∧ (@Ne Nat I D) ∧ (@Ne Nat C D)) →
      wpAny (model prog w) A (eval elt (compEnvC scope cl C env)) (CEnd h₀ L m { s with heap := h, toks := tk } ((I, oI) :: (C, oC) :: (D, LCg.lst ys) :: nx) nx e) E' { s with heap := h, toks := tk })
    (fin : ∀ ys add, DatAll (add ++ nd) ys es → OffOf add nd → Fin ys (add ++ nd)) :
    LCg.CompRest prog w A h₀ L m env elt x scope cl s S (fun i v => vs.toArray[i]? = some v) Fin vs.toArray.size 0 [] nd := by
  have hvl : vs.length = ds.length := hd.length
  have key : ∀ (j i : Nat) (ys : List Value) (add : List (Addr × Obj)), i + j = vs.length → DatAll (add ++ nd) ys (es.take i) → OffOf add nd → LCg.CompRest prog w A h₀ L m env elt x scope cl s S (fun i v => vs.toArray[i]? = some v) Fin j i ys (add ++ nd) := by
    intro j
    induction j with
    | zero =>
      intro i ys add hi hy ho
      rw [List.take_of_length_le (by omega)] at hy
      exact LCg.CompRest.zero (fin ys add hy ho)
    | succ j ih =>
      intro i ys add hi hy ho
      refine LCg.CompRest.succ ?_
      intro v I oI C oC D m₂ h tk E' hv hC hx F N off ne
      have hv' : vs[i]? = some v := by simpa using hv
      obtain ⟨d, hdi, hdv⟩ := datAll_get hd i v hv'
      have hie : i < es.length := by omega
      refine wpAny_mono (turn i d es[i] v I oI C oC D m₂ ys (add ++ nd) h tk E' hdi (List.getElem?_eq_getElem hie) (hdv.mono fun p hp => List.mem_append_right _ hp) (fun p hp => List.mem_append_right _ hp) hC hx F N off ne) (fun y s₂ hq => ?_) fun _ _ e => e
      obtain ⟨a2, h', tk', rfl, F', N', O', D'⟩ := hq
      have e : a2 ++ (add ++ nd) = (a2 ++ add) ++ nd := by simp
      refine LCg.CompEnd.intro F' N' ((a2 ++ add) ++ nd) ?_ ?_ (hS _) ?_
      · intro p hp
        simp only [List.mem_append, List.mem_cons] at hp ⊢
        grind
      · rw [← e]
        refine LCg.Off3.of fun p hp => ?_
        rcases List.mem_append.mp hp with hp | hp
        · exact ⟨O' p hp (I, oI) (by simp), O' p hp (C, oC) (by simp), O' p hp (D, LCg.lst ys) (by simp)⟩
        · exact off.mem p hp
      · refine ih (i + 1) (ys ++ [y]) (a2 ++ add) (by omega) ?_ ?_
        · rw [List.take_add_one, List.getElem?_eq_getElem hie]
          refine DatAll.append (hy.mono fun p hp => ?_) (DatAll.one (D'.mono fun p hp => ?_))
          · rw [← e]; exact List.mem_append_right _ hp
          · rw [← e]; exact hp
        · intro p hp q hq
          rcases List.mem_append.mp hp with hp | hp
          · exact O' p hp q (List.mem_cons_of_mem _ (List.mem_cons_of_mem _ (List.mem_cons_of_mem _ (List.mem_append_right _ hq))))
          · exact ho p hp q hq
  rw [List.size_toArray]
  exact key vs.length 0 [] [] (by omega) (by simpa using DatAll.nil) OffOf.nil
end
end

section
/-- the pieces between the signs c -/
noncomputable def splitL (c : Nat) : List Nat → List (List Nat)
  | [] => [[]]
  | a :: r => if a = c then [] :: splitL c r else (a :: (splitL c r).headD []) :: (splitL c r).tail
theorem splitL_ne (c : Nat) : ∀ l, ∃ p q, splitL c l = p :: q
  | [] => ⟨_, _, rfl⟩
  | a :: r => by unfold splitL; split <;> exact ⟨_, _, rfl⟩
theorem splitL_head (c : Nat) : ∀ l : List Nat, (splitL c l).headD [] = l.takeWhile (· ≠ c)
  | [] => rfl
  | a :: r => by
    unfold splitL
    by_cases h : a = c
    · simp [h]
    · have ih := splitL_head c r
      simp only [if_neg h]
      show a :: (splitL c r).headD [] = _
      rw [ih]
      simp [h]
theorem splitL_parts (c : Nat) : ∀ l : List Nat, ∀ p ∈ splitL c l, p.length ≤ l.length
  | [], p, h => by simp [splitL] at h; simp [h]
  | a :: r, p, h => by
    obtain ⟨x, q, e⟩ := splitL_ne c r
    have ih := splitL_parts c r
    unfold splitL at h
    rw [e] at h ih
    split at h
    · rcases List.mem_cons.mp h with rfl | h
      · simp
      · have := ih p h; simp; omega
    · rcases List.mem_cons.mp h with rfl | h
      · have := ih x (List.mem_cons_self ..); simp; omega
      · have := ih p (List.mem_cons_of_mem _ (by simpa using h)); simp; omega
theorem splitL_len (c : Nat) : ∀ l : List Nat, (splitL c l).length ≤ l.length + 1
  | [] => by simp [splitL]
  | a :: r => by
    have ih := splitL_len c r
    obtain ⟨x, q, e⟩ := splitL_ne c r
    unfold splitL
    rw [e] at ih ⊢
    split
    · simp at ih ⊢; omega
    · simp at ih ⊢; omega
theorem splitL_free (c : Nat) : ∀ l : List Nat, c ∉ l → splitL c l = [l]
  | [], _ => rfl
  | a :: r, h => by
    have h1 : ¬ a = c := fun e => h (e ▸ List.mem_cons_self ..)
    have h2 := splitL_free c r fun m => h (List.mem_cons_of_mem _ m)
    unfold splitL
    simp [h1, h2]
theorem splitL_cat (c : Nat) : ∀ a b : List Nat, c ∉ a → splitL c (a ++ c :: b) = a :: splitL c b
  | [], b, _ => by simp [splitL]
  | x :: a, b, h => by
    have h1 : ¬ x = c := fun e => h (e ▸ List.mem_cons_self ..)
    have h2 := splitL_cat c a b fun m => h (List.mem_cons_of_mem _ m)
    rw [List.cons_append]
    have e : splitL c (x :: (a ++ c :: b)) = if x = c then [] :: splitL c (a ++ c :: b) else (x :: (splitL c (a ++ c :: b)).headD []) :: (splitL c (a ++ c :: b)).tail := rfl
    rw [e, if_neg h1, h2]
    rfl
theorem splitL_join (c : Nat) : ∀ parts : List Str, parts ≠ [] → (∀ p ∈ parts, c ∉ p.cps.toList) → splitL c (Str.join ⟨#[c]⟩ parts).cps.toList = parts.map fun p => p.cps.toList
  | [], h, _ => absurd rfl h
  | [p], _, h => splitL_free c _ (h p (List.mem_singleton.mpr rfl))
  | p :: q :: r, _, h => by
    have ih := splitL_join c (q :: r) (by simp) fun a ha => h a (List.mem_cons_of_mem _ ha)
    show splitL c (p ++ ⟨#[c]⟩ ++ Str.join ⟨#[c]⟩ (q :: r)).cps.toList = _
    simp only [Str.cps_append, Array.toList_append]
    rw [List.append_assoc]
    show splitL c (p.cps.toList ++ c :: (Str.join ⟨#[c]⟩ (q :: r)).cps.toList) = _
    rw [splitL_cat c _ _ (h p (List.mem_cons_self ..)), ih]
    rfl
theorem split_ne_nil (x : Str) (c : Nat) : Txt.split x ⟨#[c]⟩ ≠ [] := by
  intro h
  have e := StrLaws.join_split x ⟨#[c]⟩
  rw [h] at e
  have e2 : x = S [] := e.symm
  subst e2
  unfold Txt.split at h
  rw [if_pos (by simp; left; exact Nat.zero_lt_one)] at h
  cases h
theorem split_S (l : List Nat) (c : Nat) : Txt.split (S l) ⟨#[c]⟩ = (splitL c l).map S := by
  have h := splitL_join c _ (split_ne_nil (S l) c) (StrLaws.split_free (S l) c)
  rw [StrLaws.join_split, S_list] at h
  rw [h, List.map_map]
  conv => lhs; rw [← List.map_id (Txt.split (S l) ⟨#[c]⟩)]
  exact List.map_congr_left fun p _ => (S_of p).symm
theorem count_S (l : List Nat) (c : Nat) : Txt.count (S l) ⟨#[c]⟩ = (l.count c : Int) := by
  rw [count_cnt, S_list]
  induction l with
  | nil => rfl
  | cons a r ih =>
    rw [cnt_cons, ih, List.count_cons]
    by_cases h : a = c
    · simp [h]; omega
    · simp [h]

/-- the row at the start of a text, and how long it is there -/
noncomputable def rowAt : List Nat → List (List Nat) × Nat
  | [] => ([[]], 0)
  | c :: r => if c = 34 then (splitL 34 (nameL r), 2 + (nameL r).length + (nameL r).count 34) else ([(c :: r).takeWhile (· ≠ 32)], ((c :: r).takeWhile (· ≠ 32)).length)
noncomputable def readN : Nat → List Nat → Rows
  | 0, _ => []
  | n + 1, r => if r.dropWhile (· == 32) = [] then [] else (rowAt (r.dropWhile (· == 32))).1.map (meant []) :: readN n ((r.dropWhile (· == 32)).drop (rowAt (r.dropWhile (· == 32))).2)
noncomputable def readOf (l : List Nat) : Rows := readN (l.length + 1) l
theorem nameL_len : ∀ (n : Nat) (l : List Nat), l.length ≤ n → (nameL l).length ≤ l.length
  | _, [], _ => by simp [nameL]
  | 0, a :: r, h => by simp at h
  | n + 1, [c], h => by
    by_cases e : c = 34
    · subst e; rw [nameL_end]; simp
    · rw [nameL_other _ e]; simp [nameL]
  | n + 1, c :: d :: r, h => by
    simp only [List.length_cons] at h
    by_cases e : c = 34
    · subst e
      by_cases e2 : d = 34
      · subst e2
        rw [nameL_two]
        have := nameL_len n r (by omega)
        simp only [List.length_cons]; omega
      · rw [nameL_out _ e2]; simp
    · rw [nameL_other _ e]
      have := nameL_len n (d :: r) (by simp; omega)
      simp only [List.length_cons] at this ⊢; omega
end

section
section
variable {prog : Program} {w : World} {A : Around} {E : Value → Shared → Prop} {s : Shared} {g : Heap} {L : Addr} {m : Str → Option Value} {nx : List (Addr × Obj)} {value slice : PySem.Expr} {l : List Nat} {t u : Tok} {Q : Value → Shared → Prop}

theorem add_SL {y : Str} {a : List Nat} (hy : y = S a) (hl : l.length ≤ 1000000) (ha : a.length ≤ 1000000) (h : ∀ t' k, Q (.str (S (l ++ a)) t') { s with toks := k }) : wpAny (model prog w) A (binaryOp .Add (.str (S l) t) (.str y u)) Q E s := by
  subst hy; exact add_S hl ha h
theorem add_LS {y : Str} {a : List Nat} (hy : y = S a) (hl : l.length ≤ 1000000) (ha : a.length ≤ 1000000) (h : ∀ t' k, Q (.str (S (a ++ l)) t') { s with toks := k }) : wpAny (model prog w) A (binaryOp .Add (.str y t) (.str (S l) u)) Q E s := by
  subst hy; exact add_S ha hl h
theorem cutLast {a : Nat} {j : Int} {uj : Tok} (F : Fr g L s.heap m) (N : News g L s.heap nx) (hj : j = -1) (hl : l.length ≤ 100000) (h : ∀ h' t' k, Fr g L h' m → News g L h' nx → Q (.str (S l) t') { s with heap := h', toks := k })
    (hs : subscripted slice false (.str (S (l ++ [a])) t) (.ref s.heap.objs.size) = operate [.ref s.heap.objs.size, .str (S (l ++ [a])) t] (getItem (.str (S (l ++ [a])) t) (.ref s.heap.objs.size)) := by with_unfolding_all rfl)
    (ht : ∀ r, letTemporaryGo value (.str (S (l ++ [a])) t) r = pure () := by intro _; with_unfolding_all rfl) :
    wpAny (model prog w) A (subscriptTail value slice (.str (S (l ++ [a])) t) (.ref s.heap.objs.size)) Q E { s with heap := s.heap.push { cls := .type "slice", data := .fields #[.none, .int j uj, .none] } } := by
  subst hj
  refine slice_strN_ns F N (fun h' t' k F' N' => ?_) hs ht (fitsS (by simp; omega))
  rw [slice_but_last _ (by simp)]
  simpa using h h' t' k F' N'
theorem cutFrom {i : Int} {ui : Tok} (F : Fr g L s.heap m) (N : News g L s.heap nx) (hi : 0 ≤ i) (hl : l.length ≤ 1000000) (h : ∀ h' t' k, Fr g L h' m → News g L h' nx → Q (.str (S (l.drop i.toNat)) t') { s with heap := h', toks := k })
    (hs : subscripted slice false (.str (S l) t) (.ref s.heap.objs.size) = operate [.ref s.heap.objs.size, .str (S l) t] (getItem (.str (S l) t) (.ref s.heap.objs.size)) := by with_unfolding_all rfl)
    (ht : ∀ r, letTemporaryGo value (.str (S l) t) r = pure () := by intro _; with_unfolding_all rfl) :
    wpAny (model prog w) A (subscriptTail value slice (.str (S l) t) (.ref s.heap.objs.size)) Q E { s with heap := s.heap.push { cls := .type "slice", data := .fields #[.int i ui, .none, .none] } } := by
  refine slice_strN_sn F N (fun h' t' k F' N' => ?_) hs ht (fitsS hl)
  have e : i = ((i.toNat : Nat) : Int) := by omega
  rw [e, slice_from]
  have e2 : ((i.toNat : Nat) : Int).toNat = i.toNat := by omega
  exact h h' t' k F' N'
theorem datAll_strs {nd : List (Addr × Obj)} : ∀ {l : List (Str × Tok)} {ws : List (List Nat)}, l.map (·.1) = ws.map S → DatAll nd (strValues l) (ws.map wD)
  | [], [], _ => .nil
  | [], _ :: _, h => by simp at h
  | _ :: _, [], h => by simp at h
  | (x, t) :: r, a :: ws, h => by
    simp only [List.map_cons, List.cons.injEq] at h
    have h1 : x = S a := h.1
    subst h1
    exact .cons (.str _ _) (datAll_strs h.2)
theorem split_call {y : Str} {c : Nat} (F : Fr g L s.heap m) (N : News g L s.heap nx) (hy : y = S [c]) (hl : l.length ≤ 100000)
    (h : ∀ vs h' k D, DatAll [] vs ((splitL c l).map wD) → Fr g L h' m → News g L h' ((D, listOf vs.toArray 0) :: nx) → (∀ p ∈ nx, p.1 ≠ D) → Q (.ref D) { s with heap := h', toks := k }) :
    wpAny (model prog w) A (call (.builtin "str.split") [.str (S l) t, .str y u]) Q E s := by
  subst hy
  refine splitN1A (hsz := by rw [S_length, sizeLine_eq]; omega) F N rfl fun vs h' k e _ _ _ F' N' => ?_
  refine h (strValues vs) h' k _ (datAll_strs (e.trans (split_S l c))) F' N' fun p hp => Nat.ne_of_lt (Heap.lt_size (N p hp).1)
theorem count_call {y : Str} {c : Nat} (hy : y = S [c]) (hl : l.length ≤ 100000) (h : ∀ t' k, Q (.int (l.count c : Int) t') { s with toks := k }) :
    wpAny (model prog w) A (call (.builtin "str.count") [.str (S l) t, .str y u]) Q E s := by
  subst hy
  refine SC.count ?_
  rw [show (S [c]) = ⟨#[c]⟩ from rfl, count_S]
  exact h _ _
theorem head_item {a : Addr} {vs : List Value} {n : Nat} {d : Dat} {ds : List Dat} {nd : List (Addr × Obj)} {i : Int} (N : News g L s.heap nx) (hm : (a, listOf vs.toArray n) ∈ nx) (hd : DatAll nd vs (d :: ds)) (hi : i = 0)
    (h : ∀ v, DatIn nd v d → Q v s) (hs : subscripted slice false (.ref a) (.int i u) = operate [.ref a, .int i u] (getItem (.ref a) (.int i u)) := by with_unfolding_all rfl) :
    wpAny (model prog w) A (subscriptTail value slice (.ref a) (.int i u)) Q E s := by
  subst hi
  cases hd with
  | cons hv hr =>
    have hl : s.heap.IsList a _ := ⟨_, (N _ hm).1, rfl, _, rfl⟩
    exact tail_any hl.typeIs slot_list_getitem.lookup (wpAny_getItem_list hl (by decide) (by decide) rfl (h _ hv)) hs
end
section
variable {w : World} {p : Program} {loose : List Str} {mean : ExcName → Option Value} {mg mb : Str → Option Value} {l : List Nat} {t u : Tok}
    {dp un : Nat} {gd : Option (List Code)} {cn : Str} {cs : Scope} {ad : Addr} {ccd : Value} {cl : List (Str × Addr)} {outer : List Env} {A₀ : Around} {base h₀ : Heap} {L : Addr} {m : Str → Option Value} {s : Shared} {Q E : Value → Shared → Prop} {news : List (Addr × Obj)}
theorem strip_call {k : Int} {q : List Nat} (hq : l.dropWhile (· == 32) = q) (hx : k = (l.length : Int)) (hl : l.length ≤ 4096)
    (B : Below A₀ base outer h₀) (F : Fr h₀ L s.heap m) (X : (Mine.hd.heap_39 w.params).In h₀) (N : News h₀ L s.heap news) (T : Top p loose mean mg mb h₀) (hk : cs.kind = .function) (hd : dp + 10 < recursionLimit) (hu : un + 80 < cLine)
    (h : ∀ t' h' tk', Fr h₀ L h' m → News h₀ L h' news → s.toks ≤ tk' → Q (.str (S (q ++ [46])) t') { s with heap := h', toks := tk' }) :
    wpAny (model PySem.Challenge.rw_wn0029_01.row.prog w) (ktrTop dp un gd cn cs L ad ccd cl outer) (call (.ref 60) [.str (S (l ++ [46])) t, .int k u]) Q E s := by
  subst hx hq
  refine Ct.use (strip_ct w p loose mean mg mb l t u hl) B F X N T hk hd hu fun r tl h' tk' F' N' _ htk ho => ?_
  obtain ⟨t', rfl⟩ := ho
  exact h t' h' tk' F' (fun q hq => N' q (List.mem_append_right _ hq)) htk
theorem parse_call (hl : l.length ≤ 4096)
    (B : Below A₀ base outer h₀) (F : Fr h₀ L s.heap m) (X : (Mine.hd.heap_39 w.params).In h₀) (N : News h₀ L s.heap news) (T : Top p loose mean mg mb h₀) (hk : cs.kind = .function) (hd : dp + 10 < recursionLimit) (hu : un + 80 < cLine)
    (h : ∀ t' h' tk', Fr h₀ L h' m → News h₀ L h' news → s.toks ≤ tk' → Q (.str (S (nameL l)) t') { s with heap := h', toks := tk' }) :
    wpAny (model PySem.Challenge.rw_wn0029_01.row.prog w) (ktrTop dp un gd cn cs L ad ccd cl outer) (call (.ref 53) [.str (S ([50, 53, 55, 32] ++ 34 :: l)) t]) Q E s := by
  refine Ct.use (parse_ct w p loose mean mg mb l t hl) B F X N T hk hd hu fun r tl h' tk' F' N' _ htk ho => ?_
  obtain ⟨t', rfl⟩ := ho
  exact h t' h' tk' F' (fun q hq => N' q (List.mem_append_right _ hq)) htk
end
theorem off1_mem {D : Addr} : ∀ {l : List (Addr × Obj)}, LCg.Off1 D l → ∀ p ∈ l, p.1 ≠ D
  | [], _, _, h => nomatch h
  | _ :: _, x, p, h => by
    rcases List.mem_cons.mp h with rfl | h
    · exact x.1
    · exact off1_mem x.2 p h
theorem datAll_free {nd nd' : List (Addr × Obj)} : ∀ {vs : List Value} {ws : List (List Nat)}, DatAll nd vs (ws.map wD) → DatAll nd' vs (ws.map wD)
  | [], [], _ => .nil
  | [], _ :: _, h => nomatch h
  | _ :: _, [], h => nomatch h
  | v :: vs, a :: ws, h => by
    cases h with
    | cons h1 h2 =>
      refine .cons ?_ (datAll_free h2)
      cases h1
      exact .str _ _
theorem cmp_nil {prog : Program} {w : World} {A : Around} {E : Value → Shared → Prop} {s : Shared} {t u : Tok} {y : Str} {Q : Value → Shared → Prop} (hy : y = S []) (h : Q (.bool true) s) : wpAny (model prog w) A (compareOp .Eq (.str (S []) t) (.str y u)) Q E s :=
  cmp_lit (l := []) (m := []) rfl hy (by simpa using h)
theorem cmp_cons {prog : Program} {w : World} {A : Around} {E : Value → Shared → Prop} {s : Shared} {t u : Tok} {y : Str} {c : Nat} {r : List Nat} {Q : Value → Shared → Prop} (hy : y = S []) (h : Q (.bool false) s) : wpAny (model prog w) A (compareOp .Eq (.str (S (c :: r)) t) (.str y u)) Q E s :=
  cmp_lit (l := c :: r) (m := []) rfl hy (by simpa using h)
end

section
theorem anewM5 : True := by first | walk1 | trivial
local macro_rules | `(tactic| walk_at "pyIter ref") => `(tactic| with_reducible refine hold ?_)
local macro_rules | `(tactic| walk_at "exec For Name Call cons nil") => `(tactic| with_reducible refine hold ?_)
local macro_rules | `(tactic| walk_at "call ref") => `(tactic| with_reducible refine hold ?_)
local macro_rules | `(tactic| walk_at "eval ListComp") => `(tactic| with_reducible refine hold ?_)
local macro_rules | `(tactic| walk_at "binaryOp Add str str") => `(tactic| with_reducible refine hold ?_)
local macro_rules | `(tactic| walk_at "subscriptTail Name Slice str ref") => `(tactic| with_reducible refine hold ?_)
local macro_rules | `(tactic| walk_at "compareOp Eq str str") => `(tactic| (with_reducible show wpAny _ _ (compareOp CmpOp.Eq (Value.str (S _) _) (Value.str (Str.ofString "") _)) _ _ _; with_reducible refine hold ?_))
local macro_rules | `(tactic| walk_at "call builtin:str.split") => `(tactic| with_reducible refine hold ?_)
local macro_rules | `(tactic| walk_at "call builtin:str.count") => `(tactic| with_reducible refine hold ?_)
local macro_rules | `(tactic| walk_at "call builtin:list.append") => `(tactic| with_reducible refine hold ?_)
local macro_rules | `(tactic| walk_at "subscriptTail Call Constant ref int") => `(tactic| with_reducible refine hold ?_)
/-- the state between two turns of _law_read -/
noncomputable def ReadJ (all : Rows) (n i : Nat) (m : Str → Option Value) (nx : List (Addr × Obj)) : Prop :=
  ∃ (lr : Addr) (vs : List Value) (k : Nat) (nr : List (Addr × Obj)) (rest : List Nat) (t2 : Tok) (done : Rows), nx = (lr, listOf vs.toArray k) :: nr ∧ (∀ p ∈ nr, p.1 ≠ lr) ∧ DatAll nr vs (done.map rowD) ∧ done.length = i ∧ rest.length ≤ n ∧
    all = done ++ readN (n + 1 - i) rest ∧ Has m [(Str.ofString "rest", .str (S rest) t2), (Str.ofString "rows", .ref lr)]
noncomputable def ReadX (all : Rows) (m : Str → Option Value) (nx : List (Addr × Obj)) : Prop :=
  ∃ (vr : Value), DatIn nx vr (rowsD all) ∧ Has m [(Str.ofString "rows", vr)]
set_option maxHeartbeats 2000000 in
theorem read_ct (w : World) (p : Program) (loose : List Str) (mean : ExcName → Option Value) (mg mb : Str → Option Value) (l : List Nat) (t : Tok) (hl : l.length ≤ 4000) :
    Ct2 w p loose mean mg mb 133 [.str (S l) t] (fun tl r => DatIn tl r (rowsD (readOf l))) := by
  unfold Ct2
  w_top off
  k_fill
  intro dp un gd cn cs adr ccd cl outer A₀ base h₀ L m s Q E B F X T hk hd hu hret
  refine wpAny_call ?_
  k_dflt (refine' enterA (binds := [(Str.ofString "hidden", .str (S l) t)]) B F X T rfl rfl hk ?k6 ?k7 ?k8 ?k9 ?kB ?_ ?c2 ?c3 ?c4 ?c5; (case k6 => k_is); (case k7 => k_is); (case k8 => ktr_room); (case k9 => exact BindsTo.of_eq rfl); (case c5 => decide); (case kB => exact locs rfl); (case c2 => exact rfl); (case c3 => exact rfl); (case c4 => exact rfl); k_whole)
  intro h₁ F' N' B' X' T'
  clear B F X T
  refine @stopAt Flow _ _ _ _ _ _ ?_
  intro Tk Qk hQk
  k_steps
  repeat ((refine unhold ?_; first
      | (k_dflt ((show wpAny _ _ (call (Value.ref 53) _) _ _ _); (refine' parse_call ?h2 ?h3 ?h4 ?h5 ?h6 ?h7 ?h8 ?h9 ?h10 ?_; (case h2 => (simp only [List.length_cons] at *; omega)); (case h3 => k_asm); (case h4 => k_asm); (case h5 => k_asm); (case h6 => k_asm); (case h7 => k_asm); (case h8 => exact rfl); (case h9 => (dsimp only; omega)); (case h10 => (dsimp only; omega)); intro t9 h9 k9 F9 N9 l9; (try dsimp only))))
      | (k_dflt ((show wpAny _ _ (call (Value.ref 60) _) _ _ _); (refine' strip_call ?h0 ?h1 ?h2 ?h3 ?h4 ?h5 ?h6 ?h7 ?h8 ?h9 ?h10 ?_; (case h0 => assumption); (case h1 => exact rfl); (case h2 => omega); (case h3 => k_asm); (case h4 => k_asm); (case h5 => k_asm); (case h6 => k_asm); (case h7 => k_asm); (case h8 => exact rfl); (case h9 => (dsimp only; omega)); (case h10 => (dsimp only; omega)); intro t9 h9 k9 F9 N9 l9; (try dsimp only))))
      | (k_dflt (refine' meant_call ?h1 ?h2 ?h3 ?h4 ?h5 ?h6 ?h7 ?h8 ?h9 ?h10 ?h11 ?_; (case h1 => exact lit0); (case h2 => walk_at "my len"); (case h3 => walk_at "my len"); (case h4 => k_asm); (case h5 => k_asm); (case h6 => k_asm); (case h7 => k_asm); (case h8 => k_asm); (case h9 => first | exact rfl | assumption); (case h10 => (dsimp only; omega)); (case h11 => (dsimp only; omega)); intro t9 h9 k9 F9 N9 l9))
      | (((with_reducible show wpAny _ _ (binaryOp Operator.Add (Value.str (Str.ofString _) _) (Value.str (S _) _)) _ _ _); k_dflt (refine' add_LS (a := [50, 53, 55, 32]) (by decide +kernel) ?hl ?hm ?_; (case hl => (simp only [List.length_cons] at *; omega)); (case hm => decide)); intro t9 k9))
      | (((with_reducible show wpAny _ _ (binaryOp Operator.Add (Value.str (S _) _) (Value.str (Str.ofString _) _)) _ _ _); k_dflt (refine' add_SL (a := [46]) (by decide +kernel) ?hl ?hm ?_; (case hl => omega); (case hm => decide)); intro t9 k9))
      | (k_dflt ((rename Fr _ _ _ _ => F'); (rename News _ _ _ _ => N'); (refine' cutFrom (s := ⟨_, _, _, _, _⟩) F' N' ?hj ?hl ?_; (case hj => omega); (case hl => first | omega | (simp only [List.length_cons] at *; omega))); intro h9 t9 k9 F9 N9; (try k_sweep); (try dsimp only)))
      | (k_dflt ((rename Fr _ _ _ _ => F'); (rename News _ _ _ _ => N'); (refine' cutLast (s := ⟨_, _, _, _, _⟩) F' N' ?hj ?hl ?_; (case hj => first | rfl | omega); (case hl => omega)); intro h9 t9 k9 F9 N9; (try k_sweep); (try dsimp only)))
      | (k_dflt (refine' count_call (c := 34) ?hy ?hl ?_; (case hy => decide +kernel); (case hl => omega); intro t9 k9))); k_steps)
  refine unhold ?_
  refine wpAny_For ?_
  k_steps
  repeat ((refine unhold ?_; first
      | (k_dflt ((show wpAny _ _ (call (Value.ref 53) _) _ _ _); (refine' parse_call ?h2 ?h3 ?h4 ?h5 ?h6 ?h7 ?h8 ?h9 ?h10 ?_; (case h2 => (simp only [List.length_cons] at *; omega)); (case h3 => k_asm); (case h4 => k_asm); (case h5 => k_asm); (case h6 => k_asm); (case h7 => k_asm); (case h8 => exact rfl); (case h9 => (dsimp only; omega)); (case h10 => (dsimp only; omega)); intro t9 h9 k9 F9 N9 l9; (try dsimp only))))
      | (k_dflt ((show wpAny _ _ (call (Value.ref 60) _) _ _ _); (refine' strip_call ?h0 ?h1 ?h2 ?h3 ?h4 ?h5 ?h6 ?h7 ?h8 ?h9 ?h10 ?_; (case h0 => assumption); (case h1 => exact rfl); (case h2 => omega); (case h3 => k_asm); (case h4 => k_asm); (case h5 => k_asm); (case h6 => k_asm); (case h7 => k_asm); (case h8 => exact rfl); (case h9 => (dsimp only; omega)); (case h10 => (dsimp only; omega)); intro t9 h9 k9 F9 N9 l9; (try dsimp only))))
      | (k_dflt (refine' meant_call ?h1 ?h2 ?h3 ?h4 ?h5 ?h6 ?h7 ?h8 ?h9 ?h10 ?h11 ?_; (case h1 => exact lit0); (case h2 => walk_at "my len"); (case h3 => walk_at "my len"); (case h4 => k_asm); (case h5 => k_asm); (case h6 => k_asm); (case h7 => k_asm); (case h8 => k_asm); (case h9 => first | exact rfl | assumption); (case h10 => (dsimp only; omega)); (case h11 => (dsimp only; omega)); intro t9 h9 k9 F9 N9 l9))
      | (((with_reducible show wpAny _ _ (binaryOp Operator.Add (Value.str (Str.ofString _) _) (Value.str (S _) _)) _ _ _); k_dflt (refine' add_LS (a := [50, 53, 55, 32]) (by decide +kernel) ?hl ?hm ?_; (case hl => (simp only [List.length_cons] at *; omega)); (case hm => decide)); intro t9 k9))
      | (((with_reducible show wpAny _ _ (binaryOp Operator.Add (Value.str (S _) _) (Value.str (Str.ofString _) _)) _ _ _); k_dflt (refine' add_SL (a := [46]) (by decide +kernel) ?hl ?hm ?_; (case hl => omega); (case hm => decide)); intro t9 k9))
      | (k_dflt ((rename Fr _ _ _ _ => F'); (rename News _ _ _ _ => N'); (refine' cutFrom (s := ⟨_, _, _, _, _⟩) F' N' ?hj ?hl ?_; (case hj => omega); (case hl => first | omega | (simp only [List.length_cons] at *; omega))); intro h9 t9 k9 F9 N9; (try k_sweep); (try dsimp only)))
      | (k_dflt ((rename Fr _ _ _ _ => F'); (rename News _ _ _ _ => N'); (refine' cutLast (s := ⟨_, _, _, _, _⟩) F' N' ?hj ?hl ?_; (case hj => first | rfl | omega); (case hl => omega)); intro h9 t9 k9 F9 N9; (try k_sweep); (try dsimp only)))
      | (k_dflt (refine' count_call (c := 34) ?hy ?hl ?_; (case hy => decide +kernel); (case hl => omega); intro t9 k9))); k_steps)
  refine unhold ?_
  rename News _ _ _ _ => N1
  rename Fr _ _ _ _ => F1
  rename IsRange _ _ _ _ _ _ _ _ => R1
  refine iterRangeX (n := l.length + 1) rfl R1 (by omega) (by omega) F1 N1 (fun i m nx => ReadJ (readOf l) l.length i m nx) (ReadX (readOf l)) ?_ ?_ ?_ ?_
  · refine ⟨_, [], 0, [], l, t, [], rfl, (fun _ h => nomatch h), .nil, rfl, Nat.le_refl _, ?_, ⟨rfl, rfl, trivial⟩⟩
    simp [readOf]
  · rintro i k t₉ m₁ nx h tk own hi hki ⟨lr, vs, kk, nr, rest, t2, dn, rfl, hoff, hD, hlen, hr, hall, hm⟩ hown htk F3 N3
    have F2 := frHas F3 hm; dsimp only [kstB] at F2
    clear F1 N1 R1 F3 hm htk hQk
    have hq : (rest.dropWhile (· == 32)).length ≤ rest.length := (List.dropWhile_sublist _).length_le
    have hall' : readOf l = dn ++ (if rest.dropWhile (· == 32) = [] then [] else (rowAt (rest.dropWhile (· == 32))).1.map (meant []) :: readN (l.length + 1 - (i + 1)) ((rest.dropWhile (· == 32)).drop (rowAt (rest.dropWhile (· == 32))).2)) := by
      rw [hall, show l.length + 1 - i = (l.length + 1 - (i + 1)) + 1 by omega]; rfl
    clear hall
    generalize hqq : rest.dropWhile (· == 32) = q at hq hall'
    have hq1 : q.length ≤ 4000 := by omega
    k_steps
    repeat ((refine unhold ?_; first
        | (k_dflt ((show wpAny _ _ (call (Value.ref 53) _) _ _ _); (refine' parse_call ?h2 ?h3 ?h4 ?h5 ?h6 ?h7 ?h8 ?h9 ?h10 ?_; (case h2 => (simp only [List.length_cons] at *; omega)); (case h3 => k_asm); (case h4 => k_asm); (case h5 => k_asm); (case h6 => k_asm); (case h7 => k_asm); (case h8 => exact rfl); (case h9 => (dsimp only; omega)); (case h10 => (dsimp only; omega)); intro t9 h9 k9 F9 N9 l9; (try dsimp only))))
        | (k_dflt ((show wpAny _ _ (call (Value.ref 60) _) _ _ _); (refine' strip_call ?h0 ?h1 ?h2 ?h3 ?h4 ?h5 ?h6 ?h7 ?h8 ?h9 ?h10 ?_; (case h0 => assumption); (case h1 => exact rfl); (case h2 => omega); (case h3 => k_asm); (case h4 => k_asm); (case h5 => k_asm); (case h6 => k_asm); (case h7 => k_asm); (case h8 => exact rfl); (case h9 => (dsimp only; omega)); (case h10 => (dsimp only; omega)); intro t9 h9 k9 F9 N9 l9; (try dsimp only))))
        | (k_dflt (refine' meant_call ?h1 ?h2 ?h3 ?h4 ?h5 ?h6 ?h7 ?h8 ?h9 ?h10 ?h11 ?_; (case h1 => exact lit0); (case h2 => walk_at "my len"); (case h3 => walk_at "my len"); (case h4 => k_asm); (case h5 => k_asm); (case h6 => k_asm); (case h7 => k_asm); (case h8 => k_asm); (case h9 => first | exact rfl | assumption); (case h10 => (dsimp only; omega)); (case h11 => (dsimp only; omega)); intro t9 h9 k9 F9 N9 l9))
        | (((with_reducible show wpAny _ _ (binaryOp Operator.Add (Value.str (Str.ofString _) _) (Value.str (S _) _)) _ _ _); k_dflt (refine' add_LS (a := [50, 53, 55, 32]) (by decide +kernel) ?hl ?hm ?_; (case hl => (simp only [List.length_cons] at *; omega)); (case hm => decide)); intro t9 k9))
        | (((with_reducible show wpAny _ _ (binaryOp Operator.Add (Value.str (S _) _) (Value.str (Str.ofString _) _)) _ _ _); k_dflt (refine' add_SL (a := [46]) (by decide +kernel) ?hl ?hm ?_; (case hl => omega); (case hm => decide)); intro t9 k9))
        | (k_dflt ((rename Fr _ _ _ _ => F'); (rename News _ _ _ _ => N'); (refine' cutFrom (s := ⟨_, _, _, _, _⟩) F' N' ?hj ?hl ?_; (case hj => omega); (case hl => first | omega | (simp only [List.length_cons] at *; omega))); intro h9 t9 k9 F9 N9; (try k_sweep); (try dsimp only)))
        | (k_dflt ((rename Fr _ _ _ _ => F'); (rename News _ _ _ _ => N'); (refine' cutLast (s := ⟨_, _, _, _, _⟩) F' N' ?hj ?hl ?_; (case hj => first | rfl | omega); (case hl => omega)); intro h9 t9 k9 F9 N9; (try k_sweep); (try dsimp only)))
        | (k_dflt (refine' count_call (c := 34) ?hy ?hl ?_; (case hy => decide +kernel); (case hl => omega); intro t9 k9))); k_steps)
    refine unhold ?_
    cases q with
    | nil =>
      refine cmp_nil lit0 ?_
      k_steps
      repeat ((refine unhold ?_; first
          | (k_dflt ((show wpAny _ _ (call (Value.ref 53) _) _ _ _); (refine' parse_call ?h2 ?h3 ?h4 ?h5 ?h6 ?h7 ?h8 ?h9 ?h10 ?_; (case h2 => (simp only [List.length_cons] at *; omega)); (case h3 => k_asm); (case h4 => k_asm); (case h5 => k_asm); (case h6 => k_asm); (case h7 => k_asm); (case h8 => exact rfl); (case h9 => (dsimp only; omega)); (case h10 => (dsimp only; omega)); intro t9 h9 k9 F9 N9 l9; (try dsimp only))))
          | (k_dflt ((show wpAny _ _ (call (Value.ref 60) _) _ _ _); (refine' strip_call ?h0 ?h1 ?h2 ?h3 ?h4 ?h5 ?h6 ?h7 ?h8 ?h9 ?h10 ?_; (case h0 => assumption); (case h1 => exact rfl); (case h2 => omega); (case h3 => k_asm); (case h4 => k_asm); (case h5 => k_asm); (case h6 => k_asm); (case h7 => k_asm); (case h8 => exact rfl); (case h9 => (dsimp only; omega)); (case h10 => (dsimp only; omega)); intro t9 h9 k9 F9 N9 l9; (try dsimp only))))
          | (k_dflt (refine' meant_call ?h1 ?h2 ?h3 ?h4 ?h5 ?h6 ?h7 ?h8 ?h9 ?h10 ?h11 ?_; (case h1 => exact lit0); (case h2 => walk_at "my len"); (case h3 => walk_at "my len"); (case h4 => k_asm); (case h5 => k_asm); (case h6 => k_asm); (case h7 => k_asm); (case h8 => k_asm); (case h9 => first | exact rfl | assumption); (case h10 => (dsimp only; omega)); (case h11 => (dsimp only; omega)); intro t9 h9 k9 F9 N9 l9))
          | (((with_reducible show wpAny _ _ (binaryOp Operator.Add (Value.str (Str.ofString _) _) (Value.str (S _) _)) _ _ _); k_dflt (refine' add_LS (a := [50, 53, 55, 32]) (by decide +kernel) ?hl ?hm ?_; (case hl => (simp only [List.length_cons] at *; omega)); (case hm => decide)); intro t9 k9))
          | (((with_reducible show wpAny _ _ (binaryOp Operator.Add (Value.str (S _) _) (Value.str (Str.ofString _) _)) _ _ _); k_dflt (refine' add_SL (a := [46]) (by decide +kernel) ?hl ?hm ?_; (case hl => omega); (case hm => decide)); intro t9 k9))
          | (k_dflt ((rename Fr _ _ _ _ => F'); (rename News _ _ _ _ => N'); (refine' cutFrom (s := ⟨_, _, _, _, _⟩) F' N' ?hj ?hl ?_; (case hj => omega); (case hl => first | omega | (simp only [List.length_cons] at *; omega))); intro h9 t9 k9 F9 N9; (try k_sweep); (try dsimp only)))
          | (k_dflt ((rename Fr _ _ _ _ => F'); (rename News _ _ _ _ => N'); (refine' cutLast (s := ⟨_, _, _, _, _⟩) F' N' ?hj ?hl ?_; (case hj => first | rfl | omega); (case hl => omega)); intro h9 t9 k9 F9 N9; (try k_sweep); (try dsimp only)))
          | (k_dflt (refine' count_call (c := 34) ?hy ?hl ?_; (case hy => decide +kernel); (case hl => omega); intro t9 k9))); k_steps)
      dsimp only
      refine WOut.intro ‹_› ‹_› ⟨_, .list (vs := vs) (n := kk) (List.mem_cons_self ..) ?_, rfl, trivial⟩
      rw [if_pos rfl, List.append_nil] at hall'
      rw [hall']
      exact hD.mono fun p hp => List.mem_cons_of_mem _ (List.mem_append_left _ hp)
    | cons c r =>
      rw [if_neg (by simp)] at hall'
      have hq2 := hq
      rw [List.length_cons] at hq2
      have hA : At (c :: r) 0 c := ⟨0, rfl, rfl⟩
      refine cmp_cons lit0 ?_
      by_cases c34 : c = 34
      · subst c34
        rw [show rowAt (34 :: r) = (splitL 34 (nameL r), 2 + (nameL r).length + (nameL r).count 34) from rfl] at hall'
        dsimp only at hall'
        have hnl := nameL_len _ r (Nat.le_refl _)
        k_steps
        repeat ((refine unhold ?_; first
            | (k_dflt ((show wpAny _ _ (call (Value.ref 53) _) _ _ _); (refine' parse_call ?h2 ?h3 ?h4 ?h5 ?h6 ?h7 ?h8 ?h9 ?h10 ?_; (case h2 => (simp only [List.length_cons] at *; omega)); (case h3 => k_asm); (case h4 => k_asm); (case h5 => k_asm); (case h6 => k_asm); (case h7 => k_asm); (case h8 => exact rfl); (case h9 => (dsimp only; omega)); (case h10 => (dsimp only; omega)); intro t9 h9 k9 F9 N9 l9; (try dsimp only))))
            | (k_dflt ((show wpAny _ _ (call (Value.ref 60) _) _ _ _); (refine' strip_call ?h0 ?h1 ?h2 ?h3 ?h4 ?h5 ?h6 ?h7 ?h8 ?h9 ?h10 ?_; (case h0 => assumption); (case h1 => exact rfl); (case h2 => omega); (case h3 => k_asm); (case h4 => k_asm); (case h5 => k_asm); (case h6 => k_asm); (case h7 => k_asm); (case h8 => exact rfl); (case h9 => (dsimp only; omega)); (case h10 => (dsimp only; omega)); intro t9 h9 k9 F9 N9 l9; (try dsimp only))))
            | (k_dflt (refine' meant_call ?h1 ?h2 ?h3 ?h4 ?h5 ?h6 ?h7 ?h8 ?h9 ?h10 ?h11 ?_; (case h1 => exact lit0); (case h2 => walk_at "my len"); (case h3 => walk_at "my len"); (case h4 => k_asm); (case h5 => k_asm); (case h6 => k_asm); (case h7 => k_asm); (case h8 => k_asm); (case h9 => first | exact rfl | assumption); (case h10 => (dsimp only; omega)); (case h11 => (dsimp only; omega)); intro t9 h9 k9 F9 N9 l9))
            | (((with_reducible show wpAny _ _ (binaryOp Operator.Add (Value.str (Str.ofString _) _) (Value.str (S _) _)) _ _ _); k_dflt (refine' add_LS (a := [50, 53, 55, 32]) (by decide +kernel) ?hl ?hm ?_; (case hl => (simp only [List.length_cons] at *; omega)); (case hm => decide)); intro t9 k9))
            | (((with_reducible show wpAny _ _ (binaryOp Operator.Add (Value.str (S _) _) (Value.str (Str.ofString _) _)) _ _ _); k_dflt (refine' add_SL (a := [46]) (by decide +kernel) ?hl ?hm ?_; (case hl => omega); (case hm => decide)); intro t9 k9))
            | (k_dflt ((rename Fr _ _ _ _ => F'); (rename News _ _ _ _ => N'); (refine' cutFrom (s := ⟨_, _, _, _, _⟩) F' N' ?hj ?hl ?_; (case hj => omega); (case hl => first | omega | (simp only [List.length_cons] at *; omega))); intro h9 t9 k9 F9 N9; (try k_sweep); (try dsimp only)))
            | (k_dflt ((rename Fr _ _ _ _ => F'); (rename News _ _ _ _ => N'); (refine' cutLast (s := ⟨_, _, _, _, _⟩) F' N' ?hj ?hl ?_; (case hj => first | rfl | omega); (case hl => omega)); intro h9 t9 k9 F9 N9; (try k_sweep); (try dsimp only)))
            | (k_dflt (refine' count_call (c := 34) ?hy ?hl ?_; (case hy => decide +kernel); (case hl => omega); intro t9 k9))); k_steps)
        refine unhold ?_
        rename Fr _ _ _ _ => F4
        rename News _ _ _ _ => N4
        refine split_call F4 N4 (c := 34) (by decide +kernel) (by omega) fun vs9 h9 k9 D9 hD9 Fs Ns hne => ?_
        clear F4 N4
        k_steps
        repeat ((refine unhold ?_; first
            | (k_dflt ((show wpAny _ _ (call (Value.ref 53) _) _ _ _); (refine' parse_call ?h2 ?h3 ?h4 ?h5 ?h6 ?h7 ?h8 ?h9 ?h10 ?_; (case h2 => (simp only [List.length_cons] at *; omega)); (case h3 => k_asm); (case h4 => k_asm); (case h5 => k_asm); (case h6 => k_asm); (case h7 => k_asm); (case h8 => exact rfl); (case h9 => (dsimp only; omega)); (case h10 => (dsimp only; omega)); intro t9 h9 k9 F9 N9 l9; (try dsimp only))))
            | (k_dflt ((show wpAny _ _ (call (Value.ref 60) _) _ _ _); (refine' strip_call ?h0 ?h1 ?h2 ?h3 ?h4 ?h5 ?h6 ?h7 ?h8 ?h9 ?h10 ?_; (case h0 => assumption); (case h1 => exact rfl); (case h2 => omega); (case h3 => k_asm); (case h4 => k_asm); (case h5 => k_asm); (case h6 => k_asm); (case h7 => k_asm); (case h8 => exact rfl); (case h9 => (dsimp only; omega)); (case h10 => (dsimp only; omega)); intro t9 h9 k9 F9 N9 l9; (try dsimp only))))
            | (k_dflt (refine' meant_call ?h1 ?h2 ?h3 ?h4 ?h5 ?h6 ?h7 ?h8 ?h9 ?h10 ?h11 ?_; (case h1 => exact lit0); (case h2 => walk_at "my len"); (case h3 => walk_at "my len"); (case h4 => k_asm); (case h5 => k_asm); (case h6 => k_asm); (case h7 => k_asm); (case h8 => k_asm); (case h9 => first | exact rfl | assumption); (case h10 => (dsimp only; omega)); (case h11 => (dsimp only; omega)); intro t9 h9 k9 F9 N9 l9))
            | (((with_reducible show wpAny _ _ (binaryOp Operator.Add (Value.str (Str.ofString _) _) (Value.str (S _) _)) _ _ _); k_dflt (refine' add_LS (a := [50, 53, 55, 32]) (by decide +kernel) ?hl ?hm ?_; (case hl => (simp only [List.length_cons] at *; omega)); (case hm => decide)); intro t9 k9))
            | (((with_reducible show wpAny _ _ (binaryOp Operator.Add (Value.str (S _) _) (Value.str (Str.ofString _) _)) _ _ _); k_dflt (refine' add_SL (a := [46]) (by decide +kernel) ?hl ?hm ?_; (case hl => omega); (case hm => decide)); intro t9 k9))
            | (k_dflt ((rename Fr _ _ _ _ => F'); (rename News _ _ _ _ => N'); (refine' cutFrom (s := ⟨_, _, _, _, _⟩) F' N' ?hj ?hl ?_; (case hj => omega); (case hl => first | omega | (simp only [List.length_cons] at *; omega))); intro h9 t9 k9 F9 N9; (try k_sweep); (try dsimp only)))
            | (k_dflt ((rename Fr _ _ _ _ => F'); (rename News _ _ _ _ => N'); (refine' cutLast (s := ⟨_, _, _, _, _⟩) F' N' ?hj ?hl ?_; (case hj => first | rfl | omega); (case hl => omega)); intro h9 t9 k9 F9 N9; (try k_sweep); (try dsimp only)))
            | (k_dflt (refine' count_call (c := 34) ?hy ?hl ?_; (case hy => decide +kernel); (case hl => omega); intro t9 k9))); k_steps)
        refine unhold ?_
        rename Fr _ _ _ _ => F5
        rename News _ _ _ _ => N5
        refine LCg.ListComp_U F5 (by with_unfolding_all rfl) (by decide) rfl (by decide) rfl ?_
        refine ld F5 rfl ?_
        refine LCg.CompSrc.ledger rfl F5 N5 (List.mem_cons_self ..) (by rw [List.size_toArray, hD9.length, List.length_map, sizeLine_eq]; have := splitL_len 34 (nameL r); simp; omega) fun g9 => ?_
        refine restD (es := ((splitL 34 (nameL r)).map (meant [])).map wD) (by simp) (datAll_free hD9) (fun add => .inr ⟨_, List.mem_append_right _ (List.mem_cons_self ..), rfl, _, rfl⟩) ?_ ?_
        · intro j d e v I oI C oC D m₂ ys nx h tk E' hdi hei hdv hsub hC hx F6 N6 off ne
          rw [List.getElem?_map] at hdi
          rw [List.map_map, List.getElem?_map] at hei
          cases hwj : (splitL 34 (nameL r))[j]? with
          | none => rw [hwj] at hdi; cases hdi
          | some wj =>
            rw [hwj] at hdi hei
            cases hdi
            cases hei
            have hwl : wj.length ≤ 4000 := by
              have := splitL_parts 34 (nameL r) wj (List.mem_of_getElem? hwj)
              omega
            cases hdv
            clear F5 N5 hD9
            k_steps
            repeat ((refine unhold ?_; first
                | (k_dflt ((show wpAny _ _ (call (Value.ref 53) _) _ _ _); (refine' parse_call ?h2 ?h3 ?h4 ?h5 ?h6 ?h7 ?h8 ?h9 ?h10 ?_; (case h2 => (simp only [List.length_cons] at *; omega)); (case h3 => k_asm); (case h4 => k_asm); (case h5 => k_asm); (case h6 => k_asm); (case h7 => k_asm); (case h8 => exact rfl); (case h9 => (dsimp only; omega)); (case h10 => (dsimp only; omega)); intro t9 h9 k9 F9 N9 l9; (try dsimp only))))
                | (k_dflt ((show wpAny _ _ (call (Value.ref 60) _) _ _ _); (refine' strip_call ?h0 ?h1 ?h2 ?h3 ?h4 ?h5 ?h6 ?h7 ?h8 ?h9 ?h10 ?_; (case h0 => assumption); (case h1 => exact rfl); (case h2 => omega); (case h3 => k_asm); (case h4 => k_asm); (case h5 => k_asm); (case h6 => k_asm); (case h7 => k_asm); (case h8 => exact rfl); (case h9 => (dsimp only; omega)); (case h10 => (dsimp only; omega)); intro t9 h9 k9 F9 N9 l9; (try dsimp only))))
                | (k_dflt (refine' meant_call ?h1 ?h2 ?h3 ?h4 ?h5 ?h6 ?h7 ?h8 ?h9 ?h10 ?h11 ?_; (case h1 => exact lit0); (case h2 => walk_at "my len"); (case h3 => walk_at "my len"); (case h4 => k_asm); (case h5 => k_asm); (case h6 => k_asm); (case h7 => k_asm); (case h8 => k_asm); (case h9 => first | exact rfl | assumption); (case h10 => (dsimp only; omega)); (case h11 => (dsimp only; omega)); intro t9 h9 k9 F9 N9 l9))
                | (((with_reducible show wpAny _ _ (binaryOp Operator.Add (Value.str (Str.ofString _) _) (Value.str (S _) _)) _ _ _); k_dflt (refine' add_LS (a := [50, 53, 55, 32]) (by decide +kernel) ?hl ?hm ?_; (case hl => (simp only [List.length_cons] at *; omega)); (case hm => decide)); intro t9 k9))
                | (((with_reducible show wpAny _ _ (binaryOp Operator.Add (Value.str (S _) _) (Value.str (Str.ofString _) _)) _ _ _); k_dflt (refine' add_SL (a := [46]) (by decide +kernel) ?hl ?hm ?_; (case hl => omega); (case hm => decide)); intro t9 k9))
                | (k_dflt ((rename Fr _ _ _ _ => F'); (rename News _ _ _ _ => N'); (refine' cutFrom (s := ⟨_, _, _, _, _⟩) F' N' ?hj ?hl ?_; (case hj => omega); (case hl => first | omega | (simp only [List.length_cons] at *; omega))); intro h9 t9 k9 F9 N9; (try k_sweep); (try dsimp only)))
                | (k_dflt ((rename Fr _ _ _ _ => F'); (rename News _ _ _ _ => N'); (refine' cutLast (s := ⟨_, _, _, _, _⟩) F' N' ?hj ?hl ?_; (case hj => first | rfl | omega); (case hl => omega)); intro h9 t9 k9 F9 N9; (try k_sweep); (try dsimp only)))
                | (k_dflt (refine' count_call (c := 34) ?hy ?hl ?_; (case hy => decide +kernel); (case hl => omega); intro t9 k9))); k_steps)
            rename Fr _ _ _ _ => Fz
            rename News _ _ _ _ => Nz
            exact CEnd.plain Fz Nz (.str _ _)
        · intro ys add hys hoffa D9 h9 k9 F7 N7 o1
          clear F5 N5
          k_steps
          repeat ((refine unhold ?_; first
              | (k_dflt ((show wpAny _ _ (call (Value.ref 53) _) _ _ _); (refine' parse_call ?h2 ?h3 ?h4 ?h5 ?h6 ?h7 ?h8 ?h9 ?h10 ?_; (case h2 => (simp only [List.length_cons] at *; omega)); (case h3 => k_asm); (case h4 => k_asm); (case h5 => k_asm); (case h6 => k_asm); (case h7 => k_asm); (case h8 => exact rfl); (case h9 => (dsimp only; omega)); (case h10 => (dsimp only; omega)); intro t9 h9 k9 F9 N9 l9; (try dsimp only))))
              | (k_dflt ((show wpAny _ _ (call (Value.ref 60) _) _ _ _); (refine' strip_call ?h0 ?h1 ?h2 ?h3 ?h4 ?h5 ?h6 ?h7 ?h8 ?h9 ?h10 ?_; (case h0 => assumption); (case h1 => exact rfl); (case h2 => omega); (case h3 => k_asm); (case h4 => k_asm); (case h5 => k_asm); (case h6 => k_asm); (case h7 => k_asm); (case h8 => exact rfl); (case h9 => (dsimp only; omega)); (case h10 => (dsimp only; omega)); intro t9 h9 k9 F9 N9 l9; (try dsimp only))))
              | (k_dflt (refine' meant_call ?h1 ?h2 ?h3 ?h4 ?h5 ?h6 ?h7 ?h8 ?h9 ?h10 ?h11 ?_; (case h1 => exact lit0); (case h2 => walk_at "my len"); (case h3 => walk_at "my len"); (case h4 => k_asm); (case h5 => k_asm); (case h6 => k_asm); (case h7 => k_asm); (case h8 => k_asm); (case h9 => first | exact rfl | assumption); (case h10 => (dsimp only; omega)); (case h11 => (dsimp only; omega)); intro t9 h9 k9 F9 N9 l9))
              | (((with_reducible show wpAny _ _ (binaryOp Operator.Add (Value.str (Str.ofString _) _) (Value.str (S _) _)) _ _ _); k_dflt (refine' add_LS (a := [50, 53, 55, 32]) (by decide +kernel) ?hl ?hm ?_; (case hl => (simp only [List.length_cons] at *; omega)); (case hm => decide)); intro t9 k9))
              | (((with_reducible show wpAny _ _ (binaryOp Operator.Add (Value.str (S _) _) (Value.str (Str.ofString _) _)) _ _ _); k_dflt (refine' add_SL (a := [46]) (by decide +kernel) ?hl ?hm ?_; (case hl => omega); (case hm => decide)); intro t9 k9))
              | (k_dflt ((rename Fr _ _ _ _ => F'); (rename News _ _ _ _ => N'); (refine' cutFrom (s := ⟨_, _, _, _, _⟩) F' N' ?hj ?hl ?_; (case hj => omega); (case hl => first | omega | (simp only [List.length_cons] at *; omega))); intro h9 t9 k9 F9 N9; (try k_sweep); (try dsimp only)))
              | (k_dflt ((rename Fr _ _ _ _ => F'); (rename News _ _ _ _ => N'); (refine' cutLast (s := ⟨_, _, _, _, _⟩) F' N' ?hj ?hl ?_; (case hj => first | rfl | omega); (case hl => omega)); intro h9 t9 k9 F9 N9; (try k_sweep); (try dsimp only)))
              | (k_dflt (refine' count_call (c := 34) ?hy ?hl ?_; (case hy => decide +kernel); (case hl => omega); intro t9 k9))); k_steps)
          refine unhold ?_
          rename Fr _ _ _ _ => F8
          rename News _ _ _ _ => N8
          refine appendN (vs := vs) (n := kk) (D := lr) F8 N8 (by simp) (by rw [hD.length, List.length_map]; omega) fun h9 nx9 F9 N9 hin hrest => ?_
          clear F8 N8
          k_steps
          repeat ((refine unhold ?_; first
              | (k_dflt ((show wpAny _ _ (call (Value.ref 53) _) _ _ _); (refine' parse_call ?h2 ?h3 ?h4 ?h5 ?h6 ?h7 ?h8 ?h9 ?h10 ?_; (case h2 => (simp only [List.length_cons] at *; omega)); (case h3 => k_asm); (case h4 => k_asm); (case h5 => k_asm); (case h6 => k_asm); (case h7 => k_asm); (case h8 => exact rfl); (case h9 => (dsimp only; omega)); (case h10 => (dsimp only; omega)); intro t9 h9 k9 F9 N9 l9; (try dsimp only))))
              | (k_dflt ((show wpAny _ _ (call (Value.ref 60) _) _ _ _); (refine' strip_call ?h0 ?h1 ?h2 ?h3 ?h4 ?h5 ?h6 ?h7 ?h8 ?h9 ?h10 ?_; (case h0 => assumption); (case h1 => exact rfl); (case h2 => omega); (case h3 => k_asm); (case h4 => k_asm); (case h5 => k_asm); (case h6 => k_asm); (case h7 => k_asm); (case h8 => exact rfl); (case h9 => (dsimp only; omega)); (case h10 => (dsimp only; omega)); intro t9 h9 k9 F9 N9 l9; (try dsimp only))))
              | (k_dflt (refine' meant_call ?h1 ?h2 ?h3 ?h4 ?h5 ?h6 ?h7 ?h8 ?h9 ?h10 ?h11 ?_; (case h1 => exact lit0); (case h2 => walk_at "my len"); (case h3 => walk_at "my len"); (case h4 => k_asm); (case h5 => k_asm); (case h6 => k_asm); (case h7 => k_asm); (case h8 => k_asm); (case h9 => first | exact rfl | assumption); (case h10 => (dsimp only; omega)); (case h11 => (dsimp only; omega)); intro t9 h9 k9 F9 N9 l9))
              | (((with_reducible show wpAny _ _ (binaryOp Operator.Add (Value.str (Str.ofString _) _) (Value.str (S _) _)) _ _ _); k_dflt (refine' add_LS (a := [50, 53, 55, 32]) (by decide +kernel) ?hl ?hm ?_; (case hl => (simp only [List.length_cons] at *; omega)); (case hm => decide)); intro t9 k9))
              | (((with_reducible show wpAny _ _ (binaryOp Operator.Add (Value.str (S _) _) (Value.str (Str.ofString _) _)) _ _ _); k_dflt (refine' add_SL (a := [46]) (by decide +kernel) ?hl ?hm ?_; (case hl => omega); (case hm => decide)); intro t9 k9))
              | (k_dflt ((rename Fr _ _ _ _ => F'); (rename News _ _ _ _ => N'); (refine' cutFrom (s := ⟨_, _, _, _, _⟩) F' N' ?hj ?hl ?_; (case hj => omega); (case hl => first | omega | (simp only [List.length_cons] at *; omega))); intro h9 t9 k9 F9 N9; (try k_sweep); (try dsimp only)))
              | (k_dflt ((rename Fr _ _ _ _ => F'); (rename News _ _ _ _ => N'); (refine' cutLast (s := ⟨_, _, _, _, _⟩) F' N' ?hj ?hl ?_; (case hj => first | rfl | omega); (case hl => omega)); intro h9 t9 k9 F9 N9; (try k_sweep); (try dsimp only)))
              | (k_dflt (refine' count_call (c := 34) ?hy ?hl ?_; (case hy => decide +kernel); (case hl => omega); intro t9 k9))); k_steps)
          rename Fr _ _ _ _ => F10
          rename News _ _ _ _ => N10
          have off1 := off1_mem o1
          have hownm : ∀ p ∈ own, ∀ q ∈ (lr, listOf vs.toArray kk) :: nr, p.1 ≠ q.1 := fun p hp q hq => hown p hp q.1 (List.mem_map.mpr ⟨q, hq, rfl⟩)
          refine InvEndG.intro (nx := (lr, listOf (vs ++ [Value.ref D9]).toArray (kk + 1)) :: ((D9, LCg.lst ys) :: (add ++ nr))) F10 N10 ⟨lr, _, _, _, _, _, dn ++ [(splitL 34 (nameL r)).map (meant [])], rfl, ?_, ?_, ?_, ?_, ?_, ⟨rfl, rfl, trivial⟩⟩ ?_ ?_ ?_
          · intro p hp
            rcases List.mem_cons.mp hp with rfl | hp
            · exact fun e => off1 (lr, listOf vs.toArray kk) (by simp) e.symm
            · rcases List.mem_append.mp hp with hp | hp
              · exact hoffa p hp (lr, listOf vs.toArray kk) (by simp)
              · exact hoff p hp
          · rw [List.map_append]
            exact DatAll.append (hD.mono fun p hp => List.mem_cons_of_mem _ (List.mem_append_right _ hp)) (DatAll.one (.list (List.mem_cons_self ..) (datAll_free hys)))
          · simp [hlen]
          · rw [List.length_drop]; omega
          · rw [hall', show (2 + ((nameL r).length : Int) + ((List.count 34 (nameL r) : Nat) : Int)).toNat = 2 + (nameL r).length + (nameL r).count 34 by omega]
            simp
          · intro p hp b hb
            simp only [List.map_cons, List.map_append, List.mem_cons, List.mem_append] at hb
            rcases hb with hb | hb | hb | hb
            · rw [hb]; exact hownm p hp (lr, listOf vs.toArray kk) (List.mem_cons_self ..)
            · rw [hb]; exact off1 p (by simp [hp])
            · obtain ⟨q, hq, rfl⟩ := List.mem_map.mp hb
              exact fun e => hoffa q hq p (by simp [hp]) e.symm
            · obtain ⟨q, hq, rfl⟩ := List.mem_map.mp hb
              exact hownm p hp q (List.mem_cons_of_mem _ hq)
          · intro p hp
            rcases List.mem_cons.mp hp with rfl | hp
            · exact hin
            · refine hrest p ?_ ?_
              · simp only [List.mem_cons, List.mem_append] at hp ⊢
                grind
              · rcases List.mem_cons.mp hp with rfl | hp
                · exact fun e => off1 (lr, listOf vs.toArray kk) (by simp) e.symm
                · rcases List.mem_append.mp hp with hp | hp
                  · exact hoffa p hp (lr, listOf vs.toArray kk) (by simp)
                  · exact hoff p hp
          · intro p hp
            refine hrest p (by simp [hp]) (hownm p hp (lr, listOf vs.toArray kk) (List.mem_cons_self ..))

      · rw [show rowAt (c :: r) = ([(c :: r).takeWhile (· ≠ 32)], ((c :: r).takeWhile (· ≠ 32)).length) from if_neg c34] at hall'
        have htl : ((c :: r).takeWhile (· ≠ 32)).length ≤ (c :: r).length := (List.takeWhile_sublist _).length_le
        have hsh := splitL_head 32 (c :: r)
        obtain ⟨x0, xr, hsp⟩ := splitL_ne 32 (c :: r)
        rw [hsp] at hsh
        rw [show x0 = (c :: r).takeWhile (· ≠ 32) from hsh] at hsp
        clear hsh
        generalize (c :: r).takeWhile (· ≠ 32) = tw at *
        dsimp only at hall'
        have htw : tw.length ≤ 4000 := by omega
        k_steps
        repeat ((refine unhold ?_; first
            | (k_dflt ((show wpAny _ _ (call (Value.ref 53) _) _ _ _); (refine' parse_call ?h2 ?h3 ?h4 ?h5 ?h6 ?h7 ?h8 ?h9 ?h10 ?_; (case h2 => (simp only [List.length_cons] at *; omega)); (case h3 => k_asm); (case h4 => k_asm); (case h5 => k_asm); (case h6 => k_asm); (case h7 => k_asm); (case h8 => exact rfl); (case h9 => (dsimp only; omega)); (case h10 => (dsimp only; omega)); intro t9 h9 k9 F9 N9 l9; (try dsimp only))))
            | (k_dflt ((show wpAny _ _ (call (Value.ref 60) _) _ _ _); (refine' strip_call ?h0 ?h1 ?h2 ?h3 ?h4 ?h5 ?h6 ?h7 ?h8 ?h9 ?h10 ?_; (case h0 => assumption); (case h1 => exact rfl); (case h2 => omega); (case h3 => k_asm); (case h4 => k_asm); (case h5 => k_asm); (case h6 => k_asm); (case h7 => k_asm); (case h8 => exact rfl); (case h9 => (dsimp only; omega)); (case h10 => (dsimp only; omega)); intro t9 h9 k9 F9 N9 l9; (try dsimp only))))
            | (k_dflt (refine' meant_call ?h1 ?h2 ?h3 ?h4 ?h5 ?h6 ?h7 ?h8 ?h9 ?h10 ?h11 ?_; (case h1 => exact lit0); (case h2 => walk_at "my len"); (case h3 => walk_at "my len"); (case h4 => k_asm); (case h5 => k_asm); (case h6 => k_asm); (case h7 => k_asm); (case h8 => k_asm); (case h9 => first | exact rfl | assumption); (case h10 => (dsimp only; omega)); (case h11 => (dsimp only; omega)); intro t9 h9 k9 F9 N9 l9))
            | (((with_reducible show wpAny _ _ (binaryOp Operator.Add (Value.str (Str.ofString _) _) (Value.str (S _) _)) _ _ _); k_dflt (refine' add_LS (a := [50, 53, 55, 32]) (by decide +kernel) ?hl ?hm ?_; (case hl => (simp only [List.length_cons] at *; omega)); (case hm => decide)); intro t9 k9))
            | (((with_reducible show wpAny _ _ (binaryOp Operator.Add (Value.str (S _) _) (Value.str (Str.ofString _) _)) _ _ _); k_dflt (refine' add_SL (a := [46]) (by decide +kernel) ?hl ?hm ?_; (case hl => omega); (case hm => decide)); intro t9 k9))
            | (k_dflt ((rename Fr _ _ _ _ => F'); (rename News _ _ _ _ => N'); (refine' cutFrom (s := ⟨_, _, _, _, _⟩) F' N' ?hj ?hl ?_; (case hj => omega); (case hl => first | omega | (simp only [List.length_cons] at *; omega))); intro h9 t9 k9 F9 N9; (try k_sweep); (try dsimp only)))
            | (k_dflt ((rename Fr _ _ _ _ => F'); (rename News _ _ _ _ => N'); (refine' cutLast (s := ⟨_, _, _, _, _⟩) F' N' ?hj ?hl ?_; (case hj => first | rfl | omega); (case hl => omega)); intro h9 t9 k9 F9 N9; (try k_sweep); (try dsimp only)))
            | (k_dflt (refine' count_call (c := 34) ?hy ?hl ?_; (case hy => decide +kernel); (case hl => omega); intro t9 k9))); k_steps)
        refine unhold ?_
        rename Fr _ _ _ _ => F4
        rename News _ _ _ _ => N4
        refine split_call F4 N4 (c := 32) (by decide +kernel) (by omega) fun vs9 h9 k9 D9 hD9 Fs Ns hne => ?_
        rw [hsp] at hD9
        clear F4 N4
        k_steps
        repeat ((refine unhold ?_; first
            | (k_dflt ((show wpAny _ _ (call (Value.ref 53) _) _ _ _); (refine' parse_call ?h2 ?h3 ?h4 ?h5 ?h6 ?h7 ?h8 ?h9 ?h10 ?_; (case h2 => (simp only [List.length_cons] at *; omega)); (case h3 => k_asm); (case h4 => k_asm); (case h5 => k_asm); (case h6 => k_asm); (case h7 => k_asm); (case h8 => exact rfl); (case h9 => (dsimp only; omega)); (case h10 => (dsimp only; omega)); intro t9 h9 k9 F9 N9 l9; (try dsimp only))))
            | (k_dflt ((show wpAny _ _ (call (Value.ref 60) _) _ _ _); (refine' strip_call ?h0 ?h1 ?h2 ?h3 ?h4 ?h5 ?h6 ?h7 ?h8 ?h9 ?h10 ?_; (case h0 => assumption); (case h1 => exact rfl); (case h2 => omega); (case h3 => k_asm); (case h4 => k_asm); (case h5 => k_asm); (case h6 => k_asm); (case h7 => k_asm); (case h8 => exact rfl); (case h9 => (dsimp only; omega)); (case h10 => (dsimp only; omega)); intro t9 h9 k9 F9 N9 l9; (try dsimp only))))
            | (k_dflt (refine' meant_call ?h1 ?h2 ?h3 ?h4 ?h5 ?h6 ?h7 ?h8 ?h9 ?h10 ?h11 ?_; (case h1 => exact lit0); (case h2 => walk_at "my len"); (case h3 => walk_at "my len"); (case h4 => k_asm); (case h5 => k_asm); (case h6 => k_asm); (case h7 => k_asm); (case h8 => k_asm); (case h9 => first | exact rfl | assumption); (case h10 => (dsimp only; omega)); (case h11 => (dsimp only; omega)); intro t9 h9 k9 F9 N9 l9))
            | (((with_reducible show wpAny _ _ (binaryOp Operator.Add (Value.str (Str.ofString _) _) (Value.str (S _) _)) _ _ _); k_dflt (refine' add_LS (a := [50, 53, 55, 32]) (by decide +kernel) ?hl ?hm ?_; (case hl => (simp only [List.length_cons] at *; omega)); (case hm => decide)); intro t9 k9))
            | (((with_reducible show wpAny _ _ (binaryOp Operator.Add (Value.str (S _) _) (Value.str (Str.ofString _) _)) _ _ _); k_dflt (refine' add_SL (a := [46]) (by decide +kernel) ?hl ?hm ?_; (case hl => omega); (case hm => decide)); intro t9 k9))
            | (k_dflt ((rename Fr _ _ _ _ => F'); (rename News _ _ _ _ => N'); (refine' cutFrom (s := ⟨_, _, _, _, _⟩) F' N' ?hj ?hl ?_; (case hj => omega); (case hl => first | omega | (simp only [List.length_cons] at *; omega))); intro h9 t9 k9 F9 N9; (try k_sweep); (try dsimp only)))
            | (k_dflt ((rename Fr _ _ _ _ => F'); (rename News _ _ _ _ => N'); (refine' cutLast (s := ⟨_, _, _, _, _⟩) F' N' ?hj ?hl ?_; (case hj => first | rfl | omega); (case hl => omega)); intro h9 t9 k9 F9 N9; (try k_sweep); (try dsimp only)))
            | (k_dflt (refine' count_call (c := 34) ?hy ?hl ?_; (case hy => decide +kernel); (case hl => omega); intro t9 k9))); k_steps)
        rename (List.map wD (tw :: xr))[Int.toNat 0]? = some _ => hk9
        obtain rfl : wD tw = _ := Option.some.inj hk9
        clear hD9
        rename DatIn [] _ _ => hv9
        cases hv9
        k_steps
        repeat ((refine unhold ?_; first
            | (k_dflt ((show wpAny _ _ (call (Value.ref 53) _) _ _ _); (refine' parse_call ?h2 ?h3 ?h4 ?h5 ?h6 ?h7 ?h8 ?h9 ?h10 ?_; (case h2 => (simp only [List.length_cons] at *; omega)); (case h3 => k_asm); (case h4 => k_asm); (case h5 => k_asm); (case h6 => k_asm); (case h7 => k_asm); (case h8 => exact rfl); (case h9 => (dsimp only; omega)); (case h10 => (dsimp only; omega)); intro t9 h9 k9 F9 N9 l9; (try dsimp only))))
            | (k_dflt ((show wpAny _ _ (call (Value.ref 60) _) _ _ _); (refine' strip_call ?h0 ?h1 ?h2 ?h3 ?h4 ?h5 ?h6 ?h7 ?h8 ?h9 ?h10 ?_; (case h0 => assumption); (case h1 => exact rfl); (case h2 => omega); (case h3 => k_asm); (case h4 => k_asm); (case h5 => k_asm); (case h6 => k_asm); (case h7 => k_asm); (case h8 => exact rfl); (case h9 => (dsimp only; omega)); (case h10 => (dsimp only; omega)); intro t9 h9 k9 F9 N9 l9; (try dsimp only))))
            | (k_dflt (refine' meant_call ?h1 ?h2 ?h3 ?h4 ?h5 ?h6 ?h7 ?h8 ?h9 ?h10 ?h11 ?_; (case h1 => exact lit0); (case h2 => walk_at "my len"); (case h3 => walk_at "my len"); (case h4 => k_asm); (case h5 => k_asm); (case h6 => k_asm); (case h7 => k_asm); (case h8 => k_asm); (case h9 => first | exact rfl | assumption); (case h10 => (dsimp only; omega)); (case h11 => (dsimp only; omega)); intro t9 h9 k9 F9 N9 l9))
            | (((with_reducible show wpAny _ _ (binaryOp Operator.Add (Value.str (Str.ofString _) _) (Value.str (S _) _)) _ _ _); k_dflt (refine' add_LS (a := [50, 53, 55, 32]) (by decide +kernel) ?hl ?hm ?_; (case hl => (simp only [List.length_cons] at *; omega)); (case hm => decide)); intro t9 k9))
            | (((with_reducible show wpAny _ _ (binaryOp Operator.Add (Value.str (S _) _) (Value.str (Str.ofString _) _)) _ _ _); k_dflt (refine' add_SL (a := [46]) (by decide +kernel) ?hl ?hm ?_; (case hl => omega); (case hm => decide)); intro t9 k9))
            | (k_dflt ((rename Fr _ _ _ _ => F'); (rename News _ _ _ _ => N'); (refine' cutFrom (s := ⟨_, _, _, _, _⟩) F' N' ?hj ?hl ?_; (case hj => omega); (case hl => first | omega | (simp only [List.length_cons] at *; omega))); intro h9 t9 k9 F9 N9; (try k_sweep); (try dsimp only)))
            | (k_dflt ((rename Fr _ _ _ _ => F'); (rename News _ _ _ _ => N'); (refine' cutLast (s := ⟨_, _, _, _, _⟩) F' N' ?hj ?hl ?_; (case hj => first | rfl | omega); (case hl => omega)); intro h9 t9 k9 F9 N9; (try k_sweep); (try dsimp only)))
            | (k_dflt (refine' count_call (c := 34) ?hy ?hl ?_; (case hy => decide +kernel); (case hl => omega); intro t9 k9))); k_steps)
        refine unhold ?_
        rename Fr _ _ _ _ => F5
        rename News _ _ _ _ => N5
        refine LCg.ListComp_U F5 (by with_unfolding_all rfl) (by decide) rfl (by decide) rfl ?_
        refine ld F5 rfl ?_
        refine LCg.CompSrc.ledger rfl F5 N5 (List.mem_cons_self ..) (by rw [List.size_toArray, sizeLine_eq]; simp) fun g9 => ?_
        refine restD (es := ([tw].map (meant [])).map wD) (by simp) (vs := [_]) (ds := [tw].map wD) (.cons (.str _ _) .nil) (fun add => .inr ⟨_, List.mem_append_right _ (List.mem_cons_self ..), rfl, _, rfl⟩) ?_ ?_
        · intro j d e v I oI C oC D m₂ ys nx h tk E' hdi hei hdv hsub hC hx F6 N6 off ne
          rw [List.getElem?_map] at hdi
          rw [List.map_map, List.getElem?_map] at hei
          cases hwj : [tw][j]? with
          | none => rw [hwj] at hdi; cases hdi
          | some wj =>
            rw [hwj] at hdi hei
            cases hdi
            cases hei
            have hwl : wj.length ≤ 4000 := by
              have := List.mem_singleton.mp (List.mem_of_getElem? hwj)
              rw [this]; exact htw
            cases hdv
            clear F5 N5
            k_steps
            repeat ((refine unhold ?_; first
                | (k_dflt ((show wpAny _ _ (call (Value.ref 53) _) _ _ _); (refine' parse_call ?h2 ?h3 ?h4 ?h5 ?h6 ?h7 ?h8 ?h9 ?h10 ?_; (case h2 => (simp only [List.length_cons] at *; omega)); (case h3 => k_asm); (case h4 => k_asm); (case h5 => k_asm); (case h6 => k_asm); (case h7 => k_asm); (case h8 => exact rfl); (case h9 => (dsimp only; omega)); (case h10 => (dsimp only; omega)); intro t9 h9 k9 F9 N9 l9; (try dsimp only))))
                | (k_dflt ((show wpAny _ _ (call (Value.ref 60) _) _ _ _); (refine' strip_call ?h0 ?h1 ?h2 ?h3 ?h4 ?h5 ?h6 ?h7 ?h8 ?h9 ?h10 ?_; (case h0 => assumption); (case h1 => exact rfl); (case h2 => omega); (case h3 => k_asm); (case h4 => k_asm); (case h5 => k_asm); (case h6 => k_asm); (case h7 => k_asm); (case h8 => exact rfl); (case h9 => (dsimp only; omega)); (case h10 => (dsimp only; omega)); intro t9 h9 k9 F9 N9 l9; (try dsimp only))))
                | (k_dflt (refine' meant_call ?h1 ?h2 ?h3 ?h4 ?h5 ?h6 ?h7 ?h8 ?h9 ?h10 ?h11 ?_; (case h1 => exact lit0); (case h2 => walk_at "my len"); (case h3 => walk_at "my len"); (case h4 => k_asm); (case h5 => k_asm); (case h6 => k_asm); (case h7 => k_asm); (case h8 => k_asm); (case h9 => first | exact rfl | assumption); (case h10 => (dsimp only; omega)); (case h11 => (dsimp only; omega)); intro t9 h9 k9 F9 N9 l9))
                | (((with_reducible show wpAny _ _ (binaryOp Operator.Add (Value.str (Str.ofString _) _) (Value.str (S _) _)) _ _ _); k_dflt (refine' add_LS (a := [50, 53, 55, 32]) (by decide +kernel) ?hl ?hm ?_; (case hl => (simp only [List.length_cons] at *; omega)); (case hm => decide)); intro t9 k9))
                | (((with_reducible show wpAny _ _ (binaryOp Operator.Add (Value.str (S _) _) (Value.str (Str.ofString _) _)) _ _ _); k_dflt (refine' add_SL (a := [46]) (by decide +kernel) ?hl ?hm ?_; (case hl => omega); (case hm => decide)); intro t9 k9))
                | (k_dflt ((rename Fr _ _ _ _ => F'); (rename News _ _ _ _ => N'); (refine' cutFrom (s := ⟨_, _, _, _, _⟩) F' N' ?hj ?hl ?_; (case hj => omega); (case hl => first | omega | (simp only [List.length_cons] at *; omega))); intro h9 t9 k9 F9 N9; (try k_sweep); (try dsimp only)))
                | (k_dflt ((rename Fr _ _ _ _ => F'); (rename News _ _ _ _ => N'); (refine' cutLast (s := ⟨_, _, _, _, _⟩) F' N' ?hj ?hl ?_; (case hj => first | rfl | omega); (case hl => omega)); intro h9 t9 k9 F9 N9; (try k_sweep); (try dsimp only)))
                | (k_dflt (refine' count_call (c := 34) ?hy ?hl ?_; (case hy => decide +kernel); (case hl => omega); intro t9 k9))); k_steps)
            rename Fr _ _ _ _ => Fz
            rename News _ _ _ _ => Nz
            exact CEnd.plain Fz Nz (.str _ _)
        · intro ys add hys hoffa D9 h9 k9 F7 N7 o1
          clear F5 N5
          k_steps
          repeat ((refine unhold ?_; first
              | (k_dflt ((show wpAny _ _ (call (Value.ref 53) _) _ _ _); (refine' parse_call ?h2 ?h3 ?h4 ?h5 ?h6 ?h7 ?h8 ?h9 ?h10 ?_; (case h2 => (simp only [List.length_cons] at *; omega)); (case h3 => k_asm); (case h4 => k_asm); (case h5 => k_asm); (case h6 => k_asm); (case h7 => k_asm); (case h8 => exact rfl); (case h9 => (dsimp only; omega)); (case h10 => (dsimp only; omega)); intro t9 h9 k9 F9 N9 l9; (try dsimp only))))
              | (k_dflt ((show wpAny _ _ (call (Value.ref 60) _) _ _ _); (refine' strip_call ?h0 ?h1 ?h2 ?h3 ?h4 ?h5 ?h6 ?h7 ?h8 ?h9 ?h10 ?_; (case h0 => assumption); (case h1 => exact rfl); (case h2 => omega); (case h3 => k_asm); (case h4 => k_asm); (case h5 => k_asm); (case h6 => k_asm); (case h7 => k_asm); (case h8 => exact rfl); (case h9 => (dsimp only; omega)); (case h10 => (dsimp only; omega)); intro t9 h9 k9 F9 N9 l9; (try dsimp only))))
              | (k_dflt (refine' meant_call ?h1 ?h2 ?h3 ?h4 ?h5 ?h6 ?h7 ?h8 ?h9 ?h10 ?h11 ?_; (case h1 => exact lit0); (case h2 => walk_at "my len"); (case h3 => walk_at "my len"); (case h4 => k_asm); (case h5 => k_asm); (case h6 => k_asm); (case h7 => k_asm); (case h8 => k_asm); (case h9 => first | exact rfl | assumption); (case h10 => (dsimp only; omega)); (case h11 => (dsimp only; omega)); intro t9 h9 k9 F9 N9 l9))
              | (((with_reducible show wpAny _ _ (binaryOp Operator.Add (Value.str (Str.ofString _) _) (Value.str (S _) _)) _ _ _); k_dflt (refine' add_LS (a := [50, 53, 55, 32]) (by decide +kernel) ?hl ?hm ?_; (case hl => (simp only [List.length_cons] at *; omega)); (case hm => decide)); intro t9 k9))
              | (((with_reducible show wpAny _ _ (binaryOp Operator.Add (Value.str (S _) _) (Value.str (Str.ofString _) _)) _ _ _); k_dflt (refine' add_SL (a := [46]) (by decide +kernel) ?hl ?hm ?_; (case hl => omega); (case hm => decide)); intro t9 k9))
              | (k_dflt ((rename Fr _ _ _ _ => F'); (rename News _ _ _ _ => N'); (refine' cutFrom (s := ⟨_, _, _, _, _⟩) F' N' ?hj ?hl ?_; (case hj => omega); (case hl => first | omega | (simp only [List.length_cons] at *; omega))); intro h9 t9 k9 F9 N9; (try k_sweep); (try dsimp only)))
              | (k_dflt ((rename Fr _ _ _ _ => F'); (rename News _ _ _ _ => N'); (refine' cutLast (s := ⟨_, _, _, _, _⟩) F' N' ?hj ?hl ?_; (case hj => first | rfl | omega); (case hl => omega)); intro h9 t9 k9 F9 N9; (try k_sweep); (try dsimp only)))
              | (k_dflt (refine' count_call (c := 34) ?hy ?hl ?_; (case hy => decide +kernel); (case hl => omega); intro t9 k9))); k_steps)
          refine unhold ?_
          rename Fr _ _ _ _ => F8
          rename News _ _ _ _ => N8
          refine appendN (vs := vs) (n := kk) (D := lr) F8 N8 (by simp) (by rw [hD.length, List.length_map]; omega) fun h9 nx9 F9 N9 hin hrest => ?_
          clear F8 N8
          k_steps
          repeat ((refine unhold ?_; first
              | (k_dflt ((show wpAny _ _ (call (Value.ref 53) _) _ _ _); (refine' parse_call ?h2 ?h3 ?h4 ?h5 ?h6 ?h7 ?h8 ?h9 ?h10 ?_; (case h2 => (simp only [List.length_cons] at *; omega)); (case h3 => k_asm); (case h4 => k_asm); (case h5 => k_asm); (case h6 => k_asm); (case h7 => k_asm); (case h8 => exact rfl); (case h9 => (dsimp only; omega)); (case h10 => (dsimp only; omega)); intro t9 h9 k9 F9 N9 l9; (try dsimp only))))
              | (k_dflt ((show wpAny _ _ (call (Value.ref 60) _) _ _ _); (refine' strip_call ?h0 ?h1 ?h2 ?h3 ?h4 ?h5 ?h6 ?h7 ?h8 ?h9 ?h10 ?_; (case h0 => assumption); (case h1 => exact rfl); (case h2 => omega); (case h3 => k_asm); (case h4 => k_asm); (case h5 => k_asm); (case h6 => k_asm); (case h7 => k_asm); (case h8 => exact rfl); (case h9 => (dsimp only; omega)); (case h10 => (dsimp only; omega)); intro t9 h9 k9 F9 N9 l9; (try dsimp only))))
              | (k_dflt (refine' meant_call ?h1 ?h2 ?h3 ?h4 ?h5 ?h6 ?h7 ?h8 ?h9 ?h10 ?h11 ?_; (case h1 => exact lit0); (case h2 => walk_at "my len"); (case h3 => walk_at "my len"); (case h4 => k_asm); (case h5 => k_asm); (case h6 => k_asm); (case h7 => k_asm); (case h8 => k_asm); (case h9 => first | exact rfl | assumption); (case h10 => (dsimp only; omega)); (case h11 => (dsimp only; omega)); intro t9 h9 k9 F9 N9 l9))
              | (((with_reducible show wpAny _ _ (binaryOp Operator.Add (Value.str (Str.ofString _) _) (Value.str (S _) _)) _ _ _); k_dflt (refine' add_LS (a := [50, 53, 55, 32]) (by decide +kernel) ?hl ?hm ?_; (case hl => (simp only [List.length_cons] at *; omega)); (case hm => decide)); intro t9 k9))
              | (((with_reducible show wpAny _ _ (binaryOp Operator.Add (Value.str (S _) _) (Value.str (Str.ofString _) _)) _ _ _); k_dflt (refine' add_SL (a := [46]) (by decide +kernel) ?hl ?hm ?_; (case hl => omega); (case hm => decide)); intro t9 k9))
              | (k_dflt ((rename Fr _ _ _ _ => F'); (rename News _ _ _ _ => N'); (refine' cutFrom (s := ⟨_, _, _, _, _⟩) F' N' ?hj ?hl ?_; (case hj => omega); (case hl => first | omega | (simp only [List.length_cons] at *; omega))); intro h9 t9 k9 F9 N9; (try k_sweep); (try dsimp only)))
              | (k_dflt ((rename Fr _ _ _ _ => F'); (rename News _ _ _ _ => N'); (refine' cutLast (s := ⟨_, _, _, _, _⟩) F' N' ?hj ?hl ?_; (case hj => first | rfl | omega); (case hl => omega)); intro h9 t9 k9 F9 N9; (try k_sweep); (try dsimp only)))
              | (k_dflt (refine' count_call (c := 34) ?hy ?hl ?_; (case hy => decide +kernel); (case hl => omega); intro t9 k9))); k_steps)
          rename Fr _ _ _ _ => F10
          rename News _ _ _ _ => N10
          have off1 := off1_mem o1
          have hownm : ∀ p ∈ own, ∀ q ∈ (lr, listOf vs.toArray kk) :: nr, p.1 ≠ q.1 := fun p hp q hq => hown p hp q.1 (List.mem_map.mpr ⟨q, hq, rfl⟩)
          refine InvEndG.intro (nx := (lr, listOf (vs ++ [Value.ref D9]).toArray (kk + 1)) :: ((D9, LCg.lst ys) :: (add ++ nr))) F10 N10 ⟨lr, _, _, _, _, _, dn ++ [[tw].map (meant [])], rfl, ?_, ?_, ?_, ?_, ?_, ⟨rfl, rfl, trivial⟩⟩ ?_ ?_ ?_
          · intro p hp
            rcases List.mem_cons.mp hp with rfl | hp
            · exact fun e => off1 (lr, listOf vs.toArray kk) (by simp) e.symm
            · rcases List.mem_append.mp hp with hp | hp
              · exact hoffa p hp (lr, listOf vs.toArray kk) (by simp)
              · exact hoff p hp
          · rw [List.map_append]
            exact DatAll.append (hD.mono fun p hp => List.mem_cons_of_mem _ (List.mem_append_right _ hp)) (DatAll.one (.list (List.mem_cons_self ..) (datAll_free hys)))
          · simp [hlen]
          · rw [List.length_drop]; omega
          · rw [hall', Int.toNat_natCast]
            simp
          · intro p hp b hb
            simp only [List.map_cons, List.map_append, List.mem_cons, List.mem_append] at hb
            rcases hb with hb | hb | hb | hb
            · rw [hb]; exact hownm p hp (lr, listOf vs.toArray kk) (List.mem_cons_self ..)
            · rw [hb]; exact off1 p (by simp [hp])
            · obtain ⟨q, hq, rfl⟩ := List.mem_map.mp hb
              exact fun e => hoffa q hq p (by simp [hp]) e.symm
            · obtain ⟨q, hq, rfl⟩ := List.mem_map.mp hb
              exact hownm p hp q (List.mem_cons_of_mem _ hq)
          · intro p hp
            rcases List.mem_cons.mp hp with rfl | hp
            · exact hin
            · refine hrest p ?_ ?_
              · simp only [List.mem_cons, List.mem_append] at hp ⊢
                grind
              · rcases List.mem_cons.mp hp with rfl | hp
                · exact fun e => off1 (lr, listOf vs.toArray kk) (by simp) e.symm
                · rcases List.mem_append.mp hp with hp | hp
                  · exact hoffa p hp (lr, listOf vs.toArray kk) (by simp)
                  · exact hoff p hp
          · intro p hp
            refine hrest p (by simp [hp]) (hownm p hp (lr, listOf vs.toArray kk) (List.mem_cons_self ..))

  · rintro m nx ⟨lr, vs, kk, nr, rest, t2, dn, rfl, hoff, hD, hlen, hr, hall, hm⟩
    rw [show l.length + 1 - (l.length + 1) = 0 by omega] at hall
    rw [show readN 0 rest = [] from rfl, List.append_nil] at hall
    rw [hall]
    refine ⟨_, .list (List.mem_cons_self ..) (hD.mono fun p hp => List.mem_cons_of_mem _ hp), ?_, trivial⟩
    exact hm.2.1
  · rintro h tk m₁ nx ⟨vr, hvr, hm⟩ F3 N3
    have F2 := frHas F3 hm; dsimp only [kstB] at F2
    clear F1 N1 R1 F3 hm
    dsimp only
    k_steps
    repeat ((refine unhold ?_; first
        | (k_dflt ((show wpAny _ _ (call (Value.ref 53) _) _ _ _); (refine' parse_call ?h2 ?h3 ?h4 ?h5 ?h6 ?h7 ?h8 ?h9 ?h10 ?_; (case h2 => (simp only [List.length_cons] at *; omega)); (case h3 => k_asm); (case h4 => k_asm); (case h5 => k_asm); (case h6 => k_asm); (case h7 => k_asm); (case h8 => exact rfl); (case h9 => (dsimp only; omega)); (case h10 => (dsimp only; omega)); intro t9 h9 k9 F9 N9 l9; (try dsimp only))))
        | (k_dflt ((show wpAny _ _ (call (Value.ref 60) _) _ _ _); (refine' strip_call ?h0 ?h1 ?h2 ?h3 ?h4 ?h5 ?h6 ?h7 ?h8 ?h9 ?h10 ?_; (case h0 => assumption); (case h1 => exact rfl); (case h2 => omega); (case h3 => k_asm); (case h4 => k_asm); (case h5 => k_asm); (case h6 => k_asm); (case h7 => k_asm); (case h8 => exact rfl); (case h9 => (dsimp only; omega)); (case h10 => (dsimp only; omega)); intro t9 h9 k9 F9 N9 l9; (try dsimp only))))
        | (k_dflt (refine' meant_call ?h1 ?h2 ?h3 ?h4 ?h5 ?h6 ?h7 ?h8 ?h9 ?h10 ?h11 ?_; (case h1 => exact lit0); (case h2 => walk_at "my len"); (case h3 => walk_at "my len"); (case h4 => k_asm); (case h5 => k_asm); (case h6 => k_asm); (case h7 => k_asm); (case h8 => k_asm); (case h9 => first | exact rfl | assumption); (case h10 => (dsimp only; omega)); (case h11 => (dsimp only; omega)); intro t9 h9 k9 F9 N9 l9))
        | (((with_reducible show wpAny _ _ (binaryOp Operator.Add (Value.str (Str.ofString _) _) (Value.str (S _) _)) _ _ _); k_dflt (refine' add_LS (a := [50, 53, 55, 32]) (by decide +kernel) ?hl ?hm ?_; (case hl => (simp only [List.length_cons] at *; omega)); (case hm => decide)); intro t9 k9))
        | (((with_reducible show wpAny _ _ (binaryOp Operator.Add (Value.str (S _) _) (Value.str (Str.ofString _) _)) _ _ _); k_dflt (refine' add_SL (a := [46]) (by decide +kernel) ?hl ?hm ?_; (case hl => omega); (case hm => decide)); intro t9 k9))
        | (k_dflt ((rename Fr _ _ _ _ => F'); (rename News _ _ _ _ => N'); (refine' cutFrom (s := ⟨_, _, _, _, _⟩) F' N' ?hj ?hl ?_; (case hj => omega); (case hl => first | omega | (simp only [List.length_cons] at *; omega))); intro h9 t9 k9 F9 N9; (try k_sweep); (try dsimp only)))
        | (k_dflt ((rename Fr _ _ _ _ => F'); (rename News _ _ _ _ => N'); (refine' cutLast (s := ⟨_, _, _, _, _⟩) F' N' ?hj ?hl ?_; (case hj => first | rfl | omega); (case hl => omega)); intro h9 t9 k9 F9 N9; (try k_sweep); (try dsimp only)))
        | (k_dflt (refine' count_call (c := 34) ?hy ?hl ?_; (case hy => decide +kernel); (case hl => omega); intro t9 k9))); k_steps)
    refine hQk _ _ ?_
    dsimp only
    exact leaveA_ ‹_› ‹_› fun hk1 hn1 => hret _ nx _ _ hk1 hn1 hvr
end

section
section
variable {prog : Program} {w : World} {A A₀ : Around} {s : Shared} {K : Frag} {L : Addr} {h₀ base : Heap} {m mg mb : Str → Option Value} {p : Program} {loose : List Str} {mean : ExcName → Option Value}

theorem enterC {env : Env} {outer : List Env} {R : Result → Shared → Prop} {name qual : Str} {params : Arguments} {body : List Stmt} {scope : Scope} {dV kV doc pm cdv ct oc : Value} {an od : Option Addr} {osl : Array (Option Value)} {f : Addr} {args : Args} {binds : List (Str × Value)}
    (B : Below A₀ base outer h₀) (F : Fr h₀ L s.heap m) (X₀ : K.In h₀) (T : Top p loose mean mg mb h₀) (hA : A.frames = some (env :: outer)) (hf : env.frame = some L) (hke : env.scope.kind = .function)
    (ho : K.lookup f = some ⟨oc, od, .func (fnOf name qual params body scope dV kV doc pm an cdv ct), osl⟩) (hcd : codeIn K cdv qual = true) (hroom : A.depth < recursionLimit)
    (hbind : BindsTo s (fnOf name qual params body scope dV kV doc pm an cdv ct) args binds) (hkind : (binds.all fun y => scope.names.lookup y.1 == some .local || scope.names.lookup y.1 == some .cell) = true)
    (hnd : ((cellsFrom 0 scope.names []).map (·.1)).Nodup)
    (h : ∀ h₁ tk cells, Fr s.heap s.heap.objs.size h₁ (bindL (envOfC qual scope s.heap.objs.size f cdv).kindOf binds fun _ => none) → News s.heap s.heap.objs.size h₁ cells →
      CellsAre (bindC (envOfC qual scope s.heap.objs.size f cdv).kindOf binds fun _ => none) (cellsFrom (s.heap.objs.size + 1) scope.names []) cells → Below A base (env :: outer) s.heap → K.In s.heap → Top p loose mean mg mb s.heap →
      wpAny (model prog w) (A.deeper (envOfC qual scope s.heap.objs.size f cdv)) (execs body (envOfC qual scope s.heap.objs.size f cdv))
        (fun fl s' => LeaveA s.heap R (match fl with | .ret v => v | _ => .none) s')
        (fun _ _ => False)
        { s with heap := h₁, toks := tk })
    (hco : scope.isCoroutine = false) (hgen : scope.isGenerator = false) (hk : scope.kind = .function) : codeAny (model prog w) A (.call (.ref f) args) R s := by
  obtain ⟨FG, BG, st, lv⟩ := groundX (R := R) B F (News.nil (h₀ := h₀) (L := L)) hA hf hke
  have XS : K.In s.heap := X₀.keeps F.keep
  have TS : Top p loose mean mg mb s.heap := T.keeps F.keep
  refine codeAny_call_function hroom (XS _ _ ho) rfl hco hgen rfl (codeRec_of XS hcd) (hbind _ _ _ _ ?_)
  refine wpAny_newFunctionEnv_cells hk (kindsX hkind _) fun env' he s' x => ?_
  subst he
  refine ⟨TS.nolimit.keeps x.toInCall.keep, codeAny_func ?_⟩
  obtain ⟨h₁, tk, rfl, htk⟩ := x.done
  have hk₁ := x.toInCall.keep
  obtain ⟨cells, NC, Y⟩ := Cl.news (h₀ := s.heap) (Nat.le_refl _) fun n c hm => ⟨x.cell n c (lookup_of_mem_nodup (cellsFrom_names scope.names 0 (s.heap.objs.size + 1) [] [] rfl ▸ hnd) hm), x.above n c hm⟩
  exact wpAny_mono (h h₁ tk cells ⟨x.toInCall.ns, hk₁, Nat.le_refl _⟩ NC Y BG XS TS) (fun fl s' hl => leaveA_use hl) fun _ _ y => y.elim
end
theorem setN {prog : Program} {w : World} {A : Around} {E : Value → Shared → Prop} {s : Shared} {g : Heap} {L D : Addr} {m : Str → Option Value} {vs : List Value} {ns : List Int} {n : Nat} {k x : Int} {t u : Tok} {nx : List (Addr × Obj)} {Q : Unit → Shared → Prop}
    (F : Fr g L s.heap m) (N : News g L s.heap nx) (hD : (D, listOf vs.toArray n) ∈ nx) (hi : IntsAre vs ns) (h0 : 0 ≤ k) (h1 : k < ns.length) (hfit : k < 2 ^ 63)
    (h : ∀ h' nx' vs' ns', Fr g L h' m → News g L h' nx' → IntsAre vs' ns' → ns'.length = ns.length → (D, listOf vs'.toArray n) ∈ nx' → (∀ p ∈ nx, p.1 ≠ D → p ∈ nx') → Q () { s with heap := h' }) :
    wpAny (model prog w) A (setItem (.ref D) (.int k t) (.int x u)) Q E s := by
  have N2 : News g L s.heap ((D, listOf vs.toArray n) :: nx.filter fun p => decide (p.1 ≠ D)) := fun p hp => by
    rcases List.mem_cons.mp hp with rfl | hp
    · exact N _ hD
    · exact N p (List.mem_filter.mp hp).1
  refine ksa_set F N2 (Upd.head fun p hp => ?_) hi h0 h1 hfit fun h' F' N' hi' hl' _ => h h' _ _ _ F' N' hi' hl' (List.mem_cons_self ..) fun p hp hne => List.mem_cons_of_mem _ (List.mem_filter.mpr ⟨hp, by simpa using hne⟩)
  simpa using (List.mem_filter.mp hp).2
theorem fmod_in {k b : Int} (hb : 0 < b) : 0 ≤ k.fmod b ∧ k.fmod b < b := ⟨Int.fmod_nonneg_of_pos _ hb, Int.fmod_lt_of_pos _ hb⟩
section
variable {prog : Program} {w : World} {A : Around} {E : Value → Shared → Prop} {s : Shared} {g : Heap} {L : Addr} {m : Str → Option Value} {nx : List (Addr × Obj)} {value slice : PySem.Expr} {t u : Tok} {Q : Value → Shared → Prop}
theorem idx_item {a : Addr} {vs : List Value} {n : Nat} {ds : List Dat} {nd : List (Addr × Obj)} {i : Int} (N : News g L s.heap nx) (hm : (a, listOf vs.toArray n) ∈ nx) (hd : DatAll nd vs ds) (h0 : 0 ≤ i) (h1 : i < ds.length) (hs1 : ds.length ≤ 1000000)
    (h : ∀ v d, ds[i.toNat]? = some d → DatIn nd v d → Q v s) (hs : subscripted slice false (.ref a) (.int i u) = operate [.ref a, .int i u] (getItem (.ref a) (.int i u)) := by with_unfolding_all rfl) :
    wpAny (model prog w) A (subscriptTail value slice (.ref a) (.int i u)) Q E s := by
  have hl : s.heap.IsList a vs.toArray := ⟨_, (N _ hm).1, rfl, _, rfl⟩
  have hk : i.toNat < ds.length := by omega
  obtain ⟨v, hv, hD⟩ := hd.get hk
  exact tail_any hl.typeIs slot_list_getitem.lookup (wpAny_getItem_list hl h0 (by omega) (by simpa using hv) (h v _ (List.getElem?_eq_getElem hk) hD)) hs
theorem strsAre_of {nd : List (Addr × Obj)} : ∀ {vs : List Value} {ws : List (List Nat)}, DatAll nd vs (ws.map wD) → StrsAre vs (ws.map S)
  | [], [], _ => .nil
  | [], _ :: _, h => nomatch h
  | _ :: _, [], h => nomatch h
  | v :: vs, a :: ws, h => by
    cases h with
    | cons h1 h2 =>
      cases h1
      exact .cons _ _ (strsAre_of h2)
theorem join0 : ∀ ws : List (List Nat), Str.join (S []) (ws.map S) = S ws.flatten
  | [] => rfl
  | [a] => by simp [Str.join]
  | a :: b :: r => by
    have ih := join0 (b :: r)
    show S a ++ S [] ++ Str.join (S []) ((b :: r).map S) = _
    rw [ih, S_append, S_append]
    simp
theorem join_call {D : Addr} {y : Str} {vs : List Value} {n : Nat} {ws : List (List Nat)} {nd : List (Addr × Obj)} (N : News g L s.heap nx) (hm : (D, listOf vs.toArray n) ∈ nx) (hd : DatAll nd vs (ws.map wD)) (hy : y = S []) (hw : ((ws.map S).map (·.length)).sum + (ws.map S).length ≤ 1048576)
    (h : ∀ t' k, Q (.str (S ws.flatten) t') { s with toks := k }) : wpAny (model prog w) A (call (.builtin "str.join") [.str y t, .ref D]) Q E s := by
  subst hy
  have hl : s.heap.IsList D vs.toArray := ⟨_, (N _ hm).1, rfl, _, rfl⟩
  refine join_listW hl (ys := ws.map S) (by simpa using strsAre_of hd) (by rw [S_length]; simp) hw fun t' k => ?_
  have e : Txt.join (S []) (ws.map S) = S ws.flatten := (StrLaws.glued_eq_join _ _).trans (join0 ws)
  rw [e]
  exact h t' k
theorem idx_text {a : Addr} {vs : List Value} {n : Nat} {tab : List (List Nat)} {nd : List (Addr × Obj)} {i : Int} (N : News g L s.heap nx) (hm : (a, listOf vs.toArray n) ∈ nx) (hd : DatAll nd vs (tab.map wD)) (h0 : 0 ≤ i) (h1 : i < tab.length) (hs1 : tab.length ≤ 1000000)
    (h : ∀ t, Q (.str (S (tab.getD i.toNat [])) t) s) (hs : subscripted slice false (.ref a) (.int i u) = operate [.ref a, .int i u] (getItem (.ref a) (.int i u)) := by with_unfolding_all rfl) :
    wpAny (model prog w) A (subscriptTail value slice (.ref a) (.int i u)) Q E s := by
  refine idx_item N hm hd h0 (by rw [List.length_map]; exact h1) (by rw [List.length_map]; exact hs1) (fun v d hk hD => ?_) hs
  have hk' : i.toNat < tab.length := by omega
  rw [List.getElem?_map, List.getElem?_eq_getElem hk'] at hk
  have hg : tab.getD i.toNat [] = tab[i.toNat] := by rw [List.getD_eq_getElem?_getD, List.getElem?_eq_getElem hk']; rfl
  rw [hg] at h
  cases hk
  cases hD
  exact h _
end
theorem datLit {nd : List (Addr × Obj)} {x : Str} {t : Tok} {a : List Nat} (h : x = S a) : DatIn nd (.str x t) (wD a) := by subst h; exact .str _ _
theorem datInts {nd : List (Addr × Obj)} : ∀ {vs : List Value} {ns : List Int}, IntsAre vs ns → DatAll nd vs (ns.map .int)
  | _, _, .nil => .nil
  | _, _, .cons n t h => .cons (.int n t) (datInts h)
noncomputable def tabP : List (List Nat) := [[97], [34], [32], [34], [81], [66], [83], [34, 34], [32, 32], [76], [34, 32]]
noncomputable def pAt (i : Int) : List Nat := tabP.getD i.toNat []
theorem pAt_fine (i : Int) : (pAt i).length ≤ 2 ∧ ∀ c ∈ pAt i, c ∈ [97, 34, 32, 81, 66, 83, 76] := by
  unfold pAt
  rw [List.getD_eq_getElem?_getD]
  cases h : tabP[i.toNat]? with
  | none => simp
  | some w =>
    have hw := List.mem_of_getElem? h
    have key : ∀ w ∈ tabP, w.length ≤ 2 ∧ ∀ c ∈ w, c ∈ [97, 34, 32, 81, 66, 83, 76] := by decide
    exact key w hw
noncomputable def pTwo (n : Int) : List Nat := pAt (n.fmod 11) ++ pAt ((n.fdiv 11).fmod 11)
theorem pTwo_fine : ∀ ns : List Int, ((ns.map pTwo).flatten).length ≤ 4 * ns.length ∧ ∀ c ∈ (ns.map pTwo).flatten, c ∈ [97, 34, 32, 81, 66, 83, 76]
  | [] => by simp
  | n :: r => by
    have ih := pTwo_fine r
    have h1 := pAt_fine (n.fmod 11)
    have h2 := pAt_fine ((n.fdiv 11).fmod 11)
    refine ⟨?_, fun c hc => ?_⟩
    · simp only [List.map_cons, List.flatten_cons, List.length_append, List.length_cons, pTwo]
      have h3 := ih.1
      have h1' := h1.1
      have h2' := h2.1
      have e : pTwo = fun n => pAt (n.fmod 11) ++ pAt ((n.fdiv 11).fmod 11) := rfl
      rw [e] at h3
      omega
    · simp only [List.map_cons, List.flatten_cons, List.mem_append, pTwo] at hc
      rcases hc with (hc | hc) | hc
      · exact h1.2 c hc
      · exact h2.2 c hc
      · exact ih.2 c hc
theorem pTwo_sum : ∀ ns : List Int, (((ns.map pTwo).map S).map (·.length)).sum ≤ 4 * ns.length
  | [] => by simp
  | n :: r => by
    have ih := pTwo_sum r
    have h1 := pAt_fine (n.fmod 11)
    have h2 := pAt_fine ((n.fdiv 11).fmod 11)
    simp only [List.map_cons, List.sum_cons, List.length_cons, S_length, pTwo, List.length_append] at ih ⊢
    omega
end

section
theorem anewM6 : True := by first | walk1 | trivial
local macro_rules | `(tactic| walk_at "pyIter ref") => `(tactic| with_reducible refine hold ?_)
local macro_rules | `(tactic| walk_at "exec For Name Call cons nil") => `(tactic| with_reducible refine hold ?_)
local macro_rules | `(tactic| walk_at "eval ListComp") => `(tactic| with_reducible refine hold ?_)

/-- the state between two turns of _law_hidden's loop -/
noncomputable def SeedsJ (c al : Addr) (m : Str → Option Value) (nx : List (Addr × Obj)) : Prop :=
  ∃ (ls : Addr) (oc : Obj) (v₀ : Option Value) (us : List Value) (k : Nat) (ns' : List Int), nx = [(ls, listOf us.toArray k), (c, oc)] ∧ (@Ne Nat ls c) ∧ oc.data = .cell v₀ ∧ IntsAre us ns' ∧ ns'.length = 12 ∧ Has m [(Str.ofString "script", .ref al), (Str.ofString "seeds", .ref ls)]
local macro_rules | `(tactic| walk_at "setItem ref int int") => `(tactic| with_reducible refine hold ?_)
local macro_rules | `(tactic| walk_at "setItem ref int") => `(tactic| with_reducible refine hold ?_)
local macro_rules | `(tactic| walk_at "subscriptTail Name BinOp ref int") => `(tactic| with_reducible refine hold ?_)
local macro_rules | `(tactic| walk_at "call builtin:str.join") => `(tactic| with_reducible refine hold ?_)
local macro_rules | `(tactic| walk_at "eval Name") => `(tactic| ((with_reducible show wpAny _ _ (eval (Expr.Name (Str.ofString "pieces") _) _) _ _ _); with_reducible refine hold ?_))
theorem pieces_dat {t0 t1 t2 t3 t4 t5 t6 t7 t8 t9 t10 : Tok} : DatAll [] [.str (Str.ofString "a") t0, .str (Str.ofString "\"") t1, .str (Str.ofString " ") t2, .str (Str.ofString "\"") t3, .str (Str.ofString "Q") t4, .str (Str.ofString "B") t5, .str (Str.ofString "S") t6, .str (Str.ofString "\"\"") t7, .str (Str.ofString "  ") t8, .str (Str.ofString "L") t9, .str (Str.ofString "\" ") t10] (tabP.map wD) :=
  .cons (datLit (by decide +kernel)) (.cons (datLit (by decide +kernel)) (.cons (datLit (by decide +kernel)) (.cons (datLit (by decide +kernel)) (.cons (datLit (by decide +kernel)) (.cons (datLit (by decide +kernel)) (.cons (datLit (by decide +kernel)) (.cons (datLit (by decide +kernel)) (.cons (datLit (by decide +kernel)) (.cons (datLit (by decide +kernel)) (.cons (datLit (by decide +kernel)) .nil))))))))))
set_option maxHeartbeats 1000000 in
theorem hidden_ct (w : World) (p : Program) (loose : List Str) (mean : ExcName → Option Value) (mg mb : Str → Option Value) (al : Addr) (vs : List Value) (ns : List Int) (hi : IntsAre vs ns) (hl : ns.length ≤ 63) :
    ∀ (dp un : Nat) (gd : Option (List Code)) (cn : Str) (cs : Scope) (a : Addr) (ccd : Value) (cl : List (Str × Addr)) (outer : List Env) (A₀ : Around) (base h₀ : Heap) (L : Addr) (m : Str → Option Value) (s : Shared) (Q E : Value → Shared → Prop),
    Below A₀ base outer h₀ → Fr h₀ L s.heap m → (Mine.hd.heap_39 w.params).In h₀ → Top p loose mean mg mb h₀ → cs.kind = .function → dp + 40 < recursionLimit → un + 400 < cLine → s.heap.IsList al vs.toArray →
    RetOf s Q (fun tl r => ∃ l t', r = .str (S l) t' ∧ l.length ≤ 48 ∧ ∀ c ∈ l, c ∈ [97, 34, 32, 81, 66, 83, 76]) →
    wpAny (model PySem.Challenge.rw_wn0029_01.row.prog w) (ktrTop dp un gd cn cs L a ccd cl outer) (call (.ref 107) [.ref al]) Q E s := by
  w_top off
  k_fill
  intro dp un gd cn cs adr ccd cl outer A₀ base h₀ L m s Q E B F X T hk hd hu hL hret
  refine wpAny_call ?_
  k_dflt (refine' enterC (binds := [(Str.ofString "script", .ref al)]) B F X T rfl rfl hk ?k6 ?k7 ?k8 ?k9 ?kB ?kD ?_ ?c2 ?c3 ?c4; (case k6 => k_is); (case k7 => k_is); (case k8 => ktr_room); (case k9 => exact BindsTo.of_eq rfl); (case kB => exact rfl); (case kD => decide +kernel); (case c2 => exact rfl); (case c3 => exact rfl); (case c4 => exact rfl); k_whole)
  intro h₁ tk' cells' F' N' Y' B' X' T'
  clear B F X T
  k_cells Y'
  (try dsimp only)
  refine @stopAt Flow _ _ _ _ _ _ ?_
  intro Tk Qk hQk
  k_steps
  refine unhold ?_
  refine wpAny_For ?_
  k_steps
  refine unhold ?_
  rename News _ _ _ _ => N1
  rename Fr _ _ _ _ => F1
  rename IsRange _ _ _ _ _ _ _ _ => R1
  refine iterRangeX (n := min ns.length 60) rfl R1 ?_ ?_ F1 N1 (fun i m nx => SeedsJ (s.heap.objs.size + 1) al m nx) (SeedsJ (s.heap.objs.size + 1) al) ?_ ?_ ?_ ?_
  · split <;> omega
  · omega
  · refine ⟨_, _, none, _, _, [19, 22, 81, 16, 99, 69, 87, 117, 27, 92, 1, 106], rfl, ?_, by assumption, ?_, rfl, ⟨rfl, rfl, trivial⟩⟩
    · rename _ < _ => q; exact Nat.ne_of_gt q
    · repeat constructor
  · rintro i k t₉ m₁ nx h tk own hi hki ⟨ls, oc, v₀, us, kk, ns', rfl, hsep, hoc, hus, hul, hm⟩ hown htk F3 N3
    have F2 := frHas F3 hm; dsimp only [kstB] at F2
    clear F1 N1 R1 F3 hm htk hQk
    obtain ⟨hf0, hf1⟩ := fmod_in (k := k) (b := 12) (by omega)
    k_steps
    refine unhold ?_
    rename Fr _ _ _ _ => F4
    rename News _ _ _ _ => N4
    refine setN F4 N4 (List.mem_cons_self ..) hus hf0 (by omega) (by omega) fun h9 nx9 us9 ns9 F9 N9 hi9 hl9 hin hrest => ?_
    clear F4 N4
    k_steps
    rename Fr _ _ _ _ => F10
    rename News _ _ _ _ => N10
    refine InvEndG.intro (nx := [(ls, listOf us9.toArray kk), (s.heap.objs.size + 1, oc)]) F10 N10 ⟨ls, oc, v₀, us9, kk, ns9, rfl, hsep, hoc, hi9, hl9.trans hul, ⟨rfl, rfl, trivial⟩⟩ ?_ ?_ ?_
    · intro p hp b hb
      refine hown p hp b (by simpa using hb)
    · intro p hp
      rcases List.mem_cons.mp hp with rfl | hp
      · exact hin
      · refine hrest p (List.mem_cons_of_mem _ (List.mem_append_left _ hp)) ?_
        rw [List.mem_singleton.mp hp]
        exact Ne.symm hsep
    · intro p hp
      exact hrest p (by simp [hp]) (hown p hp ls (by simp))
  · exact fun _ _ h => h
  · rintro h tk m₁ nx ⟨ls, oc, v₀, us, kk, ns', rfl, hsep, hoc, hus, hul, hm⟩ F3 N3
    have F2 := frHas F3 hm; dsimp only [kstB] at F2
    clear F1 N1 R1 F3 hm
    dsimp only
    k_steps
    refine unhold ?_
    rename Fr _ _ _ _ => F5
    rename News _ _ _ _ => N5
    rename _ = Data.cell (some _) => hcd
    refine LCg.ListComp_U F5 (by with_unfolding_all rfl) (by decide) (by rfl) (by decide) (by rfl) ?_
    refine ldLoc F5 rfl ?_
    refine LCg.CompSrc.ledger rfl F5 N5 (List.mem_cons_of_mem _ (List.mem_cons_self ..)) (by rw [List.size_toArray, hus.length, sizeLine_eq]; omega) fun g9 => ?_
    refine restD (ds := ns'.map .int) (es := (ns'.map pTwo).map wD) (by simp) (datInts hus) (fun add => .inr ⟨_, List.mem_append_right _ (List.mem_cons_of_mem _ (List.mem_cons_self ..)), rfl, _, rfl⟩) ?_ ?_
    · intro j d e v I oI C oC D m₂ ys nx h tk E' hdi hei hdv hsub hC hx F6 N6 off ne
      rw [List.getElem?_map] at hdi
      rw [List.map_map, List.getElem?_map] at hei
      cases hwj : ns'[j]? with
      | none => rw [hwj] at hdi; cases hdi
      | some wj =>
        rw [hwj] at hdi hei
        cases hdi
        cases hei
        cases hdv
        have hcm := hsub _ (List.mem_cons_of_mem _ (List.mem_cons_of_mem _ (List.mem_cons_self ..)))
        have hpm := hsub _ (List.mem_cons_self ..)
        clear hus hsub
        obtain ⟨hf0, hf1⟩ := fmod_in (k := wj) (b := 11) (by omega)
        obtain ⟨hg0, hg1⟩ := fmod_in (k := wj.fdiv 11) (b := 11) (by omega)
        clear F5 N5
        k_steps
        refine unhold ?_
        refine lcf_cell N6 rfl (.tail _ (.tail _ (.tail _ hcm))) hcd ?_ rfl rfl
        k_steps
        refine unhold ?_
        refine idx_text N6 (.tail _ (.tail _ (.tail _ hpm))) pieces_dat (by assumption) (by first | exact hf1 | exact hg1) (by decide) fun t7 => ?_
        k_steps
        refine unhold ?_
        refine lcf_cell N6 rfl (.tail _ (.tail _ (.tail _ hcm))) hcd ?_ rfl rfl
        k_steps
        refine unhold ?_
        refine idx_text N6 (.tail _ (.tail _ (.tail _ hpm))) pieces_dat (by assumption) (by first | exact hf1 | exact hg1) (by decide) fun t7 => ?_
        refine add_S (Nat.le_trans (pAt_fine _).1 (by decide)) (Nat.le_trans (pAt_fine _).1 (by decide)) fun t8 k8 => ?_
        exact CEnd.plain F6 N6 (.str _ _)
    · intro ys add hys hoffa D9 h9 k9 F7 N7 o1
      clear F5 N5
      k_steps
      refine unhold ?_
      refine join_call N7 (List.mem_cons_self ..) (ws := ns'.map pTwo) hys lit0 (by have := pTwo_sum ns'; rw [List.length_map, List.length_map]; omega) fun t8 k8 => ?_
      k_steps
      refine hQk _ _ ?_
      dsimp only
      have hfine := pTwo_fine ns'
      exact leaveA_ F7 N7 fun hk1 hn1 => hret _ _ _ _ hk1 hn1 ⟨_, _, rfl, by have := hfine.1; omega, hfine.2⟩
end

section
theorem slot_ci_next : Slot "callable_iterator" "__next__" "callable_iterator.__next__" :=
  .of (owner := "callable_iterator") (n := "__next__") (by rw [typeLookup_type, builtinLookup_eq_fast]; kernel_rfl) (by decide +kernel) (by decide +kernel) (by decide +kernel)
    (by first | exact .inl (by decide +kernel) | exact .inr (by decide +kernel)) (by rw [isSubtype_type]; kernel_rfl)
theorem slot_ci_iter : Slot "callable_iterator" "__iter__" "callable_iterator.__iter__" :=
  .of (owner := "callable_iterator") (n := "__iter__") (by rw [typeLookup_type, builtinLookup_eq_fast]; kernel_rfl) (by decide +kernel) (by decide +kernel) (by decide +kernel)
    (by first | exact .inl (by decide +kernel) | exact .inr (by decide +kernel)) (by rw [isSubtype_type]; kernel_rfl)
theorem owner_ci : Manifest.owners.lookup (String.ofList "callable_iterator".toList.reverse.reverse) = some Manifest.sig_callable_iterator := by kernel_rfl
theorem owner_ci' : Manifest.owners.lookup (String.ofList ['r', 'o', 't', 'a', 'r', 'e', 't', 'i', '_', 'e', 'l', 'b', 'a', 'l', 'l', 'a', 'c'].reverse) = some Manifest.sig_callable_iterator := by kernel_rfl
theorem args_ci_next (a : Value) : argsOk "callable_iterator.__next__" ⟨[a], []⟩ := by
  unfold argsOk; rw [signature?_of (id := "callable_iterator.__next__") (n := ['_', '_', 't', 'x', 'e', 'n', '_', '_']) (o := ['r', 'o', 't', 'a', 'r', 'e', 't', 'i', '_', 'e', 'l', 'b', 'a', 'l', 'l', 'a', 'c']) (by kernel_rfl) owner_ci']; kernel_rfl
theorem args_ci_iter (a : Value) : argsOk "callable_iterator.__iter__" ⟨[a], []⟩ := by
  unfold argsOk; rw [signature?_of (id := "callable_iterator.__iter__") (n := ['_', '_', 'r', 'e', 't', 'i', '_', '_']) (o := ['r', 'o', 't', 'a', 'r', 'e', 't', 'i', '_', 'e', 'l', 'b', 'a', 'l', 'l', 'a', 'c']) (by kernel_rfl) owner_ci']; kernel_rfl
theorem entry_ci_next : entryFor table "callable_iterator.__next__" = some Builtin.«callable_iterator.__next__» := entryFor_of_tree (by kernel_rfl)
theorem entry_ci_iter : entryFor table "callable_iterator.__iter__" = some Builtin.«dict_keyiterator.__iter__» :=
  entryFor_alias (id' := "dict_keyiterator.__iter__") (by kernel_rfl) (by first | rfl | decide +kernel | (unfold String.splitOn; simp +decide [String.splitOnAux])) (by decide +kernel) (by kernel_rfl)

/-- the callable iterator that calls f -/
noncomputable def ciObj (f : Value) (z : Value) : Obj := { cls := .type "callable_iterator", data := .fields #[f, z, .bool false] }

section
variable {prog : Program} {w : World} {A : Around} {E : Value → Shared → Prop} {s : Shared}
theorem pyIter_ci {it : Addr} {f z : Value} {Q : Value → Shared → Prop} (hit : s.heap.get? it = some (ciObj f z)) (h : Q (.ref it) s) : wpAny (model prog w) A (pyIter (.ref it)) Q E s := by
  have hT : s.TypeIs (.ref it) "callable_iterator" := ⟨_, hit, rfl⟩
  refine wpAny_pyIter_slot hT slot_ci_iter (wpAny_call_entry slot_ci_iter hT entry_ci_iter ?_ (args_ci_iter _))
  show wpAny _ _ (ret (.ref it)) _ _ s
  exact wpAny_pure ⟨_, rfl, "callable_iterator", _, hT, slot_ci_next.lookup, h⟩

theorem callBorrowed_any {f : Value} {pos : List Value} {Q : Value → Shared → Prop}
    (hc : codeAny (model prog w) A (.call f ⟨pos, []⟩) (fun r s' => match r with | .ok (.ret v) => Q v s' | .ok _ => False | .error e => E e s') s) :
    wpAny (model prog w) A (callBorrowed f pos) Q E s := fun Γ p hΓ => by
  unfold callBorrowed
  rw [Sem.wp_call]
  have key := hc _ p rfl (hΓ.enter (.call f ⟨pos, []⟩) none p (by intro x; cases x))
  refine Eq.mp ?_ key
  congr 1
  funext r s'
  cases r with
  | error e => rfl
  | ok g => cases g <;> rfl

theorem borrows_meth {q fn : Addr} {fo : Obj} {fd : FuncData} {self : Value} {Q : Bool → Shared → Prop} (hq : s.heap.get? q = some (methodObj (.ref fn) self)) (hf : s.heap.get? fn = some fo) (hd : fo.data = .func fd) (h : Q true s) :
    wpAny (model prog w) A (borrowsExactly (.ref q)) Q E s := by
  unfold borrowsExactly
  refine wpAny_bind (wpAny_load hq ?_)
  show wpAny _ _ (if ((.type "method" : Value) == .type "method") = true then _ else _) _ _ s
  rw [if_pos (by decide)]
  show wpAny _ _ (load fn >>= _) _ _ s
  refine wpAny_bind (wpAny_load hf ?_)
  rw [hd]
  exact wpAny_pure h

/-- a callable iterator that has ended -/
noncomputable def ciEnd : Obj := { cls := .type "callable_iterator", data := .fields #[.none, .none, .bool true] }
/-- the next sign of a callable iterator, or its end -/
theorem pyNext_ci {it q fn : Addr} {fo : Obj} {fd : FuncData} {self : Value} {y : Str} {u : Tok} {Q : Option Value → Shared → Prop} (hh : A.handled = none)
    (hit : s.heap.get? it = some (ciObj (.ref q) (.str y u))) (hq : s.heap.get? q = some (methodObj (.ref fn) self)) (hf : s.heap.get? fn = some fo) (hd : fo.data = .func fd)
    (h : codeAny (model prog w) A.in1 (.call (.ref q) ⟨[], []⟩) (fun r s' => match r with
      | .ok (.ret v) => ∃ x t, v = .str x t ∧ s'.heap.get? it = some (ciObj (.ref q) (.str y u)) ∧ s'.heap.get? q = some (methodObj (.ref fn) self) ∧ s'.heap.get? fn = some fo ∧
          ((y == x) = false → Q (some v) s') ∧ ((y == x) = true → ∀ h', Heap.SameBut it s'.heap h' → h'.get? it = some ciEnd → ∀ h'', (∀ b o, h'.get? b = some o → h''.get? b = some o) → Q none { s' with heap := h'' })
      | .ok _ => False
      | .error _ => False) s) :
    wpAny (model prog w) A (pyNext (.ref it)) Q E s := by
  have hT : s.TypeIs (.ref it) "callable_iterator" := ⟨_, hit, rfl⟩
  unfold pyNext
  refine wpAny_bind (wpAny_attempt (wpAny_callSpecial?_slot (name := Str.ofString "__next__") hT slot_ci_next
    (wpAny_call_entry slot_ci_next hT entry_ci_next ?_ (args_ci_next _))))
  show wpAny _ _ (field (.ref it) 2 >>= _) _ _ s
  refine wpAny_bind (wpAny_field hit rfl (x := .bool false) rfl ?_)
  show wpAny _ _ (if ((Value.bool false) == .bool true) = true then _ else _) _ _ s
  rw [if_neg (by decide)]
  show wpAny _ _ (field (.ref it) 0 >>= _) _ _ s
  refine wpAny_bind (wpAny_field hit rfl (x := .ref q) rfl ?_)
  refine wpAny_bind (wpAny_attempt ?_)
  unfold callOutOfASlot
  refine wpAny_bind (borrows_meth hq hf hd ?_)
  simp only [if_true]
  refine callBorrowed_any ?_
  refine codeAny_mono h fun r s' hr => ?_
  cases r with
  | error e => exact hr.elim
  | ok g =>
    cases g with
    | ret v =>
      obtain ⟨x, t, rfl, hit', hq', hf', hsome, hnone⟩ := hr
      dsimp only
      refine wpAny_bind (wpAny_field hit' rfl (x := .bool false) rfl ?_)
      show wpAny _ _ (if ((Value.bool false) == .bool true) = true then _ else _) _ _ s'
      rw [if_neg (by decide)]
      refine wpAny_bind (wpAny_field hit' rfl (x := .str y u) rfl (wpAny_bind (wpAny_holding (eqBool_str ?_))))
      cases e : (y == x) with
      | false =>
        show wpAny _ _ (ret (.str x t)) _ _ s'
        exact wpAny_pure ⟨_, rfl, wpAny_pure (hsome e)⟩
      | true =>
        show wpAny _ _ (rule _ >>= _) _ _ s'
        refine wpAny_bind (wpAny_rule ?_)
        refine wpAny_bind ?_
        show wpAny _ _ (field (.ref it) 0 >>= _) _ _ s'
        refine wpAny_bind (wpAny_field hit' rfl (x := .ref q) rfl ?_)
        refine wpAny_bind ?_
        show wpAny _ _ (borrowsExactly (.ref q) >>= _) _ _ s'
        refine wpAny_bind (borrows_meth hq' hf' hd ?_)
        simp only [if_true]
        refine wpAny_pure ?_
        refine wpAny_bind (wpAny_setField hit' rfl (by simp) ?_)
        refine wpAny_bind (wpAny_setField (Heap.get?_update_self _ hit' rfl) rfl (by simp) ?_)
        refine wpAny_setField (Heap.get?_update_self _ (Heap.get?_update_self _ hit' rfl) rfl) rfl (by simp) ?_
        unfold Builtin.SmallTypes.stopIteration
        show wpAny _ _ (newExc (.type "StopIteration") [] >>= _) _ _ _
        refine wpAny_bind ?_
        simp only [newExc, newTuple]
        refine wpAny_bind (wpAny_newObj_type ?_ (by size_fits))
        refine wpAny_bind (m := firstArgMember _ _) (wpAny_of_eq (a := Value.none) (by first | rfl | (simp only [firstArgMember]; rfl)) ?_)
        refine wpAny_newObj_type ?_ (by size_fits)
        simp only [raiseNew]
        refine wpAny_bind (wpAny_handled ?_)
        rw [show A.in1.handled = none from hh]
        refine wpAny_bind (wpAny_pure (wpAny_throw ?_))
        refine wpAny_bind (wpAny_isInstance (T := "StopIteration") (b := true) ⟨_, Heap.get?_push_size _ rfl, rfl⟩ isSubtype_stop ?_)
        refine wpAny_pure (hnone e _ (((Heap.SameBut.update ..).trans (Heap.SameBut.update ..)).trans (Heap.SameBut.update ..)) (Heap.get?_update_self _ (Heap.get?_update_self _ (Heap.get?_update_self _ hit' rfl) rfl) rfl) _ fun b o hb => Heap.get?_push_of_some _ (Heap.get?_push_of_some _ hb))
    | _ => exact hr.elim
end
end

section
/-- the end of a def that holds a ledger of its own: all else stands -/
noncomputable def LeaveN (g : Heap) (R : Result → Shared → Prop) (v : Value) (s' : Shared) : Prop :=
  ∃ L' m' news', Fr g L' s'.heap m' ∧ News g L' s'.heap news' ∧ ((∀ b o, g.get? b = some o → s'.heap.get? b = some o) → (∀ p ∈ news', s'.heap.get? p.1 = some p.2 ∧ g.get? p.1 = none) → R (.ok (.ret v)) s')
theorem leaveN_ {g : Heap} {L' : Addr} {m' : Str → Option Value} {news' : List (Addr × Obj)} {R : Result → Shared → Prop} {v : Value} {s' : Shared} (F' : Fr g L' s'.heap m') (N' : News g L' s'.heap news')
    (k : (∀ b o, g.get? b = some o → s'.heap.get? b = some o) → (∀ p ∈ news', s'.heap.get? p.1 = some p.2 ∧ g.get? p.1 = none) → R (.ok (.ret v)) s') : LeaveN g R v s' := ⟨L', m', news', F', N', k⟩
theorem leaveN_K {h₀ g : Heap} {L : Addr} {m : Str → Option Value} {R : Result → Shared → Prop} {v : Value} {s' : Shared} (h : LeaveN g R v s') : LeaveK h₀ L m g R v s' := by
  obtain ⟨L', m', news', F', N', k⟩ := h
  exact ⟨L', m', news', F', N', fun _ _ => k F'.keep fun p hp => ⟨(N' p hp).1, (N' p hp).2.2⟩⟩
section
variable {prog : Program} {w : World} {A A₀ : Around} {s : Shared} {K : Frag} {L : Addr} {h₀ base : Heap} {m mg mb : Str → Option Value} {p : Program} {loose : List Str} {mean : ExcName → Option Value} {news : List (Addr × Obj)}

/-- what the callee stands on: the whole heap but its ledger -/
structure Hid (s : Shared) (news : List (Addr × Obj)) (g : Heap) : Prop where
  sub : ∀ b o, g.get? b = some o → s.heap.get? b = some o
  keep : ∀ b o, s.heap.get? b = some o → b ∉ news.map (·.1) → g.get? b = some o
theorem Hid.of (s : Shared) (news : List (Addr × Obj)) : Hid s news (hideAll s.heap (news.map (·.1))) := ⟨fun b o e => of_hideAll _ e, fun b o e hb => hideAll_get _ e hb⟩

theorem enterN {env : Env} {outer : List Env} {R : Result → Shared → Prop} {name qual : Str} {params : Arguments} {body : List Stmt} {scope : Scope} {dV kV doc pm cdv ct oc : Value} {an od : Option Addr} {osl : Array (Option Value)} {f : Addr} {args : Args} {binds : List (Str × Value)}
    (B : Below A₀ base outer h₀) (F : Fr h₀ L s.heap m) (X₀ : K.In h₀) (N : News h₀ L s.heap news) (T : Top p loose mean mg mb h₀) (hA : A.frames = some (env :: outer)) (hf : env.frame = some L) (hke : env.scope.kind = .function)
    (ho : K.lookup f = some ⟨oc, od, .func (fnOf name qual params body scope dV kV doc pm an cdv ct), osl⟩) (hcd : codeIn K cdv qual = true) (hroom : A.depth < recursionLimit)
    (hbind : BindsTo s (fnOf name qual params body scope dV kV doc pm an cdv ct) args binds) (hloc : ∀ y ∈ binds, scope.names.lookup y.1 = some .local)
    (h : ∀ g L' h₁, Hid s news g → Fr g L' h₁ (fun y => binds.reverse.lookup y) → News g L' h₁ news → Below A base (env :: outer) g → K.In g → Top p loose mean mg mb g → (∀ p ∈ news, p.1 < L') →
      wpAny (model prog w) (A.deeper (envOf qual scope L' f cdv)) (execs body (envOf qual scope L' f cdv))
        (fun fl s' => LeaveN g R (match fl with | .ret v => v | _ => .none) s')
        (fun _ _ => False)
        { s with heap := h₁, toks := s.toks + binds.length })
    (hco : scope.isCoroutine = false) (hgen : scope.isGenerator = false) (hk : scope.kind = .function)
    (hcell : ∀ x ∈ scope.names, x.2 ≠ .cell) : codeAny (model prog w) A (.call (.ref f) args) R s := by
  obtain ⟨FG, BG, st, lv⟩ := groundX (R := R) B F N hA hf hke
  have hoS := (X₀.keeps F.keep) _ _ ho
  refine codeAny_call_def (fd := fnOf name qual params body scope dV kV doc pm an cdv ct) (body := body) (binds := binds) hroom hoS rfl (T.nolimit.keeps F.keep) (codeRec_of (X₀.keeps F.keep) hcd) rfl hbind hcell hloc (fun h₁ hns hk₁ => ?_) hco hgen hk
  exact wpAny_mono (h _ s.heap.objs.size h₁ (Hid.of s news) ⟨hns, fun b o e => hk₁ b o (of_hideAll _ e), Nat.le_of_eq (hideAll_size _ _)⟩
    (fun p hp => ⟨hk₁ _ _ (N p hp).1, Nat.ne_of_lt (Heap.lt_size (N p hp).1), hideAll_none _ (List.mem_map_of_mem hp)⟩) BG (X₀.keeps st) (T.keeps st) (fun p hp => Heap.lt_size (N p hp).1)) (fun fl s' hl => lv _ _ (leaveN_K hl)) fun _ _ y => y.elim

theorem enterNC {env : Env} {outer : List Env} {R : Result → Shared → Prop} {name qual : Str} {params : Arguments} {body : List Stmt} {scope : Scope} {dV kV doc pm cdv ct oc : Value} {an od : Option Addr} {osl : Array (Option Value)} {f : Addr} {args : Args} {binds : List (Str × Value)}
    (B : Below A₀ base outer h₀) (F : Fr h₀ L s.heap m) (X₀ : K.In h₀) (N : News h₀ L s.heap news) (T : Top p loose mean mg mb h₀) (hA : A.frames = some (env :: outer)) (hf : env.frame = some L) (hke : env.scope.kind = .function)
    (ho : K.lookup f = some ⟨oc, od, .func (fnOf name qual params body scope dV kV doc pm an cdv ct), osl⟩) (hcd : codeIn K cdv qual = true) (hroom : A.depth < recursionLimit)
    (hbind : BindsTo s (fnOf name qual params body scope dV kV doc pm an cdv ct) args binds) (hkind : (binds.all fun y => scope.names.lookup y.1 == some .local || scope.names.lookup y.1 == some .cell) = true)
    (hnd : ((cellsFrom 0 scope.names []).map (·.1)).Nodup)
    (h : ∀ g L' h₁ tk cells, Hid s news g → Fr g L' h₁ (bindL (envOfC qual scope L' f cdv).kindOf binds fun _ => none) → News g L' h₁ (cells ++ news) →
      CellsAre (bindC (envOfC qual scope L' f cdv).kindOf binds fun _ => none) (cellsFrom (L' + 1) scope.names []) cells → Below A base (env :: outer) g → K.In g → Top p loose mean mg mb g → (∀ p ∈ news, p.1 < L') →
      wpAny (model prog w) (A.deeper (envOfC qual scope L' f cdv)) (execs body (envOfC qual scope L' f cdv))
        (fun fl s' => LeaveN g R (match fl with | .ret v => v | _ => .none) s')
        (fun _ _ => False)
        { s with heap := h₁, toks := tk })
    (hco : scope.isCoroutine = false) (hgen : scope.isGenerator = false) (hk : scope.kind = .function) : codeAny (model prog w) A (.call (.ref f) args) R s := by
  obtain ⟨FG, BG, st, lv⟩ := groundX (R := R) B F N hA hf hke
  refine codeAny_call_function hroom ((X₀.keeps F.keep) _ _ ho) rfl hco hgen rfl (codeRec_of (X₀.keeps F.keep) hcd) (hbind _ _ _ _ ?_)
  refine wpAny_newFunctionEnv_cells hk (kindsX hkind _) fun env' he s' x => ?_
  subst he
  refine ⟨(T.nolimit.keeps F.keep).keeps x.toInCall.keep, codeAny_func ?_⟩
  obtain ⟨h₁, tk, rfl, _⟩ := x.done
  have hk₁ := x.toInCall.keep
  obtain ⟨cells, NC, Y⟩ := Cl.news (h₀ := s.heap) (Nat.le_refl _) fun n c hm => ⟨x.cell n c (lookup_of_mem_nodup (cellsFrom_names scope.names 0 (s.heap.objs.size + 1) [] [] rfl ▸ hnd) hm), x.above n c hm⟩
  refine wpAny_mono (h _ s.heap.objs.size h₁ tk cells (Hid.of s news) ⟨x.toInCall.ns, fun b o e => hk₁ b o (of_hideAll _ e), Nat.le_of_eq (hideAll_size _ _)⟩ (fun p hp => ?_) Y BG (X₀.keeps st) (T.keeps st) (fun p hp => Heap.lt_size (N p hp).1)) (fun fl s' hl => lv _ _ (leaveN_K hl)) fun _ _ y => y.elim
  rcases List.mem_append.mp hp with hp | hp
  · refine ⟨(NC p hp).1, (NC p hp).2.1, ?_⟩
    cases q : (hideAll s.heap (news.map (·.1))).get? p.1 with
    | none => rfl
    | some o => have := of_hideAll _ q; rw [(NC p hp).2.2] at this; cases this
  · exact ⟨hk₁ _ _ (N p hp).1, Nat.ne_of_lt (Heap.lt_size (N p hp).1), hideAll_none _ (List.mem_map_of_mem hp)⟩
end
end

section
noncomputable def signsD (l : List Nat) : List Dat := (l.map fun c => [c]).map wD
theorem signsAre : ∀ (l : List Nat) (vs : List Value), vs.length = l.length → (∀ (j : Nat) (v : Value), vs[j]? = some v → ∃ c u, l[j]? = some c ∧ v = .str ⟨#[c]⟩ u) → DatAll [] vs (signsD l)
  | [], [], _, _ => .nil
  | [], _ :: _, h, _ => by simp at h
  | _ :: _, [], h, _ => by simp at h
  | a :: l, v :: vs, h, hj => by
    refine .cons ?_ (signsAre l vs (by simpa using h) fun j v hv => by simpa using hj (j + 1) v (by simpa using hv))
    obtain ⟨c, u, hc, rfl⟩ := hj 0 v rfl
    have e : a = c := by simpa using hc
    subst e
    exact .str _ _
section
variable {prog : Program} {w : World} {A : Around} {E : Value → Shared → Prop} {s : Shared} {g : Heap} {L : Addr} {m : Str → Option Value} {nx : List (Addr × Obj)} {l : List Nat} {t : Tok} {Q : Value → Shared → Prop}
theorem list_text (hh : A.handled = none) (F : Fr g L s.heap m) (N : News g L s.heap nx) (hl : l.length ≤ 100000)
    (h : ∀ h' tk vs c D, Fr g L h' m → News g L h' ((D, listOf vs.toArray c) :: nx) → (∀ p ∈ nx, p.1 < D) → DatAll [] vs (signsD l) → Q (.ref D) { s with heap := h', toks := tk }) :
    wpAny (model prog w) A (call (.type "list") [.str (S l) t]) Q E s := by
  refine call_list_str hh (S l) t (hn := by rw [show (S l).cps.size = l.length from S_length l, sizeLine_eq]; omega) fun h' tk acc' c' hk hS' hacc => ?_
  refine h h' tk acc'.toList c' _ (F.keeps hk) (fun p hp => ?_) (fun p hp => Heap.lt_size (N p hp).1) (signsAre _ _ ?_ fun j v hv => ?_)
  · rcases List.mem_cons.mp hp with rfl | hp
    · refine ⟨by simpa using hS', Ne.symm (Nat.ne_of_lt F.ns.lt), ?_⟩
      cases e : g.get? s.heap.objs.size with
      | none => rfl
      | some o => exact absurd (Heap.lt_size (F.keep _ _ e)) (Nat.lt_irrefl _)
    · exact ⟨hk _ _ (N p hp).1, (N p hp).2⟩
  · rw [Array.length_toList, hacc.1]; exact S_length l
  · obtain ⟨c, u, hc, e⟩ := hacc.2 j v (by simpa using hv)
    exact ⟨c, u, by simpa [S] using hc, e⟩
end
end

section
/-- what a lambda that pops the signs answers -/
noncomputable def LamCt (w : World) (p : Program) (loose : List Str) (mean : ExcName → Option Value) (mg mb : Str → Option Value) (f c' cc ls : Addr) (fo oc' oc : Obj) : Prop :=
  ∀ (dp un : Nat) (gd : Option (List Code)) (cn : Str) (cs : Scope) (a : Addr) (ccd : Value) (cl : List (Str × Addr)) (outer : List Env) (A₀ : Around) (base h₀ : Heap) (L : Addr) (m : Str → Option Value) (s : Shared) (vs : List Value) (c : Nat) (i : Int) (t : Tok) (R : Result → Shared → Prop),
    Below A₀ base outer h₀ → Fr h₀ L s.heap m → (Mine.hd.heap_39 w.params).In h₀ → Top p loose mean mg mb h₀ → cs.kind = .function → dp + 5 < recursionLimit → un + 40 < cLine →
    News h₀ L s.heap [(ls, listOf vs.toArray c), (f, fo), (c', oc'), (cc, oc)] → (∀ q ∈ [(f, fo), (c', oc'), (cc, oc)], q.1 ≠ ls) → vs.length ≤ 100000 →
    (∀ h' tk' v vs' c2, (∀ b o, b ≠ ls → s.heap.get? b = some o → h'.get? b = some o) → h'.get? ls = some (listOf vs'.toArray c2) → (vs = v :: vs' ∨ (vs = [] ∧ vs' = [] ∧ ∃ t', v = .str (S []) t')) → R (.ok (.ret v)) { s with heap := h', toks := tk' }) →
    codeAny (model PySem.Challenge.rw_wn0029_01.row.prog w) (ktrTop dp un gd cn cs L a ccd cl outer) (.call (.ref f) ⟨[.int i t], []⟩) R s

structure LexA where
  pb : Addr
  x : Addr
  d : Addr
  f : Addr
  c' : Addr
  x1 : Addr
  d1 : Addr
  ls : Addr
  cc : Addr
  fo : Obj
  oc' : Obj
  oc : Obj
  pb1 : Addr
  k1 : Tok
  k2 : Tok
  k3 : Tok
  k4 : Tok
  tw : Tok
  j1 : Tok
  j2 : Tok
  j3 : Tok
  j4 : Tok
  j5 : Tok
  jn : Tok
  jw : Tok

/-- the lexer's own objects -/
noncomputable abbrev lexNews (w : World) (a : LexA) (n : Int) (tn : Tok) (ep : Nat) (vs : List Value) (c : Nat) : List (Addr × Obj) :=
  [(a.pb, listOf #[] 0), (a.x, instObj 98 a.d),
   (a.d, dictOf [{ hash := PyData.keyHash w.params (Str.ofString "lineno"), key := .str (Str.ofString "lineno") a.k1, val := .int n tn },
     { hash := PyData.keyHash w.params (Str.ofString "instream"), key := .str (Str.ofString "instream") a.k2, val := .ref a.x1 },
     { hash := PyData.keyHash w.params (Str.ofString "whitespace"), key := .str (Str.ofString "whitespace") a.k3, val := .str (Str.ofString "\n\t\r ") a.tw },
     { hash := PyData.keyHash w.params (Str.ofString "pushback"), key := .str (Str.ofString "pushback") a.k4, val := .ref a.pb }] ep),
   (a.f, a.fo), (a.c', a.oc'), (a.x1, instObj 98 a.d1),
   (a.d1, dictOf [{ hash := PyData.keyHash w.params (Str.ofString "lineno"), key := .str (Str.ofString "lineno") a.j1, val := .int 1 a.jn },
     { hash := PyData.keyHash w.params (Str.ofString "instream"), key := .str (Str.ofString "instream") a.j2, val := .none },
     { hash := PyData.keyHash w.params (Str.ofString "whitespace"), key := .str (Str.ofString "whitespace") a.j3, val := .str (Str.ofString "\n\t\r ") a.jw },
     { hash := PyData.keyHash w.params (Str.ofString "pushback"), key := .str (Str.ofString "pushback") a.j4, val := .ref a.pb1 },
     { hash := PyData.keyHash w.params (Str.ofString "read"), key := .str (Str.ofString "read") a.j5, val := .ref a.f }] 5),
   (a.ls, listOf vs.toArray c), (a.cc, a.oc)]

/-- the lexer's objects lie apart, and its lambda pops the signs -/
structure LexFine (w : World) (p : Program) (loose : List Str) (mean : ExcName → Option Value) (mg mb : Str → Option Value) (a : LexA) : Prop where
  o1 : @LT.lt Nat _ a.cc a.ls
  o2 : @LT.lt Nat _ a.ls a.d1
  o3 : @LT.lt Nat _ a.d1 a.x1
  o4 : @LT.lt Nat _ a.x1 a.c'
  o5 : @LT.lt Nat _ a.c' a.f
  o6 : @LT.lt Nat _ a.f a.d
  o7 : @LT.lt Nat _ a.d a.x
  o8 : @LT.lt Nat _ a.x a.pb
  fn : ∃ oc od fd sl, a.fo = ⟨oc, od, .func fd, sl⟩
  lam : LamCt w p loose mean mg mb a.f a.c' a.cc a.ls a.fo a.oc' a.oc

/-- the call of _law_lexer -/
noncomputable abbrev LexCt (w : World) (p : Program) (loose : List Str) (mean : ExcName → Option Value) (mg mb : Str → Option Value) (l : List Nat) (t : Tok) : Prop :=
  ∀ (dp un : Nat) (gd : Option (List Code)) (cn : Str) (cs : Scope) (a : Addr) (ccd : Value) (cl : List (Str × Addr)) (outer : List Env) (A₀ : Around) (base h₀ : Heap) (L : Addr) (m : Str → Option Value) (s : Shared) (Q E : Value → Shared → Prop),
    Below A₀ base outer h₀ → Fr h₀ L s.heap m → (Mine.hd.heap_39 w.params).In h₀ → Top p loose mean mg mb h₀ → cs.kind = .function → dp + 40 < recursionLimit → un + 400 < cLine → News h₀ L s.heap [(116, tabObj #[])] → CodeHd h₀ 120 116 →
    (∀ h' tk' la tn vs c, (∀ b o, b ≠ 116 → s.heap.get? b = some o → h'.get? b = some o) → LexFine w p loose mean mg mb la → DatAll [] vs (signsD l) → (∀ q ∈ lexNews w la 1 tn 4 vs c, h'.get? q.1 = some q.2 ∧ s.heap.get? q.1 = none) → (∃ ps, h'.get? 116 = some (tabObj ps)) → Q (.ref la.x) { s with heap := h', toks := tk' }) →
    wpAny (model PySem.Challenge.rw_wn0029_01.row.prog w) (ktrTop dp un gd cn cs L a ccd cl outer) (call (.ref 121) [.str (S l) t]) Q E s

theorem lex_all {w : World} {la : LexA} {n : Int} {tn : Tok} {ep : Nat} {vs : List Value} {c : Nat} {P : Addr → Prop} (h1 : P la.pb) (h2 : P la.x) (h3 : P la.d) (h4 : P la.f) (h5 : P la.c') (h6 : P la.x1) (h7 : P la.d1) (h8 : P la.ls) (h9 : P la.cc) :
    ∀ q ∈ lexNews w la n tn ep vs c, P q.1 :=
  List.forall_mem_cons.mpr ⟨h1, List.forall_mem_cons.mpr ⟨h2, List.forall_mem_cons.mpr ⟨h3, List.forall_mem_cons.mpr ⟨h4, List.forall_mem_cons.mpr ⟨h5, List.forall_mem_cons.mpr ⟨h6, List.forall_mem_cons.mpr ⟨h7, List.forall_mem_cons.mpr ⟨h8, List.forall_mem_cons.mpr ⟨h9, fun _ h => nomatch h⟩⟩⟩⟩⟩⟩⟩⟩⟩
theorem ins_mem {α : Type} {x : α} {r l : List α} (k : Nat) {q : α} (h : q ∈ l) : q ∈ l.take k ++ x :: (l.drop k ++ r) := by
  rw [← List.take_append_drop k l] at h
  rcases List.mem_append.mp h with h | h
  · exact List.mem_append_left _ h
  · exact List.mem_append_right _ (List.mem_cons_of_mem _ (List.mem_append_left _ h))
theorem lex_end {w : World} {p : Program} {loose : List Str} {mean : ExcName → Option Value} {mg mb : Str → Option Value} {l : List Nat} {s : Shared} {g h' : Heap} {Q : Value → Prop} {tb0 fo oc' oc : Obj} {ps : Array Value}
    {pb x d f c' pb1 x1 d1 ls cc : Addr} {k1 k2 k3 k4 tw j1 j2 j3 j4 j5 jn jw tn : Tok} {vs : List Value} {c : Nat}
    (hN : ∀ q ∈ [(pb, listOf #[] 0), (x, instObj 98 d),
      (d, dictOf [{ hash := PyData.keyHash w.params (Str.ofString "lineno"), key := .str (Str.ofString "lineno") k1, val := .int 1 tn },
        { hash := PyData.keyHash w.params (Str.ofString "instream"), key := .str (Str.ofString "instream") k2, val := .ref x1 },
        { hash := PyData.keyHash w.params (Str.ofString "whitespace"), key := .str (Str.ofString "whitespace") k3, val := .str (Str.ofString "\n\t\r ") tw },
        { hash := PyData.keyHash w.params (Str.ofString "pushback"), key := .str (Str.ofString "pushback") k4, val := .ref pb }] 4),
      (f, fo), (c', oc'), (pb1, listOf #[] 0), (x1, instObj 98 d1),
      (d1, dictOf [{ hash := PyData.keyHash w.params (Str.ofString "lineno"), key := .str (Str.ofString "lineno") j1, val := .int 1 jn },
        { hash := PyData.keyHash w.params (Str.ofString "instream"), key := .str (Str.ofString "instream") j2, val := .none },
        { hash := PyData.keyHash w.params (Str.ofString "whitespace"), key := .str (Str.ofString "whitespace") j3, val := .str (Str.ofString "\n\t\r ") jw },
        { hash := PyData.keyHash w.params (Str.ofString "pushback"), key := .str (Str.ofString "pushback") j4, val := .ref pb1 },
        { hash := PyData.keyHash w.params (Str.ofString "read"), key := .str (Str.ofString "read") j5, val := .ref f }] 5),
      (ls, listOf vs.toArray c), (cc, oc), (116, tabObj ps)], h'.get? q.1 = some q.2 ∧ g.get? q.1 = none)
    (hid : Hid s [(116, tb0)] g) (hvs : DatAll [] vs (signsD l))
    (o0 : @LT.lt Nat _ 116 cc) (o1 : @LT.lt Nat _ cc ls) (o2 : @LT.lt Nat _ ls d1) (o3 : @LT.lt Nat _ d1 x1) (o4 : @LT.lt Nat _ x1 c') (o5 : @LT.lt Nat _ c' f) (o6 : @LT.lt Nat _ f d) (o7 : @LT.lt Nat _ d x) (o8 : @LT.lt Nat _ x pb)
    (hfn : ∃ oc od fd sl, fo = ⟨oc, od, .func fd, sl⟩) (hlam : LamCt w p loose mean mg mb f c' cc ls fo oc' oc)
    (hret : ∀ la tn vs c, LexFine w p loose mean mg mb la → DatAll [] vs (signsD l) → (∀ q ∈ lexNews w la 1 tn 4 vs c, h'.get? q.1 = some q.2 ∧ s.heap.get? q.1 = none) → (∃ ps, h'.get? 116 = some (tabObj ps)) → Q (.ref la.x)) : Q (.ref x) := by
  refine hret ⟨pb, x, d, f, c', x1, d1, ls, cc, fo, oc', oc, pb1, k1, k2, k3, k4, tw, j1, j2, j3, j4, j5, jn, jw⟩ tn vs c ⟨o1, o2, o3, o4, o5, o6, o7, o8, hfn, hlam⟩ hvs (fun q hq => ?_) ⟨ps, (hN (116, tabObj ps) (List.mem_append_right [_, _, _, _, _, _, _, _, _, _] (List.mem_singleton.mpr rfl))).1⟩
  have key := hN q (ins_mem (x := (pb1, listOf #[] 0)) (r := [(116, tabObj ps)]) 5 hq)
  refine ⟨key.1, ?_⟩
  cases e : s.heap.get? q.1 with
  | none => rfl
  | some o =>
    have p1 := Nat.lt_trans o0 o1
    have p2 := Nat.lt_trans p1 o2
    have p3 := Nat.lt_trans p2 o3
    have p4 := Nat.lt_trans p3 o4
    have p5 := Nat.lt_trans p4 o5
    have p6 := Nat.lt_trans p5 o6
    have p7 := Nat.lt_trans p6 o7
    have p8 := Nat.lt_trans p7 o8
    have hne : q.1 ≠ 116 := Nat.ne_of_gt (lex_all (P := fun a => @LT.lt Nat _ 116 a) p8 p7 p6 p5 p4 p3 p2 p1 o0 q hq)
    have := hid.keep q.1 o e (by simpa using hne)
    rw [key.2] at this; cases this

section
variable {prog : Program} {w : World} {A A₀ : Around} {s : Shared} {K : Frag} {L : Addr} {h₀ base : Heap} {m mg mb : Str → Option Value} {p : Program} {loose : List Str} {mean : ExcName → Option Value} {news : List (Addr × Obj)}
theorem enterL {env : Env} {outer : List Env} {R : Result → Shared → Prop} {name qual : Str} {params : Arguments} {body : PySem.Expr} {scope : Scope} {cl : List (Str × Addr)} {pm ctv : Value} {c' : Addr} {f : Addr} {args : Args} {binds : List (Str × Value)}
    (B : Below A₀ base outer h₀) (F : Fr h₀ L s.heap m) (X₀ : K.In h₀) (N : News h₀ L s.heap news) (T : Top p loose mean mg mb h₀) (hA : A.frames = some (env :: outer)) (hf : env.frame = some L) (hke : env.scope.kind = .function)
    (ho : (f, kla_obj name qual params body scope cl pm c' ctv) ∈ news) (hcd : s.heap.CodeRec (.ref c') qual) (hroom : A.depth < recursionLimit)
    (hbind : bindArgs (kla_fn name qual params body scope cl pm (.ref c') ctv) args = pure binds) (hloc : ∀ y ∈ binds, scope.names.lookup y.1 = some .local)
    (h : ∀ g L' h₁, Hid s news g → Fr g L' h₁ (fun y => binds.reverse.lookup y) → News g L' h₁ news → Below A base (env :: outer) g → K.In g → Top p loose mean mg mb g → (∀ p ∈ news, p.1 < L') →
      wpAny (model prog w) (A.deeper (envX qual scope L' f (.ref c') cl)) (eval body (envX qual scope L' f (.ref c') cl))
        (fun v s' => LeaveN g R v s')
        (fun _ _ => False)
        { s with heap := h₁, toks := s.toks + binds.length })
    (hco : scope.isCoroutine = false) (hgen : scope.isGenerator = false) (hk : scope.kind = .function)
    (hcell : ∀ x ∈ scope.names, x.2 ≠ .cell) : codeAny (model prog w) A (.call (.ref f) args) R s := by
  obtain ⟨FG, BG, st, lv⟩ := groundX (R := R) B F N hA hf hke
  refine kla_callFunE hroom (N _ ho).1 rfl hco hgen rfl hcd ?_
  rw [hbind]
  refine wpAny_pure (wpAny_newFunctionEnv hcell hloc (fun h₁ hns hsb => ⟨((T.nolimit).keeps F.keep).fresh _ hsb, ?_⟩) hk)
  show codeAny _ _ (.expr body (envX qual scope s.heap.objs.size f (.ref c') cl)) _ _
  have hk₁ : ∀ b o, s.heap.get? b = some o → h₁.get? b = some o := fun b o e => hsb.extBut b o (Nat.ne_of_lt (Heap.lt_size e)) (Heap.get?_push_of_some _ e)
  exact kla_codeExpr (wpAny_mono (h _ s.heap.objs.size h₁ (Hid.of s news) ⟨hns, fun b o e => hk₁ b o (of_hideAll _ e), Nat.le_of_eq (hideAll_size _ _)⟩
    (fun p hp => ⟨hk₁ _ _ (N p hp).1, Nat.ne_of_lt (Heap.lt_size (N p hp).1), hideAll_none _ (List.mem_map_of_mem hp)⟩) BG (X₀.keeps st) (T.keeps st) (fun p hp => Heap.lt_size (N p hp).1)) (fun v s' hl => lv _ _ (leaveN_K hl)) fun _ _ y => y.elim)
end

theorem keep_back {s : Shared} {news : List (Addr × Obj)} {g h' : Heap} {skip : Addr} (hid : Hid s news g) (h0 : ∀ p ∈ news, s.heap.get? p.1 = some p.2) (hk : ∀ b o, g.get? b = some o → h'.get? b = some o) (hn : ∀ p ∈ news, p.1 ≠ skip → h'.get? p.1 = some p.2) :
    ∀ b o, b ≠ skip → s.heap.get? b = some o → h'.get? b = some o := by
  intro b o hb e
  by_cases hm : b ∈ news.map (·.1)
  · obtain ⟨q, hq, rfl⟩ := List.mem_map.mp hm
    rw [h0 q hq] at e
    cases e
    exact hn q hq hb
  · exact hk b o (hid.keep b o e hm)
theorem newsGet {g h : Heap} {L : Addr} {news : List (Addr × Obj)} (N : News g L h news) : ∀ p ∈ news, h.get? p.1 = some p.2 := fun p hp => (N p hp).1
theorem popFirst {prog : Program} {w : World} {A : Around} {E : Value → Shared → Prop} {s : Shared} {g : Heap} {L D : Addr} {m : Str → Option Value} {r : List (Addr × Obj)} {v : Value} {vs : List Value} {n : Nat} {u : Tok} {Q : Value → Shared → Prop}
    (F : Fr g L s.heap m) (N : News g L s.heap ((D, listOf (v :: vs).toArray n) :: r)) (hne : ∀ p ∈ r, p.1 ≠ D) (hz : vs.length ≤ 1000000)
    (h : ∀ h', Fr g L h' m → News g L h' ((D, listOf vs.toArray (n + 1)) :: r) → Q v { s with heap := h' }) : wpAny (model prog w) A (call (.builtin "list.pop") [.ref D, .int 0 u]) Q E s :=
  kl_popAt (k := 0) (p := []) (q := vs) F N (by decide) (by
    unfold seqIndex?
    simp) rfl (Upd.head hne) (by rw [sizeLine_eq]; simp; omega) h
end

section
theorem anewM7 : True := by first | walk1 | trivial
local macro_rules | `(tactic| walk_at "call type:list") => `(tactic| with_reducible refine hold ?_)
local macro_rules | `(tactic| walk_at "call builtin:list.pop") => `(tactic| with_reducible refine hold ?_)
local macro_rules | `(tactic| walk_at "truthy ref") => `(tactic| with_reducible refine hold ?_)
local macro_rules | `(tactic| walk_at "call ref") => `(tactic| with_reducible refine hold ?_)
set_option maxHeartbeats 2000000 in
theorem lexer_ct (w : World) (p : Program) (loose : List Str) (mean : ExcName → Option Value) (mg mb : Str → Option Value) (l : List Nat) (t : Tok) (hl : l.length ≤ 4000) : LexCt w p loose mean mg mb l t := by
  unfold LexCt
  w_top off
  k_fill
  intro dp un gd cn cs adr ccd cl outer A₀ base h₀ L m s Q E B F X T hk hd hu N hCH hret
  refine wpAny_call ?_
  k_dflt (refine' enterNC (binds := [(Str.ofString "text", .str (S l) t)]) B F X N T rfl rfl hk ?k6 ?k7 ?k8 ?k9 ?kB ?kD ?_ ?c2 ?c3 ?c4; (case k6 => k_is); (case k7 => k_is); (case k8 => ktr_room); (case k9 => exact BindsTo.of_eq rfl); (case kB => exact rfl); (case kD => decide +kernel); (case c2 => exact rfl); (case c3 => exact rfl); (case c4 => exact rfl); k_whole)
  intro g' L' h₁ tk' cells' hid' F' N' Y' B' X' T' l1
  (try k_lt l1)
  have hCg : CodeHd g' 120 116 := hCH.keeps fun b o e => hid'.keep b o (F.keep b o e) fun hm => by rw [List.mem_singleton.mp hm, (N _ (List.mem_cons_self ..)).2.2] at e; cases e
  clear B F X T N hCH
  k_cells Y'
  (try simp only [List.cons_append, List.nil_append] at N')
  (try dsimp only)
  refine @stopAt Flow _ _ _ _ _ _ ?_
  intro Tk Qk hQk
  k_steps
  refine unhold ?_
  k_dflt ((rename Fr _ _ _ _ => F'); (rename News _ _ _ _ => N'); (refine list_text rfl F' N' (by omega) ?_))
  intro h9 tk9 vs9 c9 D9 F9 N9 l9 hs9
  (try k_lt l9)
  clear F' N'
  (try dsimp only)
  k_steps
  refine unhold ?_
  k_dflt (refine' call_cls ?k1 ?k2 ?k3 ?k4 ?k5 ?k6 ?_; (case k1 => k_asm); (case k2 => k_asm); (case k3 => k_asm); (case k4 => k_is); (case k5 => k_is); (case k6 => k_is); k_whole; intro x' d' h' F' N' l1 l2; (try k_lt l1); (try k_lt2 l2); (try k_sweep); (refine' code_def ?k1 ?k2 ?k3 ?k4 ?k5 ?kA ?kF ?kK ?k6 ?k7 ?k8 ?k9 ?kB ?_ ?c2 ?c3 ?c4 ?c5; (case kA => exact rfl); (case kF => exact rfl); (case kK => first | exact rfl | assumption); (case k1 => k_asm); (case k2 => k_asm); (case k3 => k_asm); (case k4 => k_asm); (case k5 => k_asm); (case k6 => k_is); (case k7 => k_is); (case k8 => ktr_room); (case k9 => exact BindsTo.of_eq rfl); (case c5 => decide); (case kB => exact locs rfl); (case c2 => exact rfl); (case c3 => exact rfl); (case c4 => exact rfl); k_whole; intro g' L' h' FG' F' N' B' X' T'; (try dsimp only); (try k_lift B'); (try k_fold)))
  k_steps
  refine unhold ?_
  k_dflt (refine' call_cls ?k1 ?k2 ?k3 ?k4 ?k5 ?k6 ?_; (case k1 => k_asm); (case k2 => k_asm); (case k3 => k_asm); (case k4 => k_is); (case k5 => k_is); (case k6 => k_is); k_whole; intro x' d' h' F' N' l1 l2; (try k_lt l1); (try k_lt2 l2); (try k_sweep); (refine' code_def ?k1 ?k2 ?k3 ?k4 ?k5 ?kA ?kF ?kK ?k6 ?k7 ?k8 ?k9 ?kB ?_ ?c2 ?c3 ?c4 ?c5; (case kA => exact rfl); (case kF => exact rfl); (case kK => first | exact rfl | assumption); (case k1 => k_asm); (case k2 => k_asm); (case k3 => k_asm); (case k4 => k_asm); (case k5 => k_asm); (case k6 => k_is); (case k7 => k_is); (case k8 => ktr_room); (case k9 => exact BindsTo.of_eq rfl); (case c5 => decide); (case kB => exact locs rfl); (case c2 => exact rfl); (case c3 => exact rfl); (case c4 => exact rfl); k_whole; intro g' L' h' FG' F' N' B' X' T'; (try dsimp only); (try k_lift B'); (try k_fold)))
  k_steps
  refine hQk _ _ ?_
  dsimp only
  rename News _ _ _ _ => NF
  rename Fr _ _ _ _ => FF
  rename DatAll [] _ _ => hs9
  refine leaveN_ FF NF fun hk1 hn1 => lex_end (Q := fun v => Q v _) hn1 hid' hs9 (by omega) (by omega) (by omega) (by omega) (by omega) (by omega) (by omega) (by omega) (by omega) ⟨_, _, _, _, rfl⟩ ?_ fun la tn vs c hf hv hq h6 => hret _ _ la tn vs c (fun b o hb e => hk1 b o (hid'.keep b o e (by simpa using hb))) hf hv hq h6
  clear FF NF
  rename _ = Data.fields _ => hfd
  rename _ = some (Value.str _ _) => hfv
  rename _ = Data.cell (some _) => hcd
  unfold LamCt
  intro dp un gd cn cs a ccd cl outer A₀ base h₀ L m s vs c i t R B F X T hk hd hu N hne hvl hret
  k_dflt (refine' enterL (binds := [(Str.ofString "size", .int i t)]) B F X N T rfl rfl hk (.tail _ (.head _)) (codeRec_news N (.tail _ (.tail _ (.head _))) hfd hfv) ?k8 ?k9 ?kB ?_ ?c2 ?c3 ?c4 ?c5; (case k8 => ktr_room); (case k9 => exact rfl); (case c5 => decide); (case kB => exact locs rfl); (case c2 => exact rfl); (case c3 => exact rfl); (case c4 => exact rfl); k_whole)
  intro g' L' h₁ hid' F' N' B' X' T' l1
  have hN0 := newsGet N
  clear B F X T N
  cases vs with
  | nil =>
    k_steps
    refine unhold ?_
    k_dflt ((rename News _ _ _ _ => N'); (refine wpAny_truthy_list (items := List.toArray []) ⟨_, (N' _ (List.mem_cons_self ..)).1, rfl, _, rfl⟩ (by simp [sizeLine_eq]) ?_); (try simp only [List.isEmpty_toArray, List.isEmpty_nil, Bool.not_true]); (try dsimp only))
    k_steps
    exact leaveN_ F' N' fun hk1 hn1 => hret _ _ _ [] c (keep_back hid' hN0 hk1 fun p hp _ => (hn1 p hp).1) (hn1 _ (List.mem_cons_self ..)).1 (Or.inr ⟨rfl, rfl, _, congrArg (fun z => Value.str z _) lit0⟩)
  | cons v vs =>
    k_steps
    refine unhold ?_
    k_dflt ((rename News _ _ _ _ => N'); (refine wpAny_truthy_list (items := List.toArray (_ :: _)) ⟨_, (N' _ (List.mem_cons_self ..)).1, rfl, _, rfl⟩ (by simp only [List.size_toArray, List.length_cons] at *; omega) ?_); (try simp only [List.isEmpty_toArray, List.isEmpty_cons, Bool.not_false]); (try dsimp only))
    k_steps
    refine unhold ?_
    rename Fr _ _ _ _ => F4
    rename News _ _ _ _ => N4
    refine popFirst F4 N4 hne (by simp only [List.length_cons] at hvl; omega) fun h9 F9 N9 => ?_
    refine leaveN_ F9 N9 fun hk1 hn1 => hret _ _ _ vs (c + 1) (keep_back hid' hN0 hk1 fun p hp hs => ?_) (hn1 _ (List.mem_cons_self ..)).1 (Or.inl rfl)
    rcases List.mem_cons.mp hp with rfl | hp
    · exact absurd rfl hs
    · exact (hn1 p (List.mem_cons_of_mem _ hp)).1
end

section
theorem fr_skip {g h h' : Heap} {L D : Addr} {m : Str → Option Value} (F : Fr g L h m) (hk : ∀ b o, b ≠ D → h.get? b = some o → h'.get? b = some o) (hL : D ≠ L) (hD : g.get? D = none) : Fr g L h' m :=
  ⟨F.ns.at' fun o e => hk L o (Ne.symm hL) e, fun b o e => hk b o (fun q => by rw [q, hD] at e; cases e) (F.keep b o e), F.above⟩
theorem news_skip {g h h' : Heap} {L D : Addr} {o' : Obj} {nx nx' : List (Addr × Obj)} (N : News g L h nx) (hk : ∀ b o, b ≠ D → h.get? b = some o → h'.get? b = some o) (hL : D ≠ L) (hD : g.get? D = none) (hd : h'.get? D = some o')
    (hs : ∀ q ∈ nx', q = (D, o') ∨ (q ∈ nx ∧ q.1 ≠ D)) : News g L h' nx' := fun q hq => by
  rcases hs q hq with rfl | ⟨h1, h2⟩
  · exact ⟨hd, hL, hD⟩
  · exact ⟨hk _ _ h2 (N q h1).1, (N q h1).2⟩
theorem fnAt_of {fo : Obj} {q : Addr} {h : Heap} (hf : ∃ oc od fd sl, fo = ⟨oc, od, .func fd, sl⟩) (e : h.get? q = some fo) : FnAt q h := by
  obtain ⟨oc, od, fd, sl, rfl⟩ := hf
  exact ⟨oc, od, fd, sl, e⟩
/-- the call of _read_char -/
noncomputable abbrev RdCt (w : World) (p : Program) (loose : List Str) (mean : ExcName → Option Value) (mg mb : Str → Option Value) (la : LexA) : Prop :=
  ∀ (dp un : Nat) (gd : Option (List Code)) (cn : Str) (cs : Scope) (a : Addr) (ccd : Value) (cl : List (Str × Addr)) (outer : List Env) (A₀ : Around) (base h₀ : Heap) (L : Addr) (m : Str → Option Value) (s : Shared) (n : Int) (tn : Tok) (ep : Nat) (vs : List Value) (c : Nat) (l : List Nat) (R : Result → Shared → Prop),
    Below A₀ base outer h₀ → Fr h₀ L s.heap m → (Mine.hd.heap_39 w.params).In h₀ → Top p loose mean mg mb h₀ → cs.kind = .function → dp + 10 < recursionLimit → un + 100 < cLine → LexFine w p loose mean mg mb la →
    News h₀ L s.heap (lexNews w la n tn ep vs c) → DatAll [] vs (signsD l) → l.length ≤ 4000 →
    (∀ h' tk' n' tn' ep' vs' c' t', (∀ b o, b ∉ (lexNews w la n tn ep vs c).map (·.1) → s.heap.get? b = some o → h'.get? b = some o) → (∀ q ∈ lexNews w la n' tn' ep' vs' c', h'.get? q.1 = some q.2) →
      DatAll [] vs' (signsD l.tail) → n' = n + (if l.take 1 = [10] then 1 else 0) → R (.ok (.ret (.str (S (l.take 1)) t'))) { s with heap := h', toks := tk' }) →
    codeAny (model PySem.Challenge.rw_wn0029_01.row.prog w) (ktrTop dp un gd cn cs L a ccd cl outer) (.call (.ref 81) ⟨[.ref la.x], []⟩) R s

theorem cmp_e10 {prog : Program} {w : World} {A : Around} {E : Value → Shared → Prop} {s : Shared} {t u : Tok} {y : Str} {Q : Value → Shared → Prop} (hy : y = S [10]) (h : Q (.bool false) s) : wpAny (model prog w) A (compareOp .Eq (.str (S []) t) (.str y u)) Q E s :=
  cmp_lit (l := []) (m := [10]) rfl hy (by simpa using h)
theorem swap_mem {pre post : List (Addr × Obj)} {x x' : Addr × Obj} (h1 : ∀ p ∈ pre, p.1 ≠ x.1) (h2 : ∀ p ∈ post, p.1 ≠ x.1) : ∀ q ∈ pre ++ x' :: post, q = x' ∨ (q ∈ pre ++ x :: post ∧ q.1 ≠ x.1) := by
  intro q hq
  rcases List.mem_append.mp hq with hq | hq
  · exact .inr ⟨List.mem_append_left _ hq, h1 q hq⟩
  · rcases List.mem_cons.mp hq with hq | hq
    · exact .inl hq
    · exact .inr ⟨List.mem_append_right _ (List.mem_cons_of_mem _ hq), h2 q hq⟩
theorem lexNews_ls {w : World} {la : LexA} {n : Int} {tn : Tok} {ep : Nat} {vs vs' : List Value} {c c' : Nat} (h1 : @LT.lt Nat _ la.cc la.ls) (h2 : @LT.lt Nat _ la.ls la.d1) (h3 : @LT.lt Nat _ la.d1 la.x1) (h4 : @LT.lt Nat _ la.x1 la.c') (h5 : @LT.lt Nat _ la.c' la.f) (h6 : @LT.lt Nat _ la.f la.d) (h7 : @LT.lt Nat _ la.d la.x) (h8 : @LT.lt Nat _ la.x la.pb) :
    ∀ q ∈ lexNews w la n tn ep vs' c', q = (la.ls, listOf vs'.toArray c') ∨ (q ∈ lexNews w la n tn ep vs c ∧ q.1 ≠ la.ls) := by
  have p2 := Nat.lt_trans h2 h3
  have p3 := Nat.lt_trans p2 h4
  have p4 := Nat.lt_trans p3 h5
  have p5 := Nat.lt_trans p4 h6
  have p6 := Nat.lt_trans p5 h7
  have p7 := Nat.lt_trans p6 h8
  have ne : ∀ a, @LT.lt Nat _ la.ls a → a ≠ la.ls := fun a h => Nat.ne_of_gt h
  exact swap_mem (pre := [_, _, _, _, _, _, _]) (post := [_]) (x := (la.ls, listOf vs.toArray c)) (x' := (la.ls, listOf vs'.toArray c'))
    (List.forall_mem_cons.mpr ⟨ne _ p7, List.forall_mem_cons.mpr ⟨ne _ p6, List.forall_mem_cons.mpr ⟨ne _ p5, List.forall_mem_cons.mpr ⟨ne _ p4, List.forall_mem_cons.mpr ⟨ne _ p3, List.forall_mem_cons.mpr ⟨ne _ p2, List.forall_mem_cons.mpr ⟨ne _ h2, fun _ h => nomatch h⟩⟩⟩⟩⟩⟩⟩)
    (List.forall_mem_cons.mpr ⟨Nat.ne_of_lt h1, fun _ h => nomatch h⟩)
end

section
theorem anewM8 : True := by first | walk1 | trivial
local macro_rules | `(tactic| walk_at "callWith ref") => `(tactic| with_reducible refine hold ?_)
local macro_rules | `(tactic| walk_at "callWith") => `(tactic| with_reducible refine hold ?_)
local macro_rules | `(tactic| walk_at "FnAt") => `(tactic| k_dflt (exact fnAt_of (by assumption) (newsGet (by assumption) _ (.tail _ (.tail _ (.tail _ (.head _)))))))
local macro_rules | `(tactic| walk_at "And") => `(tactic| (with_reducible show FnAt _ _ ∧ _; refine ⟨by walk_at "FnAt", ?_⟩; (try dsimp only [List.nil_append, List.cons_append])))
local macro_rules | `(tactic| walk_at "call ref") => `(tactic| with_reducible refine hold ?_)
local macro_rules | `(tactic| walk_at "compareOp Eq str str") => `(tactic| (with_reducible show wpAny _ _ (compareOp CmpOp.Eq (Value.str (S []) _) (Value.str (Str.ofString _) _)) _ _ _; k_dflt (refine cmp_e10 (by decide +kernel) ?_)))
local macro_rules | `(tactic| walk_at "setAttr ref") => `(tactic| with_reducible refine hold ?_)
set_option maxHeartbeats 2000000 in
theorem read_char_ct (w : World) (p : Program) (loose : List Str) (mean : ExcName → Option Value) (mg mb : Str → Option Value) (la : LexA) : RdCt w p loose mean mg mb la := by
  unfold RdCt
  w_top off
  k_fill
  intro dp un gd cn cs a ccd cl outer A₀ base h₀ L m s n tn ep vs c l R B F X T hk hd hu hf N hvs hl hret
  k_dflt (refine' enterN (binds := [(Str.ofString "self", .ref la.x)]) B F X N T rfl rfl hk ?k6 ?k7 ?k8 ?k9 ?kB ?_ ?c2 ?c3 ?c4 ?c5; (case k6 => k_is); (case k7 => k_is); (case k8 => ktr_room); (case k9 => exact BindsTo.of_eq rfl); (case c5 => decide); (case kB => exact locs rfl); (case c2 => exact rfl); (case c3 => exact rfl); (case c4 => exact rfl); k_whole)
  intro g' L' h₁ hid' F' N' B' X' T' l1
  have hN0 := newsGet N
  clear B F X T N
  obtain ⟨o1, o2, o3, o4, o5, o6, o7, o8, hfn, hlam⟩ := hf
  refine @stopAt Flow _ _ _ _ _ _ ?_
  intro Tk Qk hQk
  k_steps
  refine unhold ?_
  have hFn := fnAt_of hfn (newsGet N' _ (.tail _ (.tail _ (.tail _ (.head _)))))
  rename Fr _ _ _ _ => F1
  rename News _ _ _ _ => N1
  refine callWith_F (fnAt_of hfn (newsGet N1 _ (.tail _ (.tail _ (.tail _ (.head _)))))) ?_
  k_steps
  refine unhold ?_
  refine wpAny_call ?_
  have hlsm := N1 (la.ls, listOf vs.toArray c) (by simp)
  refine hlam _ _ _ _ _ _ _ _ _ _ _ _ _ _ _ vs c 1 _ _ B' F1 X' T' rfl (by dsimp only; omega) (by dsimp only; omega) (fun q hq => N1 q (by simp only [List.mem_cons, List.not_mem_nil, or_false] at hq ⊢; rcases hq with rfl | rfl | rfl | rfl <;> simp)) (fun q hq => by
    simp only [List.mem_cons, List.not_mem_nil, or_false] at hq
    rcases hq with rfl | rfl | rfl <;> exact neN (by dsimp only; omega)) (by have := hvs.length; rw [signsD, List.length_map, List.length_map] at this; omega) fun h9 tk9 v vs' c2 hkp hls hcase => ?_
  have F5 := fr_skip F1 hkp hlsm.2.1 hlsm.2.2
  have N5 : News g' L' h9 (lexNews w la n tn ep vs' c2) := news_skip N1 hkp hlsm.2.1 hlsm.2.2 hls (lexNews_ls o1 o2 o3 o4 o5 o6 o7 o8)
  dsimp only
  clear F1 N1 hFn hlsm hkp hls
  cases l with
  | nil =>
    cases hvs
    rcases hcase with h | ⟨_, rfl, t9, rfl⟩
    · cases h
    k_steps
    dsimp only
    refine hQk _ _ ?_
    dsimp only
    exact leaveN_ ‹_› ‹_› fun hk1 hn1 => hret _ _ n tn ep [] c2 t9 (fun b o hb e => hk1 b o (hid'.keep b o e hb)) (fun q hq => (hn1 q hq).1) .nil (by simp)
  | cons c0 r =>
    have hvs' : DatAll [] vs (wD [c0] :: signsD r) := hvs
    clear hvs
    cases hvs' with
    | cons hv0 hvr =>
      cases hv0
      rcases hcase with h | ⟨h, _⟩
      rotate_left
      · cases h
      cases h
      by_cases h10 : c0 = 10
      · subst h10
        dsimp only [lexNews] at N5
        k_steps
        refine unhold ?_
        refine' set_dict ?k1 ?k2 ?k3 ?k4 ?k5 ?k6 ?k7 ?k8 ?k9 ?k10 ?k11 ?k12 ?k13 ?_
        (case k1 => k_asm)
        (case k2 => k_asm)
        (case k3 => k_asm)
        (case k4 => k_inst)
        (case k5 => exact rfl)
        (case k6 => k_is)
        (case k7 => k_is)
        (case k8 => k_is)
        (case k9 => k_is)
        (case k10 => k_get)
        (case k11 => exact rfl)
        (case k12 => k_upd)
        (case k13 => exact Nat.le_of_ble_eq_true rfl)
        intro h9 F9 N9
        dsimp only
        k_steps
        dsimp only
        refine hQk _ _ ?_
        dsimp only
        rename Fr _ _ _ _ => FF
        rename News _ _ _ _ => NF
        exact leaveN_ FF NF fun hk1 hn1 => hret _ _ (n + 1) _ ep _ c2 _ (fun b o hb e => hk1 b o (hid'.keep b o e hb)) (fun q hq => (hn1 q hq).1) hvr (by simp)
      · k_steps
        dsimp only
        refine hQk _ _ ?_
        dsimp only
        exact leaveN_ ‹_› ‹_› fun hk1 hn1 => hret _ _ n tn ep _ c2 _ (fun b o hb e => hk1 b o (hid'.keep b o e hb)) (fun q hq => (hn1 q hq).1) hvr (by simp [h10])
end

section
theorem args_iter2 (a b : Value) : argsOk "iter" ⟨[a, b], []⟩ := by unfold argsOk; kernel_rfl
theorem look_method_call : typeLookup (.type "method") "__call__" = pure (some (.builtin "method.__call__")) := by rw [typeLookup_type, builtinLookup_eq_fast]; kernel_rfl
section
variable {prog : Program} {w : World} {A : Around} {E : Value → Shared → Prop} {s : Shared}
theorem iter_ci {g : Heap} {L q : Addr} {m : Str → Option Value} {nx : List (Addr × Obj)} {f self : Value} {y : Str} {u : Tok} {Q : Value → Shared → Prop} (F : Fr g L s.heap m) (N : News g L s.heap nx) (hq : (q, methodObj f self) ∈ nx)
    (h : ∀ I h', Fr g L h' m → News g L h' ((I, ciObj (.ref q) (.str y u)) :: nx) → (∀ p ∈ nx, p.1 < I) → Q (.ref I) { s with heap := h' }) :
    wpAny (model prog w) A (call (.builtin "iter") [.ref q, .str y u]) Q E s := by
  refine call_function_entry (by decide +kernel) (by decide +kernel) kdk_entry_iter (args_iter2 _ _) ?_
  unfold Builtin.«iter»
  refine wpAny_bind (m := someArgs "iter" 1 2 _) (wpAny_of_eq (a := [Value.ref q, .str y u]) (by first | rfl | kernel_rfl!) ?_)
  show wpAny _ _ (specialOf (.ref q) "__call__" >>= _) _ _ _
  refine wpAny_bind (wpAny_specialOf (T := "method") ⟨_, (N _ hq).1, rfl⟩ look_method_call ?_)
  show wpAny _ _ (rule _ >>= _) _ _ _
  refine wpAny_bind (wpAny_rule ?_)
  refine wpAny_bind ?_
  unfold newFields
  refine wpAny_newObj_type ?_ (by size_fits)
  exact wpAny_pure ⟨_, rfl, h _ _ (F.push _) (News.push F N _ rfl) fun p hp => Heap.lt_size (N p hp).1⟩
theorem pyNext_ciEnd {it : Addr} {Q : Option Value → Shared → Prop} (hh : A.handled = none) (hit : s.heap.get? it = some ciEnd) (h : ∀ h', (∀ b o, s.heap.get? b = some o → h'.get? b = some o) → Q none { s with heap := h' }) :
    wpAny (model prog w) A (pyNext (.ref it)) Q E s := by
  have hT : s.TypeIs (.ref it) "callable_iterator" := ⟨_, hit, rfl⟩
  unfold pyNext
  refine wpAny_bind (wpAny_attempt (wpAny_callSpecial?_slot (name := Str.ofString "__next__") hT slot_ci_next
    (wpAny_call_entry slot_ci_next hT entry_ci_next ?_ (args_ci_next _))))
  show wpAny _ _ (field (.ref it) 2 >>= _) _ _ s
  refine wpAny_bind (wpAny_field hit rfl (x := .bool true) rfl ?_)
  show wpAny _ _ (if ((Value.bool true) == .bool true) = true then _ else _) _ _ s
  rw [if_pos (by decide)]
  show wpAny _ _ (rule _ >>= _) _ _ s
  refine wpAny_bind (wpAny_rule ?_)
  refine wpAny_bind ?_
  unfold Builtin.SmallTypes.stopIteration
  show wpAny _ _ (newExc (.type "StopIteration") [] >>= _) _ _ _
  refine wpAny_bind ?_
  simp only [newExc, newTuple]
  refine wpAny_bind (wpAny_newObj_type ?_ (by size_fits))
  refine wpAny_bind (m := firstArgMember _ _) (wpAny_of_eq (a := Value.none) (by first | rfl | (simp only [firstArgMember]; rfl)) ?_)
  refine wpAny_newObj_type ?_ (by size_fits)
  simp only [raiseNew]
  refine wpAny_bind (wpAny_handled ?_)
  rw [show A.in1.handled = none from hh]
  refine wpAny_bind (wpAny_pure (wpAny_throw ?_))
  refine wpAny_bind (wpAny_isInstance (T := "StopIteration") (b := true) ⟨_, Heap.get?_push_size _ rfl, rfl⟩ isSubtype_stop ?_)
  exact wpAny_pure (h _ fun b o hb => Heap.get?_push_of_some _ (Heap.get?_push_of_some _ hb))
theorem pyIter_ciEnd {it : Addr} {Q : Value → Shared → Prop} (hit : s.heap.get? it = some ciEnd) (h : Q (.ref it) s) : wpAny (model prog w) A (pyIter (.ref it)) Q E s := by
  have hT : s.TypeIs (.ref it) "callable_iterator" := ⟨_, hit, rfl⟩
  refine wpAny_pyIter_slot hT slot_ci_iter (wpAny_call_entry slot_ci_iter hT entry_ci_iter ?_ (args_ci_iter _))
  show wpAny _ _ (ret (.ref it)) _ _ s
  exact wpAny_pure ⟨_, rfl, "callable_iterator", _, hT, slot_ci_next.lookup, h⟩
end

/-- the lexer with a callable iterator upon its reading -/
noncomputable abbrev ciNews (w : World) (la : LexA) (it q : Addr) (u : Tok) (n : Int) (tn : Tok) (ep : Nat) (vs : List Value) (c : Nat) : List (Addr × Obj) :=
  (it, ciObj (.ref q) (.str (Str.ofString "") u)) :: (q, methodObj (.ref 81) (.ref la.x)) :: lexNews w la n tn ep vs c
noncomputable abbrev ceNews (w : World) (la : LexA) (it q : Addr) (n : Int) (tn : Tok) (ep : Nat) (vs : List Value) (c : Nat) : List (Addr × Obj) :=
  (it, ciEnd) :: (q, methodObj (.ref 81) (.ref la.x)) :: lexNews w la n tn ep vs c

/-- the stream's state: the signs l are still to come; n + the lines to come stands fast -/
noncomputable def Alive (w : World) (la : LexA) (it q : Addr) (u : Tok) (lines : Int) (g h : Heap) (L : Addr) (l : List Nat) : Prop :=
  ∃ n tn ep vs c, News g L h (ciNews w la it q u n tn ep vs c) ∧ DatAll [] vs (signsD l) ∧ n + (l.count 10 : Int) = lines
noncomputable def Ended (w : World) (la : LexA) (it q : Addr) (lines : Int) (g h : Heap) (L : Addr) : Prop :=
  ∃ n tn ep vs c, News g L h (ceNews w la it q n tn ep vs c) ∧ DatAll [] vs (signsD []) ∧ n = lines
end

section
theorem fr_read {g h h' : Heap} {L : Addr} {m : Str → Option Value} {nx : List (Addr × Obj)} (F : Fr g L h m) (N : News g L h nx) (hk : ∀ b o, b ∉ nx.map (·.1) → h.get? b = some o → h'.get? b = some o) : Fr g L h' m :=
  ⟨F.ns.at' fun o e => hk L o (fun q => by obtain ⟨p, hp, e⟩ := List.mem_map.mp q; exact (N p hp).2.1 e) e,
    fun b o e => hk b o (fun q => by obtain ⟨p, hp, e2⟩ := List.mem_map.mp q; have := (N p hp).2.2; rw [e2, e] at this; cases this) (F.keep b o e), F.above⟩
theorem lex_off {w : World} {p : Program} {loose : List Str} {mean : ExcName → Option Value} {mg mb : Str → Option Value} {la : LexA} {n : Int} {tn : Tok} {ep : Nat} {vs : List Value} {c : Nat} {a : Addr} (hf : LexFine w p loose mean mg mb la) (h : @LT.lt Nat _ la.pb a) : a ∉ (lexNews w la n tn ep vs c).map (·.1) := by
  obtain ⟨o1, o2, o3, o4, o5, o6, o7, o8, _, _⟩ := hf
  intro hm
  obtain ⟨q, hq, e⟩ := List.mem_map.mp hm
  have h' : @LT.lt Nat _ la.pb a := h
  have p7 := Nat.lt_trans o8 h'
  have p6 := Nat.lt_trans o7 p7
  have p5 := Nat.lt_trans o6 p6
  have p4 := Nat.lt_trans o5 p5
  have p3 := Nat.lt_trans o4 p4
  have p2 := Nat.lt_trans o3 p3
  have p1 := Nat.lt_trans o2 p2
  have p0 := Nat.lt_trans o1 p1
  have key := lex_all (P := fun b => @LT.lt Nat _ b a) h' p7 p6 p5 p4 p3 p2 p1 p0 q hq
  rw [e] at key
  exact Nat.lt_irrefl _ key

section
variable {w : World} {p : Program} {loose : List Str} {mean : ExcName → Option Value} {mg mb : Str → Option Value} {la : LexA} {it q : Addr} {u : Tok} {lines : Int} {g : Heap}
  {dp un : Nat} {gd : Option (List Code)} {cn : Str} {cs : Scope} {L a : Addr} {ccd : Value} {cl : List (Str × Addr)} {outer : List Env} {A₀ : Around} {base : Heap}

/-- a read with the iterator aside -/
theorem read_alive {s : Shared} {m : Str → Option Value} {l : List Nat} {R : Result → Shared → Prop} (RC : RdCt w p loose mean mg mb la) (hf : LexFine w p loose mean mg mb la) (hq : @LT.lt Nat _ la.pb q) (hit : @LT.lt Nat _ q it)
    (B : Below A₀ base outer g) (F : Fr g L s.heap m) (X : (Mine.hd.heap_39 w.params).In g) (T : Top p loose mean mg mb g) (hk : cs.kind = .function) (hd : dp + 10 < recursionLimit) (hu : un + 100 < cLine)
    (hA : Alive w la it q u lines g s.heap L l) (hl : l.length ≤ 4000)
    (h : ∀ h' tk' t', Fr g L h' m → Alive w la it q u lines g h' L l.tail → R (.ok (.ret (.str (S (l.take 1)) t'))) { s with heap := h', toks := tk' }) :
    codeAny (model PySem.Challenge.rw_wn0029_01.row.prog w) (ktrTop dp un gd cn cs L a ccd cl outer) (.call (.ref 81) ⟨[.ref la.x], []⟩) R s := by
  obtain ⟨n, tn, ep, vs, c, N, hvs, hn⟩ := hA
  have NL : News g L s.heap (lexNews w la n tn ep vs c) := fun r hr => N r (List.mem_cons_of_mem _ (List.mem_cons_of_mem _ hr))
  refine RC _ _ _ _ _ _ _ _ _ _ _ _ _ _ _ n tn ep vs c l _ B F X T hk hd hu hf NL hvs hl fun h' tk' n' tn' ep' vs' c' t' hkp hnew hvs' hn' => ?_
  refine h h' tk' t' (fr_read F NL hkp) ⟨n', tn', ep', vs', c', fun r hr => ?_, hvs', ?_⟩
  · rcases List.mem_cons.mp hr with rfl | hr
    · exact ⟨hkp _ _ (lex_off hf (Nat.lt_trans hq hit)) (N _ (List.mem_cons_self ..)).1, (N _ (List.mem_cons_self ..)).2⟩
    · rcases List.mem_cons.mp hr with rfl | hr
      · exact ⟨hkp _ _ (lex_off hf hq) (N _ (List.mem_cons_of_mem _ (List.mem_cons_self ..))).1, (N _ (List.mem_cons_of_mem _ (List.mem_cons_self ..))).2⟩
      · refine ⟨hnew r hr, ?_⟩
        have hm : r.1 ∈ (lexNews w la n tn ep vs c).map (·.1) := List.mem_map.mpr (by
          have : r.1 ∈ (lexNews w la n' tn' ep' vs' c').map (·.1) := List.mem_map_of_mem hr
          exact List.mem_map.mp this)
        obtain ⟨r2, hr2, e⟩ := List.mem_map.mp hm
        have := (NL r2 hr2).2
        rw [e] at this
        exact this
  · rw [hn', ← hn]
    cases l with
    | nil => simp
    | cons c0 r =>
      by_cases h10 : c0 = 10
      · subst h10; simp; omega
      · simp [h10]

/-- a turn's end -/
noncomputable def CITurn (w : World) (la : LexA) (it q : Addr) (u : Tok) (lines : Int) (g : Heap) (L : Addr) (s : Shared) (r : List Nat) (J : List Nat → (Str → Option Value) → Prop) (Xe : (Str → Option Value) → Prop) (s₃ : Shared) : Prop :=
  (∃ h tk m₁ r', s₃ = { s with heap := h, toks := tk } ∧ Fr g L h m₁ ∧ r'.length ≤ r.length ∧ Alive w la it q u lines g h L r' ∧ J r' m₁) ∨ (∃ h tk m₁, s₃ = { s with heap := h, toks := tk } ∧ Fr g L h m₁ ∧ Ended w la it q lines g h L ∧ Xe m₁)
/-- what stands between two turns -/
noncomputable def CIInv (w : World) (la : LexA) (it q : Addr) (u : Tok) (lines : Int) (g : Heap) (L : Addr) (s : Shared) (J : List Nat → (Str → Option Value) → Prop) (Xe : (Str → Option Value) → Prop) (k : Nat) (s' : Shared) : Prop :=
  (∃ h tk m₁ l, s' = { s with heap := h, toks := tk } ∧ Fr g L h m₁ ∧ l.length ≤ 4000 ∧ k = l.length + 2 ∧ Alive w la it q u lines g h L l ∧ J l m₁) ∨ (∃ h tk m₁, s' = { s with heap := h, toks := tk } ∧ Fr g L h m₁ ∧ k = 1 ∧ Ended w la it q lines g h L ∧ Xe m₁)
/-- how a turn may end -/
noncomputable def CIEnd (w : World) (la : LexA) (it q : Addr) (u : Tok) (lines : Int) (g : Heap) (L : Addr) (s : Shared) (r : List Nat) (J : List Nat → (Str → Option Value) → Prop) (Xe : (Str → Option Value) → Prop) (Q : Flow → Shared → Prop) (f : Flow) (s₃ : Shared) : Prop :=
  match f with
  | .ret v => Q (.ret v) s₃
  | .brk => False
  | _ => CITurn w la it q u lines g L s r J Xe s₃
theorem forCI {s : Shared} {m : Str → Option Value} {l0 : List Nat} {target : PySem.Expr} {body : List Stmt} {Q : Flow → Shared → Prop} (RC : RdCt w p loose mean mg mb la) (hf : LexFine w p loose mean mg mb la) (hq : @LT.lt Nat _ la.pb q) (hit : @LT.lt Nat _ q it)
    (B : Below A₀ base outer g) (F : Fr g L s.heap m) (X : (Mine.hd.heap_39 w.params).In g) (T : Top p loose mean mg mb g) (hk : cs.kind = .function) (hd : dp + 10 < recursionLimit) (hu : un + 110 < cLine)
    (h81 : ∃ fo fd, g.get? 81 = some fo ∧ fo.data = .func fd) (hA : Alive w la it q u lines g s.heap L l0) (hl : l0.length ≤ 4000)
    (J : List Nat → (Str → Option Value) → Prop) (Xe : (Str → Option Value) → Prop) (h0 : J l0 m)
    (step : ∀ c r m₁ h tk t (Tk : Flow → Shared → Prop), (∀ v s₃, Q (.ret v) s₃ → Tk (.ret v) s₃) → (∀ s₃, CITurn w la it q u lines g L s r J Xe s₃ → Tk .next s₃ ∧ Tk .cont s₃) → J (c :: r) m₁ → r.length < 4000 → Fr g L h m₁ → Alive w la it q u lines g h L r →
      wpAny (model PySem.Challenge.rw_wn0029_01.row.prog w) (ktrTop dp un gd cn cs L a ccd cl outer) (assign target (envX cn cs L a ccd cl) (.str (S [c]) t)) (fun _ s₂ =>
        wpAny (model PySem.Challenge.rw_wn0029_01.row.prog w) (ktrTop dp un gd cn cs L a ccd cl outer) (execs body (envX cn cs L a ccd cl)) Tk (fun _ _ => False) s₂) (fun _ _ => False) { s with heap := h, toks := tk })
    (fin : ∀ m, J [] m → Xe m)
    (done : ∀ h tk m₁, Xe m₁ → Fr g L h m₁ → Ended w la it q lines g h L → Q .next { s with heap := h, toks := tk })
    (ht : ∀ I v, letOwnedTupleGo target (.ref I) v = pure () := by intro _ _; rfl) :
    codeAny (model PySem.Challenge.rw_wn0029_01.row.prog w) (ktrTop dp un gd cn cs L a ccd cl outer) (.forLoop target (.ref it) body [] (envX cn cs L a ccd cl)) (fun r s' => match r with | .ok f => Q f s' | .error e => cameBackBy (model PySem.Challenge.rw_wn0029_01.row.prog w) (ktrTop dp un gd cn cs L a ccd cl outer) (envX cn cs L a ccd cl) (fun _ _ => False) e s') s := by
  refine codeAny_forLoop_any (CIInv w la it q u lines g L s J Xe) ?_ (l0.length + 2) (.inl ⟨s.heap, s.toks, m, l0, rfl, F, hl, rfl, hA, h0⟩)
  rintro k s' (⟨h, tk, m₁, l, rfl, F₁, hl₁, rfl, hA₁, hJ⟩ | ⟨h, tk, m₁, rfl, F₁, rfl, hE, hX⟩)
  · obtain ⟨n, tn, ep, vs, c, N, hvs, hn⟩ := id hA₁
    obtain ⟨fo, fd, e81, d81⟩ := h81
    have i1 := (N _ (List.mem_cons_self ..))
    have i2 := (N _ (List.mem_cons_of_mem _ (List.mem_cons_self ..)))
    refine pyNext_ci (y := Str.ofString "") (u := u) (fn := 81) (self := .ref la.x) rfl i1.1 i2.1 (F₁.keep _ _ e81) d81 ?_
    refine method_call i2.1 ?_
    refine read_alive (dp := dp) (un := un + 1) (gd := gd) (cn := cn) (cs := cs) (a := a) (ccd := ccd) (cl := cl) (outer := outer) RC hf hq hit B F₁ X T hk hd (by omega) hA₁ hl₁ fun h' tk' t' F₂ hA₂ => ?_
    obtain ⟨n2, tn2, ep2, vs2, c2, N2, hvs2, hn2⟩ := id hA₂
    have j1 := (N2 _ (List.mem_cons_self ..))
    have j2 := (N2 _ (List.mem_cons_of_mem _ (List.mem_cons_self ..)))
    refine ⟨_, _, rfl, j1.1, j2.1, F₂.keep _ _ e81, fun hne => ?_, fun heq h3 hsame h3it h4 hext => ?_⟩
    · cases l with
      | nil => simp [lit0] at hne
      | cons c0 r =>
        refine wpAny_of_eq (ht _ _) ?_
        have hr : r.length < 4000 := by simp only [List.length_cons] at hl₁; omega
        refine wpAny_mono (step c0 r m₁ h' tk' t' (CIEnd w la it q u lines g L s r J Xe Q) (fun _ _ h => h) (fun _ h => ⟨h, h⟩) hJ hr F₂ hA₂) (fun _ s₂ h₂ => wpAny_mono h₂ (fun f s₃ h₃ => ?_) fun _ _ e => e.elim) fun _ _ e => e.elim
        have fin : CITurn w la it q u lines g L s r J Xe s₃ → ∃ k', k' < (c0 :: r).length + 2 ∧ CIInv w la it q u lines g L s J Xe k' s₃ := by
          rintro (⟨h5, tk5, m5, r5, rfl, F5, hr5, hA5, hJ5⟩ | ⟨h5, tk5, m5, rfl, F5, hE5, hX5⟩)
          · exact ⟨r5.length + 2, by simp only [List.length_cons]; omega, .inl ⟨h5, tk5, m5, r5, rfl, F5, by omega, rfl, hA5, hJ5⟩⟩
          · exact ⟨1, by omega, .inr ⟨h5, tk5, m5, rfl, F5, rfl, hE5, hX5⟩⟩
        cases f with
        | ret v => exact h₃
        | brk => exact h₃.elim
        | next => exact fin h₃
        | cont => exact fin h₃
    · cases l with
      | cons c0 r => simp [lit0, S] at heq
      | nil =>
        refine wpAny_execs_nil ?_
        have off : ∀ r ∈ (q, methodObj (.ref 81) (.ref la.x)) :: lexNews w la n2 tn2 ep2 vs2 c2, r.1 ≠ it := by
          intro r hr e
          rcases List.mem_cons.mp hr with rfl | hr
          · exact Nat.ne_of_lt hit e
          · exact lex_off hf (Nat.lt_trans hq hit) (List.mem_map.mpr ⟨r, hr, e⟩)
        have F3 : Fr g L h4 m₁ := (F₂.change hsame j1.2.1 j1.2.2).keeps hext
        refine done h4 tk' m₁ (fin m₁ hJ) F3 ⟨n2, tn2, ep2, vs2, c2, fun r hr => ?_, hvs2, by simpa using hn2⟩
        rcases List.mem_cons.mp hr with rfl | hr
        · exact ⟨hext _ _ h3it, j1.2⟩
        · exact ⟨hext _ _ (hsame.extBut _ _ (off r hr) (N2 r (List.mem_cons_of_mem _ hr)).1), (N2 r (List.mem_cons_of_mem _ hr)).2⟩
  · obtain ⟨n, tn, ep, vs, c, N, hvs, hn⟩ := id hE
    refine pyNext_ciEnd rfl (N _ (List.mem_cons_self ..)).1 fun h' hk' => ?_
    exact wpAny_execs_nil (done h' tk m₁ hX (F₁.keeps hk') ⟨n, tn, ep, vs, c, fun r hr => ⟨hk' _ _ (N r hr).1, (N r hr).2⟩, hvs, hn⟩)
end
end

section
/-- inside quotes, from the sign after the opening one: what is read, and what is left -/
noncomputable def inQ : List Nat → List Nat × List Nat
  | [] => ([], [])
  | [c] => if c = 34 then ([], []) else if c = 92 then ([], []) else ([c], [])
  | c :: d :: r => if c = 34 then ([], d :: r) else if c = 92 then (d :: (inQ r).1, (inQ r).2) else (c :: (inQ (d :: r)).1, (inQ (d :: r)).2)
theorem inQ_end (r : List Nat) : inQ (34 :: r) = ([], r) := by cases r <;> simp [inQ]
theorem inQ_esc (r : List Nat) : inQ (92 :: r) = (r.take 1 ++ (inQ r.tail).1, (inQ r.tail).2) := by
  cases r with
  | nil => simp [inQ]
  | cons d r => simp [inQ]
theorem inQ_sign {c : Nat} (r : List Nat) (h1 : c ≠ 34) (h2 : c ≠ 92) : inQ (c :: r) = (c :: (inQ r).1, (inQ r).2) := by
  cases r with
  | nil => simp [inQ, h1, h2]
  | cons d r => simp [inQ, h1, h2]
noncomputable def ws (c : Nat) : Bool := c == 10 || c == 9 || c == 13 || c == 32
/-- a bare word -/
noncomputable def inN : List Nat → List Nat × List Nat
  | [] => ([], [])
  | [c] => if ws c = true then ([], []) else if c = 92 then ([], []) else ([c], [])
  | c :: d :: r => if ws c = true then ([], d :: r) else if c = 92 then (d :: (inN r).1, (inN r).2) else (c :: (inN (d :: r)).1, (inN (d :: r)).2)
theorem inN_end {c : Nat} (r : List Nat) (h : ws c = true) : inN (c :: r) = ([], r) := by cases r <;> simp [inN, h]
theorem ws92 : ws 92 = false := rfl
theorem inN_esc (r : List Nat) : inN (92 :: r) = (r.take 1 ++ (inN r.tail).1, (inN r.tail).2) := by
  cases r with
  | nil => simp [inN, ws92]
  | cons d r => simp [inN, ws92]
theorem inN_sign {c : Nat} (r : List Nat) (h1 : ws c = false) (h2 : c ≠ 92) : inN (c :: r) = (c :: (inN r).1, (inN r).2) := by
  cases r with
  | nil => simp [inN, h1, h2]
  | cons d r => simp [inN, h1, h2]
/-- one token -/
noncomputable def tokL : List Nat → List Nat × List Nat
  | [] => ([], [])
  | c :: r => if ws c = true then tokL r else if c = 34 then inQ r else if c = 92 then (r.take 1 ++ (inN r.tail).1, (inN r.tail).2) else (c :: (inN r).1, (inN r).2)
end

section
theorem in_ws {prog : Program} {w : World} {A : Around} {E : Value → Shared → Prop} {s : Shared} {t u : Tok} {c : Nat} {x : Str} {Q : Value → Shared → Prop} (hx : x.cps.toList = [10, 9, 13, 32]) (h : Q (.bool (ws c)) s) : wpAny (model prog w) A (compareOp .In (.str (S [c]) u) (.str x t)) Q E s := by
  refine @P.in_str _ _ _ _ _ _ _ _ _ _ ?_
  rw [show S [c] = ⟨#[c]⟩ from rfl, StrLaws.found_one, hx]
  have e : decide (c ∈ [10, 9, 13, 32]) = ws c := by
    unfold ws
    by_cases h1 : c = 10
    · subst h1; rfl
    · by_cases h2 : c = 9
      · subst h2; rfl
      · by_cases h3 : c = 13
        · subst h3; rfl
        · by_cases h4 : c = 32
          · subst h4; rfl
          · simp [h1, h2, h3, h4]
  rw [e]
  exact h
theorem in_ws_t {prog : Program} {w : World} {A : Around} {E : Value → Shared → Prop} {s : Shared} {t u : Tok} {c : Nat} {x : Str} {Q : Value → Shared → Prop} (hx : x.cps.toList = [10, 9, 13, 32]) (hc : ws c = true) (h : Q (.bool true) s) : wpAny (model prog w) A (compareOp .In (.str (S [c]) u) (.str x t)) Q E s := in_ws hx (by rw [hc]; exact h)
theorem in_ws_f {prog : Program} {w : World} {A : Around} {E : Value → Shared → Prop} {s : Shared} {t u : Tok} {c : Nat} {x : Str} {Q : Value → Shared → Prop} (hx : x.cps.toList = [10, 9, 13, 32]) (hc : ws c = false) (h : Q (.bool false) s) : wpAny (model prog w) A (compareOp .In (.str (S [c]) u) (.str x t)) Q E s := in_ws hx (by rw [hc]; exact h)
/-- the call of get_token -/
noncomputable abbrev TokCt (w : World) (p : Program) (loose : List Str) (mean : ExcName → Option Value) (mg mb : Str → Option Value) (la : LexA) : Prop :=
  ∀ (dp un : Nat) (gd : Option (List Code)) (cn : Str) (cs : Scope) (a : Addr) (ccd : Value) (cl : List (Str × Addr)) (outer : List Env) (A₀ : Around) (base h₀ : Heap) (L : Addr) (m : Str → Option Value) (s : Shared) (n : Int) (tn : Tok) (ep : Nat) (vs : List Value) (c : Nat) (l : List Nat) (R : Result → Shared → Prop),
    Below A₀ base outer h₀ → Fr h₀ L s.heap m → (Mine.hd.heap_39 w.params).In h₀ → Top p loose mean mg mb h₀ → cs.kind = .function → dp + 20 < recursionLimit → un + 200 < cLine → LexFine w p loose mean mg mb la →
    News h₀ L s.heap (lexNews w la n tn ep vs c) → DatAll [] vs (signsD l) → l.length ≤ 4000 →
    (∀ h' tk' n' tn' ep' vs' c' t', (∀ b o, b ∉ (lexNews w la n tn ep vs c).map (·.1) → s.heap.get? b = some o → h'.get? b = some o) → (∀ q ∈ lexNews w la n' tn' ep' vs' c', h'.get? q.1 = some q.2) →
      DatAll [] vs' (signsD (tokL l).2) → n' + ((tokL l).2.count 10 : Int) = n + (l.count 10 : Int) → R (.ok (.ret (.str (S (tokL l).1) t'))) { s with heap := h', toks := tk' }) →
    codeAny (model PySem.Challenge.rw_wn0029_01.row.prog w) (ktrTop dp un gd cn cs L a ccd cl outer) (.call (.ref 88) ⟨[.ref la.x], []⟩) R s

theorem iadd_S {prog : Program} {w : World} {A : Around} {E : Value → Shared → Prop} {s : Shared} {l m : List Nat} {t u : Tok} {Q : Value → Shared → Prop} (hl : l.length ≤ 1000000) (hm : m.length ≤ 1000000) (h : ∀ t' k, Q (.str (S (l ++ m)) t') { s with toks := k }) : wpAny (model prog w) A (inplaceOp .Add (.str (S l) t) (.str (S m) u)) Q E s := by
  refine SBL.iadd (hsz := by rw [S_length, S_length, sizeLine_eq]; omega) fun t' k => ?_
  rw [S_append]
  exact fun _ => h t' k
theorem tok_leave {w : World} {la : LexA} {s : Shared} {g h' : Heap} {L' : Addr} {m : Str → Option Value} {n n3 : Int} {tn tn3 : Tok} {ep ep3 : Nat} {vs vs3 : List Value} {c c3 : Nat} {l acc r : List Nat} {nx : List (Addr × Obj)} {R : Result → Shared → Prop} {t : Tok} {tk : Nat}
    (F : Fr g L' h' m) (N : News g L' h' nx) (hsub : ∀ q ∈ lexNews w la n3 tn3 ep3 vs3 c3, q ∈ nx) (hid : Hid s (lexNews w la n tn ep vs c) g) (eT : tokL l = (acc, r)) (hvs : DatAll [] vs3 (signsD r)) (hn : n3 + (r.count 10 : Int) = n + (l.count 10 : Int))
    (hret : ∀ h' tk' n' tn' ep' vs' c' t', (∀ b o, b ∉ (lexNews w la n tn ep vs c).map (·.1) → s.heap.get? b = some o → h'.get? b = some o) → (∀ q ∈ lexNews w la n' tn' ep' vs' c', h'.get? q.1 = some q.2) →
      DatAll [] vs' (signsD (tokL l).2) → n' + ((tokL l).2.count 10 : Int) = n + (l.count 10 : Int) → R (.ok (.ret (.str (S (tokL l).1) t'))) { s with heap := h', toks := tk' }) :
    LeaveN g R (.str (S acc) t) { s with heap := h', toks := tk } := by
  rw [eT] at hret
  exact leaveN_ F N fun hk1 hn1 => hret h' tk n3 tn3 ep3 vs3 c3 t (fun b o hb e => hk1 b o (hid.keep b o e hb)) (fun q hq => (hn1 q (hsub q hq)).1) hvs hn
end

section
theorem anewM9 : True := by first | walk1 | trivial
local macro_rules | `(tactic| walk_at "call ref") => `(tactic| with_reducible refine hold ?_)
local macro_rules | `(tactic| walk_at "call builtin:iter") => `(tactic| with_reducible refine hold ?_)
local macro_rules | `(tactic| walk_at "pyIter ref") => `(tactic| with_reducible refine hold ?_)
local macro_rules | `(tactic| walk_at "exec For Name Name cons nil") => `(tactic| with_reducible refine hold ?_)
local macro_rules | `(tactic| walk_at "compareOp In str str") => `(tactic| k_dflt (first | refine in_ws_t (by decide +kernel) (by assumption) ?_ | refine in_ws_f (by decide +kernel) (by assumption) ?_))
local macro_rules | `(tactic| walk_at "exec If") => `(tactic| ((with_reducible show wpAny _ _ (exec (Stmt.If (Expr.Compare (Expr.Name _ _) _ [Expr.Constant _ _ _] _) _ [] _) _) _ _ _); with_reducible refine hold ?_))
/-- the state behind «if ch is a backslash: ch = the next sign» -/
noncomputable def MidT (w : World) (la : LexA) (it q : Addr) (u : Tok) (lines : Int) (g : Heap) (L : Addr) (s : Shared) (nxt : List Nat → List Nat × List Nat) (acc r l : List Nat) (f : Flow) (s' : Shared) : Prop :=
  f = .next ∧ ∃ h tk m' r' ch t t2, s' = { s with heap := h, toks := tk } ∧ Fr g L h m' ∧ Has m' [(Str.ofString "self", .ref la.x), (Str.ofString "token", .str (S acc) t), (Str.ofString "fiter", .ref it), (Str.ofString "ch", .str (S ch) t2)] ∧
    r'.length ≤ r.length ∧ ch.length + r'.length ≤ r.length + 1 ∧ Alive w la it q u lines g h L r' ∧ tokL l = (acc ++ ch ++ (nxt r').1, (nxt r').2)
theorem mid_join {M : Model} {A : Around} {w : World} {la : LexA} {it q : Addr} {u : Tok} {lines : Int} {g h0 : Heap} {L : Addr} {s s0 : Shared} {nxt : List Nat → List Nat × List Nat} {acc r l r0 : List Nat} {t : Sem Flow} {Q : Flow → Shared → Prop} {E : Value → Shared → Prop}
    (_ : Alive w la it q u lines g h0 L r0) (h1 : wpAny M A t (MidT w la it q u lines g L s nxt acc r l) E s0) (h2 : ∀ f s', MidT w la it q u lines g L s nxt acc r l f s' → Q f s') : wpAny M A t Q E s0 := wpAny_mono h1 h2 fun _ _ e => e
noncomputable def OutJ (x it : Addr) (l0 l : List Nat) (m : Str → Option Value) : Prop :=
  tokL l0 = tokL l ∧ ∃ t, Has m [(Str.ofString "self", .ref x), (Str.ofString "token", .str (S []) t), (Str.ofString "fiter", .ref it)]
noncomputable def OutX (l0 : List Nat) (m : Str → Option Value) : Prop := ∃ acc t, tokL l0 = (acc, []) ∧ Has m [(Str.ofString "token", .str (S acc) t)]
noncomputable def InJ (x it : Addr) (nxt : List Nat → List Nat × List Nat) (l0 l : List Nat) (m : Str → Option Value) : Prop :=
  ∃ acc t, tokL l0 = (acc ++ (nxt l).1, (nxt l).2) ∧ acc.length + l.length ≤ 4000 ∧ Has m [(Str.ofString "self", .ref x), (Str.ofString "token", .str (S acc) t), (Str.ofString "fiter", .ref it)]
local macro_rules | `(tactic| walk_at "inplaceOp Add str str") => `(tactic| ((with_reducible show wpAny _ _ (inplaceOp Operator.Add (Value.str (S _) _) (Value.str (S _) _)) _ _ _); k_dflt (refine' iadd_S ?hl ?hm ?_; (case hl => walk_at "my len"); (case hm => walk_at "my len")); intro t9 k9; (try dsimp only)))
set_option maxHeartbeats 2000000 in
theorem get_token_ct (w : World) (p : Program) (loose : List Str) (mean : ExcName → Option Value) (mg mb : Str → Option Value) (la : LexA) : TokCt w p loose mean mg mb la := by
  unfold TokCt
  w_top off
  k_fill
  intro dp un gd cn cs a ccd cl outer A₀ base h₀ L m s n tn ep vs c l R B F X T hk hd hu hf N hvs hl hret
  k_dflt (refine' enterN (binds := [(Str.ofString "self", .ref la.x)]) B F X N T rfl rfl hk ?k6 ?k7 ?k8 ?k9 ?kB ?_ ?c2 ?c3 ?c4 ?c5; (case k6 => k_is); (case k7 => k_is); (case k8 => ktr_room); (case k9 => exact BindsTo.of_eq rfl); (case c5 => decide); (case kB => exact locs rfl); (case c2 => exact rfl); (case c3 => exact rfl); (case c4 => exact rfl); k_whole)
  intro g' L' h₁ hid' F' N' B' X' T' l1
  clear B F X T N
  obtain ⟨o1, o2, o3, o4, o5, o6, o7, o8, hfn, hlam⟩ := id hf
  refine @stopAt Flow _ _ _ _ _ _ ?_
  intro Tk Qk hQk
  k_steps
  refine unhold ?_
  rename Fr _ _ _ _ => F1
  rename News _ _ _ _ => N1
  rename _ ∧ _ => l9
  have hpq := l9.1
  clear l9
  refine iter_ci F1 N1 (List.mem_cons_self ..) fun I h9 F9 N9 l9 => ?_
  have hqI := l9 _ (List.mem_cons_self ..)
  dsimp only at hqI
  clear F1 N1 l9
  k_steps
  refine unhold ?_
  refine wpAny_For ?_
  k_steps
  refine unhold ?_
  rename Fr _ _ _ _ => F1
  rename News _ _ _ _ => N1
  refine pyIter_ci (newsGet N1 _ (List.mem_cons_self ..)) ?_
  have h81 : ∃ fo fd, g'.get? 81 = some fo ∧ fo.data = .func fd := ⟨_, _, X' 81 _ (by k_is), rfl⟩
  have RC := read_char_ct w p loose mean mg mb la
  refine forCI (J := OutJ la.x I l) (Xe := OutX l) RC hf hpq hqI B' F1 X' T' rfl (by (try dsimp only); omega) (by (try dsimp only); omega) h81 ⟨n, tn, ep, vs, c, N1, hvs, rfl⟩ hl ⟨rfl, _, rfl, congrArg (fun z => some (Value.str z _)) lit0, rfl, trivial⟩ ?_ ?_ ?_
  · rintro c₀ r m₁ h tk t T1 hR1 hN1 ⟨hJ, t1, hm⟩ hr F2 A2
    obtain ⟨n2, tn2, ep2, vs2, c2, N2, hvs2, hn2⟩ := id A2
    have F3 := frHas F2 hm; dsimp only [kstB] at F3
    clear F1 N1 F2 hm
    cases hw : ws c₀ with
    | true =>
      k_steps
      rename Fr _ _ _ _ => F5
      rename News _ _ _ _ => N5
      (try dsimp only)
      exact (hN1 _ (.inl ⟨_, _, _, r, rfl, F5, Nat.le_refl _, ⟨n2, tn2, ep2, vs2, c2, N5, hvs2, hn2⟩, hJ.trans (if_pos hw), _, rfl, rfl, rfl, trivial⟩)).2
    | false =>
      by_cases h34 : c₀ = 34
      · subst h34
        k_steps
        refine unhold ?_
        refine wpAny_For ?_
        k_steps
        refine unhold ?_
        rename Fr _ _ _ _ => F6
        rename News _ _ _ _ => N6
        refine pyIter_ci (newsGet N6 _ (List.mem_cons_self ..)) ?_
        refine forCI (l0 := r) (J := InJ la.x I inQ l) (Xe := fun m => ∃ acc t, tokL l = (acc, []) ∧ Has m [(Str.ofString "self", .ref la.x), (Str.ofString "token", .str (S acc) t), (Str.ofString "fiter", .ref I)]) RC hf hpq hqI B' F6 X' T' rfl (by (try dsimp only); omega) (by (try dsimp only); omega) h81 ⟨n2, tn2, ep2, vs2, c2, N6, hvs2, hn2⟩ (by ((try simp only [List.length_nil]); omega)) ⟨[], _, by rw [hJ]; simp [tokL, hw], by ((try simp only [List.length_nil]); omega), rfl, rfl, rfl, trivial⟩ ?_ ?_ ?_
        · rintro c₁ r₁ m₂ h6 tk6 t6 T2 hR2 hN2 ⟨acc, t7, hacc, hlen, hm⟩ hr1 F2 A2
          obtain ⟨n3, tn3, ep3, vs3, c3, N3, hvs3, hn3⟩ := id A2
          have F3 := frHas F2 hm; dsimp only [kstB] at F3
          have hal : acc.length ≤ 4000 := by omega
          rw [List.length_cons] at hlen
          clear F6 N6 F2 hm
          by_cases d34 : c₁ = 34
          · subst d34
            k_steps
            rename Fr _ _ _ _ => F7
            rename News _ _ _ _ => N7
            (try dsimp only)
            refine hR2 _ _ ?_
            (try dsimp only)
            refine hR1 _ _ ?_
            (try dsimp only)
            refine hQk _ _ ?_
            (try dsimp only)
            have eT : tokL l = (acc, r₁) := by rw [hacc, inQ_end, List.append_nil]
            exact tok_leave F7 N7 (fun q hq => .tail _ (.tail _ hq)) hid' eT hvs3 hn3 hret
          k_steps
          refine unhold ?_
          refine mid_join (s := s) (nxt := inQ) (acc := acc) (r := r₁) (l := l) A2 ?_ ?_
          · refine wpAny_If ?_
            by_cases d92 : c₁ = 92
            · subst d92
              k_steps
              refine unhold ?_
              refine wpAny_call ?_
              rename Fr _ _ _ _ => F7
              rename News _ _ _ _ => N7
              (try dsimp only)
              refine read_alive RC hf hpq hqI B' F7 X' T' rfl (by (try dsimp only); omega) (by (try dsimp only); omega) ⟨n3, tn3, ep3, vs3, c3, N7, hvs3, hn3⟩ (by omega) fun h8 tk8 t8 F8 A8 => ?_
              obtain ⟨n4, tn4, ep4, vs4, c4, N4, hvs4, hn4⟩ := id A8
              have htl : (r₁.take 1).length + r₁.tail.length = r₁.length := by cases r₁ <;> simp; omega
              clear F7 N7
              (try dsimp only)
              k_steps
              rename Fr _ _ _ _ => F9
              rename News _ _ _ _ => N9
              exact ⟨rfl, _, _, _, r₁.tail, r₁.take 1, _, _, rfl, F9, ⟨rfl, rfl, rfl, rfl, trivial⟩, by omega, by omega, ⟨n4, tn4, ep4, vs4, c4, N9, hvs4, hn4⟩, by rw [hacc, inQ_esc]; simp⟩
            · k_steps
              rename Fr _ _ _ _ => F9
              rename News _ _ _ _ => N9
              exact ⟨rfl, _, _, _, r₁, [c₁], _, _, rfl, F9, ⟨rfl, rfl, rfl, rfl, trivial⟩, Nat.le_refl _, by rw [List.length_singleton]; omega, ⟨n3, tn3, ep3, vs3, c3, N9, hvs3, hn3⟩, by rw [hacc, inQ_sign _ d34 d92]; simp⟩
          · rename Fr _ _ _ _ => Fo
            rename News _ _ _ _ => No
            clear Fo No
            rintro f5 s5 ⟨rfl, h5, tk5, m5, r5, ch5, t5, u5, rfl, F5, hm5, hr5, hl5, A5, hacc5⟩
            obtain ⟨n4, tn4, ep4, vs4, c4, N4, hvs4, hn4⟩ := id A5
            have F3 := frHas F5 hm5; dsimp only [kstB] at F3
            clear F5 hm5
            (try dsimp only)
            k_steps
            rename Fr _ _ _ _ => F9
            rename News _ _ _ _ => N9
            (try dsimp only)
            exact (hN2 _ (.inl ⟨_, _, _, r5, rfl, F9, hr5, ⟨n4, tn4, ep4, vs4, c4, N9, hvs4, hn4⟩, acc ++ ch5, _, hacc5, by rw [List.length_append]; omega, rfl, rfl, rfl, trivial⟩)).1
        · rintro m2 ⟨acc, t7, hacc, hlen, hm⟩
          exact ⟨acc, t7, by rw [hacc]; simp [inQ], hm⟩
        · rintro h6 tk6 m2 ⟨acc, t7, hacc, hm⟩ F2 E2
          obtain ⟨n3, tn3, ep3, vs3, c3, N3, hvs3, hn3⟩ := id E2
          have F3 := frHas F2 hm; dsimp only [kstB] at F3
          clear F6 N6 F2
          (try dsimp only)
          k_steps
          rename Fr _ _ _ _ => F7
          rename News _ _ _ _ => N7
          (try dsimp only)
          exact (hN1 _ (.inr ⟨_, _, _, rfl, F7, ⟨n3, tn3, ep3, vs3, c3, N7, hvs3, hn3⟩, acc, t7, hacc, rfl, trivial⟩)).1
      · k_steps
        refine unhold ?_
        refine mid_join (s := s) (nxt := inN) (acc := []) (r := r) (l := l) A2 ?_ ?_
        · refine wpAny_If ?_
          by_cases h92 : c₀ = 92
          · subst h92
            k_steps
            refine unhold ?_
            refine wpAny_call ?_
            rename Fr _ _ _ _ => F7
            rename News _ _ _ _ => N7
            (try dsimp only)
            refine read_alive RC hf hpq hqI B' F7 X' T' rfl (by (try dsimp only); omega) (by (try dsimp only); omega) ⟨n2, tn2, ep2, vs2, c2, N7, hvs2, hn2⟩ (by omega) fun h8 tk8 t8 F8 A8 => ?_
            have htl : (r.take 1).length + r.tail.length = r.length := by cases r <;> simp; omega
            obtain ⟨n4, tn4, ep4, vs4, c4, N4, hvs4, hn4⟩ := id A8
            clear F7 N7
            (try dsimp only)
            k_steps
            rename Fr _ _ _ _ => F9
            rename News _ _ _ _ => N9
            exact ⟨rfl, _, _, _, r.tail, r.take 1, _, _, rfl, F9, ⟨rfl, rfl, rfl, rfl, trivial⟩, by omega, by omega, ⟨n4, tn4, ep4, vs4, c4, N9, hvs4, hn4⟩, by rw [hJ]; simp [tokL, ws92]⟩
          · k_steps
            rename Fr _ _ _ _ => F9
            rename News _ _ _ _ => N9
            exact ⟨rfl, _, _, _, r, [c₀], _, _, rfl, F9, ⟨rfl, rfl, rfl, rfl, trivial⟩, Nat.le_refl _, by rw [List.length_singleton]; omega, ⟨n2, tn2, ep2, vs2, c2, N9, hvs2, hn2⟩, by rw [hJ]; simp [tokL, hw, h34, h92]⟩
        · rename Fr _ _ _ _ => Fo
          rename News _ _ _ _ => No
          clear Fo No
          rintro f5 s5 ⟨rfl, h5, tk5, m5, r5, ch5, t5, u5, rfl, F5, hm5, hr5, hl5, A5, hacc5⟩
          obtain ⟨n4, tn4, ep4, vs4, c4, N4, hvs4, hn4⟩ := id A5
          have F3 := frHas F5 hm5; dsimp only [kstB] at F3
          clear F5 hm5
          (try dsimp only)
          k_steps
          refine unhold ?_
          refine wpAny_For ?_
          k_steps
          refine unhold ?_
          rename Fr _ _ _ _ => F6
          rename News _ _ _ _ => N6
          refine pyIter_ci (newsGet N6 _ (List.mem_cons_self ..)) ?_
          refine forCI (l0 := r5) (J := InJ la.x I inN l) (Xe := fun m => ∃ acc t, tokL l = (acc, []) ∧ Has m [(Str.ofString "self", .ref la.x), (Str.ofString "token", .str (S acc) t), (Str.ofString "fiter", .ref I)]) RC hf hpq hqI B' F6 X' T' rfl (by (try dsimp only); omega) (by (try dsimp only); omega) h81 ⟨n4, tn4, ep4, vs4, c4, N6, hvs4, hn4⟩ (by omega) ⟨[] ++ ch5, _, hacc5, by (rw [List.nil_append]; omega), rfl, rfl, rfl, trivial⟩ ?_ ?_ ?_
          · rintro c₁ r₁ m₂ h6 tk6 t6 T2 hR2 hN2 ⟨acc, t7, hacc, hlen, hm⟩ hr1 F2 A2
            obtain ⟨n3, tn3, ep3, vs3, c3, N3, hvs3, hn3⟩ := id A2
            have F3 := frHas F2 hm; dsimp only [kstB] at F3
            have hal : acc.length ≤ 4000 := by omega
            rw [List.length_cons] at hlen
            clear F6 N6 F2 hm
            cases hw1 : ws c₁ with
            | true =>
              k_steps
              rename Fr _ _ _ _ => F7
              rename News _ _ _ _ => N7
              (try dsimp only)
              refine hR2 _ _ ?_
              (try dsimp only)
              refine hR1 _ _ ?_
              (try dsimp only)
              refine hQk _ _ ?_
              (try dsimp only)
              have eT : tokL l = (acc, r₁) := by rw [hacc, inN_end _ hw1, List.append_nil]
              exact tok_leave F7 N7 (fun q hq => .tail _ (.tail _ hq)) hid' eT hvs3 hn3 hret
            | false =>
              k_steps
              refine unhold ?_
              refine mid_join (s := s) (nxt := inN) (acc := acc) (r := r₁) (l := l) A2 ?_ ?_
              · refine wpAny_If ?_
                by_cases d92 : c₁ = 92
                · subst d92
                  k_steps
                  refine unhold ?_
                  refine wpAny_call ?_
                  rename Fr _ _ _ _ => F7
                  rename News _ _ _ _ => N7
                  (try dsimp only)
                  refine read_alive RC hf hpq hqI B' F7 X' T' rfl (by (try dsimp only); omega) (by (try dsimp only); omega) ⟨n3, tn3, ep3, vs3, c3, N7, hvs3, hn3⟩ (by omega) fun h8 tk8 t8 F8 A8 => ?_
                  obtain ⟨n4, tn4, ep4, vs4, c4, N4, hvs4, hn4⟩ := id A8
                  have htl : (r₁.take 1).length + r₁.tail.length = r₁.length := by cases r₁ <;> simp; omega
                  clear F7 N7
                  (try dsimp only)
                  k_steps
                  rename Fr _ _ _ _ => F9
                  rename News _ _ _ _ => N9
                  exact ⟨rfl, _, _, _, r₁.tail, r₁.take 1, _, _, rfl, F9, ⟨rfl, rfl, rfl, rfl, trivial⟩, by omega, by omega, ⟨n4, tn4, ep4, vs4, c4, N9, hvs4, hn4⟩, by rw [hacc, inN_esc]; simp⟩
                · k_steps
                  rename Fr _ _ _ _ => F9
                  rename News _ _ _ _ => N9
                  exact ⟨rfl, _, _, _, r₁, [c₁], _, _, rfl, F9, ⟨rfl, rfl, rfl, rfl, trivial⟩, Nat.le_refl _, by rw [List.length_singleton]; omega, ⟨n3, tn3, ep3, vs3, c3, N9, hvs3, hn3⟩, by rw [hacc, inN_sign _ hw1 d92]; simp⟩
              · rename Fr _ _ _ _ => Fo
                rename News _ _ _ _ => No
                clear Fo No
                rintro f5 s5 ⟨rfl, h5, tk5, m5, r5, ch5, t5, u5, rfl, F5, hm5, hr5, hl5, A5, hacc5⟩
                obtain ⟨n4, tn4, ep4, vs4, c4, N4, hvs4, hn4⟩ := id A5
                have F3 := frHas F5 hm5; dsimp only [kstB] at F3
                clear F5 hm5
                (try dsimp only)
                k_steps
                rename Fr _ _ _ _ => F9
                rename News _ _ _ _ => N9
                (try dsimp only)
                exact (hN2 _ (.inl ⟨_, _, _, r5, rfl, F9, hr5, ⟨n4, tn4, ep4, vs4, c4, N9, hvs4, hn4⟩, acc ++ ch5, _, hacc5, by rw [List.length_append]; omega, rfl, rfl, rfl, trivial⟩)).1
          · rintro m2 ⟨acc, t7, hacc, hlen, hm⟩
            exact ⟨acc, t7, by rw [hacc]; simp [inN], hm⟩
          · rintro h6 tk6 m2 ⟨acc, t7, hacc, hm⟩ F2 E2
            obtain ⟨n3, tn3, ep3, vs3, c3, N3, hvs3, hn3⟩ := id E2
            have F3 := frHas F2 hm; dsimp only [kstB] at F3
            clear F6 N6 F2
            (try dsimp only)
            k_steps
            rename Fr _ _ _ _ => F7
            rename News _ _ _ _ => N7
            (try dsimp only)
            exact (hN1 _ (.inr ⟨_, _, _, rfl, F7, ⟨n3, tn3, ep3, vs3, c3, N7, hvs3, hn3⟩, acc, t7, hacc, rfl, trivial⟩)).1
  · rintro m ⟨hJ, t1, hm⟩
    exact ⟨[], t1, hJ, hm.2.1, trivial⟩
  · rintro h tk m₁ ⟨acc, t1, hacc, hm⟩ F2 ⟨n2, tn2, ep2, vs2, c2, N2, hvs2, hn2⟩
    have F3 := frHas F2 hm; dsimp only [kstB] at F3
    clear F1 N1 F2 hm
    (try dsimp only)
    k_steps
    refine hQk _ _ ?_
    (try dsimp only)
    exact tok_leave F3 N2 (fun q hq => .tail _ (.tail _ hq)) hid' hacc hvs2 (by simpa using hn2) hret
end

section
noncomputable def cl (l : List Nat) : Rows := (runR l).clear
noncomputable def wi (l : List Nat) : Rows := (runR l).within
noncomputable def ba (l : List Nat) : Rows := (runR l).bare
noncomputable def nk (c : Nat) (r : List Nat) : Rows := [here1 c :: ((ba r).headD []).headD []] :: (ba r).tail
theorem cl_nil : cl [] = [] := rfl
theorem wi_nil : wi [] = [[[]]] := rfl
theorem ba_nil : ba [] = [[[]]] := rfl
theorem cl_cons (c : Nat) (r : List Nat) : cl (c :: r) = if c = 32 then cl r else if c = 34 then wi r else nk c r := rfl
theorem ba_cons (c : Nat) (r : List Nat) : ba (c :: r) = if c = 32 then [[]] :: cl r else nk c r := rfl
theorem wi_two (r : List Nat) : wi (34 :: 34 :: r) = ([] :: (wi r).headD []) :: (wi r).tail := rfl
theorem later_is (r : List Nat) : (runR r).later = [34] ↔ ∃ q, r = 34 :: q := by
  cases r with
  | nil => simp [runR, initR]
  | cons c q =>
    show [c] = [34] ↔ _
    simp
theorem wi_close {r : List Nat} (h : ∀ q, r ≠ 34 :: q) : wi (34 :: r) = [[]] :: cl r := by
  show insideR 34 (runR r) = _
  unfold insideR
  rw [if_neg (fun e => by obtain ⟨q, hq⟩ := (later_is r).mp e.2; exact h q hq), if_pos rfl]
  rfl
theorem wi_sign {c : Nat} (r : List Nat) (h : c ≠ 34) : wi (c :: r) = ((here1 c :: ((wi r).headD []).headD []) :: ((wi r).headD []).tail) :: (wi r).tail := by
  show insideR c (runR r) = _
  unfold insideR
  rw [if_neg (fun e => h e.1), if_neg h]
  rfl
theorem wi_form (l : List Nat) : ∃ w0 wr W, wi l = (w0 :: wr) :: W := (fine_run l).w
theorem ba_form : ∀ l : List Nat, ∃ w W, ba l = [w] :: W
  | [] => ⟨[], [], rfl⟩
  | c :: r => by
    rw [ba_cons]
    split
    · exact ⟨_, _, rfl⟩
    · exact ⟨_, _, rfl⟩

/-- a sign of the hidden text as the lexer gets it -/
noncomputable def esc (c : Nat) : List Nat := if c = 81 then [92, 34] else if c = 66 then [92, 92] else if c = 83 then [92, 32] else if c = 76 then [92, 10] else [c]
noncomputable def Alpha (c : Nat) : Prop := c ∈ [97, 34, 32, 81, 66, 83, 76]
theorem esc_two {c : Nat} (h : Alpha c) : (esc c = [c] ∧ here1 c = c ∧ (c = 97 ∨ c = 34 ∨ c = 32)) ∨ (esc c = [92, here1 c] ∧ c ≠ 34 ∧ c ≠ 32) := by
  simp only [Alpha, List.mem_cons, List.not_mem_nil, or_false] at h
  rcases h with rfl | rfl | rfl | rfl | rfl | rfl | rfl
  · exact .inl ⟨rfl, rfl, by simp⟩
  · exact .inl ⟨rfl, rfl, by simp⟩
  · exact .inl ⟨rfl, rfl, by simp⟩
  all_goals exact .inr ⟨rfl, by decide, by decide⟩

/-- the tokens of s are W, and then nothing more -/
noncomputable def Toks : List Nat → List (List Nat) → Prop
  | s, [] => tokL s = ([], [])
  | s, w :: W => (tokL s).1 = w ∧ Toks (tokL s).2 W
theorem toks_eq {s s' : List Nat} (h : tokL s = tokL s') : ∀ W, Toks s' W → Toks s W
  | [], H => by show tokL s = _; rw [h]; exact H
  | w :: W, H => by show (tokL s).1 = w ∧ Toks (tokL s).2 W; rw [h]; exact H

theorem toks_all (T : List Nat) (hT : T = [] ∨ T = [92]) : ∀ (n : Nat) (l : List Nat), l.length ≤ n → (∀ c ∈ l, Alpha c) →
    Toks (l.flatMap esc ++ T) (cl l).flatten ∧
    (∀ w0 wr W, wi l = (w0 :: wr) :: W → (inQ (l.flatMap esc ++ T)).1 = w0 ∧ Toks (inQ (l.flatMap esc ++ T)).2 (wr ++ W.flatten)) ∧
    (∀ w W, ba l = [w] :: W → (inN (l.flatMap esc ++ T)).1 = w ∧ Toks (inN (l.flatMap esc ++ T)).2 W.flatten) := by
  have tT : tokL T = ([], []) := by rcases hT with rfl | rfl <;> rfl
  have qT : inQ T = ([], []) := by rcases hT with rfl | rfl <;> rfl
  have nT : inN T = ([], []) := by rcases hT with rfl | rfl <;> rfl
  have t0 : tokL [] = ([], []) := rfl
  intro n
  induction n with
  | zero =>
    intro l hl _
    have e : l = [] := List.length_eq_zero_iff.mp (by omega)
    subst e
    refine ⟨tT, fun w0 wr W h => ?_, fun w W h => ?_⟩
    · rw [wi_nil] at h
      cases h
      show (inQ T).1 = [] ∧ Toks (inQ T).2 []
      rw [qT]; exact ⟨rfl, t0⟩
    · rw [ba_nil] at h
      cases h
      show (inN T).1 = [] ∧ Toks (inN T).2 []
      rw [nT]; exact ⟨rfl, t0⟩
  | succ n ih =>
    intro l hl ha
    cases l with
    | nil => exact (fun h => h) (by
        refine ⟨tT, fun w0 wr W h => ?_, fun w W h => ?_⟩
        · rw [wi_nil] at h
          cases h
          show (inQ T).1 = [] ∧ Toks (inQ T).2 []
          rw [qT]; exact ⟨rfl, t0⟩
        · rw [ba_nil] at h
          cases h
          show (inN T).1 = [] ∧ Toks (inN T).2 []
          rw [nT]; exact ⟨rfl, t0⟩)
    | cons c r =>
      have hr : r.length ≤ n := by simpa using hl
      have har : ∀ d ∈ r, Alpha d := fun d hd => ha d (List.mem_cons_of_mem _ hd)
      obtain ⟨i1, i2, i3⟩ := ih r hr har
      have hc := ha c (List.mem_cons_self ..)
      obtain ⟨w0, wr, W, hw⟩ := wi_form r
      obtain ⟨b0, B, hb⟩ := ba_form r
      obtain ⟨q1, q2⟩ := i2 w0 wr W hw
      obtain ⟨n1, n2⟩ := i3 b0 B hb
      have ef : (c :: r).flatMap esc ++ T = esc c ++ (r.flatMap esc ++ T) := by simp
      have hnk : nk c r = [here1 c :: b0] :: B := by simp [nk, hb]
      rw [ef]
      generalize hs : r.flatMap esc ++ T = s at *
      refine ⟨?_, fun v0 vr V hv => ?_, fun v V hv => ?_⟩
      · rw [cl_cons]
        by_cases c32 : c = 32
        · subst c32
          rw [if_pos rfl]
          exact toks_eq (s := 32 :: s) (by rw [tokL]; rfl) _ i1
        · rw [if_neg c32]
          by_cases c34 : c = 34
          · subst c34
            rw [if_pos rfl, hw]
            show (tokL (34 :: s)).1 = w0 ∧ Toks (tokL (34 :: s)).2 (wr ++ W.flatten)
            have e : tokL (34 :: s) = inQ s := rfl
            rw [e]; exact ⟨q1, q2⟩
          · rw [if_neg c34, hnk]
            show (tokL (esc c ++ s)).1 = here1 c :: b0 ∧ Toks (tokL (esc c ++ s)).2 B.flatten
            rcases esc_two hc with ⟨e1, e2, e3⟩ | ⟨e1, e2, e3⟩
            · have e97 : c = 97 := by omega
              subst e97
              have e : tokL (97 :: s) = (97 :: (inN s).1, (inN s).2) := rfl
              show (tokL (97 :: s)).1 = _ ∧ Toks (tokL (97 :: s)).2 _
              rw [e, e2]; exact ⟨by rw [← n1], n2⟩
            · rw [e1]
              have e : tokL (92 :: here1 c :: s) = (here1 c :: (inN s).1, (inN s).2) := rfl
              show (tokL (92 :: here1 c :: s)).1 = _ ∧ Toks (tokL (92 :: here1 c :: s)).2 _
              rw [e]; exact ⟨by rw [← n1], n2⟩
      · by_cases c34 : c = 34
        · subst c34
          show (inQ (34 :: s)).1 = v0 ∧ Toks (inQ (34 :: s)).2 _
          rw [inQ_end]
          by_cases hq : ∃ q, r = 34 :: q
          · obtain ⟨q, rfl⟩ := hq
            obtain ⟨u0, ur, U, hu⟩ := wi_form q
            rw [wi_two, hu] at hv
            cases hv
            refine ⟨rfl, ?_⟩
            have hql : q.length ≤ n := by simp at hr; omega
            obtain ⟨_, j2, _⟩ := ih q hql fun d hd => har d (List.mem_cons_of_mem _ hd)
            obtain ⟨k1, k2⟩ := j2 u0 ur U hu
            have es : s = 34 :: (q.flatMap esc ++ T) := by rw [← hs]; simp [esc]
            rw [es]
            show (tokL (34 :: (q.flatMap esc ++ T))).1 = u0 ∧ Toks (tokL (34 :: (q.flatMap esc ++ T))).2 (ur ++ U.flatten)
            have e : tokL (34 :: (q.flatMap esc ++ T)) = inQ (q.flatMap esc ++ T) := rfl
            rw [e]; exact ⟨k1, k2⟩
          · rw [wi_close fun q e => hq ⟨q, e⟩] at hv
            cases hv
            exact ⟨rfl, i1⟩
        · rw [wi_sign r c34, hw] at hv
          cases hv
          rcases esc_two hc with ⟨e1, e2, e3⟩ | ⟨e1, e2, e3⟩
          · rw [e1]
            show (inQ (c :: s)).1 = _ ∧ Toks (inQ (c :: s)).2 _
            rw [inQ_sign s c34 (by omega), e2]
            exact ⟨by simp [q1], q2⟩
          · rw [e1]
            show (inQ (92 :: here1 c :: s)).1 = _ ∧ Toks (inQ (92 :: here1 c :: s)).2 _
            rw [inQ_esc]
            exact ⟨by simp [q1], q2⟩
      · rw [ba_cons] at hv
        by_cases c32 : c = 32
        · subst c32
          rw [if_pos rfl] at hv
          cases hv
          show (inN (32 :: s)).1 = _ ∧ Toks (inN (32 :: s)).2 _
          rw [inN_end s rfl]
          exact ⟨rfl, i1⟩
        · rw [if_neg c32, hnk] at hv
          cases hv
          rcases esc_two hc with ⟨e1, e2, e3⟩ | ⟨e1, e2, e3⟩
          · rw [e1]
            have hws : ws c = false := by rcases e3 with rfl | rfl | rfl <;> first | rfl | exact absurd rfl c32
            show (inN (c :: s)).1 = _ ∧ Toks (inN (c :: s)).2 _
            rw [inN_sign s hws (by omega), e2]
            exact ⟨by simp [n1], n2⟩
          · rw [e1]
            show (inN (92 :: here1 c :: s)).1 = _ ∧ Toks (inN (92 :: here1 c :: s)).2 _
            rw [inN_esc]
            exact ⟨by simp [n1], n2⟩
end

section
theorem meant_append (z a b : List Nat) : meant z (a ++ b) = meant z a ++ meant z b := by simp [meant, put_append]
theorem meant_cons (z : List Nat) (c : Nat) (l : List Nat) : meant z (c :: l) = meant z [c] ++ meant z l := meant_append z [c] l
theorem meant_map : ∀ l : List Nat, meant [] l = l.map here1
  | [] => rfl
  | c :: l => by rw [meant_cons, meant_one, meant_map l]; rfl
theorem meant_esc1 (c : Nat) : meant [92] [c] = esc c := by
  unfold meant esc
  by_cases h1 : c = 81
  · subst h1; decide
  · by_cases h2 : c = 66
    · subst h2; decide
    · by_cases h3 : c = 83
      · subst h3; decide
      · by_cases h4 : c = 76
        · subst h4; decide
        · simp [put, h1, h2, h3, h4]
theorem meant_esc : ∀ l : List Nat, meant [92] l = l.flatMap esc
  | [] => rfl
  | c :: l => by rw [meant_cons, meant_esc1, meant_esc l]; rfl
theorem count_esc : ∀ l : List Nat, (∀ c ∈ l, Alpha c) → (l.flatMap esc).count 10 = l.count 76
  | [], _ => rfl
  | c :: l, h => by
    rw [List.flatMap_cons, List.count_append, count_esc l fun d hd => h d (List.mem_cons_of_mem _ hd), List.count_cons]
    have hc := h c (List.mem_cons_self ..)
    simp only [Alpha, List.mem_cons, List.not_mem_nil, or_false] at hc
    rcases hc with rfl | rfl | rfl | rfl | rfl | rfl | rfl <;> simp [esc]
    omega

/-- where the row that begins a quoted text ends -/
noncomputable def goneQ (r : List Nat) : Nat := 1 + (nameL r).length + (nameL r).count 34
theorem ba_is : ∀ r : List Nat, ba r = [(r.takeWhile (· ≠ 32)).map here1] :: cl (r.dropWhile (· ≠ 32))
  | [] => rfl
  | c :: r => by
    rw [ba_cons]
    by_cases h : c = 32
    · subst h
      rw [if_pos rfl]
      simp [cl_cons]
    · rw [if_neg h]
      have ih := ba_is r
      simp [nk, ih, h]
theorem wi_is : ∀ (n : Nat) (r : List Nat), r.length ≤ n → wi r = ((splitL 34 (nameL r)).map fun w => w.map here1) :: cl (r.drop (goneQ r)) := by
  intro n
  induction n with
  | zero =>
    intro r hr
    have e : r = [] := List.length_eq_zero_iff.mp (by omega)
    subst e; rfl
  | succ n ih =>
    intro r hr
    cases r with
    | nil => rfl
    | cons c r =>
      have hr' : r.length ≤ n := by simpa using hr
      by_cases h34 : c = 34
      · subst h34
        by_cases hq : ∃ q, r = 34 :: q
        · obtain ⟨q, rfl⟩ := hq
          have hq' : q.length ≤ n := by simp at hr'; omega
          rw [wi_two, ih q hq', nameL_two]
          have e1 : goneQ (34 :: 34 :: q) = goneQ q + 2 := by simp [goneQ, nameL_two]; omega
          rw [e1]
          have e2 : splitL 34 (34 :: nameL q) = [] :: splitL 34 (nameL q) := by simp [splitL]
          rw [e2]
          rfl
        · rw [wi_close fun q e => hq ⟨q, e⟩]
          have e1 : nameL (34 :: r) = [] := by
            cases r with
            | nil => exact nameL_end
            | cons d q => exact nameL_out q fun e => hq ⟨q, by rw [e]⟩
          simp [goneQ, e1, splitL]
      · rw [wi_sign r h34, ih r hr', nameL_other r h34]
        have e1 : goneQ (c :: r) = goneQ r + 1 := by
          simp only [goneQ, nameL_other r h34, List.length_cons, List.count_cons]
          simp [h34]
          omega
        rw [e1]
        obtain ⟨p, q, e⟩ := splitL_ne 34 (nameL r)
        have e2 : splitL 34 (c :: nameL r) = (c :: p) :: q := by
          have : splitL 34 (c :: nameL r) = if c = 34 then [] :: splitL 34 (nameL r) else (c :: (splitL 34 (nameL r)).headD []) :: (splitL 34 (nameL r)).tail := rfl
          rw [this, if_neg h34, e]; rfl
        rw [e2, e]
        rfl
theorem cl_blank : ∀ l : List Nat, cl (l.dropWhile (· == 32)) = cl l
  | [] => rfl
  | c :: r => by
    by_cases h : c = 32
    · subst h
      have ih := cl_blank r
      simp [cl_cons, ih]
    · simp [h]
theorem read_is : ∀ (n : Nat) (l : List Nat), l.length < n → readN n l = cl l := by
  intro n
  induction n with
  | zero => intro l h; omega
  | succ n ih =>
    intro l hl
    have hd : (l.dropWhile (· == 32)).length ≤ l.length := (List.dropWhile_sublist _).length_le
    rw [← cl_blank l]
    show (if l.dropWhile (· == 32) = [] then [] else (rowAt (l.dropWhile (· == 32))).1.map (meant []) :: readN n ((l.dropWhile (· == 32)).drop (rowAt (l.dropWhile (· == 32))).2)) = _
    have hne : ∀ c r, l.dropWhile (· == 32) = c :: r → c ≠ 32 := by
      intro c r e h
      have := List.head?_dropWhile_not (p := (· == 32)) l
      rw [e] at this
      simp [h] at this
    generalize l.dropWhile (· == 32) = q at *
    cases q with
    | nil => rfl
    | cons c r =>
      rw [if_neg (by simp)]
      have hc := hne c r rfl
      simp only [List.length_cons] at hd
      have hm : ∀ ws : List (List Nat), ws.map (meant []) = ws.map fun w => w.map here1 := fun ws => List.map_congr_left fun w _ => meant_map w
      rw [cl_cons, if_neg hc, hm]
      by_cases h34 : c = 34
      · subst h34
        rw [if_pos rfl, wi_is _ r (Nat.le_refl _)]
        have e1 : rowAt (34 :: r) = (splitL 34 (nameL r), 2 + (nameL r).length + (nameL r).count 34) := rfl
        rw [e1]
        dsimp only
        have e2 : 2 + (nameL r).length + (nameL r).count 34 = goneQ r + 1 := by unfold goneQ; omega
        rw [e2, List.drop_succ_cons, ih _ (by rw [List.length_drop]; omega)]
      · rw [if_neg h34]
        have e1 : rowAt (c :: r) = ([(c :: r).takeWhile (· ≠ 32)], ((c :: r).takeWhile (· ≠ 32)).length) := if_neg h34
        rw [e1]
        dsimp only
        have e3 : (c :: r).takeWhile (· ≠ 32) = c :: r.takeWhile (· ≠ 32) := by simp [hc]
        rw [e3, List.length_cons, List.drop_succ_cons]
        have e4 : r.drop (r.takeWhile (· ≠ 32)).length = r.dropWhile (· ≠ 32) := by
          have h9 := List.drop_left (l₁ := r.takeWhile (· ≠ 32)) (l₂ := r.dropWhile (· ≠ 32))
          rw [List.takeWhile_append_dropWhile] at h9
          exact h9
        rw [e4, ih _ (by have := (List.dropWhile_sublist (fun x => decide (x ≠ 32)) (l := r)).length_le; omega)]
        simp [nk, ba_is]
theorem readOf_is (l : List Nat) : readOf l = rowsOf l := read_is _ l (Nat.lt_succ_self _)

/-- n tokens, and what is left -/
noncomputable def toksL : Nat → List Nat → List (List Nat)
  | 0, _ => []
  | n + 1, s => (tokL s).1 :: toksL n (tokL s).2
noncomputable def restL : Nat → List Nat → List Nat
  | 0, s => s
  | n + 1, s => restL n (tokL s).2
theorem toks_list : ∀ (W : List (List Nat)) (s : List Nat), Toks s W → toksL (W.length + 2) s = W ++ [[], []] ∧ restL (W.length + 2) s = []
  | [], s, h => by
    have h' : tokL s = ([], []) := h
    show (tokL s).1 :: (tokL (tokL s).2).1 :: [] = _ ∧ (tokL (tokL s).2).2 = []
    rw [h']
    exact ⟨rfl, rfl⟩
  | w :: W, s, h => by
    obtain ⟨h1, h2⟩ := h
    obtain ⟨i1, i2⟩ := toks_list W _ h2
    refine ⟨?_, i2⟩
    show (tokL s).1 :: toksL (W.length + 2) (tokL s).2 = _
    rw [h1, i1]; rfl
/-- what the lexer gets -/
noncomputable def signsOf (l : List Nat) : List Nat := meant [92] l ++ (if l.length % 2 = 1 then [92] else [])
theorem law_toks (l : List Nat) (h : ∀ c ∈ l, Alpha c) : toksL ((rowsOf l).flatten.length + 2) (signsOf l) = (rowsOf l).flatten ++ [[], []] ∧ restL ((rowsOf l).flatten.length + 2) (signsOf l) = [] := by
  refine toks_list _ _ ?_
  unfold signsOf
  rw [meant_esc]
  exact (toks_all _ (by split <;> simp) _ l (Nat.le_refl _) h).1
theorem law_lines (l : List Nat) (h : ∀ c ∈ l, Alpha c) : (signsOf l).count 10 = l.count 76 := by
  unfold signsOf
  rw [meant_esc, List.count_append, count_esc l h]
  split <;> simp
theorem signs_len (l : List Nat) : (signsOf l).length ≤ 2 * l.length + 1 := by
  unfold signsOf
  rw [meant_esc, List.length_append]
  have key : ∀ l : List Nat, (l.flatMap esc).length ≤ 2 * l.length := by
    intro l
    induction l with
    | nil => simp
    | cons c r ih =>
      rw [List.flatMap_cons, List.length_append, List.length_cons]
      have h1 : (esc c).length ≤ 2 := by
        unfold esc
        repeat' split
        all_goals simp
      omega
  have h1 := key l
  have h2 : (if l.length % 2 = 1 then [92] else [] : List Nat).length ≤ 1 := by split <;> simp
  omega
theorem tokL_len : ∀ (s : List Nat), (tokL s).2.length ≤ s.length := by
  have q : ∀ n (s : List Nat), s.length ≤ n → (inQ s).2.length ≤ s.length ∧ (inN s).2.length ≤ s.length := by
    intro n
    induction n with
    | zero =>
      intro s h
      have e : s = [] := List.length_eq_zero_iff.mp (by omega)
      subst e; exact ⟨Nat.le_refl _, Nat.le_refl _⟩
    | succ n ih =>
      intro s h
      cases s with
      | nil => exact ⟨Nat.le_refl _, Nat.le_refl _⟩
      | cons c r =>
        have hr : r.length ≤ n := by simpa using h
        have i0 := ih r hr
        have i1 := ih r.tail (by rw [List.length_tail]; omega)
        have ht : r.tail.length ≤ r.length := by rw [List.length_tail]; omega
        refine ⟨?_, ?_⟩
        · by_cases h34 : c = 34
          · subst h34; rw [inQ_end]; simp
          · by_cases h92 : c = 92
            · subst h92; rw [inQ_esc]; simp only [List.length_cons]; omega
            · rw [inQ_sign r h34 h92]; simp only [List.length_cons]; omega
        · cases hw : ws c with
          | true => rw [inN_end r hw]; simp
          | false =>
            by_cases h92 : c = 92
            · subst h92; rw [inN_esc]; simp only [List.length_cons]; omega
            · rw [inN_sign r hw h92]; simp only [List.length_cons]; omega
  intro s
  induction s with
  | nil => exact Nat.le_refl _
  | cons c r ih =>
    have i0 := q _ r (Nat.le_refl _)
    have i1 := q _ r.tail (Nat.le_refl _)
    have ht : r.tail.length ≤ r.length := by rw [List.length_tail]; omega
    unfold tokL
    split
    · rw [List.length_cons]; omega
    · split
      · rw [List.length_cons]; omega
      · split
        · rw [List.length_cons]; dsimp only; omega
        · rw [List.length_cons]; dsimp only; omega
end

section
section
variable {prog : Program} {w : World} {A : Around} {E : Value → Shared → Prop} {s : Shared} {R : Result → Shared → Prop}
/-- a comprehension of two clauses -/
noncomputable abbrev two (elt t1 i1 t2 i2 : PySem.Expr) (scope : Scope) (pos : Pos) : PySem.Expr := .ListComp elt [⟨t1, i1, [], 0⟩, ⟨t2, i2, [], 0⟩] scope pos
theorem compTurn_two0 (elt t1 i1 t2 i2 : PySem.Expr) (scope : Scope) (pos : Pos) (it acc : Value) (env : Env) :
    compTurn (two elt t1 i1 t2 i2 scope pos) 0 it acc env = (standAt i1.pos >>= fun _ => pyNext it >>= fun r => match r with
      | none => pure (.done .next)
      | some v => letOwnedTupleGo t1 it v >>= fun _ => assign t1 env v >>= fun _ =>
        eval i2 env >>= fun x => standAt i2.pos >>= fun _ => foldedSetIterable i2 env x >>= fun x => holding [x] (pyIter x) >>= fun it2 => runOwn (.compStart (two elt t1 i1 t2 i2 scope pos) 1 it2 acc env) env >>= fun _ =>
          again (.compLoop (two elt t1 i1 t2 i2 scope pos) 0 it acc env)) := by rfl
theorem compTurn_two1 (elt t1 i1 t2 i2 : PySem.Expr) (scope : Scope) (pos : Pos) (it acc : Value) (env : Env) :
    compTurn (two elt t1 i1 t2 i2 scope pos) 1 it acc env = (standAt i2.pos >>= fun _ => pyNext it >>= fun r => match r with
      | none => pure (.done .next)
      | some v => letOwnedTupleGo t2 it v >>= fun _ => assign t2 env v >>= fun _ =>
        (eval elt env >>= fun x => call (.builtin "list.append") [acc, x] >>= fun _ => pure ()) >>= fun _ =>
          again (.compLoop (two elt t1 i1 t2 i2 scope pos) 1 it acc env)) := by rfl
theorem loop_two1 {elt t1 i1 t2 i2 : PySem.Expr} {scope : Scope} {pos : Pos} {it acc : Value} {env : Env} (I : Nat → Shared → Prop)
    (turn : ∀ n s, I n s → wpAny (model prog w) A (pyNext it) (fun r s₁ => match r with
      | none => R (.ok .next) s₁
      | some v => wpAny (model prog w) A (assign t2 env v) (fun _ s₂ => wpAny (model prog w) A (eval elt env) (fun x s₃ =>
          wpAny (model prog w) A (call (.builtin "list.append") [acc, x]) (fun _ s₄ => ∃ m, m < n ∧ I m s₄) (fun _ _ => False) s₃)
          (fun _ _ => False) s₂) (fun _ _ => False) s₁) (fun _ _ => False) s)
    (n : Nat) (h : I n s) (ht : ∀ v, letOwnedTupleGo t2 it v = pure () := by intro _; rfl) :
    codeAny (model prog w) A (.compLoop (two elt t1 i1 t2 i2 scope pos) 1 it acc env) R s := by
  refine codeAny_loop rfl I (fun n s hI => ?_) n h
  show wpAny _ _ ((compTurn (two elt t1 i1 t2 i2 scope pos) 1 it acc env).onRaise (fun x => do noteFrame x env; theTreesLotGoes x)) _ _ s
  refine wpAny_noted ?_
  rw [compTurn_two1]
  refine wpAny_bind (wpAny_standAt (wpAny_bind (wpAny_mono (turn n s hI) (fun r s₁ h₁ => ?_) fun _ _ h' => h'.elim)))
  cases r with
  | none => exact wpAny_pure h₁
  | some v =>
    refine wpAny_bind (wpAny_of_eq (ht v) ?_)
    exact wpAny_bind (wpAny_mono h₁ (fun _ s₂ h₂ => wpAny_bind (wpAny_bind (wpAny_mono h₂ (fun x s₃ h₃ => wpAny_bind (wpAny_mono h₃
      (fun _ s₄ h₄ => wpAny_pure (wpAny_pure ⟨rfl, h₄⟩)) fun _ _ h' => h'.elim)) fun _ _ h' => h'.elim))) fun _ _ h' => h'.elim)
theorem loop_two0 {elt t1 i1 t2 i2 : PySem.Expr} {scope : Scope} {pos : Pos} {it acc : Value} {env : Env} (I : Nat → Shared → Prop)
    (turn : ∀ n s, I n s → wpAny (model prog w) A (pyNext it) (fun r s₁ => match r with
      | none => R (.ok .next) s₁
      | some v => wpAny (model prog w) A (assign t1 env v) (fun _ s₂ => wpAny (model prog w) A (eval i2 env) (fun x s₃ =>
          wpAny (model prog w) A (pyIter x) (fun it2 s₄ => codeAny (model prog w) A (.compStart (two elt t1 i1 t2 i2 scope pos) 1 it2 acc env) (fun r s₅ => match r with | .ok _ => ∃ m, m < n ∧ I m s₅ | .error _ => False) s₄) (fun _ _ => False) s₃)
          (fun _ _ => False) s₂) (fun _ _ => False) s₁) (fun _ _ => False) s)
    (n : Nat) (h : I n s) (ht : ∀ v, letOwnedTupleGo t1 it v = pure () := by intro _; rfl) (hs : ∀ x, foldedSetIterable i2 env x = pure x := by intro _; rfl) (hh : A.handled = none := by rfl) :
    codeAny (model prog w) A (.compLoop (two elt t1 i1 t2 i2 scope pos) 0 it acc env) R s := by
  refine codeAny_loop rfl I (fun n s hI => ?_) n h
  show wpAny _ _ ((compTurn (two elt t1 i1 t2 i2 scope pos) 0 it acc env).onRaise (fun x => do noteFrame x env; theTreesLotGoes x)) _ _ s
  refine wpAny_noted ?_
  rw [compTurn_two0]
  refine wpAny_bind (wpAny_standAt (wpAny_bind (wpAny_mono (turn n s hI) (fun r s₁ h₁ => ?_) fun _ _ h' => h'.elim)))
  cases r with
  | none => exact wpAny_pure h₁
  | some v =>
    refine wpAny_bind (wpAny_of_eq (ht v) ?_)
    refine wpAny_bind (wpAny_mono h₁ (fun _ s₂ h₂ => wpAny_bind (wpAny_mono h₂ (fun x s₃ h₃ => ?_) fun _ _ h' => h'.elim)) fun _ _ h' => h'.elim)
    refine wpAny_bind (wpAny_standAt (wpAny_bind (wpAny_of_eq (hs x) ?_)))
    refine wpAny_bind (wpAny_holding (wpAny_mono h₃ (fun it2 s₄ h₄ => ?_) fun _ _ h' => h'.elim))
    refine wpAny_bind (wpAny_runOwn (codeAny_mono h₄ fun r s₅ h₅ => ?_))
    cases r with
    | ok f => exact wpAny_pure ⟨rfl, h₅⟩
    | error e => exact h₅.elim
theorem start_two1 {elt t1 i1 t2 i2 : PySem.Expr} {scope : Scope} {pos : Pos} {it acc : Value} {env : Env}
    (h0 : codeAny (model prog w) A (.compLoop (two elt t1 i1 t2 i2 scope pos) 1 it acc env) R s)
    (h : wpAny (model prog w) A (pyIter it) (fun it' s' => codeAny (model prog w) A (.compLoop (two elt t1 i1 t2 i2 scope pos) 1 it' acc env) R s')
      (fun _ _ => False) s) :
    codeAny (model prog w) A (.compStart (two elt t1 i1 t2 i2 scope pos) 1 it acc env) R s := by
  refine codeAny_of_tree ?_
  show wpAny _ _ ((compStart (two elt t1 i1 t2 i2 scope pos) 1 it acc env).onRaise (fun x => do noteFrame x env; standAt theWindowsPlace)) _ _ s
  refine wpAny_notedAt ?_
  unfold compStart
  show wpAny _ _ (ask >>= _) _ _ s
  refine wpAny_bind (wpAny_askSetting (wpAny_ite ?_))
  split
  · first
      | exact wpAny_bind (wpAny_pure (wpAny_pure (And.intro rfl h0)))
      | exact wpAny_pure (And.intro rfl h0)
  · first
      | exact wpAny_bind (wpAny_rule (wpAny_bind (wpAny_standAt (wpAny_bind (wpAny_mono h (fun it' s' h' => wpAny_pure (And.intro rfl h')) fun _ _ x => x.elim)))))
      | (refine wpAny_bind (wpAny_rule ?_); show wpAny _ _ (standAt i2.pos >>= _) _ _ s; exact wpAny_bind (wpAny_standAt (wpAny_bind (wpAny_mono h (fun it' s' h' => wpAny_pure (And.intro rfl h')) fun _ _ x => x.elim))))
end
end

section
section
variable {prog : Program} {w : World} {A : Around} {E : Value → Shared → Prop} {s : Shared} {g : Heap} {L : Addr} {m : Str → Option Value} {nx : List (Addr × Obj)} {env : Env}

/-- one row of the two-clause comprehension: its words are pushed -/
theorem two_row {x1 x2 : Str} {p1 p2 p3 p4 : Pos} {i1 : PySem.Expr} {scope : Scope} {cl : List (Str × Addr)} {pos : Pos} {D C ar : Addr} {k : Nat} {vs ys : List Value} {ws : List (List Nat)} {R : Result → Shared → Prop}
    (hh : A.handled = none) (hkind : scope.kind = .function) (hx2 : scope.names.lookup x2 = some .local) (hD2 : (x2 == ("__debug__" : Str)) = false)
    (hvs : DatAll nx vs (ws.map wD)) (har : s.heap.get? ar = some (listOf vs.toArray k)) (hys : ys.length + ws.length ≤ 1000000)
    (hD : s.heap.get? D = some (LCg.lst ys)) {m₀ : Str → Option Value} (hC : s.heap.Ns C m₀) (hDC : D ≠ C) (haD : ar ≠ D) (haC : ar ≠ C)
    (h : ∀ h' tk' m', (∀ b o, b ≠ D → b ≠ C → s.heap.get? b = some o → h'.get? b = some o) → h'.get? D = some (LCg.lst (ys ++ vs)) → h'.Ns C m' → R (.ok .next) { s with heap := h', toks := tk' }) :
    wpAny (model prog w) A (pyIter (.ref ar)) (fun it2 s₄ => codeAny (model prog w) A (.compStart (two (.Name x2 p1) (.Name x1 p2) i1 (.Name x2 p3) (.Name x1 p4) scope pos) 1 it2 (.ref D) (compEnvC scope cl C env)) R s₄) (fun _ _ => False) s := by
  have hl : s.heap.IsList ar vs.toArray := ⟨_, har, rfl, _, rfl⟩
  have hvl : vs.length = ws.length := by have := hvs.length; rwa [List.length_map] at this
  have hlt : ar < s.heap.objs.size := Heap.lt_size har
  have hDlt : D < s.heap.objs.size := Heap.lt_size hD
  have hClt : C < s.heap.objs.size := hC.lt
  refine wpAny_pyIter_list hl ?_
  generalize hI : s.heap.objs.size = I at *
  have W := Walks.list (prog := prog) (w := w) hh I ar (Nat.ne_of_lt hlt) vs.toArray
  have hID : I ≠ D := Nat.ne_of_gt hDlt
  have hIC : I ≠ C := Nat.ne_of_gt hClt
  have st0 : (s.heap.push { cls := .type "list_iterator", data := .fields #[.ref ar, .int 0 0] }).IsListIter I ar 0 ∧ (s.heap.push { cls := .type "list_iterator", data := .fields #[.ref ar, .int 0 0] }).IsList ar vs.toArray := ⟨⟨_, by rw [← hI]; exact Heap.get?_push_size _ rfl, rfl, rfl⟩, hl.push _⟩
  have loop : ∀ s₃ : Shared, s₃ = { s with heap := s.heap.push { cls := .type "list_iterator", data := .fields #[.ref ar, .int 0 0] } } →
      codeAny (model prog w) A (.compLoop (two (.Name x2 p1) (.Name x1 p2) i1 (.Name x2 p3) (.Name x1 p4) scope pos) 1 (.ref I) (.ref D) (compEnvC scope cl C env)) R s₃ := by
    rintro s₃ rfl
    refine loop_two1 (fun n s' => ∃ h' tk' m' i, s' = { s with heap := h', toks := tk' } ∧ i ≤ vs.length ∧ n = vs.length + 1 - i ∧ (h'.IsListIter I ar i ∧ h'.IsList ar vs.toArray) ∧ h'.get? D = some (LCg.lst (ys ++ vs.take i)) ∧ h'.Ns C m' ∧ (∀ b o, b ≠ D → b ≠ C → s.heap.get? b = some o → h'.get? b = some o)) ?_ (vs.length + 1)
      ⟨_, s.toks, m₀, 0, rfl, Nat.zero_le _, rfl, st0, by simpa using Heap.get?_push_of_some _ hD, hC.push _, fun b o _ _ e => Heap.get?_push_of_some _ e⟩
    rintro n s' ⟨h', tk', m', i, rfl, hi, rfl, st, hD', hC', hk⟩
    by_cases hlt2 : i < vs.length
    · refine W.item i _ _ _ (by simpa using hlt2) st fun v h₁ tk₁ hP st₁ hk₁ => ?_
      have hv : vs[i]? = some v := by simpa using hP
      have hC₁ : h₁.Ns C m' := hC'.at' fun o e => hk₁ _ o (by simpa using Ne.symm hIC) e
      have hD₁ : h₁.get? D = some (LCg.lst (ys ++ vs.take i)) := hk₁ _ _ (by simpa using Ne.symm hID) hD'
      refine wpAny_assign_Name (wpAny_storeName_local (lookup_relabel_local hx2) hC₁ (fun h₂ hn₂ hs₂ => ?_) (by simp [compEnvC, relabel, hkind]))
      refine wpAny_Name (wpAny_loadName_local (by simp [compEnvC, relabel, hkind]) (lookup_relabel_local hx2) hn₂ (if_pos rfl) ?_) hD2
      have hD₂ : h₂.get? D = some (LCg.lst (ys ++ vs.take i)) := hs₂.extBut _ _ hDC hD₁
      refine append_at (hsz := by rw [List.size_toArray, List.length_append, List.length_take, sizeLine_eq]; omega) hD₂ fun h₃ hs₃ hD₃ => ?_
      refine ⟨vs.length + 1 - (i + 1), by omega, h₃, _, _, i + 1, rfl, hlt2, rfl, ?_, ?_, hn₂.sameBut hs₃ (Ne.symm hDC), ?_⟩
      · exact W.frame _ _ _ st₁ fun b hb o e => by
          have hb2 : b = I ∨ b = ar := by simpa using hb
          have h1 : b ≠ C := by rcases hb2 with rfl | rfl <;> first | exact hIC | exact haC
          have h2 : b ≠ D := by rcases hb2 with rfl | rfl <;> first | exact hID | exact haD
          exact hs₃.extBut b o h2 (hs₂.extBut b o h1 e)
      · rw [hD₃]
        have e : vs.take (i + 1) = vs.take i ++ [v] := by rw [List.take_add_one, hv]; rfl
        rw [e, ← List.append_assoc]
        exact congrArg some (LCg.lst_snoc _ _)
      · intro b o h1 h2 e
        refine hs₃.extBut b o h1 (hs₂.extBut b o h2 (hk₁ b o ?_ (hk b o h1 h2 e)))
        have : b ≠ I := Nat.ne_of_lt (hI ▸ Heap.lt_size e)
        simpa using this
    · have e : i = vs.length := by omega
      subst e
      refine W.done _ _ _ (by simpa using st) fun h₁ tk₁ hk₁ => ?_
      refine h h₁ tk₁ m' (fun b o h1 h2 e => hk₁ b o (by have : b ≠ I := Nat.ne_of_lt (hI ▸ Heap.lt_size e); simpa using this) (hk b o h1 h2 e)) ?_ (hC'.at' fun o e => hk₁ _ o (by simpa using Ne.symm hIC) e)
      have := hk₁ _ _ (by simpa using Ne.symm hID) hD'
      rwa [List.take_length] at this
  have hstart := start_two1 (prog := prog) (w := w) (A := A) (R := R) (acc := .ref D) (env := compEnvC scope cl C env) (s := { s with heap := s.heap.push { cls := .type "list_iterator", data := .fields #[.ref ar, .int 0 0] } }) (elt := .Name x2 p1) (t1 := .Name x1 p2) (i1 := i1) (t2 := .Name x2 p3) (i2 := .Name x1 p4) (scope := scope) (pos := pos) (it := .ref I) (loop _ rfl) (W.self 0 _ _ _ st0 (loop _ rfl))
  exact hstart

theorem take_flat {R : Rows} {i : Nat} {r : List (List Nat)} (h : R[i]? = some r) : (R.take (i + 1)).flatten = (R.take i).flatten ++ r := by
  rw [List.take_add_one, h]; simp
theorem take_flat_len (R : Rows) (i : Nat) : (R.take i).flatten.length ≤ R.flatten.length := by
  conv => rhs; rw [← List.take_append_drop i R]
  rw [List.flatten_append, List.length_append]; omega

theorem comp_two {x1 x2 : Str} {p1 p2 p3 p4 : Pos} {i1 : PySem.Expr} {scope : Scope} {cl : List (Str × Addr)} {pos : Pos} {R : Rows} {vr : Value} {Q : Value → Shared → Prop}
    (hh : A.handled = none) (F : Fr g L s.heap m) (N : News g L s.heap nx) (hD : DatIn nx vr (rowsD R)) (hR : R.length ≤ 100000) (hRf : R.flatten.length ≤ 1000000)
    (hi : ∀ (Q : Value → Shared → Prop), Q vr s → wpAny (model prog w) A (eval i1 env) Q E s) (hs1 : ∀ x, foldedSetIterable i1 env x = pure x)
    (hclos : closureFor scope env = pure cl) (hcell : ∀ y ∈ scope.names, y.2 ≠ .cell) (hkind : scope.kind = .function)
    (hnames : ∀ y ∈ scope.names, y.2 = .local → scope.names.lookup y.1 = some .local) (hx1 : scope.names.lookup x1 = some .local) (hx2 : scope.names.lookup x2 = some .local)
    (hd1 : (x1 == ("__debug__" : Str)) = false) (hd2 : (x2 == ("__debug__" : Str)) = false)
    (h : ∀ ys D h' tk', Fr g L h' m → News g L h' ((D, LCg.lst ys) :: nx) → (∀ p ∈ nx, p.1 < D) → DatAll nx ys (R.flatten.map wD) → Q (.ref D) { s with heap := h', toks := tk' }) :
    wpAny (model prog w) A (eval (two (.Name x2 p1) (.Name x1 p2) i1 (.Name x2 p3) (.Name x1 p4) scope pos) env) Q E s := by
  rw [two, eval_ListComp]
  refine wpAny_comprehension_free (use := none) rfl hs1 hclos hkind hnames (hi _ ?_)
  cases hD with
  | @list ax vs n _ hm hrs =>
    have hvl : vs.length = R.length := by have := hrs.length; rwa [List.length_map] at this
    have hax := (N _ hm).1
    have hl : s.heap.IsList ax vs.toArray := ⟨_, hax, rfl, _, rfl⟩
    have hlt : ax < s.heap.objs.size := Heap.lt_size hax
    refine wpAny_pyIter_list hl ?_
    generalize hI : s.heap.objs.size = I at *
    have st0 : (s.heap.push { cls := .type "list_iterator", data := .fields #[.ref ax, .int 0 0] }).IsListIter I ax 0 ∧ (s.heap.push { cls := .type "list_iterator", data := .fields #[.ref ax, .int 0 0] }).IsList ax vs.toArray := ⟨⟨_, by rw [← hI]; exact Heap.get?_push_size _ rfl, rfl, rfl⟩, hl.push _⟩
    have up0 : ∀ b o, s.heap.get? b = some o → (s.heap.push { cls := .type "list_iterator", data := .fields #[.ref ax, .int 0 0] }).get? b = some o := fun b o e => Heap.get?_push_of_some _ e
    have sz0 : (s.heap.push { cls := .type "list_iterator", data := .fields #[.ref ax, .int 0 0] }).objs.size = I + 1 := by rw [Heap.size_push, hI]
    generalize (s.heap.push { cls := .type "list_iterator", data := .fields #[.ref ax, .int 0 0] }) = H1 at *
    refine wpAny_newObj_type (wpAny_newFunctionEnv hcell (by intro y hy; simp at hy) (fun h₁ hns₁ hsb₁ => ?_) hkind)
    dsimp only at hns₁ hsb₁ ⊢
    have up1 : ∀ b o, H1.get? b = some o → (H1.push { cls := .type "list", data := .seq ([] : List Value).toArray }).get? b = some o := fun b o e => Heap.get?_push_of_some _ e
    have hDn : (H1.push { cls := .type "list", data := .seq ([] : List Value).toArray }).get? (I + 1) = some (LCg.lst []) := by rw [← sz0]; exact Heap.get?_push_size _ rfl
    have sz1 : (H1.push { cls := .type "list", data := .seq ([] : List Value).toArray }).objs.size = I + 2 := by rw [Heap.size_push, sz0]
    generalize (H1.push { cls := .type "list", data := .seq ([] : List Value).toArray }) = H2 at *
    rw [sz1] at hns₁ hsb₁
    rw [sz0, sz1]
    have keep₁ : ∀ b o, H2.get? b = some o → h₁.get? b = some o := fun b o e => hsb₁.extBut b o (by rw [← sz1]; exact Nat.ne_of_lt (Heap.lt_size e)) (Heap.get?_push_of_some _ e)
    have keep : ∀ b o, s.heap.get? b = some o → h₁.get? b = some o := fun b o e => keep₁ b o (up1 b o (up0 b o e))
    have W := Walks.list (prog := prog) (w := w) hh I ax (Nat.ne_of_lt (hI ▸ hlt)) vs.toArray
    have fresh : ∀ (b : Addr) (o : Obj), s.heap.get? b = some o → @LT.lt Nat _ b I := fun b o e => hI ▸ Heap.lt_size e
    have n1 : ∀ b : Nat, b < I → b ≠ I + 1 := fun b hb => by omega
    have n2 : ∀ b : Nat, b < I → b ≠ I + 2 := fun b hb => by omega
    have hg0 : ∀ a, I ≤ a → g.get? a = none := fun a ha => by
      cases e : g.get? a with
      | none => rfl
      | some o => exact absurd (fresh _ _ (F.keep a o e)) (Nat.not_lt.mpr ha)
    have hLI : @LT.lt Nat _ L I := hI ▸ F.ns.lt
    have nIC : I ≠ I + 2 := by omega
    have nID : I ≠ I + 1 := by omega
    have nDC : I + 1 ≠ I + 2 := by omega
    have loop : ∀ s₃ : Shared, s₃ = { s with heap := h₁, toks := s.toks + ([] : List (Str × Value)).length } →
        codeAny (model prog w) A (.compLoop (two (.Name x2 p1) (.Name x1 p2) i1 (.Name x2 p3) (.Name x1 p4) scope pos) 0 (.ref I) (.ref (I + 1)) (compEnvC scope cl (I + 2) env)) (compPost (model prog w) A E none Q (.ref (I + 1)) (I + 2)) s₃ := by
      rintro s₃ rfl
      refine loop_two0 (hh := hh) (fun n s' => ∃ h' tk' m' ys i, s' = { s with heap := h', toks := tk' } ∧ i ≤ R.length ∧ n = R.length + 1 - i ∧ (h'.IsListIter I ax i ∧ h'.IsList ax vs.toArray) ∧ h'.get? (I + 1) = some (LCg.lst ys) ∧ DatAll nx ys (((R.take i).flatten).map wD) ∧ h'.Ns (I + 2) m' ∧ (∀ b o, s.heap.get? b = some o → h'.get? b = some o)) ?_ (R.length + 1)
        ⟨h₁, _, _, [], 0, rfl, Nat.zero_le _, rfl, W.frame _ _ _ st0 fun b hb o e => keep₁ b o (up1 b o e), keep₁ _ _ hDn, .nil, hns₁, keep⟩
      rintro n s' ⟨h', tk', m', ys, i, rfl, hi', rfl, st, hD', hys, hC', hk⟩
      have hyl : ys.length = (R.take i).flatten.length := by have := hys.length; rwa [List.length_map] at this
      by_cases hlt2 : i < R.length
      · refine W.item i _ _ _ (by simpa [hvl] using hlt2) st fun v h₂ tk₂ hP st₂ hk₂ => ?_
        have hv : vs[i]? = some v := by simpa using hP
        obtain ⟨d, hd, hDv⟩ := datAll_get hrs i v hv
        rw [List.getElem?_map] at hd
        cases hr : R[i]? with
        | none => rw [hr] at hd; cases hd
        | some r =>
          rw [hr] at hd
          cases hd
          have hDv' : DatIn nx v (.list (r.map wD)) := hDv
          cases hDv' with
          | @list ar wv kk _ hma hwv =>
            have hC₂ : h₂.Ns (I + 2) m' := hC'.at' fun o e => hk₂ _ o (by simpa using Ne.symm nIC) e
            have hD₂ : h₂.get? (I + 1) = some (LCg.lst ys) := hk₂ _ _ (by simpa using Ne.symm nID) hD'
            have hk2 : ∀ b o, s.heap.get? b = some o → h₂.get? b = some o := fun b o e => hk₂ b o (by have := fresh b o e; simp; exact Nat.ne_of_lt this) (hk b o e)
            refine wpAny_assign_Name (wpAny_storeName_local (lookup_relabel_local hx1) hC₂ (fun h₃ hn₃ hs₃ => ?_) (by simp [compEnvC, relabel, hkind]))
            refine wpAny_Name (wpAny_loadName_local (by simp [compEnvC, relabel, hkind]) (lookup_relabel_local hx1) hn₃ (if_pos rfl) ?_) hd1
            have hk3 : ∀ b o, s.heap.get? b = some o → h₃.get? b = some o := fun b o e => hs₃.extBut b o (n2 _ (fresh b o e)) (hk2 b o e)
            have hal := fresh _ _ (N _ hma).1
            have hfl := take_flat hr
            have hfl2 := take_flat_len R (i + 1)
            refine two_row (ws := r) (ys := ys) hh hkind hx2 hd2 hwv (hk3 _ _ (N _ hma).1) (by rw [hfl, List.length_append] at hfl2; omega) (hs₃.extBut _ _ nDC hD₂) hn₃ nDC (n1 _ hal) (n2 _ hal) fun h₄ tk₄ m₄ hk4 hD4 hC4 => ?_
            refine ⟨R.length + 1 - (i + 1), by omega, h₄, tk₄, m₄, ys ++ wv, i + 1, rfl, hlt2, rfl, ?_, hD4, ?_, hC4, fun b o e => hk4 b o (n1 _ (fresh b o e)) (n2 _ (fresh b o e)) (hk3 b o e)⟩
            · exact W.frame _ _ _ st₂ fun b hb o e => by
                have hb2 : b = I ∨ b = ax := by simpa using hb
                have hlt' : @LT.lt Nat _ ax I := hI ▸ hlt
                have h1 : b ≠ I + 2 := by rcases hb2 with rfl | rfl <;> first | exact nIC | exact n2 _ hlt'
                have h2 : b ≠ I + 1 := by rcases hb2 with rfl | rfl <;> first | exact nID | exact n1 _ hlt'
                exact hk4 b o h2 h1 (hs₃.extBut b o h1 e)
            · rw [hfl, List.map_append]
              exact DatAll.append hys hwv
      · have e : i = R.length := by omega
        subst e
        refine W.done _ _ _ (by simpa [hvl] using st) fun h₂ tk₂ hk₂ => ?_
        have hC₂ : h₂.Ns (I + 2) m' := hC'.at' fun o e => hk₂ _ o (by simpa using Ne.symm nIC) e
        have hD₂ : h₂.get? (I + 1) = some (LCg.lst ys) := hk₂ _ _ (by simpa using Ne.symm nID) hD'
        refine ⟨m', hC₂, fun h₃ hs₃ => ?_⟩
        have hk3 : ∀ b o, s.heap.get? b = some o → h₃.get? b = some o := fun b o e => hs₃.extBut b o (n2 _ (fresh b o e)) (hk₂ b o (by have := fresh b o e; simp; exact Nat.ne_of_lt this) (hk b o e))
        rw [List.take_length] at hys
        refine h ys (I + 1) h₃ tk₂ (F.keeps hk3) (fun q hq => ?_) (fun q hq => Nat.lt_succ_of_lt (fresh _ _ (N q hq).1)) hys
        rcases List.mem_cons.mp hq with rfl | hq
        · exact ⟨hs₃.extBut _ _ nDC hD₂, Ne.symm (n1 _ hLI), hg0 _ (Nat.le_succ I)⟩
        · exact ⟨hk3 _ _ (N q hq).1, (N q hq).2⟩
    exact codeAny_compStart_list (loop _ rfl) (W.self 0 _ _ _ (W.frame _ _ _ st0 fun b hb o e => keep₁ b o (up1 b o e)) (loop _ rfl))
end
end

section
/-- after a call: all that stood stands, what was made is new -/
theorem afterCall {h₀ : Heap} {L : Addr} {m : Str → Option Value} {s : Shared} {h' : Heap} {news tl : List (Addr × Obj)} (F : Fr h₀ L s.heap m) (N : News h₀ L s.heap news) (hk : ∀ b o, s.heap.get? b = some o → h'.get? b = some o) (hn : ∀ p ∈ tl, h'.get? p.1 = some p.2 ∧ s.heap.get? p.1 = none) :
    Fr h₀ L h' m ∧ News h₀ L h' (tl ++ news) ∧ (∀ p ∈ tl, ∀ q ∈ news, p.1 ≠ q.1) := by
  obtain ⟨oL, es, ep, hL, hLd, hLk, hLf⟩ := F.ns
  refine ⟨⟨⟨oL, es, ep, hk _ _ hL, hLd, hLk, hLf⟩, fun b o e => hk b o (F.keep b o e), F.above⟩, fun q hq => ?_, fun q hq r hr e => ?_⟩
  · rcases List.mem_append.mp hq with hq | hq
    · refine ⟨(hn q hq).1, fun e => ?_, ?_⟩
      · have := (hn q hq).2; rw [e, hL] at this; cases this
      · cases hb : h₀.get? q.1 with
        | none => rfl
        | some o => have := (hn q hq).2; rw [F.keep _ _ hb] at this; cases this
    · exact ⟨hk _ _ (N q hq).1, (N q hq).2⟩
  · have h1 := (hn q hq).2
    rw [e, (N r hr).1] at h1
    cases h1

section
variable {prog : Program} {w : World} {A : Around} {h₀ : Heap} {L : Addr} {m : Str → Option Value} {env : Env} {elt : PySem.Expr} {x : Str} {scope : Scope} {cl : List (Str × Addr)} {s : Shared} {S' : List (Addr × Obj) → Prop} {P : Nat → Value → Prop} {Fin : List Value → List (Addr × Obj) → Prop} {la : LexA} {lines : Int} {fix : List (Addr × Obj)}
/-- how a turn that asks for a token ends -/
noncomputable def TEnd (w : World) (la : LexA) (lines : Int) (l : List Nat) (s : Shared) (n : Int) (tn : Tok) (ep : Nat) (vs : List Value) (c : Nat) (y : Value) (s₂ : Shared) : Prop :=
  ∃ h' tk' n' tn' ep' vs' c' t', s₂ = { s with heap := h', toks := tk' } ∧ (∀ b o, b ∉ (lexNews w la n tn ep vs c).map (·.1) → s.heap.get? b = some o → h'.get? b = some o) ∧ (∀ q ∈ lexNews w la n' tn' ep' vs' c', h'.get? q.1 = some q.2) ∧
    DatAll [] vs' (signsD (tokL l).2) ∧ n' + ((tokL l).2.count 10 : Int) = lines ∧ y = .str (S (tokL l).1) t'
theorem rest_tok (hoff : ∀ n tn ep vs c, ∀ p ∈ fix, p.1 ∉ (lexNews w la n tn ep vs c).map (·.1)) (hS : ∀ add, S' (add ++ fix))
    (turn : ∀ (n : Int) (tn : Tok) (ep : Nat) (vs : List Value) (c : Nat) (l : List Nat) v I oI C oC D m₂ ys h tk (E' : Value → Shared → Prop), LCg.NsObj oC m₂ → m₂ x = some v → Fr h₀ L h m → News h₀ L h ((I, oI) :: (C, oC) :: (D, LCg.lst ys) :: (lexNews w la n tn ep vs c ++ fix)) → DatAll [] vs (signsD l) → n + (l.count 10 : Int) = lines → l.length ≤ 4000 →
      wpAny (model prog w) A (eval elt (compEnvC scope cl C env)) (TEnd w la lines l { s with heap := h, toks := tk } n tn ep vs c) E' { s with heap := h, toks := tk })
    (k : Nat) : ∀ (j : Nat) (l : List Nat) (i : Nat) (ys : List Value) (ts : List (List Nat)) (n : Int) (tn : Tok) (ep : Nat) (vs : List Value) (c : Nat), DatAll [] ys (ts.map wD) → DatAll [] vs (signsD l) → n + (l.count 10 : Int) = lines → l.length ≤ 4000 →
    (fin : ∀ ys n tn ep vs c, DatAll [] ys ((ts ++ toksL j l).map wD) → DatAll [] vs (signsD (restL j l)) → n + ((restL j l).count 10 : Int) = lines → Fin ys (lexNews w la n tn ep vs c ++ fix)) →
    LCg.CompRest prog w A h₀ L m env elt x scope cl s S' P Fin j i ys (lexNews w la n tn ep vs c ++ fix) := by
  intro j
  induction j with
  | zero =>
    intro l i ys ts n tn ep vs c hy hvs hn hl fin
    exact LCg.CompRest.zero (fin ys n tn ep vs c (by rw [show toksL 0 l = [] from rfl, List.append_nil]; exact hy) hvs hn)
  | succ j ih =>
    intro l i ys ts n tn ep vs c hy hvs hn hl fin
    refine LCg.CompRest.succ ?_
    intro v I oI C oC D m₂ h tk E' hv hC hx F N off ne
    refine wpAny_mono (turn n tn ep vs c l v I oI C oC D m₂ ys h tk E' hC hx F N hvs hn hl) (fun y s₂ hq => ?_) fun _ _ e => e
    obtain ⟨h', tk', n', tn', ep', vs', c', t', rfl, hkp, hnew, hvs', hn', rfl⟩ := hq
    have NL : News h₀ L h (lexNews w la n tn ep vs c) := fun r hr => N r (.tail _ (.tail _ (.tail _ (List.mem_append_left _ hr))))
    have off' := off.mem
    have a1 : ∀ a, (∀ p ∈ lexNews w la n tn ep vs c ++ fix, p.1 ≠ a) → a ∉ (lexNews w la n tn ep vs c).map (·.1) := fun a ha hm => by
      obtain ⟨p, hp, e⟩ := List.mem_map.mp hm
      exact ha p (List.mem_append_left _ hp) e
    have hnewN : ∀ q ∈ lexNews w la n' tn' ep' vs' c', h'.get? q.1 = some q.2 ∧ q.1 ≠ L ∧ h₀.get? q.1 = none ∧ (q.1 ≠ I ∧ q.1 ≠ C ∧ q.1 ≠ D) := fun q hq => by
      have hm : q.1 ∈ (lexNews w la n tn ep vs c).map (·.1) := by
        have : q.1 ∈ (lexNews w la n' tn' ep' vs' c').map (·.1) := List.mem_map_of_mem (f := (·.1)) hq
        exact this
      obtain ⟨r2, hr2, e⟩ := List.mem_map.mp hm
      have h1 := (NL r2 hr2).2
      have h2 := off' r2 (List.mem_append_left _ hr2)
      rw [e] at h1 h2
      exact ⟨hnew q hq, h1.1, h1.2, h2⟩
    refine LCg.CompEnd.intro (fr_read F NL hkp) (all := (I, oI) :: (C, oC) :: (D, LCg.lst ys) :: (lexNews w la n' tn' ep' vs' c' ++ fix)) (fun r hr => ?_) (lexNews w la n' tn' ep' vs' c' ++ fix) (fun r hr => hr) (LCg.Off3.of fun r hr => ?_) (hS _) ?_
    · rcases List.mem_cons.mp hr with rfl | hr
      · exact ⟨hkp _ _ (a1 _ fun p hp => (off' p hp).1) (N _ (.head _)).1, (N _ (.head _)).2⟩
      rcases List.mem_cons.mp hr with rfl | hr
      · exact ⟨hkp _ _ (a1 _ fun p hp => (off' p hp).2.1) (N _ (.tail _ (.head _))).1, (N _ (.tail _ (.head _))).2⟩
      rcases List.mem_cons.mp hr with rfl | hr
      · exact ⟨hkp _ _ (a1 _ fun p hp => (off' p hp).2.2) (N _ (.tail _ (.tail _ (.head _)))).1, (N _ (.tail _ (.tail _ (.head _)))).2⟩
      rcases List.mem_append.mp hr with hr | hr
      · have := hnewN r hr
        exact ⟨this.1, this.2.1, this.2.2.1⟩
      · have hN := N r (.tail _ (.tail _ (.tail _ (List.mem_append_right _ hr))))
        exact ⟨hkp _ _ (hoff n tn ep vs c r hr) hN.1, hN.2⟩
    · rcases List.mem_append.mp hr with hr | hr
      · exact (hnewN r hr).2.2.2
      · exact off' r (List.mem_append_right _ hr)
    · refine ih (tokL l).2 (i + 1) (ys ++ [.str (S (tokL l).1) t']) (ts ++ [(tokL l).1]) n' tn' ep' vs' c' ?_ hvs' hn' (Nat.le_trans (tokL_len l) hl) fun ys2 n2 tn2 ep2 vs2 c2 h1 h2 h3 => ?_
      · rw [List.map_append]
        exact DatAll.append hy (DatAll.one (.str _ _))
      · refine fin ys2 n2 tn2 ep2 vs2 c2 ?_ h2 h3
        have e : toksL (j + 1) l = (tokL l).1 :: toksL j (tokL l).2 := rfl
        rw [e]
        rwa [List.append_assoc, List.singleton_append] at h1
end
end

section
/-- a value put into a cell that lies anywhere in the ledger -/
theorem storeC {M : Model} {A : Around} {E : Value → Shared → Prop} {s : Shared} {h₀ : Heap} {L a : Addr} {m : Str → Option Value} {cn : Str} {cs : Scope} {ccd : Value} {cl : List (Str × Addr)} {x : Str} {v : Value} {Q : Unit → Shared → Prop} {news : List (Addr × Obj)} {c : Addr} {o : Obj} {v₀ : Option Value}
    (F : Fr h₀ L s.heap m) (N : News h₀ L s.heap news) (hc : cl.lookup x = some c) (hm : (c, o) ∈ news) (hd : o.data = .cell v₀)
    (h : ∀ h' o' nx', Fr h₀ L h' m → News h₀ L h' nx' → (c, o') ∈ nx' → o'.data = .cell (some v) → (∀ p ∈ news, p.1 ≠ c → p ∈ nx') → Q () { s with heap := h' })
    (hk : cs.kind = .function := by rfl) (hx : (envX cn cs L a ccd cl).kindOf x = some .cell := by rfl) : wpAny M A (storeName (envX cn cs L a ccd cl) x v) Q E s := by
  have N2 : News h₀ L s.heap ((c, o) :: news.filter fun p => decide (p.1 ≠ c)) := fun p hp => by
    rcases List.mem_cons.mp hp with rfl | hp
    · exact N _ hm
    · exact N p (List.mem_filter.mp hp).1
  refine storeX_C F N2 hc (UpdF.head fun p hp => ?_) hd (fun h' o' F' N' hd' => ?_) hk hx
  · simpa using (List.mem_filter.mp hp).2
  · exact h h' o' _ F' N' (List.mem_cons_self ..) hd' fun p hp hne => List.mem_cons_of_mem _ (List.mem_filter.mpr ⟨hp, by simpa using hne⟩)

/-- after _law_lexer: the lexer's objects are new, the table has grown, all else stands -/
theorem afterLex {w : World} {la : LexA} {tn : Tok} {vs : List Value} {c : Nat} {h₀ : Heap} {L : Addr} {m : Str → Option Value} {s : Shared} {h' : Heap} {news : List (Addr × Obj)} {o ot : Obj}
    (F : Fr h₀ L s.heap m) (N : News h₀ L s.heap news) (h6 : (116, o) ∈ news) (hk : ∀ b o, b ≠ 116 → s.heap.get? b = some o → h'.get? b = some o) (h116 : h'.get? 116 = some ot)
    (hnew : ∀ q ∈ lexNews w la 1 tn 4 vs c, h'.get? q.1 = some q.2 ∧ s.heap.get? q.1 = none) :
    Fr h₀ L h' m ∧ (∀ q ∈ lexNews w la 1 tn 4 vs c, ∀ p ∈ news, q.1 ≠ p.1) ∧ (∃ nx', News h₀ L h' nx' ∧ (∀ q ∈ lexNews w la 1 tn 4 vs c, q ∈ nx') ∧ (116, ot) ∈ nx' ∧ (∀ p ∈ news, p.1 ≠ 116 → p ∈ nx')) := by
  have hm := N _ h6
  have F' := fr_skip F hk hm.2.1 hm.2.2
  have fresh : ∀ q ∈ lexNews w la 1 tn 4 vs c, q.1 ≠ L ∧ h₀.get? q.1 = none := fun q hq => by
    obtain ⟨oL, es, ep, hL, _⟩ := F.ns
    have h1 := (hnew q hq).2
    refine ⟨fun e => ?_, ?_⟩
    · rw [e, hL] at h1; cases h1
    · cases hb : h₀.get? q.1 with
      | none => rfl
      | some o => rw [F.keep _ _ hb] at h1; cases h1
  refine ⟨F', fun q hq p hp e => ?_, lexNews w la 1 tn 4 vs c ++ ((116, ot) :: news.filter fun p => decide (p.1 ≠ 116)), fun r hr => ?_, fun q hq => List.mem_append_left _ hq, List.mem_append_right _ (List.mem_cons_self ..), fun p hp hne => List.mem_append_right _ (List.mem_cons_of_mem _ (List.mem_filter.mpr ⟨hp, by simpa using hne⟩))⟩
  · have h1 := (hnew q hq).2
    rw [e, (N p hp).1] at h1; cases h1
  · rcases List.mem_append.mp hr with hr | hr
    · exact ⟨(hnew r hr).1, fresh r hr⟩
    · rcases List.mem_cons.mp hr with rfl | hr
      · exact ⟨h116, hm.2⟩
      · obtain ⟨h1, h2⟩ := List.mem_filter.mp hr
        exact ⟨hk _ _ (by simpa using h2) (N r h1).1, (N r h1).2⟩
end

section
/-- what law holds ahead of told: the lexer, its cell, the table, the words, the rows -/
noncomputable abbrev fixL (c0 : Addr) (oc : Obj) (ps : Array Value) (D2 : Addr) (o1 : Obj) (tl2 : List (Addr × Obj)) : List (Addr × Obj) := (c0, oc) :: (116, tabObj ps) :: (D2, o1) :: tl2
theorem lawFix {w : World} {la : LexA} {tn : Tok} {vs : List Value} {c : Nat} {h₀ h8 : Heap} {L c0 D2 : Addr} {nx8 nx' tl tl2 : List (Addr × Obj)} {oc w0 o6 o1 : Obj} {ps : Array Value} {x2 x3 : Addr × Obj}
    (N8 : News h₀ L h8 nx8) (hc8 : (c0, oc) ∈ nx8) (hr8 : ∀ p ∈ nx', p.1 ≠ c0 → p ∈ nx8) (hlexin : ∀ q ∈ lexNews w la 1 tn 4 vs c, q ∈ nx') (h116in : (116, tabObj ps) ∈ nx')
    (hrest : ∀ p ∈ (D2, o1) :: x2 :: x3 :: (tl2 ++ (tl ++ [(c0, w0), (116, o6)])), p.1 ≠ 116 → p ∈ nx')
    (hsep : ∀ q ∈ lexNews w la 1 tn 4 vs c, ∀ p ∈ (D2, o1) :: x2 :: x3 :: (tl2 ++ (tl ++ [(c0, w0), (116, o6)])), q.1 ≠ p.1)
    (hlt5 : ∀ p ∈ x2 :: x3 :: (tl2 ++ (tl ++ [(c0, w0), (116, o6)])), p.1 < D2) (hr2 : ∀ p ∈ tl2, ∀ q ∈ tl ++ [(c0, w0), (116, o6)], p.1 ≠ q.1) (h6 : 116 ≠ c0) :
    News h₀ L h8 (lexNews w la 1 tn 4 vs c ++ fixL c0 oc ps D2 o1 tl2) ∧ ∀ n tn ep vs c, ∀ p ∈ fixL c0 oc ps D2 o1 tl2, p.1 ∉ (lexNews w la n tn ep vs c).map (·.1) := by
  have mc : (c0, w0) ∈ x2 :: x3 :: (tl2 ++ (tl ++ [(c0, w0), (116, o6)])) := List.mem_cons_of_mem _ (List.mem_cons_of_mem _ (List.mem_append_right _ (List.mem_append_right _ (List.mem_cons_self ..))))
  have m6 : (116, o6) ∈ x2 :: x3 :: (tl2 ++ (tl ++ [(c0, w0), (116, o6)])) := List.mem_cons_of_mem _ (List.mem_cons_of_mem _ (List.mem_append_right _ (List.mem_append_right _ (List.mem_cons_of_mem _ (List.mem_cons_self ..)))))
  have mt : ∀ p ∈ tl2, p ∈ x2 :: x3 :: (tl2 ++ (tl ++ [(c0, w0), (116, o6)])) := fun p hp => List.mem_cons_of_mem _ (List.mem_cons_of_mem _ (List.mem_append_left _ hp))
  have nD : D2 ≠ c0 := fun e => absurd (hlt5 _ mc) (by rw [e]; exact Nat.lt_irrefl _)
  have nD6 : D2 ≠ 116 := fun e => absurd (hlt5 _ m6) (by rw [e]; exact Nat.lt_irrefl _)
  have nt : ∀ p ∈ tl2, p.1 ≠ c0 ∧ p.1 ≠ 116 := fun p hp => ⟨hr2 p hp _ (List.mem_append_right _ (List.mem_cons_self ..)), hr2 p hp _ (List.mem_append_right _ (List.mem_cons_of_mem _ (List.mem_cons_self ..)))⟩
  refine ⟨fun p hp => N8 p ?_, fun n tn' ep vs' c' p hp hm => ?_⟩
  · rcases List.mem_append.mp hp with hp | hp
    · exact hr8 _ (hlexin _ hp) (hsep _ hp _ (List.mem_cons_of_mem _ mc))
    rcases List.mem_cons.mp hp with rfl | hp
    · exact hc8
    rcases List.mem_cons.mp hp with rfl | hp
    · exact hr8 _ h116in h6
    rcases List.mem_cons.mp hp with rfl | hp
    · exact hr8 _ (hrest _ (List.mem_cons_self ..) nD6) nD
    · exact hr8 _ (hrest _ (List.mem_cons_of_mem _ (mt _ hp)) (nt _ hp).2) (nt _ hp).1
  · have key : ∀ p' ∈ (D2, o1) :: x2 :: x3 :: (tl2 ++ (tl ++ [(c0, w0), (116, o6)])), p'.1 = p.1 → False := fun p' hp' e => by
      have hm1 : p.1 ∈ (lexNews w la 1 tn 4 vs c).map (·.1) := hm
      obtain ⟨q, hq, e2⟩ := List.mem_map.mp hm1
      exact hsep q hq p' hp' (e2.trans e.symm)
    rcases List.mem_cons.mp hp with rfl | hp
    · exact key _ (List.mem_cons_of_mem _ mc) rfl
    rcases List.mem_cons.mp hp with rfl | hp
    · exact key _ (List.mem_cons_of_mem _ m6) rfl
    rcases List.mem_cons.mp hp with rfl | hp
    · exact key _ (List.mem_cons_self ..) rfl
    · exact key _ (List.mem_cons_of_mem _ (mt _ hp)) rfl
end

section
/-- all signs of a row are plain -/
noncomputable def LowW (r : List (List Nat)) : Prop := ∀ w ∈ r, ∀ c ∈ w, c < 128
noncomputable def LowR (R : Rows) : Prop := ∀ r ∈ R, LowW r
theorem LowR.cons {r : List (List Nat)} {R : Rows} (h : LowW r) (h2 : LowR R) : LowR (r :: R) := fun q hq => by
  rcases List.mem_cons.mp hq with rfl | hq
  · exact h
  · exact h2 q hq
theorem LowR.head {R : Rows} (h : LowR R) : LowW (R.headD []) := by
  cases R with
  | nil => intro w hw; simp at hw
  | cons r R => exact h r (List.mem_cons_self ..)
theorem LowR.tail {R : Rows} (h : LowR R) : LowR R.tail := fun q hq => h q (List.mem_of_mem_tail hq)
theorem LowW.cons {w : List Nat} {r : List (List Nat)} (h : ∀ c ∈ w, c < 128) (h2 : LowW r) : LowW (w :: r) := fun q hq => by
  rcases List.mem_cons.mp hq with rfl | hq
  · exact h
  · exact h2 q hq
theorem LowW.head {r : List (List Nat)} (h : LowW r) : ∀ c ∈ r.headD [], c < 128 := by
  cases r with
  | nil => intro w hw; simp at hw
  | cons w r => exact h w (List.mem_cons_self ..)
theorem LowW.tail {r : List (List Nat)} (h : LowW r) : LowW r.tail := fun q hq => h q (List.mem_of_mem_tail hq)
theorem LowW.nil1 : LowW [[]] := fun w hw => by simp at hw; subst hw; intro c hc; simp at hc
theorem low_push {c : Nat} {r : List (List Nat)} (hc : c < 128) (h : LowW r) : LowW ((c :: r.headD []) :: r.tail) :=
  LowW.cons (fun d hd => by
    rcases List.mem_cons.mp hd with rfl | hd
    · exact hc
    · exact h.head d hd) h.tail
theorem low_step {c : Nat} {z : RS} (hc : here1 c < 128) (h1 : LowR z.clear) (h2 : LowR z.within) (h3 : LowR z.bare) (h4 : LowR z.beyond) :
    LowR (stepR c z).clear ∧ LowR (stepR c z).within ∧ LowR (stepR c z).bare ∧ LowR (stepR c z).beyond := by
  have hin : LowR (insideR c z) := by
    unfold insideR
    split
    · exact LowR.cons (LowW.cons (fun d hd => by simp at hd) h4.head) h4.tail
    split
    · exact LowR.cons LowW.nil1 h1
    · exact LowR.cons (low_push hc h2.head) h2.tail
  have hnk : LowR (nakedR c z) := by
    unfold nakedR
    refine LowR.cons ?_ h3.tail
    exact LowW.cons (fun d hd => by
      rcases List.mem_cons.mp hd with rfl | hd
      · exact hc
      · exact h3.head.head d hd) (fun w hw => by simp at hw)
  refine ⟨?_, hin, ?_, h2⟩
  · show LowR (if c = 32 then z.clear else if c = 34 then z.within else nakedR c z)
    split
    · exact h1
    split
    · exact h2
    · exact hnk
  · show LowR (if c = 32 then [[]] :: z.clear else nakedR c z)
    split
    · exact LowR.cons LowW.nil1 h1
    · exact hnk
theorem low_here {c : Nat} (h : Alpha c) : here1 c < 128 := by
  simp only [Alpha, List.mem_cons, List.not_mem_nil, or_false] at h
  rcases h with rfl | rfl | rfl | rfl | rfl | rfl | rfl <;> decide
theorem low_run : ∀ l : List Nat, (∀ c ∈ l, Alpha c) → LowR (runR l).clear ∧ LowR (runR l).within ∧ LowR (runR l).bare ∧ LowR (runR l).beyond
  | [], _ => by
    have h1 : LowR [[[]]] := LowR.cons LowW.nil1 fun q hq => by simp at hq
    exact ⟨fun q hq => by simp [runR, initR] at hq, h1, h1, h1⟩
  | c :: l, h => by
    obtain ⟨h1, h2, h3, h4⟩ := low_run l fun d hd => h d (List.mem_cons_of_mem _ hd)
    exact low_step (low_here (h c (List.mem_cons_self ..))) h1 h2 h3 h4
theorem rows_low (l : List Nat) (h : ∀ c ∈ l, Alpha c) : LowR (rowsOf l) := (low_run l h).1
theorem ok_word {w : List Nat} (h : ∀ c ∈ w, c < 128) (n : Nat) : kqdOk n (wD w) = true := by
  have : PyData.strOk (S w) = true := by
    unfold PyData.strOk S
    rw [List.all_toArray, List.all_eq_true]
    intro c hc
    have := h c hc
    exact decide_eq_true (by omega)
  cases n <;> exact this
theorem ok_words {W : List (List Nat)} (h : LowW W) (n : Nat) : ∀ d ∈ W.map wD, kqdOk n d = true := by
  intro d hd
  obtain ⟨w, hw, rfl⟩ := List.mem_map.mp hd
  exact ok_word (h w hw) n
theorem ok_rows {R : Rows} (h : LowR R) : ∀ d ∈ R.map rowD, kqdOk 8 d = true := by
  intro d hd
  obtain ⟨r, hr, rfl⟩ := List.mem_map.mp hd
  show (r.map wD).all (kqdOk 7) = true
  exact List.all_eq_true.mpr (ok_words (h r hr) 7)
theorem low_flat {R : Rows} (h : LowR R) : LowW (R.flatten ++ [[], []]) := by
  intro w hw
  rcases List.mem_append.mp hw with hw | hw
  · obtain ⟨r, hr, hw⟩ := List.mem_flatten.mp hw
    exact h r hr w hw
  · simp at hw; subst hw; intro c hc; simp at hc
theorem wordsFree {nx : List (Addr × Obj)} : ∀ {ys : List Value} {W : List (List Nat)}, DatAll nx ys (W.map wD) → DatAll [] ys (W.map wD)
  | [], [], _ => .nil
  | [], _ :: _, h => by have := h.length; simp at this
  | _ :: _, [], h => by have := h.length; simp at this
  | v :: ys, w :: W, h => by
    cases h with
    | cons hd r =>
      refine .cons ?_ (wordsFree r)
      have hd' : DatIn nx v (.str (S w)) := hd
      cases hd' with
      | str _ t => exact .str _ _

section
variable {prog : Program} {w : World} {A : Around} {E : Value → Shared → Prop} {s : Shared} {h₀ : Heap} {L : Addr} {nx : List (Addr × Obj)} {Q : Value → Shared → Prop}
/-- two lists of the same words -/
theorem ne_words {D1 D2 : Addr} {xs ys : List Value} {k1 k2 : Nat} {W : List (List Nat)} (N : News h₀ L s.heap nx) (m1 : (D1, listOf xs.toArray k1) ∈ nx) (m2 : (D2, listOf ys.toArray k2) ∈ nx) (h1 : DatAll [] xs (W.map wD)) (h2 : DatAll [] ys (W.map wD)) (hW : LowW W) (hu : A.units + 64 < cLine) (h : Q (.bool false) s) :
    wpAny (model prog w) A (compareOp .NotEq (.ref D1) (.ref D2)) Q E s :=
  kqd_ne N m1 rfl rfl h1 (fun p hp => by cases hp) m2 rfl rfl h2 (fun p hp => by cases hp) (ok_words hW 8) (ok_words hW 8) hu (by simpa using h)
theorem eq_rows {v1 v2 : Value} {n1 n2 : List (Addr × Obj)} {R : Rows} (N : News h₀ L s.heap nx) (h1 : DatIn n1 v1 (rowsD R)) (h2 : DatIn n2 v2 (rowsD R)) (s1 : ∀ p ∈ n1, p ∈ nx) (s2 : ∀ p ∈ n2, p ∈ nx) (hR : LowR R) (hu : A.units + 64 < cLine) (h : Q (.bool true) s) :
    wpAny (model prog w) A (compareOp .Eq v1 v2) Q E s := by
  cases h1 with
  | list m1 d1 =>
    cases h2 with
    | list m2 d2 => exact kqd_eq N (s1 _ m1) rfl rfl d1 s1 (s2 _ m2) rfl rfl d2 s2 (ok_rows hR) (ok_rows hR) hu (by simpa using h)
end
end

section
theorem anewM10 : True := by first | walk1 | trivial
local macro_rules | `(tactic| walk_at "call ref") => `(tactic| with_reducible refine hold ?_)
local macro_rules | `(tactic| walk_at "binaryOp Add ref ref") => `(tactic| with_reducible refine hold ?_)
local macro_rules | `(tactic| walk_at "exec Assign cons ListComp") => `(tactic| with_reducible refine hold ?_)
local macro_rules | `(tactic| walk_at "eval BinOp") => `(tactic| with_reducible refine hold ?_)
local macro_rules | `(tactic| walk_at "compareOp NotEq ref ref") => `(tactic| with_reducible refine hold ?_)
local macro_rules | `(tactic| walk_at "compareOp Eq ref ref") => `(tactic| with_reducible refine hold ?_)
local macro_rules | `(tactic| walk_at "call builtin:str.count") => `(tactic| k_dflt (refine' count_call (c := 76) ?hy ?hl ?_; (case hy => decide +kernel); (case hl => omega); intro t9 k9))
theorem mul_par (l : List Nat) : Txt.mul (Str.ofString "\\") ((l.length : Int).fmod 2) = S (if l.length % 2 = 1 then [92] else []) := by
  have e : (l.length : Int).fmod 2 = ((l.length % 2 : Nat) : Int) := by rw [Int.fmod_eq_emod_of_nonneg _ (by omega)]; omega
  rw [e]
  rcases Nat.mod_two_eq_zero_or_one l.length with h | h
  · rw [h]; decide +kernel
  · rw [h]; decide +kernel
theorem flat_len {n : Nat} {R : Rows} (h : Bd n R) (hn : n ≤ 48) : R.flatten.length ≤ 1000000 := by
  have key : ∀ R : Rows, (∀ r ∈ R, r.length ≤ n + 1) → R.flatten.length ≤ R.length * (n + 1) := by
    intro R
    induction R with
    | nil => simp
    | cons r R ih =>
      intro hr
      have h1 := hr r (List.mem_cons_self ..)
      have h2 := ih fun q hq => hr q (List.mem_cons_of_mem _ hq)
      rw [List.flatten_cons, List.length_append, List.length_cons, Nat.succ_mul]
      omega
  have h1 := key R fun r hr => (h.2 r hr).1
  have h2 : R.length * (n + 1) ≤ 49 * 49 := Nat.mul_le_mul (by have := h.1; omega) (by omega)
  omega
set_option maxHeartbeats 8000000 in
theorem lawt : PySem.Challenge.rw_wn0029_01.Holds := Mine.hd (by
  k_go0
  k_steps
  refine unhold ?_
  rename News _ _ _ _ => N1
  rename Fr _ _ _ _ => F1
  rename IntsAre _ _ => hI
  rename Below _ _ _ _ => KB
  rename Top topProg _ _ _ _ _ => TT
  rename CodeHd _ _ _ => CH
  rename Frag.In _ _ => XX
  rename Heap.IsList (ghostOf _ _) _ _ => hLg
  refine hidden_ct _ _ _ _ _ _ _ _ _ hI (by omega) _ _ _ _ _ _ _ _ _ _ _ _ _ _ _ _ _ KB F1 XX TT rfl (by decide) (by decide) (hLg.at fun o e => F1.keep _ _ e) fun r tl h' tk' hk hn ho => ?_
  obtain ⟨l, t, rfl, hll, hal⟩ := ho
  obtain ⟨F2, N2, _⟩ := afterCall F1 N1 hk hn
  clear F1 N1 hk hn
  k_steps
  refine unhold ?_
  rename News _ _ _ _ => N1
  rename Fr _ _ _ _ => F1
  refine rows_ct _ _ _ _ _ _ l t (by omega) _ _ _ _ _ _ _ _ _ _ _ _ _ _ _ _ _ KB F1 XX TT rfl (by decide) (by decide) fun vr tl2 h' tk' hk hn hD => ?_
  obtain ⟨F2, N2, hr2⟩ := afterCall F1 N1 hk hn
  clear F1 N1 hk hn
  k_steps
  refine unhold ?_
  rename News _ _ _ _ => N1
  rename Fr _ _ _ _ => F1
  have hfine := fine_run l
  have hbc := hfine.bc
  refine wpAny_BinOp (comp_two rfl F1 N1 (hD.mono fun p hp => List.mem_append_left _ hp) (by have := hbc.1; exact Nat.le_trans this (by omega)) (flat_len hbc (by omega)) (fun Q hq => nameX_L F1 rfl hq) (by intro _; rfl) (by with_unfolding_all rfl) (by decide) (by rfl) (by decide) (by rfl) (by rfl) (by decide) (by decide) fun ys D h' tk' F3 N3 hlt hys => ?_)
  clear F1 N1
  k_steps
  refine unhold ?_
  rename News _ _ _ _ => N4
  rename Fr _ _ _ _ => F4
  refine kmk_add_lit F4 N4 ⟨_, (N4 (D, LCg.lst ys) (by simp)).1, rfl, _, rfl⟩ ⟨_, (N4 _ (List.mem_cons_self ..)).1, rfl, _, rfl⟩ rfl (fun D2 h2 F5 N5 hlt5 => ?_) ?_
  rotate_left
  · have q1 := hys.length
    have q2 := flat_len hbc (by omega)
    rw [List.length_map] at q1
    simp only [sizeLine_eq]
    simp
    have q3 : (rowsOf l).flatten.length ≤ 1000000 := q2
    omega
  clear F4 N4 hlt
  k_steps
  refine unhold ?_
  refine wpAny_BinOp ?_
  k_steps
  refine unhold ?_
  rename News _ _ _ _ => N4
  rename Fr _ _ _ _ => F4
  refine meant_call (a := [92]) (by decide +kernel) (by omega) (by decide) KB F4 XX N4 TT rfl (by decide) (by decide) fun t9 h9 tk9 F9 N9 l9 => ?_
  clear F4 N4
  k_steps
  refine unhold ?_
  refine wpAny_BinOp ?_
  k_steps
  refine unhold ?_
  refine wpAny_BinOp ?_
  k_steps
  rw [mul_par]
  refine add_S (by have := signs_len l; unfold signsOf at this; rw [List.length_append] at this; omega) (by split <;> simp) fun t8 k8 => ?_
  k_steps
  refine unhold ?_
  rename News _ _ _ _ => N4
  rename Fr _ _ _ _ => F4
  refine lexer_ct _ _ _ _ _ _ (signsOf l) _ (by have := signs_len l; omega) _ _ _ _ _ _ _ _ _ _ _ _ _ _ _ _ _ KB F4 XX TT rfl (by decide) (by decide) (fun q hq => N4 q (by rw [List.mem_singleton.mp hq]; simp)) CH fun h7 tk7 la tn vs c hk7 hf hvs hnew h116 => ?_
  obtain ⟨ps, h116⟩ := h116
  obtain ⟨F5, hsep, nx', N5, hlexin, h116in, hrest⟩ := afterLex (o := tabObj #[]) F4 N4 (by simp) hk7 h116 hnew
  rename _ = Data.cell _ => hcd
  clear hk7 hnew
  refine storeC F5 N5 rfl (hrest _ (List.mem_cons_of_mem _ (List.mem_cons_of_mem _ (List.mem_cons_of_mem _ (List.mem_append_right _ (List.mem_append_right _ (List.mem_cons_self ..)))))) ?_) hcd fun h8 oc nx8 F8 N8 hc8 hd8 hr8 => ?_
  rotate_left
  · clear F4 N4
    k_steps
    refine unhold ?_
    rename Fr _ _ _ _ => F9
    refine LCg.Assign_ListComp_U F9 (by rfl) (by with_unfolding_all rfl) (by with_unfolding_all rfl) (by decide) (by rfl) (by decide) (by rfl) (by rfl) (by rfl) ?_
    refine nameX_L F9 rfl ?_
    have hysl := hys.length
    have hfl := flat_len hbc (by omega)
    rw [List.length_map] at hysl
    have hfl' : (rowsOf l).flatten.length ≤ 1000000 := hfl
    rename 116 < _ => q6
    obtain ⟨N9, hoff⟩ := lawFix N8 hc8 hr8 hlexin h116in hrest hsep hlt5 hr2 (Nat.ne_of_lt (Nat.lt_succ_of_lt q6))
    clear N8 hr8 hlexin hrest hsep hlt5 hr2 h116in hc8 F5 N5
    refine LCg.CompSrc.ledger rfl F9 N9 (List.mem_append_right _ (List.mem_cons_of_mem _ (List.mem_cons_of_mem _ (List.mem_cons_self ..)))) ?_ fun g => ?_
    · rw [sizeLine_eq]; simp; omega
    rw [show (ys.toArray.toList ++ #[Value.str (Str.ofString "") _, Value.str (Str.ofString "") _].toList).toArray.size = (rowsOf l).flatten.length + 2 from (show (ys ++ [_, _]).length = _ by rw [List.length_append, hysl]; rfl)]
    refine rest_tok (lines := 1 + ((signsOf l).count 10 : Int)) hoff (fun add => .inr ⟨_, List.mem_append_right _ (List.mem_cons_of_mem _ (List.mem_cons_of_mem _ (List.mem_cons_self ..))), rfl, _, rfl⟩) ?_ 0 _ (signsOf l) 0 [] [] 1 tn 4 vs c .nil hvs rfl ?_ ?_
    · intro n2 tn2 ep2 vs2 c2 l2 v2 I oI C oC D3 m2 ys2 h2 tk2 E2 hC2 hx2 F2 N2 hvs2 hn2 hl2
      have NW : News _ _ _ ((_, oc) :: lexNews _ la n2 tn2 ep2 vs2 c2) := fun p hp => N2 p (by
        rcases List.mem_cons.mp hp with rfl | hp
        · exact .tail _ (.tail _ (.tail _ (List.mem_append_right _ (List.mem_cons_self ..))))
        · exact .tail _ (.tail _ (.tail _ (List.mem_append_left _ hp))))
      clear N2 N9 hC2 hx2
      dsimp only
      k_steps
      refine unhold ?_
      refine wpAny_call ?_
      dsimp only
      refine get_token_ct _ _ _ _ _ _ la _ _ _ _ _ _ _ _ _ _ _ _ _ _ _ n2 tn2 ep2 vs2 c2 l2 _ KB F2 XX TT rfl (by decide) (by decide) hf (fun q hq => NW q (.tail _ hq)) hvs2 hl2 fun h3 tk3 n3 tn3 ep3 vs3 c3 t3 hk3 hn3 hv3 hc3 => ?_
      exact ⟨h3, tk3, n3, tn3, ep3, vs3, c3, t3, rfl, hk3, hn3, hv3, by omega, rfl⟩
    · have := signs_len l; omega
    · intro ys3 n3 tn3 ep3 vs3 c3 hy3 hv3 hn3
      obtain ⟨e1, e2⟩ := law_toks l hal
      rw [e1, List.nil_append] at hy3
      rw [e2, law_lines l hal] at hn3
      have hn3' : n3 = 1 + (l.count 76 : Int) := by simpa using hn3
      subst hn3'
      unfold LCg.FinA
      intro D4 h4 tk4 F4 N4 off4
      clear hv3 hn3 N9 F9 hoff hvs h116 e1 e2
      have z0 : Dat.str (Str.ofString "") = wD [] := congrArg Dat.str lit0
      have hyw : ∀ t1 t2, DatAll [] (ys ++ [Value.str (Str.ofString "") t1, Value.str (Str.ofString "") t2]) (((rowsOf l).flatten ++ [[], []]).map wD) := by
        intro t1 t2
        rw [List.map_append]
        refine DatAll.append (wordsFree hys) ?_
        show DatAll [] [_, _] [wD [], wD []]
        rw [← z0]
        exact .cons (.str _ _) (.cons (.str _ _) .nil)
      dsimp only
      k_steps
      refine unhold ?_
      refine ne_words N4 (List.mem_cons_self ..) (.tail _ (List.mem_append_right _ (.tail _ (.tail _ (List.mem_cons_self ..))))) hy3 (hyw _ _) (low_flat (rows_low l hal)) (by ke_room) ?_
      clear hyw hy3 hys z0
      k_steps
      refine unhold ?_
      refine wpAny_BinOp ?_
      k_steps
      refine unhold ?_
      rename News _ _ _ _ => N5
      rename Fr _ _ _ _ => F5
      refine read_ct _ _ _ _ _ _ l t (by omega) _ _ _ _ _ _ _ _ _ _ _ _ _ _ _ _ _ KB F5 XX TT rfl (by decide) (by decide) fun r5 tl5 h' tk' hk hn hD5 => ?_
      obtain ⟨F6, N6, _⟩ := afterCall F5 N5 hk hn
      clear F5 N5 hk hn
      have hD6 : DatIn tl5 r5 (rowsD (rowsOf l)) := by
        have q := hD5
        rw [readOf_is] at q
        exact q
      clear hD5
      k_steps
      refine unhold ?_
      refine eq_rows N6 hD6 hD (fun p hp => List.mem_append_left _ hp) (fun p hp => List.mem_append_right _ (.tail _ (List.mem_append_right _ (.tail _ (.tail _ (.tail _ hp)))))) (rows_low l hal) (by ke_room) ?_
      k_steps
  · rename 116 < _ => q
    exact Nat.ne_of_gt (Nat.lt_succ_of_lt q))
end

end Mine
end

theorem PySem.Challenge.cw_wn0029_01_holds : PySem.Challenge.rw_wn0029_01.Holds :=
  Mine.lawt
