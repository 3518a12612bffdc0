import PyProof.Rows.All
import Wide.All
import OpenK.AllK
import Wide.FinOn
import PySem.Challenge.RW_ib0004_03
open PySem PySem.W PySem.Calls PyProof.Rows
set_option Elab.async false
set_option maxRecDepth 100000
set_option maxHeartbeats 8000000
namespace Mine

/-- what a call keeps: all but what it may change -/
def KeepsBut (mts : List Addr) (h h' : Heap) : Prop := ∀ b o, b ∉ mts → h.get? b = some o → h'.get? b = some o

/-- a call's contract -/
def Ctr (prog : Program) (K : Params → Frag) (TB : Heap → Prop) (w : World) (f : Addr) (dd uu : Nat) (vs : List Value) (mts : List (Addr × Obj)) (Pre : Heap → Prop) (Post : Heap → Value → Heap → Prop) : Prop :=
  ∀ (p : Program) (loose : List Str) (mean : ExcName → Option Value) (mg mb : Str → Option Value) (dp un : Nat) (gd : Option (List Code)) (cn : Str) (cs : Scope) (a : Addr) (ccd : Value) (cl : List (Str × Addr)) (outer : List Env) (A₀ : Around) (base h₀ : Heap) (L : Addr) (m : Str → Option Value) (s : Shared) (Q E : Value → Shared → Prop),
    Below A₀ base outer h₀ → Fr h₀ L s.heap m → (K w.params).In h₀ → News h₀ L s.heap mts → Top p loose mean mg mb h₀ → cs.kind = .function → TB base → Pre s.heap → dp + dd < recursionLimit → un + uu < cLine →
    (∀ v h' tk', KeepsBut (mts.map (·.1)) s.heap h' → Post s.heap v h' → Q v { s with heap := h', toks := tk' }) →
    wpAny (model prog w) (ktrTop dp un gd cn cs L a ccd cl outer) (call (.ref f) vs) Q E s

def CEnd (g : Heap) (L' : Addr) (s : Shared) (Post : Value → Heap → Prop) (v : Value) (s' : Shared) : Prop :=
  ∃ h' tk' m', s' = { s with heap := h', toks := tk' } ∧ Fr g L' h' m' ∧ Post v h'

section
variable {prog : Program} {K : Params → Frag} {TB : Heap → Prop} {w : World}

theorem ctr_plain {f : Addr} {dd uu : Nat} {vs : List Value} {mts : List (Addr × Obj)} {Pre : Heap → Prop} {Post : Heap → Value → Heap → Prop}
    {name qual : Str} {params : Arguments} {body : List Stmt} {scope : Scope} {dV kV doc pm cdv ct oc : Value} {an od : Option Addr} {osl : Array (Option Value)} {binds : List (Str × Value)}
    (ho : (K w.params).lookup f = some ⟨oc, od, .func (fnOf name qual params body scope dV kV doc pm an cdv ct), osl⟩) (hcd : codeIn (K w.params) cdv qual = true) (hdd : 1 ≤ dd)
    (hbind : ∀ s : Shared, (K w.params).In s.heap → BindsTo s (fnOf name qual params body scope dV kV doc pm an cdv ct) ⟨vs, []⟩ binds) (hloc : ∀ y ∈ binds, scope.names.lookup y.1 = some .local)
    (hco : scope.isCoroutine = false) (hgen : scope.isGenerator = false) (hk : scope.kind = .function) (hcell : ∀ x ∈ scope.names, x.2 ≠ .cell)
    (h : ∀ (p : Program) (loose : List Str) (mean : ExcName → Option Value) (mg mb : Str → Option Value) (dp un : Nat) (gd : Option (List Code)) (outer : List Env) (A₀ : Around) (base g : Heap) (L' : Addr) (h₁ : Heap) (tk : Nat) (s : Shared),
      Below A₀ base outer g → Fr g L' h₁ (fun y => binds.reverse.lookup y) → (K w.params).In g → News g L' h₁ mts → Top p loose mean mg mb g → TB base → Pre s.heap → KeepsBut (mts.map (·.1)) s.heap g → s.heap.objs.size ≤ L' →
      (∀ b o, s.heap.get? b = some o → h₁.get? b = some o) → dp + dd < recursionLimit + 1 → un + uu < cLine + 3 →
      wpAny (model prog w) (ktrTop dp un gd qual scope L' f cdv [] outer) (execs body (envX qual scope L' f cdv []))
        (fun fl s' => CEnd g L' s (Post s.heap) (match fl with | .ret v => v | _ => .none) s') (fun _ _ => False) { s with heap := h₁, toks := tk }) :
    Ctr prog K TB w f dd uu vs mts Pre Post := by
  intro p loose mean mg mb dp un gd cn cs a ccd cl outer A₀ base h₀ L m s Q E B F X N T hkd hTB hpre hdp hun hret
  refine wpAny_call ?_
  obtain ⟨FG, BG, st, _⟩ := groundX (R := fun _ _ => True) B F N (A := ktrTop dp un gd cn cs L a ccd cl outer) rfl rfl hkd
  refine codeAny_call_def (fd := fnX name qual params body scope [] dV kV doc pm an cdv ct) (body := body) (binds := binds) (by show dp < recursionLimit; omega) ((X.keeps F.keep) _ _ ho) rfl (T.nolimit.keeps F.keep) (codeRec_of (X.keeps F.keep) hcd) rfl (hbind s (X.keeps F.keep)) hcell hloc (fun h₁ hns hk₁ => ?_) hco hgen hk
  have key := h p loose mean mg mb (dp + 1) (un + 3) gd (envX cn cs L a ccd cl :: outer) _ base (hideAll s.heap (mts.map (·.1))) s.heap.objs.size h₁ (s.toks + binds.length) s BG
    ⟨hns, fun b o e => hk₁ b o (of_hideAll _ e), Nat.le_of_eq (hideAll_size _ _)⟩ (X.keeps st)
    (fun p hp => ⟨hk₁ _ _ (N p hp).1, Nat.ne_of_lt (Heap.lt_size (N p hp).1), hideAll_none _ (List.mem_map_of_mem hp)⟩) (T.keeps st) hTB hpre
    (fun b o hb e => hideAll_get _ e hb) (Nat.le_refl _) hk₁ (by omega) (by omega)
  refine wpAny_mono key (fun fl s' hl => ?_) (fun _ _ x => x.elim)
  obtain ⟨h', tk', m', rfl, F', hp⟩ := hl
  exact hret _ h' tk' (fun b o hb e => F'.keep b o (hideAll_get _ e hb)) hp
theorem ctr_clos {f : Addr} {dd uu : Nat} {vs : List Value} {mts : List (Addr × Obj)} {Pre : Heap → Prop} {Post : Heap → Value → Heap → Prop}
    {name qual : Str} {params : Arguments} {body : List Stmt} {scope : Scope} {cl : List (Str × Addr)} {doc pm ctv : Value} {c' : Addr} {binds : List (Str × Value)}
    (hfn : ∀ h, Pre h → h.get? f = some (fnMade name qual params body scope cl doc pm c' ctv) ∧ h.CodeRec (.ref c') qual) (hdd : 1 ≤ dd)
    (hbind : ∀ s : Shared, BindsTo s (fnX name qual params body scope cl .none .none doc pm none (.ref c') ctv) ⟨vs, []⟩ binds) (hloc : ∀ y ∈ binds, scope.names.lookup y.1 = some .local)
    (hco : scope.isCoroutine = false) (hgen : scope.isGenerator = false) (hk : scope.kind = .function) (hcell : ∀ x ∈ scope.names, x.2 ≠ .cell)
    (h : ∀ (p : Program) (loose : List Str) (mean : ExcName → Option Value) (mg mb : Str → Option Value) (dp un : Nat) (gd : Option (List Code)) (outer : List Env) (A₀ : Around) (base g : Heap) (L' : Addr) (h₁ : Heap) (tk : Nat) (s : Shared),
      Below A₀ base outer g → Fr g L' h₁ (fun y => binds.reverse.lookup y) → (K w.params).In g → News g L' h₁ mts → Top p loose mean mg mb g → TB base → Pre s.heap → KeepsBut (mts.map (·.1)) s.heap g → s.heap.objs.size ≤ L' →
      (∀ b o, s.heap.get? b = some o → h₁.get? b = some o) → dp + dd < recursionLimit + 1 → un + uu < cLine + 3 →
      wpAny (model prog w) (ktrTop dp un gd qual scope L' f (.ref c') cl outer) (execs body (envX qual scope L' f (.ref c') cl))
        (fun fl s' => CEnd g L' s (Post s.heap) (match fl with | .ret v => v | _ => .none) s') (fun _ _ => False) { s with heap := h₁, toks := tk }) :
    Ctr prog K TB w f dd uu vs mts Pre Post := by
  intro p loose mean mg mb dp un gd cn cs a ccd cl' outer A₀ base h₀ L m s Q E B F X N T hkd hTB hpre hdp hun hret
  refine wpAny_call ?_
  obtain ⟨FG, BG, st, _⟩ := groundX (R := fun _ _ => True) B F N (A := ktrTop dp un gd cn cs L a ccd cl' outer) rfl rfl hkd
  obtain ⟨ho, hcd⟩ := hfn _ hpre
  refine codeAny_call_def (fd := fnX name qual params body scope cl .none .none doc pm none (.ref c') ctv) (body := body) (binds := binds) (by show dp < recursionLimit; omega) ho rfl (T.nolimit.keeps F.keep) hcd rfl (hbind s) hcell hloc (fun h₁ hns hk₁ => ?_) hco hgen hk
  have key := h p loose mean mg mb (dp + 1) (un + 3) gd (envX cn cs L a ccd cl' :: outer) _ base (hideAll s.heap (mts.map (·.1))) s.heap.objs.size h₁ (s.toks + binds.length) s BG
    ⟨hns, fun b o e => hk₁ b o (of_hideAll _ e), Nat.le_of_eq (hideAll_size _ _)⟩ (X.keeps st)
    (fun p hp => ⟨hk₁ _ _ (N p hp).1, Nat.ne_of_lt (Heap.lt_size (N p hp).1), hideAll_none _ (List.mem_map_of_mem hp)⟩) (T.keeps st) hTB hpre
    (fun b o hb e => hideAll_get _ e hb) (Nat.le_refl _) hk₁ (by omega) (by omega)
  refine wpAny_mono key (fun fl s' hl => ?_) (fun _ _ x => x.elim)
  obtain ⟨h', tk', m', rfl, F', hp⟩ := hl
  exact hret _ h' tk' (fun b o hb e => F'.keep b o (hideAll_get _ e hb)) hp

theorem ctr_cells {f : Addr} {dd uu : Nat} {vs : List Value} {mts : List (Addr × Obj)} {Pre : Heap → Prop} {Post : Heap → Value → Heap → Prop}
    {name qual : Str} {params : Arguments} {body : List Stmt} {scope : Scope} {dV kV doc pm cdv ct oc : Value} {an od : Option Addr} {osl : Array (Option Value)} {binds : List (Str × Value)}
    (ho : (K w.params).lookup f = some ⟨oc, od, .func (fnOf name qual params body scope dV kV doc pm an cdv ct), osl⟩) (hcd : codeIn (K w.params) cdv qual = true) (hdd : 1 ≤ dd)
    (hbind : ∀ s : Shared, (K w.params).In s.heap → BindsTo s (fnOf name qual params body scope dV kV doc pm an cdv ct) ⟨vs, []⟩ binds)
    (hkind : (binds.all fun y => scope.names.lookup y.1 == some .local || scope.names.lookup y.1 == some .cell) = true)
    (hnd : ((cellsFrom 0 scope.names []).map (·.1)).Nodup)
    (hco : scope.isCoroutine = false) (hgen : scope.isGenerator = false) (hk : scope.kind = .function)
    (h : ∀ (p : Program) (loose : List Str) (mean : ExcName → Option Value) (mg mb : Str → Option Value) (dp un : Nat) (gd : Option (List Code)) (outer : List Env) (A₀ : Around) (base g : Heap) (L' : Addr) (h₁ : Heap) (tk : Nat) (s : Shared) (cells : List (Addr × Obj)),
      Below A₀ base outer g → Fr g L' h₁ (bindL (envOfC qual scope L' f cdv).kindOf binds fun _ => none) → (K w.params).In g → News g L' h₁ (cells ++ mts) →
      CellsAre (bindC (envOfC qual scope L' f cdv).kindOf binds fun _ => none) (cellsFrom (L' + 1) scope.names []) cells →
      Top p loose mean mg mb g → TB base → Pre s.heap → KeepsBut (mts.map (·.1)) s.heap g → s.heap.objs.size ≤ L' →
      (∀ b o, s.heap.get? b = some o → h₁.get? b = some o) → (∀ p ∈ mts, p.1 < L') → dp + dd < recursionLimit + 1 → un + uu < cLine + 3 →
      wpAny (model prog w) (ktrTop dp un gd qual scope L' f cdv (cellsFrom (L' + 1) scope.names []) outer) (execs body (envX qual scope L' f cdv (cellsFrom (L' + 1) scope.names [])))
        (fun fl s' => CEnd g L' s (Post s.heap) (match fl with | .ret v => v | _ => .none) s') (fun _ _ => False) { s with heap := h₁, toks := tk }) :
    Ctr prog K TB w f dd uu vs mts Pre Post := by
  intro p loose mean mg mb dp un gd cn cs a ccd cl outer A₀ base h₀ L m s Q E B F X N T hkd hTB hpre hdp hun hret
  refine wpAny_call ?_
  obtain ⟨FG, BG, st, _⟩ := groundX (R := fun _ _ => True) B F N (A := ktrTop dp un gd cn cs L a ccd cl outer) rfl rfl hkd
  have hlim : h₀.NoLimit := T.nolimit
  refine codeAny_call_function (by show dp < recursionLimit; omega) ((X.keeps F.keep) _ _ ho) rfl hco hgen rfl (codeRec_of (X.keeps F.keep) hcd) (hbind s (X.keeps F.keep) _ _ _ _ ?_)
  refine wpAny_newFunctionEnv_cells hk (kindsX hkind _) fun env' he s' x => ?_
  subst he
  refine ⟨(hlim.keeps F.keep).keeps x.toInCall.keep, codeAny_func ?_⟩
  obtain ⟨h₁, tk, rfl, _⟩ := x.done
  have hk₁ := x.toInCall.keep
  obtain ⟨cells, NC, Y⟩ := Cl.news (h₀ := s.heap) (Nat.le_refl _) fun n c hm => ⟨x.cell n c (lookup_of_mem_nodup (cellsFrom_names scope.names 0 (s.heap.objs.size + 1) [] [] rfl ▸ hnd) hm), x.above n c hm⟩
  have X' := X.keeps st
  have T' := T.keeps st
  have key := fun hN => h p loose mean mg mb (dp + 1) (un + 3) gd (envX cn cs L a ccd cl :: outer) _ base (hideAll s.heap (mts.map (·.1))) s.heap.objs.size h₁ tk s cells BG
    ⟨x.toInCall.ns, fun b o e => hk₁ b o (of_hideAll _ e), Nat.le_of_eq (hideAll_size _ _)⟩ X' hN Y T' hTB hpre
    (fun b o hb e => hideAll_get _ e hb) (Nat.le_refl _) hk₁ (fun p hp => Heap.lt_size (N p hp).1) (by omega) (by omega)
  refine wpAny_mono (key ?_) (fun fl s' hl => ?_) (fun _ _ x => x.elim)
  rotate_left
  · obtain ⟨h', tk', m', rfl, F', hp⟩ := hl
    exact hret _ h' tk' (fun b o hb e => F'.keep b o (hideAll_get _ e hb)) hp
  · intro p hp
    rcases List.mem_append.mp hp with hp | hp
    · refine ⟨(NC p hp).1, (NC p hp).2.1, ?_⟩
      cases q : (hideAll s.heap (mts.map (·.1))).get? p.1 with
      | none => rfl
      | some o => have := of_hideAll _ q; rw [(NC p hp).2.2] at this; cases this
    · exact ⟨hk₁ _ _ (N p hp).1, Nat.ne_of_lt (Heap.lt_size (N p hp).1), hideAll_none _ (List.mem_map_of_mem hp)⟩

theorem by_size {D : Type} {P : D → Prop} (size : D → Nat) (step : ∀ d, (∀ d', size d' < size d → P d') → P d) : ∀ d, P d := by
  have all : ∀ n, ∀ d, size d < n → P d := by
    intro n
    induction n with
    | zero => intro d h; exact absurd h (Nat.not_lt_zero _)
    | succ n ih => exact fun d h => step d fun d' h' => ih d' (Nat.lt_of_lt_of_le h' (Nat.le_of_lt_succ h))
  exact fun d => all _ d (Nat.lt_succ_self _)
end

section
variable {M : Model} {A : Around} {E : Value → Shared → Prop} {s : Shared} {h₀ : Heap} {L : Addr} {m : Str → Option Value} {news : List (Addr × Obj)}
theorem newTuple_M {vs : List Value} {Q : Value → Shared → Prop} (F : Fr h₀ L s.heap m) (N : News h₀ L s.heap news)
    (h : ∀ D h', Fr h₀ L h' m → News h₀ L h' ((D, { cls := .type "tuple", data := .seq vs.toArray }) :: news) → (∀ p ∈ news, p.1 < D) → L < D → Q (.ref D) { s with heap := h' }) (hsz : vs.length ≤ sizeLine := by size_fits) :
    wpAny M A (newTuple vs) Q E s := newTuple_N F N (fun h' F' N' => h _ h' F' N' (fun p hp => Heap.lt_size (N p hp).1) F.ns.lt) hsz
theorem newList_M {vs : List Value} {Q : Value → Shared → Prop} (F : Fr h₀ L s.heap m) (N : News h₀ L s.heap news)
    (h : ∀ D h', Fr h₀ L h' m → News h₀ L h' ((D, { cls := .type "list", data := .seq vs.toArray }) :: news) → (∀ p ∈ news, p.1 < D) → L < D → Q (.ref D) { s with heap := h' }) (hsz : vs.length ≤ sizeLine := by size_fits) :
    wpAny M A (newList vs) Q E s := newList_N F N (fun h' F' N' => h _ h' F' N' (fun p hp => Heap.lt_size (N p hp).1) F.ns.lt) hsz
end

theorem foldl_rep (v : Value) : ∀ k : Nat, ∀ a : Array Value, List.foldl (fun x1 x2 => x1 ++ x2) a (List.replicate k #[v]) = a ++ (List.replicate k v).toArray
  | 0, a => by simp
  | k + 1, a => by
    rw [List.replicate_succ, List.foldl_cons, foldl_rep v k, List.replicate_succ]
    apply Array.ext'
    simp
theorem ints_rep (c : Int) (t : Tok) : ∀ k, IntsAre (List.replicate k (Value.int c t)) (List.replicate k c)
  | 0 => .nil
  | k + 1 => by rw [List.replicate_succ, List.replicate_succ]; exact .cons c t (ints_rep c t k)
theorem mul1_M {prog : Program} {w : World} {A : Around} {E : Value → Shared → Prop} {s : Shared} {h₀ : Heap} {L : Addr} {m : Str → Option Value} {news : List (Addr × Obj)} {l : Addr} {c : Int} {t : Tok} {k : Nat} {x : Int} {u : Tok} {Q : Value → Shared → Prop}
    (F : Fr h₀ L s.heap m) (N : News h₀ L s.heap news) (hm : (l, listOf #[.int c t] k) ∈ news) (h0 : 0 ≤ x) (hhi : x ≤ 1048576)
    (h : ∀ D vs h', IntsAre vs (List.replicate x.toNat c) → Fr h₀ L h' m → News h₀ L h' ((D, listOf vs.toArray 0) :: news) → (∀ p ∈ news, p.1 < D) → L < D → Q (.ref D) { s with heap := h' }) :
    wpAny (model prog w) A (binaryOp .Mult (.ref l) (.int x u)) Q E s :=
  mul_list F N (N.get hm) (by omega) (by omega) (by show 1 * x.toNat ≤ 2 ^ 24; omega) fun h' F' N' => by
    have e : List.foldl (fun x1 x2 => x1 ++ x2) #[] (List.replicate (if (#[Value.int c t] : Array Value).isEmpty = true then 0 else x.toNat) #[Value.int c t]) = (List.replicate x.toNat (Value.int c t)).toArray := by
      rw [foldl_rep]
      apply Array.ext'
      simp
    rw [e] at N'
    exact h _ _ h' (ints_rep c t _) F' N' (fun p hp => Heap.lt_size (N p hp).1) F.ns.lt

theorem len_M {prog : Program} {w : World} {A : Around} {E : Value → Shared → Prop} {s : Shared} {h₀ : Heap} {L : Addr} {news : List (Addr × Obj)} {l : Addr} {vs : List Value} {ns : List Int} {k : Nat} {Q : Value → Shared → Prop}
    (N : News h₀ L s.heap news) (hm : (l, listOf vs.toArray k) ∈ news) (hi : IntsAre vs ns) (hfit : ns.length < 2 ^ 62)
    (h : Q (.int (ns.length : Nat) (s.toks + 1)) { s with toks := s.toks + 1 + 1 }) : wpAny (model prog w) A (call (.builtin "len") [.ref l]) Q E s :=
  len_ints_fit (PySem.IsL.isList (n := k) (N _ hm).1) hi hfit h

theorem fr_after {h₀ h h' : Heap} {L : Addr} {m : Str → Option Value} {mts : List (Addr × Obj)} (F : Fr h₀ L h m) (N : News h₀ L h mts) (k : KeepsBut (mts.map (·.1)) h h') : Fr h₀ L h' m := by
  obtain ⟨oL, es, ep, hL, hd, hk, hf⟩ := F.ns
  refine ⟨⟨oL, es, ep, k _ _ (fun q => ?_) hL, hd, hk, hf⟩, fun b o e => k b o (fun q => ?_) (F.keep b o e), F.above⟩
  · obtain ⟨p, hp, e⟩ := List.mem_map.mp q
    exact (N p hp).2.1 e
  · obtain ⟨p, hp, rfl⟩ := List.mem_map.mp q
    rw [(N p hp).2.2] at e; cases e
theorem news_after {h₀ h h' : Heap} {L : Addr} {mts news : List (Addr × Obj)} (N : News h₀ L h news) (k : KeepsBut (mts.map (·.1)) h h') (hn : ∀ p ∈ news, p.1 ∉ mts.map (·.1)) : News h₀ L h' news :=
  fun p hp => ⟨k _ _ (hn p hp) (N p hp).1, (N p hp).2⟩
theorem news_cons {h₀ h : Heap} {L : Addr} {p : Addr × Obj} {news : List (Addr × Obj)} (h1 : h.get? p.1 = some p.2) (h2 : p.1 ≠ L) (h3 : h₀.get? p.1 = none) (N : News h₀ L h news) : News h₀ L h (p :: news) :=
  fun q hq => (List.mem_cons.mp hq).elim (fun e => e ▸ ⟨h1, h2, h3⟩) (N q)
theorem none_of_size {h : Heap} {D : Addr} (hd : h.objs.size ≤ D) : h.get? D = none := by
  cases q : h.get? D with
  | none => rfl
  | some o => exact absurd (Heap.lt_size q) (Nat.not_lt.mpr hd)
/-- a new object that a call handed back enters the ledger -/
theorem news_new {h₀ h h' : Heap} {L D : Addr} {m : Str → Option Value} {o : Obj} {news : List (Addr × Obj)} (F : Fr h₀ L h m) (hD : h'.get? D = some o) (hs : h.objs.size ≤ D) (N : News h₀ L h' news) : News h₀ L h' ((D, o) :: news) :=
  news_cons hD (Nat.ne_of_gt (Nat.lt_of_lt_of_le F.ns.lt hs)) (none_of_size (Nat.le_trans (Nat.le_trans F.above (Nat.le_of_lt F.ns.lt)) hs)) N
theorem lt_new {h₀ h : Heap} {L D : Addr} {news : List (Addr × Obj)} (N : News h₀ L h news) (hs : h.objs.size ≤ D) : ∀ p ∈ news, p.1 < D :=
  fun p hp => Nat.lt_of_lt_of_le (Heap.lt_size (N p hp).1) hs

theorem nameX_G {M : Model} {A : Around} {E : Value → Shared → Prop} {s : Shared} {g : Heap} {L a c : Addr} {m : Str → Option Value} {cn : Str} {cs : Scope} {ccd : Value} {cl : List (Str × Addr)} {x : Str} {pos : Pos} {o : Obj} {v : Value} {Q : Value → Shared → Prop}
    (F : Fr g L s.heap m) (hc : cl.lookup x = some c) (hg : g.get? c = some o) (hd : o.data = .cell (some v)) (h : Q v s)
    (hk : cs.kind = .function := by rfl) (hx : (envX cn cs L a ccd cl).kindOf x = some .free := by rfl) (hb : (x == ("__debug__" : Str)) = false := by decide) (hn : (x == ("__classdict__" : Str)) = false := by decide) :
    wpAny M A (eval (.Name x pos) (envX cn cs L a ccd cl)) Q E s := wpAny_Name (wpAny_loadName_free hk hx hc ⟨o, F.keep _ _ hg, hd⟩ h hn) hb

theorem fnAt_G {g h : Heap} {L q : Addr} {m : Str → Option Value} {oc : Value} {od : Option Addr} {fd : FuncData} {sl : Array (Option Value)} (F : Fr g L h m) (hg : g.get? q = some ⟨oc, od, .func fd, sl⟩) : FnAt q h := ⟨_, _, _, _, F.keep _ _ hg⟩

/-- digits to a base, the lowest first -/
def dg (B : Int) : Nat → Int → List Int
  | 0, _ => []
  | k + 1, x => x % B :: dg B k (x / B)
theorem dg_length (B : Int) : ∀ k x, (dg B k x).length = k
  | 0, _ => rfl
  | k + 1, x => by show (dg B k _).length + 1 = _; rw [dg_length B k]
def wr (ns : List Int) (l : Nat) (ds : List Int) : List Int := ns.take l ++ ds ++ ns.drop (l + ds.length)

structure IDat where
  x : Int
  L : Int
  R : Int
  tx : Tok
  tL : Tok
  tR : Tok
  vs : List Value
  ns : List Int
def IDat.sz (d : IDat) : Nat := (d.R - d.L).toNat
structure IDat.Ok (n : Int) (d : IDat) : Prop where
  l0 : 0 ≤ d.L
  lr : d.L < d.R
  rl : d.R ≤ d.ns.length
  few : d.R - d.L ≤ 20
  x0 : 0 ≤ d.x
  xs : d.x < 1048576
  xl : d.x < (2 ^ n.toNat) ^ (d.R - d.L).toNat
  isI : IntsAre d.vs d.ns
  nl : d.ns.length ≤ 1048576

def Stop (P : Prop) : Prop := P
theorem Stop.mk {P : Prop} (h : Stop P) : P := h
theorem Stop.out {P : Prop} (h : P) : Stop P := h

theorem bits_le {a : Int} {k : Nat} (h0 : 0 ≤ a) (h : a < 2 ^ k) : (Builtin.Int.intBits a : Int) ≤ k := by
  unfold Builtin.Int.intBits
  by_cases ha : a = 0
  · subst ha; simp
  · have hb : (a == 0) = false := by simpa using ha
    rw [hb]
    simp only [Bool.false_eq_true, if_false]
    have h2 : a.natAbs < 2 ^ k := by
      have : ((a.natAbs : Nat) : Int) < ((2 ^ k : Nat) : Int) := by
        rw [Int.natAbs_of_nonneg h0]; simpa using h
      exact Int.ofNat_lt.mp this
    have h3 : a.natAbs.log2 < k := (Nat.log2_lt (by omega)).mpr h2
    omega
theorem and_high (x k : Nat) : x &&& (x / 2 ^ k * 2 ^ k) = x / 2 ^ k * 2 ^ k := by
  have e : x / 2 ^ k * 2 ^ k = (x >>> k) <<< k := by rw [Nat.shiftLeft_eq, Nat.shiftRight_eq_div_pow]
  rw [e]
  apply Nat.eq_of_testBit_eq
  intro i
  rw [Nat.testBit_and, Nat.testBit_shiftLeft, Nat.testBit_shiftRight]
  by_cases h : k ≤ i
  · have : k + (i - k) = i := by omega
    rw [this]
    simp [h]
  · simp [h]
theorem xor_low {x : Int} {k : Nat} (hx : 0 ≤ x) : Builtin.bitXor x (x / 2 ^ k * 2 ^ k) = x % 2 ^ k := by
  obtain ⟨n, rfl⟩ := Int.eq_ofNat_of_zero_le hx
  have e : ((n : Int) / 2 ^ k * 2 ^ k) = ((n / 2 ^ k * 2 ^ k : Nat) : Int) := by push_cast; rfl
  rw [bitXor_and, e, bitAnd_pp (by omega) (by omega)]
  simp only [Int.toNat_natCast, and_high]
  rw [← e]
  have := Int.emod_def (n : Int) (2 ^ k)
  rw [this, Int.mul_comm]
  omega
section
variable {prog : Program} {w : World} {A : Around} {E : Value → Shared → Prop} {s : Shared} {a b : Int} {t u : Tok} {Q : Value → Shared → Prop}
theorem shr_M (ha : 0 ≤ a) (hb : 0 ≤ b) (h : Q (.int (a / 2 ^ b.toNat) s.toks) { s with toks := s.toks + 1 }) : wpAny (model prog w) A (binaryOp .RShift (.int a t) (.int b u)) Q E s := by
  refine PySem.AutoIntOpsIf.rshift ?_
  rw [if_neg (by omega)]
  by_cases hc : b ≥ ((Builtin.Int.intBits a : Nat) : Int)
  · rw [if_pos hc, if_neg (by omega)]
    have e : a / 2 ^ b.toNat = 0 := by
      obtain ⟨n, rfl⟩ := Int.eq_ofNat_of_zero_le ha
      have h2 : n < 2 ^ b.toNat := by
        by_cases h0 : n = 0
        · subst h0; exact Nat.two_pow_pos _
        · have h3 : ((n : Int) == 0) = false := by simpa using h0
          unfold Builtin.Int.intBits at hc
          rw [h3] at hc
          simp only [Bool.false_eq_true, if_false, Int.natAbs_natCast] at hc
          have h4 : n.log2 < b.toNat := by omega
          exact (Nat.log2_lt h0).mp h4
      rw [show ((2 : Int) ^ b.toNat) = ((2 ^ b.toNat : Nat) : Int) by push_cast; rfl, ← Int.natCast_ediv, Nat.div_eq_of_lt h2]
      rfl
    rw [e] at h
    exact h
  · rw [if_neg hc, Int.fdiv_eq_ediv_of_nonneg _ (Int.le_of_lt (Int.pow_pos (by decide)))]
    exact h
theorem shr1_M (h : Q (.int (a / 2) s.toks) { s with toks := s.toks + 1 }) (ha : 0 ≤ a) : wpAny (model prog w) A (binaryOp .RShift (.int a t) (.int 1 u)) Q E s :=
  shr_M (b := 1) ha (by decide) h
theorem shl_M (ha : 0 ≤ a) (ha2 : a < 18446744073709551616) (hb : 0 ≤ b) (hb2 : b ≤ 1000000) (h : Q (.int (a * 2 ^ b.toNat) s.toks) { s with toks := s.toks + 1 }) : wpAny (model prog w) A (binaryOp .LShift (.int a t) (.int b u)) Q E s :=
  lshift_int_small hb hb2 (by show a.natAbs < 18446744073709551616; omega) h
theorem xor_M {k : Nat} (ha : 0 ≤ a) (h : Q (.int (a % 2 ^ k) s.toks) { s with toks := s.toks + 1 }) : wpAny (model prog w) A (binaryOp .BitXor (.int a t) (.int (a / 2 ^ k * 2 ^ k) u)) Q E s :=
  xor_int (by rw [xor_low ha]; exact h)
end
theorem Ctr.use {prog : Program} {K : Params → Frag} {TB : Heap → Prop} {w : World} {f : Addr} {dd uu : Nat} {vs : List Value} {mts : List (Addr × Obj)} {Pre : Heap → Prop} {Post : Heap → Value → Heap → Prop} (c : Ctr prog K TB w f dd uu vs mts Pre Post)
    {p : Program} {loose : List Str} {mean : ExcName → Option Value} {mg mb : Str → Option Value} {dp un : Nat} {gd : Option (List Code)} {cn : Str} {cs : Scope} {a : Addr} {ccd : Value} {cl : List (Str × Addr)} {outer : List Env} {A₀ : Around} {base h₀ : Heap} {L : Addr} {m : Str → Option Value} {s : Shared} {Q E : Value → Shared → Prop}
    (B : Below A₀ base outer h₀) (F : Fr h₀ L s.heap m) (X : (K w.params).In h₀) (N : News h₀ L s.heap mts) (T : Top p loose mean mg mb h₀) (hk : cs.kind = .function) (hTB : TB base) (hpre : Pre s.heap) (hd : dp + dd < recursionLimit) (hu : un + uu < cLine)
    (k : ∀ v h' tk', KeepsBut (mts.map (·.1)) s.heap h' → Post s.heap v h' → Fr h₀ L h' m → Q v { s with heap := h', toks := tk' }) :
    wpAny (model prog w) (ktrTop dp un gd cn cs L a ccd cl outer) (call (.ref f) vs) Q E s :=
  c _ _ _ _ _ _ _ _ _ _ _ _ _ _ _ _ _ _ _ _ _ _ B F X N T hk hTB hpre hd hu fun v h' tk' G P => k v h' tk' G P (fr_after F N G)

theorem dg_mod {B : Int} (hB : 0 < B) : ∀ (j : Nat) (x : Int), dg B j (x % B ^ j) = dg B j x
  | 0, _ => rfl
  | j + 1, x => by
    show x % B ^ (j + 1) % B :: dg B j (x % B ^ (j + 1) / B) = x % B :: dg B j (x / B)
    have e1 : x % B ^ (j + 1) % B = x % B := Int.emod_emod_of_dvd _ ⟨B ^ j, by rw [Int.pow_succ, Int.mul_comm]⟩
    have e2 : x % B ^ (j + 1) / B = x / B % B ^ j := by
      have h1 := Int.emod_def x (B ^ (j + 1))
      have h2 : x / B ^ (j + 1) = x / B / B ^ j := by
        rw [Int.ediv_ediv_of_nonneg (Int.le_of_lt hB), Int.pow_succ, Int.mul_comm]
      rw [h1, h2, Int.pow_succ, Int.emod_def (x / B)]
      have h3 : x - B ^ j * B * (x / B / B ^ j) = x + B * (-(B ^ j * (x / B / B ^ j))) := by
        rw [Int.mul_neg, Int.mul_comm (B ^ j) B, Int.mul_assoc]; omega
      rw [h3, Int.add_mul_ediv_left _ _ (by omega)]
      omega
    rw [e1, e2, dg_mod hB j]
theorem dg_split {B : Int} (hB : 0 < B) (k : Nat) : ∀ (j : Nat) (x : Int), dg B (j + k) x = dg B j x ++ dg B k (x / B ^ j)
  | 0, x => by simp [dg]
  | j + 1, x => by
    rw [show j + 1 + k = (j + k) + 1 by omega]
    show x % B :: dg B (j + k) (x / B) = x % B :: (dg B j (x / B) ++ _)
    rw [dg_split hB k j, Int.ediv_ediv_of_nonneg (Int.le_of_lt hB), ← Int.pow_succ']
theorem wr_length {ns ds : List Int} {l : Nat} (h : l + ds.length ≤ ns.length) : (wr ns l ds).length = ns.length := by
  unfold wr; simp; omega
theorem wr_wr {ns d1 d2 : List Int} {l : Nat} (h : l + d1.length + d2.length ≤ ns.length) : wr (wr ns l d1) (l + d1.length) d2 = wr ns l (d1 ++ d2) := by
  unfold wr
  have e1 : (ns.take l ++ d1 ++ ns.drop (l + d1.length)).take (l + d1.length) = ns.take l ++ d1 := by
    rw [List.take_append_of_le_length (by simp; omega), List.take_of_length_le (by simp; omega)]
  have e2 : (ns.take l ++ d1 ++ ns.drop (l + d1.length)).drop (l + d1.length + d2.length) = ns.drop (l + d1.length + d2.length) := by
    rw [List.drop_append, List.drop_eq_nil_of_le (by simp; omega), List.nil_append, List.drop_drop]
    congr 1
    simp; omega
  rw [e1, e2]
  simp [Nat.add_assoc]
theorem wr_one {ns : List Int} {l : Nat} {x : Int} (h : l < ns.length) : wr ns l [x] = ns.set l x := by
  unfold wr
  rw [List.set_eq_take_append_cons_drop, if_pos h]
  simp
theorem pow_shift {m n : Int} (hm : 0 ≤ m) (hn : 0 ≤ n) : (2 : Int) ^ (m * n).toNat = (2 ^ n.toNat) ^ m.toNat := by
  obtain ⟨a, rfl⟩ := Int.eq_ofNat_of_zero_le hm
  obtain ⟨b, rfl⟩ := Int.eq_ofNat_of_zero_le hn
  rw [← Int.natCast_mul]
  simp only [Int.toNat_natCast]
  rw [← Int.pow_mul, Nat.mul_comm]
theorem emod_le' {x m : Int} (hx : 0 ≤ x) (hm : 0 < m) : x % m ≤ x := by
  have h1 := Int.emod_add_mul_ediv x m
  have h2 : 0 ≤ m * (x / m) := Int.mul_nonneg (Int.le_of_lt hm) (Int.ediv_nonneg hx (Int.le_of_lt hm))
  omega
/-- how many digits to the base 2 ^ n -/
def ndig (a n : Int) : Nat := ((((Builtin.Int.intBits a : Nat) : Int) + n - 1) / n).toNat
theorem ndig_zero {n : Int} (hn : 0 < n) : ndig 0 n = 0 := by
  unfold ndig
  have e : Builtin.Int.intBits 0 = 0 := rfl
  rw [e, Int.ediv_eq_zero_of_lt (by omega) (by omega)]
  rfl
theorem bits_pos {a : Int} (ha : a ≠ 0) : 1 ≤ Builtin.Int.intBits a := by
  unfold Builtin.Int.intBits
  rw [if_neg (by simpa using ha)]; omega
theorem lt_bits {a : Int} (ha : 0 ≤ a) : a < 2 ^ (Builtin.Int.intBits a) := by
  unfold Builtin.Int.intBits
  by_cases h : a = 0
  · subst h; decide
  · rw [if_neg (by simpa using h)]
    obtain ⟨k, rfl⟩ := Int.eq_ofNat_of_zero_le ha
    have := @Nat.lt_log2_self k
    rw [Int.natAbs_natCast]
    exact_mod_cast this
theorem ndig_le {a n : Int} (ha : a ≠ 0) (hn : 0 < n) : 1 ≤ ndig a n ∧ (ndig a n : Int) ≤ (Builtin.Int.intBits a : Nat) ∧ ((Builtin.Int.intBits a : Nat) : Int) ≤ n * ndig a n := by
  have hb := bits_pos ha
  unfold ndig
  generalize Builtin.Int.intBits a = b at *
  have h1 : 1 ≤ ((b : Int) + n - 1) / n := by
    rw [Int.le_ediv_iff_mul_le hn]; omega
  have h2 : ((b : Int) + n - 1) / n ≤ b := by
    rw [← Int.lt_add_one_iff, Int.ediv_lt_iff_lt_mul hn]
    have : 0 ≤ ((b : Int) - 1) * (n - 1) := Int.mul_nonneg (by omega) (by omega)
    rw [Int.sub_mul, Int.mul_sub] at this
    rw [Int.add_mul]
    omega
  have h3 : (b : Int) ≤ n * (((b : Int) + n - 1) / n) := by
    have := Int.emod_add_mul_ediv ((b : Int) + n - 1) n
    have := Int.emod_lt_of_pos ((b : Int) + n - 1) hn
    omega
  refine ⟨by omega, by omega, ?_⟩
  rw [Int.toNat_of_nonneg (by omega)]
  exact h3
theorem lt_dig {a n : Int} (ha : 0 ≤ a) (h0 : a ≠ 0) (hn : 0 < n) : a < (2 ^ n.toNat) ^ (ndig a n) := by
  obtain ⟨_, _, h3⟩ := ndig_le h0 hn
  rw [← Int.pow_mul]
  refine Int.lt_of_lt_of_le (lt_bits ha) ?_
  have : Builtin.Int.intBits a ≤ n.toNat * ndig a n := by
    obtain ⟨k, rfl⟩ := Int.eq_ofNat_of_zero_le (Int.le_of_lt hn)
    exact_mod_cast h3
  exact_mod_cast Nat.pow_le_pow_right (by decide) this
theorem wr_all {ns ds : List Int} (h : ds.length = ns.length) : wr ns 0 ds = ds := by
  unfold wr
  simp [h]

theorem get_mem {h₀ h : Heap} {L : Addr} {p : Addr × Obj} {news : List (Addr × Obj)} (N : News h₀ L h news) (hm : p ∈ news) : h.get? p.1 = some p.2 := (N p hm).1

/-- a code table: cold, or with the one code object -/
inductive TS
  | cold
  | warm (c : Addr) (o : Obj)
def tabs1 (P : Addr) (l k : Int) : TS → List (Addr × Obj)
  | .cold => [(P, tabObj #[])]
  | .warm c o => [(P, tabObj #[rawInt l, rawInt k, .ref c]), (c, o)]
def TsOk (P : Addr) (q : Str) : TS → Prop
  | .cold => True
  | .warm c o => P < c ∧ ∃ vs t, o.data = .fields vs ∧ vs[1]? = some (.str q t)
/-- behind a call the table is warm: as it was, or with a new code object -/
def TNext (P : Addr) (l k : Int) (q : Str) (t : TS) (h h' : Heap) : Prop :=
  ∃ c o, TsOk P q (.warm c o) ∧ (∀ p ∈ tabs1 P l k (.warm c o), h'.get? p.1 = some p.2) ∧ (t = .warm c o ∨ (t = .cold ∧ h.objs.size ≤ c))
def PDig (P : Addr) (l k : Int) (q : Str) (a n : Int) (t : TS) (h : Heap) (v : Value) (h' : Heap) : Prop :=
  (∃ D vs, v = .ref D ∧ h'.get? D = some (listOf vs.toArray 0) ∧ IntsAre vs (dg (2 ^ n.toNat) (ndig a n) a) ∧ h.objs.size ≤ D) ∧ TNext P l k q t h h'
theorem tabs_two {P : Addr} {l k : Int} {c : Addr} {o : Obj} {h : Heap} (h1 : h.get? P = some (tabObj #[rawInt l, rawInt k, .ref c])) (h2 : h.get? c = some o) : ∀ p ∈ tabs1 P l k (.warm c o), h.get? p.1 = some p.2 := by
  intro p hp
  rcases List.mem_cons.mp hp with rfl | hp
  · exact h1
  · rw [List.mem_singleton.mp hp]; exact h2

/-- the number of digits to a base, the lowest first -/
def undg (B : Int) : List Int → Int
  | [] => 0
  | d :: r => d + B * undg B r
theorem undg_append (B : Int) : ∀ a b : List Int, undg B (a ++ b) = undg B a + B ^ a.length * undg B b
  | [], b => by simp [undg]
  | d :: r, b => by
    show d + B * undg B (r ++ b) = d + B * undg B r + B ^ (r.length + 1) * undg B b
    rw [undg_append B r b, Int.mul_add, Int.pow_succ', Int.mul_assoc, Int.add_assoc]
theorem undg_bound {B : Int} (hB : 0 < B) : ∀ {a : List Int}, (∀ d ∈ a, 0 ≤ d ∧ d < B) → 0 ≤ undg B a ∧ undg B a < B ^ a.length
  | [], _ => by simp [undg]
  | d :: r, h => by
    have ih := undg_bound hB (a := r) fun x hx => h x (.tail _ hx)
    have hd := h d (.head _)
    show 0 ≤ d + B * undg B r ∧ d + B * undg B r < B ^ (r.length + 1)
    have h1 : 0 ≤ B * undg B r := Int.mul_nonneg (Int.le_of_lt hB) ih.1
    have h2 : B * (undg B r + 1) ≤ B * B ^ r.length := Int.mul_le_mul_of_nonneg_left (by omega) (Int.le_of_lt hB)
    rw [Int.mul_add, Int.mul_one] at h2
    rw [Int.pow_succ']
    omega
theorem undg_dg {B : Int} (hB : 0 < B) : ∀ (k : Nat) (x : Int), 0 ≤ x → x < B ^ k → undg B (dg B k x) = x
  | 0, x, h0, h1 => by simp at h1; show (0 : Int) = x; omega
  | k + 1, x, h0, h1 => by
    show x % B + B * undg B (dg B k (x / B)) = x
    rw [undg_dg hB k (x / B) (Int.ediv_nonneg h0 (Int.le_of_lt hB)) (Int.ediv_lt_of_lt_mul hB (by rw [← Int.pow_succ]; exact h1))]
    exact Int.emod_add_mul_ediv x B
theorem dg_bound {B : Int} (hB : 0 < B) : ∀ (k : Nat) (x : Int), ∀ d ∈ dg B k x, 0 ≤ d ∧ d < B
  | 0, _, _, h => nomatch h
  | k + 1, x, d, h => by
    rcases List.mem_cons.mp h with rfl | h
    · exact ⟨Int.emod_nonneg _ (by omega), Int.emod_lt_of_pos _ hB⟩
    · exact dg_bound hB k _ d h
structure JDat where
  L : Int
  R : Int
  tL : Tok
  tR : Tok
def JDat.sz (d : JDat) : Nat := (d.R - d.L).toNat
def seg (ns : List Int) (lo hi : Int) : List Int := (ns.drop lo.toNat).take (hi - lo).toNat
theorem seg_split {ns : List Int} {lo mid hi : Int} (h0 : 0 ≤ lo) (h1 : lo ≤ mid) (h2 : mid ≤ hi) : seg ns lo hi = seg ns lo mid ++ seg ns mid hi := by
  unfold seg
  have e1 : (hi - lo).toNat = (mid - lo).toNat + (hi - mid).toNat := by omega
  have e2 : mid.toNat = lo.toNat + (mid - lo).toNat := by omega
  rw [e1, List.take_add, List.drop_drop, e2]
theorem seg_length {ns : List Int} {lo hi : Int} (h0 : 0 ≤ lo) (h1 : lo ≤ hi) (h2 : hi ≤ ns.length) : (seg ns lo hi).length = (hi - lo).toNat := by
  unfold seg; simp; omega
theorem seg_mem {ns : List Int} {lo hi : Int} {d : Int} (h : d ∈ seg ns lo hi) : d ∈ ns := List.mem_of_mem_drop (List.mem_of_mem_take h)
theorem seg_one {ns : List Int} {lo : Int} (h0 : 0 ≤ lo) (h1 : lo < ns.length) : seg ns lo (lo + 1) = [ns.getD lo.toNat 0] := by
  unfold seg
  have e : (lo + 1 - lo).toNat = 1 := by omega
  rw [e]
  have hl : lo.toNat < ns.length := by omega
  rw [List.drop_eq_getElem_cons hl, List.getD_eq_getElem?_getD, List.getElem?_eq_getElem hl]
  rfl
theorem seg_all {ns : List Int} : seg ns 0 ns.length = ns := by
  unfold seg; simp
def PUnd (P : Addr) (l k : Int) (q : Str) (ns : List Int) (n : Int) (t : TS) (h : Heap) (v : Value) (h' : Heap) : Prop :=
  (∃ tk, v = .int (undg (2 ^ n.toNat) ns) tk) ∧ TNext P l k q t h h'

theorem not_tabs {P : Addr} {l k : Int} {q : Str} {t : TS} {h : Heap} {a : Addr} {xs : Array Value} {nk : Nat} (ht : ∀ p ∈ tabs1 P l k t, h.get? p.1 = some p.2) (ok : TsOk P q t) (hl : h.get? a = some (listOf xs nk)) : a ∉ (tabs1 P l k t).map (·.1) := by
  intro hm
  obtain ⟨p, hp, rfl⟩ := List.mem_map.mp hm
  have e := (ht p hp).symm.trans hl
  cases t with
  | cold =>
    rw [List.mem_singleton.mp hp] at e
    cases e
  | warm c o =>
    obtain ⟨_, vs, tk, hd, _⟩ := ok
    rcases List.mem_cons.mp hp with rfl | hp
    · cases e
    · rw [List.mem_singleton.mp hp] at e
      have e' : o = listOf xs nk := Option.some.inj e
      rw [e'] at hd
      cases hd
theorem undg_small {ns : List Int} {n : Int} (hn : 0 < n) (hnl : n * ns.length ≤ 60) (hds : ∀ d ∈ ns, 0 ≤ d ∧ d < (2 : Int) ^ n.toNat) {a b : Int} (h0 : 0 ≤ a) (h1 : a ≤ b) (h2 : b ≤ ns.length) :
    0 ≤ undg (2 ^ n.toNat) (seg ns a b) ∧ undg (2 ^ n.toNat) (seg ns a b) < 18446744073709551616 := by
  have hb := undg_bound (B := 2 ^ n.toNat) (Int.pow_pos (by decide)) (a := seg ns a b) fun d hd => hds d (seg_mem hd)
  refine ⟨hb.1, Int.lt_trans hb.2 ?_⟩
  rw [seg_length h0 h1 h2, ← Int.pow_mul]
  obtain ⟨k, rfl⟩ := Int.eq_ofNat_of_zero_le (Int.le_of_lt hn)
  have h3 : k * (b - a).toNat ≤ k * ns.length := Nat.mul_le_mul_left _ (by omega)
  have h4 : k * ns.length ≤ 60 := by exact_mod_cast hnl
  have h5 : (2 : Nat) ^ (k * (b - a).toNat) ≤ 2 ^ 60 := Nat.pow_le_pow_right (by decide) (by omega)
  simp only [Int.toNat_natCast]
  have h6 : ((2 : Int) ^ (k * (b - a).toNat)) = ((2 ^ (k * (b - a).toNat) : Nat) : Int) := by push_cast; rfl
  rw [h6]
  omega
section
open PySem.Spec
variable {prog : Program} {w : World} {A : Around} {E : Value → Shared → Prop} {s : Shared} {env : Env} {h₀ : Heap} {x : Str} {body : List Stmt} {Q : Flow → Shared → Prop}

/-- the end of a loop's turn -/
def TurnM (h₀ : Heap) (L : Addr) (I : Addr) (o : Obj) (Jn : (Str → Option Value) → List (Addr × Obj) → Prop) (s s' : Shared) : Prop :=
  ∃ h' tk' m' nx, s' = { s with heap := h', toks := tk' } ∧ Fr h₀ L h' m' ∧ News h₀ L h' ((I, o) :: nx) ∧ (∀ p ∈ nx, p.1 ≠ I) ∧ Jn m' nx
def TurnPostM (h₀ : Heap) (L : Addr) (I : Addr) (o : Obj) (Jn : (Str → Option Value) → List (Addr × Obj) → Prop) (s : Shared) (Q : Flow → Shared → Prop) (f : Flow) (s' : Shared) : Prop :=
  match f with
  | .ret v => Q (.ret v) s'
  | .brk => Q .next s'
  | _ => TurnM h₀ L I o Jn s s'

theorem loop_M {I : Addr} {fp : List Addr} {n : Nat} {P : Nat → Value → Prop} {St : Nat → Heap → Prop} {m₀ : Str → Option Value} {news : List (Addr × Obj)}
    (J : Nat → (Str → Option Value) → List (Addr × Obj) → Prop) (fixed : List (Addr × Obj)) (hfix : ∀ i m nx, J i m nx → ∀ p ∈ fixed, p ∈ nx)
    (W : Walks prog w A I fp [I] n P St) (hIf : I ∈ fp) (hLf : env.locals ∉ fp) (hI0 : h₀.get? I = none) (hls : ∀ b ∈ fp, b = I ∨ (∃ o, h₀.get? b = some o) ∨ ∃ o, (b, o) ∈ fixed)
    (hob : ∀ i h, St i h → ∃ o, h.get? I = some o)
    (hnI : ∀ p ∈ news, p.1 ≠ I) (hst : St 0 s.heap) (F : Fr h₀ env.locals s.heap m₀) (N : News h₀ env.locals s.heap news) (hj : J 0 m₀ news)
    (turn : ∀ i v m₁ nx h tk o, i < n → P i v → J i m₁ nx → (∀ p ∈ nx, p.1 ≠ I) → Fr h₀ env.locals h (fun y => if y = x then some v else m₁ y) → News h₀ env.locals h ((I, o) :: nx) →
      wpAny (model prog w) A (execs body env) (TurnPostM h₀ env.locals I o (J (i + 1)) { s with heap := h, toks := tk } Q) E { s with heap := h, toks := tk })
    (done : ∀ m₁ nx h tk, J n m₁ nx → Fr h₀ env.locals h m₁ → News h₀ env.locals h nx → Q .next { s with heap := h, toks := tk }) :
    LoopAtV prog w A h₀ env x body Q E (.ref I) s := by
  refine ⟨I, fp, [I], n, P, St, m₀, news, J, rfl, W, hLf, ?_, ?_, hst, F, N, hj, ?_, ?_⟩
  · intro b hb; rw [List.mem_singleton.mp hb]; exact hI0
  · intro p hp hm; exact hnI p hp (List.mem_singleton.mp hm)
  · rintro i v m₁ nx s₁ own ⟨h, tk, rfl⟩ hi hP hJ hoff hown hget hall hst' F₁ N₁
    obtain ⟨o, ho⟩ := hob _ _ hst'
    have hio : (I, o) ∈ own := hall I hIf hI0 o ho
    have hnx : ∀ p ∈ nx, p.1 ≠ I := fun p hp e => hoff p hp (by rw [e]; exact List.mem_singleton.mpr rfl)
    have N₂ : News h₀ env.locals h ((I, o) :: nx) := fun p hp => by
      rcases List.mem_cons.mp hp with rfl | hp
      · exact N₁ _ (List.mem_append_left _ hio)
      · exact N₁ _ (List.mem_append_right _ hp)
    refine wpAny_mono (turn i v m₁ nx h tk o hi hP hJ hnx F₁ N₂) (fun f s₂ p => ?_) fun _ _ e => e
    have fin : TurnM h₀ env.locals I o (J (i + 1)) { s with heap := h, toks := tk } s₂ → LoopStepU h₀ env.locals [I] own (J (i + 1)) { s with heap := h, toks := tk } .next s₂ := by
      rintro ⟨h', tk', m', nx', e, F', N', hn', hJ'⟩
      refine ⟨rfl, h', tk', m', nx', e, F', fun p hp => ?_, fun p hp hm => hn' p hp (List.mem_singleton.mp hm), hJ'⟩
      rcases List.mem_append.mp hp with hp | hp
      · have h3 := N₁ p (List.mem_append_left _ hp)
        rcases hls p.1 (hown p hp) with e1 | ⟨o0, e1⟩ | ⟨o1, e1⟩
        · have e2 : p.2 = o := by
            have h4 := h3.1
            rw [e1, ho] at h4
            exact (Option.some.inj h4).symm
          rw [show p = (I, o) from Prod.ext e1 e2]
          exact N' _ (.head _)
        · have := h3.2.2
          rw [e1] at this; cases this
        · have h4 := hfix _ _ _ hJ _ e1
          have h5 := (N₂ _ (.tail _ h4)).1
          rw [h3.1] at h5
          have e2 : p = (p.1, o1) := Prod.ext rfl (Option.some.inj h5)
          rw [e2]
          exact N' _ (.tail _ (hfix _ _ _ hJ' _ e1))
      · exact N' _ (.tail _ hp)
    cases f with
    | ret v => exact .ret p
    | brk => exact .brk p
    | next => exact .next (fin p)
    | cont => exact .cont (fin p)
  · rintro h' tk m' news' F' N' _ hJ
    exact done m' news' h' tk hJ F' N'

/-- for over a range by ones -/
theorem range_M {r : Addr} {a₀ b₀ : Int} {t₀ u₀ v₀ : Tok} {n : Nat} {m₀ : Str → Option Value} {news : List (Addr × Obj)} (J : Nat → (Str → Option Value) → List (Addr × Obj) → Prop)
    (hh : A.handled = none) (hr : IsRange s.heap r a₀ b₀ 1 t₀ u₀ v₀) (hsmall : Builtin.Range.small a₀ b₀ 1 = true) (hn : Builtin.Range.rangeSize a₀ b₀ 1 = (n : Int)) (F : Fr h₀ env.locals s.heap m₀) (N : News h₀ env.locals s.heap news) (hj : J 0 m₀ news)
    (turn : ∀ (i : Nat) t I m₁ nx h tk o, i < n → J i m₁ nx → (∀ p ∈ nx, p.1 ≠ I) → (∀ p ∈ news, p.1 < I) → Fr h₀ env.locals h (fun y => if y = x then some (.int (a₀ + i) t) else m₁ y) → News h₀ env.locals h ((I, o) :: nx) →
      wpAny (model prog w) A (execs body env) (TurnPostM h₀ env.locals I o (J (i + 1)) { s with heap := h, toks := tk } Q) E { s with heap := h, toks := tk })
    (done : ∀ m₁ nx h tk, J n m₁ nx → Fr h₀ env.locals h m₁ → News h₀ env.locals h nx → Q .next { s with heap := h, toks := tk }) :
    wpAny (model prog w) A (pyIter (.ref r)) (fun it s₂ => LoopAtV prog w A h₀ env x body Q E it s₂) E s := by
  refine wpAny_pyIter_range hr hsmall ?_
  have W : Walks prog w A s.heap.objs.size [s.heap.objs.size] [s.heap.objs.size] n (fun i v => i < n ∧ ∃ t, v = .int (a₀ + i * 1) t)
      (fun i h => IsRangeIter h s.heap.objs.size (a₀ + (i : Nat) * 1) ((n : Int) - (i : Nat)) 1) := (Walks.range hh _ a₀ 1 n).bound
  refine loop_M J [] (fun _ _ _ _ _ hp => nomatch hp) W (List.mem_singleton.mpr rfl) ?_ (next_is_new F) (fun b hb => .inl (List.mem_singleton.mp hb)) (fun i h hs => ⟨_, hs⟩) ?_ (by show IsRangeIter _ _ _ _ _; rw [hn]; simpa using Heap.get?_push_size _ rfl) (F.push _) (fun p hp => ⟨Heap.get?_push_of_some _ (N p hp).1, (N p hp).2⟩) hj ?_ ?_
  · intro hm
    exact absurd F.ns.lt ((List.mem_singleton.mp hm) ▸ Nat.lt_irrefl _)
  · intro p hp e
    exact absurd (Heap.lt_size (N p hp).1) (by rw [e]; exact Nat.lt_irrefl _)
  · rintro i v m₁ nx h tk o hi ⟨_, t, rfl⟩ hJ hnx F₁ N₁
    rw [Int.mul_one] at F₁
    exact turn i t _ m₁ nx h tk o hi hJ hnx (fun p hp => Heap.lt_size (N p hp).1) F₁ N₁
  · exact done

/-- for over a list of the ledger that no turn changes -/
theorem list_M {l : Addr} {vs : List Value} {k : Nat} {m₀ : Str → Option Value} {news : List (Addr × Obj)} (J : Nat → (Str → Option Value) → List (Addr × Obj) → Prop)
    (hh : A.handled = none) (hl : (l, listOf vs.toArray k) ∈ news) (hfix : ∀ i m nx, J i m nx → (l, listOf vs.toArray k) ∈ nx) (F : Fr h₀ env.locals s.heap m₀) (N : News h₀ env.locals s.heap news) (hj : J 0 m₀ news)
    (turn : ∀ (i : Nat) v I m₁ nx h tk o, vs[i]? = some v → J i m₁ nx → (∀ p ∈ nx, p.1 ≠ I) → (∀ p ∈ news, p.1 < I) → Fr h₀ env.locals h (fun y => if y = x then some v else m₁ y) → News h₀ env.locals h ((I, o) :: nx) →
      wpAny (model prog w) A (execs body env) (TurnPostM h₀ env.locals I o (J (i + 1)) { s with heap := h, toks := tk } Q) E { s with heap := h, toks := tk })
    (done : ∀ m₁ nx h tk, J vs.length m₁ nx → Fr h₀ env.locals h m₁ → News h₀ env.locals h nx → Q .next { s with heap := h, toks := tk }) :
    wpAny (model prog w) A (pyIter (.ref l)) (fun it s₂ => LoopAtV prog w A h₀ env x body Q E it s₂) E s := by
  have hol : s.heap.get? l = some (listOf vs.toArray k) := (N _ hl).1
  have hls : s.heap.IsList l vs.toArray := ⟨_, hol, rfl, k, rfl⟩
  have hne : l ≠ s.heap.objs.size := Nat.ne_of_lt (Heap.lt_size hol)
  refine wpAny_pyIter_list hls ?_
  have W := Walks.list (prog := prog) (w := w) hh s.heap.objs.size l hne vs.toArray
  have hlen : vs.toArray.size = vs.length := by simp
  rw [hlen] at W
  refine loop_M J [(l, listOf vs.toArray k)] (fun i m nx hJ p hp => by rw [List.mem_singleton.mp hp]; exact hfix i m nx hJ) W (.head _) ?_ (next_is_new F) ?_ ?_ ?_ ⟨⟨_, Heap.get?_push_size _ rfl, rfl, rfl⟩, hls.at fun o e => Heap.get?_push_of_some _ e⟩ (F.push _) (fun p hp => ⟨Heap.get?_push_of_some _ (N p hp).1, (N p hp).2⟩) hj ?_ ?_
  · intro hm
    rcases List.mem_cons.mp hm with e | hm
    · exact absurd F.ns.lt (e ▸ Nat.lt_irrefl _)
    · exact (N _ hl).2.1 ((List.mem_singleton.mp hm).symm)
  · intro b hb
    rcases List.mem_cons.mp hb with e | hb
    · exact .inl e
    · exact .inr (.inr ⟨_, by rw [List.mem_singleton.mp hb]; exact List.mem_singleton.mpr rfl⟩)
  · rintro i h ⟨⟨o, ho, _⟩, _⟩
    exact ⟨o, ho⟩
  · intro p hp e
    exact absurd (Heap.lt_size (N p hp).1) (by rw [e]; exact Nat.lt_irrefl _)
  · rintro i v m₁ nx h tk o hi hP hJ hnx F₁ N₁
    exact turn i v _ m₁ nx h tk o (by simpa using hP) hJ hnx (fun p hp => Heap.lt_size (N p hp).1) F₁ N₁
  · exact done

/-- for over reversed(a list of the ledger) -/
theorem rev_M {ax I : Addr} {vs : List Value} {k : Nat} {m₀ : Str → Option Value} {news : List (Addr × Obj)} (J : Nat → (Str → Option Value) → List (Addr × Obj) → Prop)
    (hh : A.handled = none) (F : Fr h₀ env.locals s.heap m₀) (N : News h₀ env.locals s.heap ((I, revObj ax ((vs.length : Int) - 1)) :: news)) (hoff : ∀ p ∈ news, p.1 ≠ I) (hm : (ax, listOf vs.toArray k) ∈ news) (hfix : ∀ i m nx, J i m nx → (ax, listOf vs.toArray k) ∈ nx) (hj : J 0 m₀ news)
    (turn : ∀ (i : Nat) v m₁ nx h tk o, vs.reverse[i]? = some v → J i m₁ nx → (∀ p ∈ nx, p.1 ≠ I) → Fr h₀ env.locals h (fun y => if y = x then some v else m₁ y) → News h₀ env.locals h ((I, o) :: nx) →
      wpAny (model prog w) A (execs body env) (TurnPostM h₀ env.locals I o (J (i + 1)) { s with heap := h, toks := tk } Q) E { s with heap := h, toks := tk })
    (done : ∀ m₁ nx h tk, J vs.length m₁ nx → Fr h₀ env.locals h m₁ → News h₀ env.locals h nx → Q .next { s with heap := h, toks := tk }) :
    wpAny (model prog w) A (pyIter (.ref I)) (fun it s₂ => LoopAtV prog w A h₀ env x body Q E it s₂) E s := by
  have hIx := N _ (List.mem_cons_self ..)
  have hax := N _ (List.mem_cons_of_mem _ hm)
  have hl : s.heap.IsList ax vs.toArray := ⟨_, hax.1, rfl, k, rfl⟩
  have hne : ax ≠ I := hoff _ hm
  have hit : s.heap.IsRevIter I ax ((vs.length : Int) - 1) := ⟨_, hIx.1, rfl, rfl⟩
  refine wpAny_pyIter_revIter hit ?_
  have W := Walks.listRev (prog := prog) (w := w) hh I ax hne vs.toArray
  have hlen : vs.toArray.size = vs.length := by simp
  rw [hlen] at W
  refine loop_M J [(ax, listOf vs.toArray k)] (fun i m nx hJ p hp => by rw [List.mem_singleton.mp hp]; exact hfix i m nx hJ) W (.head _) ?_ hIx.2.2 ?_ ?_ hoff ⟨Nat.zero_le _, ?_, hl⟩ F (fun p hp => N p (List.mem_cons_of_mem _ hp)) hj ?_ ?_
  · intro hmm
    rcases List.mem_cons.mp hmm with e | hmm
    · exact hIx.2.1 e.symm
    · exact hax.2.1 (List.mem_singleton.mp hmm).symm
  · intro b hb
    rcases List.mem_cons.mp hb with e | hb
    · exact .inl e
    · exact .inr (.inr ⟨_, by rw [List.mem_singleton.mp hb]; exact List.mem_singleton.mpr rfl⟩)
  · rintro i h ⟨_, ⟨o, ho, _⟩, _⟩
    exact ⟨o, ho⟩
  · have e : (vs.length : Int) - 1 - ((0 : Nat) : Int) = (vs.length : Int) - 1 := by omega
    rw [e]
    exact hit
  · rintro i v m₁ nx h tk o hi hP hJ hnx F₁ N₁
    refine turn i v m₁ nx h tk o ?_ hJ hnx F₁ N₁
    rw [List.getElem?_reverse hi]
    simpa using hP
  · exact done
end

section
variable {prog : Program} {w : World} {A : Around} {E : Value → Shared → Prop} {s : Shared} {h₀ : Heap} {L D : Addr} {m : Str → Option Value} {news news' : List (Addr × Obj)} {vs : List Value} {k : Nat} {x : Value} {Q : Value → Shared → Prop}
theorem append_M (F : Fr h₀ L s.heap m) (N : News h₀ L s.heap news) (U : Upd D (listOf vs.toArray k) (listOf (vs ++ [x]).toArray (k + 1)) news news') (hsz : vs.length ≤ 1048576)
    (h : ∀ h', Fr h₀ L h' m → News h₀ L h' news' → Q .none { s with heap := h' }) : wpAny (model prog w) A (call (.builtin "list.append") [.ref D, x]) Q E s := by
  have e : (vs ++ [x]).toArray = vs.toArray.push x := by simp
  rw [e] at U
  exact append_K F N U h (by rw [List.size_toArray, sizeLine_eq]; omega)
theorem reverse_M (F : Fr h₀ L s.heap m) (N : News h₀ L s.heap news) (U : Upd D (listOf vs.toArray k) (listOf vs.reverse.toArray k) news news') (hsz : vs.length ≤ 1048576)
    (h : ∀ h', Fr h₀ L h' m → News h₀ L h' news' → Q .none { s with heap := h' }) : wpAny (model prog w) A (call (.builtin "list.reverse") [.ref D]) Q E s :=
  kl_reverse F N rfl U (by show vs.length ≤ sizeLine; rw [sizeLine_eq]; omega) h
end
theorem ints_reverse {vs : List Value} {ns : List Int} (h : IntsAre vs ns) : IntsAre vs.reverse ns.reverse := by
  induction h with
  | nil => exact .nil
  | cons n t h ih => rw [List.reverse_cons, List.reverse_cons]; exact IntsAre.append ih (.cons n t .nil)

/-- a loop's frame: what it knows of the names -/
def JM (x : Str) (stored : List Str) (m₀ : Str → Option Value) (ps : List (Str × Value)) (m : Str → Option Value) : Prop :=
  (∀ p ∈ ps, m p.1 = some p.2) ∧ ∀ z, z ≠ x → (∀ p ∈ ps, z ≠ p.1) → stored.contains z = false → m z = m₀ z
theorem JM.fr {x : Str} {stored : List Str} {m₀ m : Str → Option Value} {ps : List (Str × Value)} {h₀ h : Heap} {L : Addr} {v : Value} (j : JM x stored m₀ ps m) (F : Fr h₀ L h (fun y => if y = x then some v else m y)) :
    Fr h₀ L h (fun y => if y = x then some v else kstB (fun z => if stored.contains z then m z else m₀ z) ps y) := kst_fr j.1 j.2 F
theorem JM.frOut {x : Str} {stored : List Str} {m₀ m : Str → Option Value} {ps : List (Str × Value)} {h₀ h : Heap} {L : Addr} (j : JM x stored m₀ ps m) (F : Fr h₀ L h m) :
    Fr h₀ L h (fun y => if y = x then m y else kstB (fun z => if stored.contains z then m z else m₀ z) ps y) := kst_frOut j.1 j.2 F

/-- the number of digits, the highest first -/
def hv (B : Int) (l : List Int) : Int := l.foldl (fun v d => v * B + d) 0
theorem hv_snoc (B : Int) (l : List Int) (d : Int) : hv B (l ++ [d]) = hv B l * B + d := by
  unfold hv; rw [List.foldl_append]; rfl
theorem hv_rev (B : Int) : ∀ l : List Int, hv B l.reverse = undg B l
  | [] => rfl
  | d :: r => by
    rw [List.reverse_cons, hv_snoc, hv_rev B r, Int.mul_comm, Int.add_comm]; rfl
def PDiv (a b : Int) (h : Heap) (v : Value) (h' : Heap) : Prop :=
  ∃ D t1 t2, v = .ref D ∧ h'.get? D = some { cls := .type "tuple", data := .seq #[.int (a / b) t1, .int (a % b) t2] } ∧ h.objs.size ≤ D
theorem tabs_apart {h₀ h : Heap} {L : Addr} {P1 P2 : Addr} {l1 k1 l2 k2 : Int} {q1 q2 : Str} {t1 t2 : TS} (N1 : News h₀ L h (tabs1 P1 l1 k1 t1)) (N2 : News h₀ L h (tabs1 P2 l2 k2 t2)) (ok1 : TsOk P1 q1 t1) (ok2 : TsOk P2 q2 t2) (hP : P1 ≠ P2) (hq : q1 ≠ q2) :
    ∀ p ∈ tabs1 P1 l1 k1 t1, ∀ q ∈ tabs1 P2 l2 k2 t2, p.1 ≠ q.1 := by
  intro p hp q hq' e
  have e1 := (N1 p hp).1
  have e2 := (N2 q hq').1
  rw [e] at e1
  have eo : p.2 = q.2 := Option.some.inj (e1.symm.trans e2)
  have tab : ∀ {P : Addr} {l k : Int} {t : TS} {p : Addr × Obj}, p ∈ tabs1 P l k t → (p.1 = P ∧ (p.2 = tabObj #[] ∨ ∃ c, p.2 = tabObj #[rawInt l, rawInt k, .ref c])) ∨ (∃ c o, t = .warm c o ∧ p = (c, o)) := by
    intro P l k t p hp
    cases t with
    | cold => rw [List.mem_singleton.mp hp]; exact .inl ⟨rfl, .inl rfl⟩
    | warm c o =>
      rcases List.mem_cons.mp hp with rfl | hp
      · exact .inl ⟨rfl, .inr ⟨c, rfl⟩⟩
      · exact .inr ⟨c, o, rfl, List.mem_singleton.mp hp⟩
  have no : ∀ {l k : Int} {c : Addr} {o : Obj} {q : Str} {ps : Array Value}, (∃ vs t, o.data = .fields vs ∧ vs[1]? = some (.str q t)) → (ps = #[] ∨ ps = #[rawInt l, rawInt k, .ref c]) → o = tabObj ps → False := by
    rintro l k c o q ps ⟨vs, t, hd, hv⟩ hps rfl
    cases hd
    rcases hps with rfl | rfl
    · cases hv
    · cases hv
  rcases tab hp with ⟨ep, hp1⟩ | ⟨c, o, rfl, rfl⟩
  · rcases tab hq' with ⟨eq, _⟩ | ⟨c', o', rfl, rfl⟩
    · exact hP (ep.symm.trans (e.trans eq))
    · rcases hp1 with h1 | ⟨c, h1⟩
      · exact no (l := 0) (k := 0) (c := 0) ok2.2 (.inl rfl) (eo.symm.trans h1)
      · exact no ok2.2 (.inr rfl) (eo.symm.trans h1)
  · rcases tab hq' with ⟨eq, hq1⟩ | ⟨c', o', rfl, rfl⟩
    · rcases hq1 with h1 | ⟨c, h1⟩
      · exact no (l := 0) (k := 0) (c := 0) ok1.2 (.inl rfl) (eo.trans h1)
      · exact no ok1.2 (.inr rfl) (eo.trans h1)
    · obtain ⟨_, vs, t, hd, hv⟩ := ok1
      obtain ⟨_, vs', t', hd', hv'⟩ := ok2
      dsimp only at eo
      subst eo
      rw [hd] at hd'
      cases hd'
      rw [hv] at hv'
      cases hv'
      exact hq rfl
theorem tabs_news {h₀ h h' : Heap} {L : Addr} {m : Str → Option Value} {P : Addr} {l k : Int} {t : TS} {c : Addr} {o : Obj} (F : Fr h₀ L h m) (N : News h₀ L h (tabs1 P l k t)) (hc : ∀ p ∈ tabs1 P l k (.warm c o), h'.get? p.1 = some p.2) (hcase : t = .warm c o ∨ (t = .cold ∧ h.objs.size ≤ c)) :
    News h₀ L h' (tabs1 P l k (.warm c o)) := by
  intro p hp
  refine ⟨hc p hp, ?_⟩
  rcases hcase with rfl | ⟨rfl, hs⟩
  · exact (N p hp).2
  · rcases List.mem_cons.mp hp with rfl | hp
    · exact (N (P, tabObj #[]) (.head _)).2
    · rw [List.mem_singleton.mp hp]
      exact ⟨Nat.ne_of_gt (Nat.lt_of_lt_of_le F.ns.lt hs), none_of_size (Nat.le_trans (Nat.le_trans F.above (Nat.le_of_lt F.ns.lt)) hs)⟩
theorem TNext.of {P : Addr} {l k : Int} {q : Str} {t : TS} {c : Addr} {o : Obj} {h h' : Heap} (ok : TsOk P q (.warm c o)) (hc : ∀ p ∈ tabs1 P l k (.warm c o), h'.get? p.1 = some p.2) (hcase : t = .warm c o ∨ (t = .cold ∧ h.objs.size ≤ c)) : TNext P l k q t h h' := ⟨c, o, ok, hc, hcase⟩
theorem case_mono {t : TS} {c : Addr} {o : Obj} {h s : Heap} (hs : s.objs.size ≤ h.objs.size) (hcase : t = .warm c o ∨ (t = .cold ∧ h.objs.size ≤ c)) : t = .warm c o ∨ (t = .cold ∧ s.objs.size ≤ c) :=
  hcase.imp id fun x => ⟨x.1, Nat.le_trans hs x.2⟩
/-- what is not the table's stays -/
theorem off_of_apart {a b : List (Addr × Obj)} (h : ∀ p ∈ a, ∀ q ∈ b, p.1 ≠ q.1) : ∀ q ∈ b, q.1 ∉ a.map (·.1) := fun q hq hm => by
  obtain ⟨p, hp, e⟩ := List.mem_map.mp hm
  exact h p hp q hq e
theorem news_left {h₀ h : Heap} {L : Addr} {a b : List (Addr × Obj)} (N : News h₀ L h (a ++ b)) : News h₀ L h a := fun p hp => N p (List.mem_append_left _ hp)
theorem news_right {h₀ h : Heap} {L : Addr} {a b : List (Addr × Obj)} (N : News h₀ L h (a ++ b)) : News h₀ L h b := fun p hp => N p (List.mem_append_right _ hp)
theorem news_append {h₀ h : Heap} {L : Addr} {a b : List (Addr × Obj)} (N1 : News h₀ L h a) (N2 : News h₀ L h b) : News h₀ L h (a ++ b) := fun p hp => (List.mem_append.mp hp).elim (N1 p) (N2 p)
theorem q_ne : (Str.ofString "_int2digits.<locals>.inner") ≠ Str.ofString "_digits2int.<locals>.inner" := by decide +kernel
theorem ints_append {a b : List Value} {x y : List Int} (h1 : IntsAre a x) (h2 : IntsAre b y) : IntsAre (a ++ b) (x ++ y) := IntsAre.append h1 h2
theorem ints_get {vs : List Value} {ns : List Int} (h : IntsAre vs ns) {i : Nat} {v : Value} (hv : vs[i]? = some v) : ∃ d t, v = .int d t ∧ ns[i]? = some d := by
  have hi : i < vs.length := (List.getElem?_eq_some_iff.mp hv).1
  have hl := h.length
  have hn : ns[i]? = some ns[i] := List.getElem?_eq_getElem (by omega)
  obtain ⟨t, e⟩ := h.get i _ hn
  rw [e] at hv
  exact ⟨_, t, (Option.some.inj hv).symm, hn⟩
theorem fr_name {h₀ h : Heap} {L : Addr} {m : Str → Option Value} (F : Fr h₀ L h m) : ∃ m0, m0 = m ∧ Fr h₀ L h m0 := ⟨m, rfl, F⟩
theorem shl_facts {r B b d : Int} (r0 : 0 ≤ r) (rb : r < b) (d0 : 0 ≤ d) (dB : d < B) : 0 ≤ r * B + d ∧ r * B + d < b * B := by
  have h1 : 0 ≤ r * B := Int.mul_nonneg r0 (by omega)
  have h2 : (r + 1) * B ≤ b * B := Int.mul_le_mul_of_nonneg_right (by omega) (by omega)
  rw [Int.add_mul, Int.one_mul] at h2
  omega
theorem step_inv {H b B r d : Int} : (H * b + r) * B + d = (H * B + (r * B + d) / b) * b + (r * B + d) % b := by
  have h := Int.emod_add_mul_ediv (r * B + d) b
  have e1 : (H * b + r) * B = H * B * b + r * B := by rw [Int.add_mul, Int.mul_right_comm]
  have e2 : (H * B + (r * B + d) / b) * b = H * B * b + b * ((r * B + d) / b) := by rw [Int.add_mul, Int.mul_comm ((r * B + d) / b) b]
  rw [e1, e2]
  omega
theorem ndig_mul {a n : Int} (ha : 0 ≤ a) (hlt : a < 1048576) (hn : 0 < n) (hn2 : n ≤ 20) : n * ndig a n ≤ 60 := by
  have h1 := bits_le ha (k := 20) (by simpa using hlt)
  unfold ndig
  generalize (((Builtin.Int.intBits a : Nat) : Int)) = b at *
  by_cases hb : 0 ≤ (b + n - 1) / n
  · rw [Int.toNat_of_nonneg hb]
    have := Int.emod_add_mul_ediv (b + n - 1) n
    have := Int.emod_nonneg (b + n - 1) (show n ≠ 0 by omega)
    omega
  · rw [Int.toNat_of_nonpos (by omega)]; simp
theorem a_value {a n : Int} (ha : 0 ≤ a) (hn : 0 < n) : hv (2 ^ n.toNat) (dg (2 ^ n.toNat) (ndig a n) a).reverse = a := by
  rw [hv_rev]
  refine undg_dg (Int.pow_pos (by decide)) _ _ ha ?_
  by_cases h0 : a = 0
  · subst h0; rw [ndig_zero hn, Int.pow_zero]; decide
  · exact lt_dig ha h0 hn
theorem qr_of {a b q r : Int} (h : a = q * b + r) (r0 : 0 ≤ r) (rb : r < b) : q = a / b ∧ r = a % b := by
  have := (Int.ediv_emod_unique (a := a) (b := b) (q := q) (r := r) (by omega)).mpr ⟨by rw [h, Int.mul_comm]; omega, r0, rb⟩
  exact ⟨this.1.symm, this.2.symm⟩
def PDm (P1 : Addr) (l1 k1 : Int) (P2 : Addr) (l2 k2 : Int) (a b : Int) (t1 t2 : TS) (h : Heap) (v : Value) (h' : Heap) : Prop :=
  PDiv a b h v h' ∧ TNext P1 l1 k1 (Str.ofString "_int2digits.<locals>.inner") t1 h h' ∧ TNext P2 l2 k2 (Str.ofString "_digits2int.<locals>.inner") t2 h h'

section
variable {prog : Program} {w : World} {A : Around} {E : Value → Shared → Prop} {s : Shared} {a b : Int} {t u : Tok} {Q : Value → Shared → Prop}
theorem fdiv_M (hb : 0 < b) (hb2 : b < 1073741824) (h : Q (.int (a / b) s.toks) { s with toks := s.toks + 1 }) : wpAny (model prog w) A (binaryOp .FloorDiv (.int a t) (.int b u)) Q E s :=
  floordiv_int (by omega) (by rw [Int.fdiv_eq_ediv_of_nonneg _ (by omega)]; exact h) (.inl (PyProof.noPylong_small (by omega)))
theorem mod_M (hb : 0 < b) (h : Q (.int (a % b) s.toks) { s with toks := s.toks + 1 }) : wpAny (model prog w) A (binaryOp .Mod (.int a t) (.int b u)) Q E s :=
  mod_int' (by omega) (by rw [Int.fmod_eq_emod_of_nonneg _ (by omega)]; exact h)
end
/-- a list of ints in order -/
def Srt (ns : List Int) : Prop := ∀ i j : Nat, i ≤ j → j < ns.length → ns.getD i 0 ≤ ns.getD j 0
/-- where x is to stand, to the left -/
def Bis (ns : List Int) (x r : Int) : Prop := 0 ≤ r ∧ r ≤ ns.length ∧ (∀ i : Nat, (i : Int) < r → ns.getD i 0 < x) ∧ ∀ i : Nat, r ≤ i → i < ns.length → x ≤ ns.getD i 0
def PBis (ns : List Int) (x : Int) (_h : Heap) (v : Value) (_h' : Heap) : Prop := ∃ r t, v = .int r t ∧ Bis ns x r
def BLoop (ns : List Int) (x lo hi : Int) : Prop := 0 ≤ lo ∧ lo ≤ hi ∧ hi ≤ ns.length ∧ (∀ i : Nat, (i : Int) < lo → ns.getD i 0 < x) ∧ ∀ i : Nat, hi ≤ i → i < ns.length → x ≤ ns.getD i 0
theorem BLoop.start {ns : List Int} {x : Int} : BLoop ns x 0 ns.length := ⟨Int.le_refl _, by omega, Int.le_refl _, fun i h => by omega, fun i h1 h2 => by omega⟩
theorem BLoop.right {ns : List Int} {x lo hi : Int} (hs : Srt ns) (b : BLoop ns x lo hi) (h : lo < hi) (hx : ns.getD ((lo + hi) / 2).toNat 0 < x) : BLoop ns x ((lo + hi) / 2 + 1) hi := by
  obtain ⟨h0, h1, h2, h3, h4⟩ := b
  refine ⟨by omega, by omega, h2, fun i hi' => ?_, h4⟩
  exact Int.lt_of_le_of_lt (hs i ((lo + hi) / 2).toNat (by omega) (by omega)) hx
theorem BLoop.left {ns : List Int} {x lo hi : Int} (hs : Srt ns) (b : BLoop ns x lo hi) (h : lo < hi) (hx : ¬ ns.getD ((lo + hi) / 2).toNat 0 < x) : BLoop ns x lo ((lo + hi) / 2) := by
  obtain ⟨h0, h1, h2, h3, h4⟩ := b
  refine ⟨h0, by omega, by omega, h3, fun i hi' hl => ?_⟩
  exact Int.le_trans (Int.not_lt.mp hx) (hs ((lo + hi) / 2).toNat i (by omega) hl)
theorem BLoop.out {ns : List Int} {x lo hi : Int} (b : BLoop ns x lo hi) (h : ¬ lo < hi) : Bis ns x lo := by
  obtain ⟨h0, h1, h2, h3, h4⟩ := b
  exact ⟨h0, by omega, h3, fun i hi' hl => h4 i (by omega) hl⟩

def ins (ns : List Int) (r : Nat) (x : Int) : List Int := ns.take r ++ x :: ns.drop r
def PIns (l : Addr) (ns : List Int) (k : Nat) (x : Int) (_h : Heap) (v : Value) (h' : Heap) : Prop :=
  v = .none ∧ ∃ (r : Int) (vs' : List Value), Bis ns x r ∧ h'.get? l = some (listOf vs'.toArray (k + 1)) ∧ IntsAre vs' (ins ns r.toNat x)
theorem ints_take {vs : List Value} {ns : List Int} (h : IntsAre vs ns) : ∀ r, IntsAre (vs.take r) (ns.take r) := by
  induction h with
  | nil => intro r; simp; exact .nil
  | cons n t h ih =>
    intro r
    cases r with
    | zero => exact .nil
    | succ r => exact .cons n t (ih r)
theorem ints_drop {vs : List Value} {ns : List Int} (h : IntsAre vs ns) : ∀ r, IntsAre (vs.drop r) (ns.drop r) := by
  induction h with
  | nil => intro r; simp; exact .nil
  | cons n t h ih =>
    intro r
    cases r with
    | zero => exact .cons n t h
    | succ r => exact ih r
theorem ints_ins {vs : List Value} {ns : List Int} (h : IntsAre vs ns) (r : Nat) (x : Int) (t : Tok) : IntsAre (vs.take r ++ .int x t :: vs.drop r) (ins ns r x) :=
  IntsAre.append (ints_take h r) (.cons x t (ints_drop h r))
section
variable {prog : Program} {w : World} {A : Around} {E : Value → Shared → Prop} {s : Shared} {h₀ : Heap} {L D : Addr} {m : Str → Option Value} {news news' : List (Addr × Obj)} {vs : List Value} {k : Nat} {r : Int} {u : Tok} {y : Value} {Q : Value → Shared → Prop}
theorem insert_M (F : Fr h₀ L s.heap m) (N : News h₀ L s.heap news) (U : Upd D (listOf vs.toArray k) (listOf (vs.take r.toNat ++ y :: vs.drop r.toNat).toArray (k + 1)) news news') (h0 : 0 ≤ r) (h1 : r ≤ vs.length) (hsz : vs.length ≤ 1000000)
    (h : ∀ h', Fr h₀ L h' m → News h₀ L h' news' → Q .none { s with heap := h' }) : wpAny (model prog w) A (call (.builtin "list.insert") [.ref D, .int r u, y]) Q E s := by
  refine kl_insert F N (fitsIndex_of h0 (by omega)) ?_ U (by show vs.length ≤ sizeLine; rw [sizeLine_eq]; omega) h
  show kl_ins vs r y = _
  unfold kl_ins
  rw [if_neg (by omega), Nat.min_eq_left (by omega)]
end

/-- both tables behind a call of int_divmod -/
theorem dm_news {h₀ h h' : Heap} {L : Addr} {m : Str → Option Value} {P1 P2 : Addr} {l1 k1 l2 k2 : Int} {q1 q2 : Str} {t1 t2 : TS} (F : Fr h₀ L h m) (N : News h₀ L h (tabs1 P1 l1 k1 t1 ++ tabs1 P2 l2 k2 t2)) (n1 : TNext P1 l1 k1 q1 t1 h h') (n2 : TNext P2 l2 k2 q2 t2 h h') :
    ∃ c1 o1 c2 o2, TsOk P1 q1 (.warm c1 o1) ∧ TsOk P2 q2 (.warm c2 o2) ∧ News h₀ L h' (tabs1 P1 l1 k1 (.warm c1 o1) ++ tabs1 P2 l2 k2 (.warm c2 o2)) ∧ (t1 = .warm c1 o1 ∨ (t1 = .cold ∧ h.objs.size ≤ c1)) ∧ (t2 = .warm c2 o2 ∨ (t2 = .cold ∧ h.objs.size ≤ c2)) := by
  obtain ⟨c1, o1, ok1, hc1, ca1⟩ := n1
  obtain ⟨c2, o2, ok2, hc2, ca2⟩ := n2
  exact ⟨c1, o1, c2, o2, ok1, ok2, news_append (tabs_news F (news_left N) hc1 ca1) (tabs_news F (news_right N) hc2 ca2), ca1, ca2⟩

/-- Newton's doublings -/
def fo (count unit : Int) : Nat → Int
  | 0 => 1
  | k + 1 => fo count unit k * (2 - count * fo count unit k) % unit
def oth (count unit : Int) : Int := (unit - fo count unit 4) % unit
theorem fo_bound {count unit : Int} (hu : 2 ≤ unit) (hu2 : unit ≤ 64) : ∀ k, 0 ≤ fo count unit k ∧ fo count unit k ≤ 64
  | 0 => by show (0 : Int) ≤ 1 ∧ (1 : Int) ≤ 64; decide
  | k + 1 => by
    have h1 := Int.emod_nonneg (fo count unit k * (2 - count * fo count unit k)) (show unit ≠ 0 by omega)
    have h2 := Int.emod_lt_of_pos (fo count unit k * (2 - count * fo count unit k)) (show 0 < unit by omega)
    exact ⟨h1, by show _ % unit ≤ 64; omega⟩
/-- Montgomery's reduction -/
def oft (number unit other : Int) : Int := number % unit * other % unit
def redc (number count unit other : Int) : Int :=
  if (number + oft number unit other * count) / unit ≥ count then (number + oft number unit other * count) / unit - count else (number + oft number unit other * count) / unit

/-- both code tables, as the ledger holds them -/
def TabsIs (P1 : Addr) (l1 k1 : Int) (P2 : Addr) (l2 k2 : Int) (TL : List (Addr × Obj)) : Prop :=
  ∃ t1 t2, TL = tabs1 P1 l1 k1 t1 ++ tabs1 P2 l2 k2 t2 ∧ TsOk P1 (Str.ofString "_int2digits.<locals>.inner") t1 ∧ TsOk P2 (Str.ofString "_digits2int.<locals>.inner") t2
/-- the tables behind a call -/
def TNx (P1 : Addr) (l1 k1 : Int) (P2 : Addr) (l2 k2 : Int) (TL : List (Addr × Obj)) (h : Heap) (TL' : List (Addr × Obj)) (h' : Heap) : Prop :=
  TabsIs P1 l1 k1 P2 l2 k2 TL' ∧ (∀ p ∈ TL', h'.get? p.1 = some p.2) ∧ ∀ p ∈ TL', p.1 ∈ TL.map (·.1) ∨ h.objs.size ≤ p.1
theorem tab_head {P : Addr} {l k : Int} (t : TS) : ∃ o, (P, o) ∈ tabs1 P l k t := by
  cases t with
  | cold => exact ⟨_, .head _⟩
  | warm c o => exact ⟨_, .head _⟩
theorem head_l {P : Addr} {l k : Int} (t : TS) (b : List (Addr × Obj)) : P ∈ (tabs1 P l k t ++ b).map (·.1) := by
  obtain ⟨o, ho⟩ := tab_head (P := P) (l := l) (k := k) t
  exact List.mem_map.mpr ⟨_, List.mem_append_left _ ho, rfl⟩
theorem head_r {P : Addr} {l k : Int} (t : TS) (b : List (Addr × Obj)) : P ∈ (b ++ tabs1 P l k t).map (·.1) := by
  obtain ⟨o, ho⟩ := tab_head (P := P) (l := l) (k := k) t
  exact List.mem_map.mpr ⟨_, List.mem_append_right _ ho, rfl⟩
section
variable {P1 P2 : Addr} {l1 k1 l2 k2 : Int} {TL TL' : List (Addr × Obj)} {h h' h₀ : Heap} {L : Addr}
theorem TNx.ne {K : Addr} {o : Obj} (x : TNx P1 l1 k1 P2 l2 k2 TL h TL' h') (s : ∀ p ∈ TL, p.1 ≠ K) (hK : h.get? K = some o) : ∀ p ∈ TL', p.1 ≠ K := fun p hp e => by
  rcases x.2.2 p hp with hm | hm
  · obtain ⟨q, hq, e2⟩ := List.mem_map.mp hm
    exact s q hq (e2.trans e)
  · exact absurd (Heap.lt_size hK) (by rw [← e]; exact Nat.not_lt.mpr hm)
theorem first_tabs {h₀ h h' : Heap} {L : Addr} {m : Str → Option Value} {P1 P2 : Addr} {l1 k1 l2 k2 : Int} {t : TS} (hP : P1 ≠ P2) (F : Fr h₀ L h m) (N : News h₀ L h [(P2, tabObj #[]), (P1, tabObj #[])]) (G : KeepsBut ((tabs1 P1 l1 k1 t).map (·.1)) h h') (ht : t = .cold)
    (n1 : TNext P1 l1 k1 (Str.ofString "_int2digits.<locals>.inner") t h h') : ∃ TL, TabsIs P1 l1 k1 P2 l2 k2 TL ∧ News h₀ L h' TL := by
  subst ht
  obtain ⟨c1, o1, ok1, hc1, ca1⟩ := n1
  refine ⟨tabs1 P1 l1 k1 (.warm c1 o1) ++ tabs1 P2 l2 k2 .cold, ⟨_, _, rfl, ok1, trivial⟩, news_append (tabs_news F (fun p hp => ?_) hc1 ca1) fun p hp => ?_⟩
  · rw [List.mem_singleton.mp hp]; exact N _ (.tail _ (.head _))
  · rw [List.mem_singleton.mp hp]
    have n2 := N _ (.head _)
    refine ⟨G _ _ (fun hm => ?_) n2.1, n2.2⟩
    exact hP (List.mem_singleton.mp hm).symm
theorem TNx.news {m : Str → Option Value} (F : Fr h₀ L h m) (N : News h₀ L h TL) (x : TNx P1 l1 k1 P2 l2 k2 TL h TL' h') : News h₀ L h' TL' := fun p hp => by
  refine ⟨x.2.1 p hp, ?_⟩
  rcases x.2.2 p hp with hm | hm
  · obtain ⟨q, hq, e2⟩ := List.mem_map.mp hm
    rw [← e2]; exact (N q hq).2
  · exact ⟨Nat.ne_of_gt (Nat.lt_of_lt_of_le F.ns.lt hm), none_of_size (Nat.le_trans (Nat.le_trans F.above (Nat.le_of_lt F.ns.lt)) hm)⟩
theorem off_one {K : Addr} (s : ∀ p ∈ TL, p.1 ≠ K) : K ∉ TL.map (·.1) := fun hm => by
  obtain ⟨q, hq, e⟩ := List.mem_map.mp hm
  exact s q hq e
/-- one object of the ledger stays -/
theorem keep_one {K : Addr} {o : Obj} (G : KeepsBut (TL.map (·.1)) h h') (s : ∀ p ∈ TL, p.1 ≠ K) (hN : h.get? K = some o ∧ K ≠ L ∧ h₀.get? K = none) {R : List (Addr × Obj)} (N : News h₀ L h' R) : News h₀ L h' ((K, o) :: R) :=
  news_cons (G _ _ (off_one s) hN.1) hN.2.1 hN.2.2 N
theorem tnx_refl (T : TabsIs P1 l1 k1 P2 l2 k2 TL) (hg : ∀ p ∈ TL, h.get? p.1 = some p.2) : TNx P1 l1 k1 P2 l2 k2 TL h TL h := ⟨T, hg, fun p hp => .inl (List.mem_map_of_mem hp)⟩
theorem tnx_of {t1 t2 : TS} (n1 : TNext P1 l1 k1 (Str.ofString "_int2digits.<locals>.inner") t1 h h') (n2 : TNext P2 l2 k2 (Str.ofString "_digits2int.<locals>.inner") t2 h h') :
    ∃ TL', TNx P1 l1 k1 P2 l2 k2 (tabs1 P1 l1 k1 t1 ++ tabs1 P2 l2 k2 t2) h TL' h' := by
  obtain ⟨c1, o1, ok1, hc1, ca1⟩ := n1
  obtain ⟨c2, o2, ok2, hc2, ca2⟩ := n2
  refine ⟨tabs1 P1 l1 k1 (.warm c1 o1) ++ tabs1 P2 l2 k2 (.warm c2 o2), ⟨_, _, rfl, ok1, ok2⟩, fun p hp => (List.mem_append.mp hp).elim (hc1 p) (hc2 p), fun p hp => ?_⟩
  rcases List.mem_append.mp hp with hp | hp
  · rcases List.mem_cons.mp hp with rfl | hp
    · left
      exact head_l t1 _
    · rw [List.mem_singleton.mp hp]
      rcases ca1 with rfl | ⟨rfl, hs⟩
      · left; exact List.mem_map_of_mem (f := (·.1)) (a := (c1, o1)) (List.mem_append_left _ (.tail _ (.head _)))
      · exact .inr hs
  · rcases List.mem_cons.mp hp with rfl | hp
    · left
      exact head_r t2 _
    · rw [List.mem_singleton.mp hp]
      rcases ca2 with rfl | ⟨rfl, hs⟩
      · left; exact List.mem_map_of_mem (f := (·.1)) (a := (c2, o2)) (List.mem_append_right _ (.tail _ (.head _)))
      · exact .inr hs
theorem tnx_first {t1 t2 : TS} (N : News h₀ L h (tabs1 P1 l1 k1 t1 ++ tabs1 P2 l2 k2 t2)) (ok1 : TsOk P1 (Str.ofString "_int2digits.<locals>.inner") t1) (ok2 : TsOk P2 (Str.ofString "_digits2int.<locals>.inner") t2) (hP : P1 ≠ P2)
    (G : KeepsBut ((tabs1 P1 l1 k1 t1).map (·.1)) h h') (n1 : TNext P1 l1 k1 (Str.ofString "_int2digits.<locals>.inner") t1 h h') :
    ∃ TL', TNx P1 l1 k1 P2 l2 k2 (tabs1 P1 l1 k1 t1 ++ tabs1 P2 l2 k2 t2) h TL' h' := by
  obtain ⟨c1, o1, ok1', hc1, ca1⟩ := n1
  have ap := tabs_apart (news_left N) (news_right N) ok1 ok2 hP q_ne
  refine ⟨tabs1 P1 l1 k1 (.warm c1 o1) ++ tabs1 P2 l2 k2 t2, ⟨_, _, rfl, ok1', ok2⟩, fun p hp => (List.mem_append.mp hp).elim (hc1 p) (fun hm => G _ _ (off_of_apart ap p hm) (N p (List.mem_append_right _ hm)).1), fun p hp => ?_⟩
  rcases List.mem_append.mp hp with hp | hp
  · rcases List.mem_cons.mp hp with rfl | hp
    · left
      exact head_l t1 _
    · rw [List.mem_singleton.mp hp]
      rcases ca1 with rfl | ⟨rfl, hs⟩
      · left; exact List.mem_map_of_mem (f := (·.1)) (a := (c1, o1)) (List.mem_append_left _ (.tail _ (.head _)))
      · exact .inr hs
  · exact .inl (List.mem_map_of_mem (List.mem_append_right _ hp))
theorem tnx_second {t1 t2 : TS} (N : News h₀ L h (tabs1 P1 l1 k1 t1 ++ tabs1 P2 l2 k2 t2)) (ok1 : TsOk P1 (Str.ofString "_int2digits.<locals>.inner") t1) (ok2 : TsOk P2 (Str.ofString "_digits2int.<locals>.inner") t2) (hP : P1 ≠ P2)
    (G : KeepsBut ((tabs1 P2 l2 k2 t2).map (·.1)) h h') (n2 : TNext P2 l2 k2 (Str.ofString "_digits2int.<locals>.inner") t2 h h') :
    ∃ TL', TNx P1 l1 k1 P2 l2 k2 (tabs1 P1 l1 k1 t1 ++ tabs1 P2 l2 k2 t2) h TL' h' := by
  obtain ⟨c2, o2, ok2', hc2, ca2⟩ := n2
  have ap := tabs_apart (news_left N) (news_right N) ok1 ok2 hP q_ne
  have ap' : ∀ q ∈ tabs1 P1 l1 k1 t1, q.1 ∉ (tabs1 P2 l2 k2 t2).map (·.1) := fun q hq hm => by
    obtain ⟨p, hp, e⟩ := List.mem_map.mp hm
    exact ap q hq p hp e.symm
  refine ⟨tabs1 P1 l1 k1 t1 ++ tabs1 P2 l2 k2 (.warm c2 o2), ⟨_, _, rfl, ok1, ok2'⟩, fun p hp => (List.mem_append.mp hp).elim (fun hm => G _ _ (ap' p hm) (N p (List.mem_append_left _ hm)).1) (hc2 p), fun p hp => ?_⟩
  rcases List.mem_append.mp hp with hp | hp
  · exact .inl (List.mem_map_of_mem (List.mem_append_left _ hp))
  · rcases List.mem_cons.mp hp with rfl | hp
    · left
      exact head_r t2 _
    · rw [List.mem_singleton.mp hp]
      rcases ca2 with rfl | ⟨rfl, hs⟩
      · left; exact List.mem_map_of_mem (f := (·.1)) (a := (c2, o2)) (List.mem_append_right _ (.tail _ (.head _)))
      · exact .inr hs
end
theorem Ctr.weak {prog : Program} {K : Params → Frag} {TB : Heap → Prop} {w : World} {f : Addr} {dd uu : Nat} {vs : List Value} {mts mts' : List (Addr × Obj)} {Pre : Heap → Prop} {Post Post' : Heap → Value → Heap → Prop} (c : Ctr prog K TB w f dd uu vs mts Pre Post) (hsub : ∀ p ∈ mts, p ∈ mts')
    (hp : ∀ h₀ L h v h', News h₀ L h mts' → KeepsBut (mts.map (·.1)) h h' → Post h v h' → Post' h v h') : Ctr prog K TB w f dd uu vs mts' Pre Post' := by
  intro p loose mean mg mb dp un gd cn cs a ccd cl outer A₀ base h₀ L m s Q E B F X N T hkd hTB hpre hdp hun hret
  refine c p loose mean mg mb dp un gd cn cs a ccd cl outer A₀ base h₀ L m s Q E B F X (fun q hq => N q (hsub q hq)) T hkd hTB hpre hdp hun fun v h' tk' G P => hret v h' tk' (fun b o hb e => G b o (fun hm => hb ?_) e) (hp _ _ _ _ _ N G P)
  obtain ⟨q, hq, e⟩ := List.mem_map.mp hm
  exact e ▸ List.mem_map_of_mem (hsub q hq)
def kp (c u x : Int) : Int := x * u % c
def keptL (c u : Int) (i : Nat) : List Int := (List.range i).map fun (j : Nat) => kp c u ((j : Nat) : Int)
/-- a number put into an ordered list, to the left -/
def insf (ns : List Int) (x : Int) : List Int := ns.takeWhile (· < x) ++ x :: ns.dropWhile (· < x)
def ordL (c u : Int) : Nat → List Int
  | 0 => []
  | i + 1 => insf (ordL c u i) (kp c u (i : Int))
theorem keptL_length (c u : Int) (i : Nat) : (keptL c u i).length = i := by simp [keptL]
theorem keptL_succ (c u : Int) (i : Nat) : keptL c u (i + 1) = keptL c u i ++ [kp c u (i : Int)] := by simp [keptL, List.range_succ]
theorem keptL_get (c u : Int) {i j : Nat} (h : j < i) : (keptL c u i)[j]? = some (kp c u (j : Int)) := by
  simp [keptL, List.getElem?_map, List.getElem?_range h]
theorem ins_insf : ∀ (ns : List Int) (x r : Int), Bis ns x r → ins ns r.toNat x = insf ns x
  | [], x, r, b => by
    have h1 : r.toNat = 0 := by have := b.1; have := b.2.1; simp at this; omega
    rw [h1]; rfl
  | y :: ns, x, r, b => by
    obtain ⟨b0, b1, b2, b3⟩ := b
    by_cases h : y < x
    · have hr : 0 < r := by
        rcases Int.lt_or_le 0 r with h1 | h1
        · exact h1
        · exact absurd h (Int.not_lt.mpr (b3 0 (by omega) (by simp)))
      have e : r.toNat = (r - 1).toNat + 1 := by omega
      have ih := ins_insf ns x (r - 1) ⟨by omega, by simp at b1; omega, fun i hi => by simpa using b2 (i + 1) (by omega), fun i hi hl => by simpa using b3 (i + 1) (by omega) (by simp; omega)⟩
      unfold ins insf at ih ⊢
      rw [e, List.takeWhile_cons, List.dropWhile_cons]
      simp only [h, decide_true, if_true, List.take_succ_cons, List.drop_succ_cons, List.cons_append]
      rw [ih]
    · have hr : r = 0 := by
        rcases Int.lt_or_le 0 r with h1 | h1
        · exact absurd (b2 0 (by omega)) (by simpa using h)
        · omega
      subst hr
      unfold ins insf
      rw [List.takeWhile_cons, List.dropWhile_cons]
      simp [h]
theorem insf_length (ns : List Int) (x : Int) : (insf ns x).length = ns.length + 1 := by
  unfold insf
  have := congrArg List.length (List.takeWhile_append_dropWhile (p := fun y => decide (y < x)) (l := ns))
  rw [List.length_append] at this
  rw [List.length_append, List.length_cons]
  omega
theorem srt_iff {ns : List Int} : Srt ns ↔ ns.Pairwise (· ≤ ·) := by
  rw [List.pairwise_iff_getElem]
  constructor
  · intro h i j hi hj hij
    have := h i j (by omega) hj
    simpa [List.getD_eq_getElem?_getD, hi, hj] using this
  · intro h i j hij hj
    rcases Nat.lt_or_ge i j with h1 | h1
    · have := h i j (by omega) hj h1
      simpa [List.getD_eq_getElem?_getD, hj, show i < ns.length by omega] using this
    · have : i = j := by omega
      subst this; exact Int.le_refl _
theorem insf_srt {ns : List Int} {x : Int} (h : Srt ns) : Srt (insf ns x) := by
  rw [srt_iff] at h ⊢
  induction ns with
  | nil => simp [insf]
  | cons y ns ih =>
    rw [List.pairwise_cons] at h
    have ih' := ih h.2
    unfold insf at ih' ⊢
    rw [List.takeWhile_cons, List.dropWhile_cons]
    by_cases hy : y < x
    · simp only [hy, decide_true, if_true, List.cons_append]
      rw [List.pairwise_cons]
      refine ⟨fun z hz => ?_, ih'⟩
      rcases List.mem_append.mp hz with hz | hz
      · exact h.1 z (List.takeWhile_prefix _ |>.subset hz)
      · rcases List.mem_cons.mp hz with rfl | hz
        · omega
        · exact h.1 z (List.dropWhile_suffix _ |>.subset hz)
    · simp only [hy, decide_false, List.nil_append]
      simp only [Bool.false_eq_true, if_false, List.nil_append]
      rw [List.pairwise_cons, List.pairwise_cons]
      refine ⟨fun z hz => ?_, h⟩
      rcases List.mem_cons.mp hz with rfl | hz
      · omega
      · have := h.1 z hz; omega
theorem ordL_length (c u : Int) : ∀ i, (ordL c u i).length = i
  | 0 => rfl
  | i + 1 => by rw [ordL, insf_length, ordL_length c u i]
theorem ordL_srt (c u : Int) : ∀ i, Srt (ordL c u i)
  | 0 => fun i j _ h => by simp [ordL] at h
  | i + 1 => insf_srt (ordL_srt c u i)
/-- all rests once, in order -/
theorem ord_all : ∀ j : Nat, j < 30 → ordL (3 + 2 * (j : Int)) (2 ^ (ndig (3 + 2 * (j : Int)) 1)) (3 + 2 * j) = (List.range (3 + 2 * j)).map fun (i : Nat) => ((i : Nat) : Int) := by decide +kernel

/-! Montgomery -/
structure Mont (c u o : Int) : Prop where
  c0 : 3 ≤ c
  c1 : c ≤ 61
  lt : c < u
  u0 : 4 ≤ u
  u1 : u ≤ 64
  inv : (c * o + 1) % u = 0
  o0 : 0 ≤ o
  o1 : o ≤ 64
section
variable {c u o : Int} (M : Mont c u o)
include M
theorem Mont.rest (n : Int) : (n + oft n u o * c) % u = 0 := by
  have hu : u ≠ 0 := by have := M.u0; omega
  unfold oft
  have h1 : (n + n % u * o % u * c) % u = (n + n * o * c) % u := by
    rw [Int.add_emod, Int.mul_emod (n % u * o % u), Int.emod_emod_of_dvd _ (Int.dvd_refl u), ← Int.mul_emod, Int.mul_emod (n % u * o), Int.mul_emod (n % u), Int.emod_emod_of_dvd _ (Int.dvd_refl u), ← Int.mul_emod n o, ← Int.mul_emod (n * o), ← Int.add_emod]
  rw [h1]
  have h2 : n + n * o * c = n * (c * o + 1) := by rw [Int.mul_add, Int.mul_one, Int.mul_comm c o, Int.mul_assoc]; omega
  rw [h2, Int.mul_emod, M.inv, Int.mul_zero]
  exact Int.zero_emod u
/-- the unit's inverse by the count -/
theorem Mont.winv : u * ((c * o + 1) / u) = c * o + 1 := by
  have := Int.emod_add_mul_ediv (c * o + 1) u
  rw [M.inv] at this
  omega
theorem Mont.redc {n : Int} (h0 : 0 ≤ n) (h1 : n < c * u) : Mine.redc n c u o = n * ((c * o + 1) / u) % c := by
  have hu : 0 < u := by have := M.u0; omega
  have hc : 0 < c := by have := M.c0; omega
  have hr := M.rest n
  have hw := M.winv
  have e := Int.emod_add_mul_ediv (n + oft n u o * c) u
  rw [hr] at e
  unfold Mine.redc
  have m0 : 0 ≤ oft n u o := Int.emod_nonneg _ (by omega)
  have m1 : oft n u o < u := Int.emod_lt_of_pos _ hu
  generalize oft n u o = m at *
  generalize (n + m * c) / u = t at *
  generalize (c * o + 1) / u = wv at *
  have t0 : 0 ≤ t := by
    have : 0 ≤ m * c := Int.mul_nonneg m0 (by omega)
    have h2 : 0 ≤ u * t := by omega
    rcases Int.lt_or_le t 0 with h3 | h3
    · have := Int.mul_neg_of_pos_of_neg hu h3; omega
    · exact h3
  have t1 : t < 2 * c := by
    have h3 : m * c ≤ u * c := Int.mul_le_mul_of_nonneg_right (by omega) (by omega)
    have h4 : u * t < u * (2 * c) := by
      have h5 : u * (2 * c) = c * u + u * c := by rw [Int.mul_comm c u, Int.two_mul, Int.mul_add]
      omega
    exact Int.lt_of_mul_lt_mul_left h4 (by omega)
  have ht : t % c = n * wv % c := by
    have h6 : n * wv = t + c * (o * t - m * wv) := by
      have h7 : n = u * t - m * c := by omega
      rw [h7, Int.sub_mul, Int.mul_right_comm, hw, Int.mul_sub, Int.add_mul, Int.one_mul, Int.mul_assoc, Int.mul_assoc m c, Int.mul_left_comm m c]
      omega
    rw [h6, Int.add_mul_emod_self_left]
  rw [← ht]
  by_cases hge : t ≥ c
  · rw [if_pos hge]
    have : t % c = (t - c) % c := by rw [Int.sub_emod, Int.emod_self, Int.sub_zero, Int.emod_emod_of_dvd _ (Int.dvd_refl c)]
    rw [this, Int.emod_eq_of_lt (by omega) (by omega)]
  · rw [if_neg hge, Int.emod_eq_of_lt t0 (by omega)]
theorem Mont.kp_bound (x : Int) : 0 ≤ kp c u x ∧ kp c u x < c := ⟨Int.emod_nonneg _ (by have := M.c0; omega), Int.emod_lt_of_pos _ (by have := M.c0; omega)⟩
theorem Mont.uw (x : Int) : x * u * ((c * o + 1) / u) % c = x % c := by
  rw [Int.mul_assoc, M.winv, Int.mul_add, Int.mul_one, Int.mul_left_comm, Int.add_comm, Int.add_mul_emod_self_left]
theorem Mont.small (n : Int) (h : n < c) : n < c * u := by
  have h1 : c * 1 ≤ c * u := Int.mul_le_mul_of_nonneg_left (by have := M.u0; omega) (by have := M.c0; omega)
  omega
/-- taken with one, a kept rest is the rest -/
theorem Mont.out (x : Int) : Mine.redc (kp c u x) c u o = x % c := by
  obtain ⟨h0, h1⟩ := M.kp_bound x
  rw [M.redc h0 (M.small _ h1)]
  show x * u % c * _ % c = _
  rw [Int.mul_emod, Int.emod_emod_of_dvd _ (Int.dvd_refl c), ← Int.mul_emod, M.uw]
theorem Mont.prod_lt (x y : Int) : 0 ≤ kp c u x * kp c u y ∧ kp c u x * kp c u y < c * u ∧ kp c u x * kp c u y ≤ 3600 := by
  obtain ⟨a0, a1⟩ := M.kp_bound x
  obtain ⟨b0, b1⟩ := M.kp_bound y
  have hc := M.c1
  have hl := M.lt
  generalize kp c u x = a at *
  generalize kp c u y = b at *
  refine ⟨Int.mul_nonneg a0 b0, ?_, ?_⟩
  · have h1 : a * b ≤ c * b := Int.mul_le_mul_of_nonneg_right (by omega) b0
    have h2 : c * b < c * u := Int.mul_lt_mul_of_pos_left (by omega) (by have := M.c0; omega)
    omega
  · have h1 : a * b ≤ 60 * 60 := Int.mul_le_mul (by omega) (by omega) b0 (by omega)
    omega
/-- two kept, both taken -/
theorem Mont.mul (x y : Int) : Mine.redc (kp c u x * kp c u y) c u o = kp c u (x * y) := by
  obtain ⟨h0, h1, _⟩ := M.prod_lt x y
  rw [M.redc h0 h1]
  show x * u % c * (y * u % c) * _ % c = x * y * u % c
  have e : ∀ a b w : Int, a % c * (b % c) * w % c = a * b * w % c := fun a b w => by
    rw [Int.mul_emod (a % c * (b % c)), ← Int.mul_emod a b, ← Int.mul_emod]
  rw [e]
  have e2 : x * u * (y * u) * ((c * o + 1) / u) = (x * y * u) * u * ((c * o + 1) / u) := by
    congr 1
    rw [Int.mul_assoc x u, Int.mul_left_comm u y u, ← Int.mul_assoc x, ← Int.mul_assoc]
  rw [e2, M.uw]
omit M in
theorem Mont.kp_mod (x : Int) : kp c u (x % c) = kp c u x := by
  unfold kp
  rw [Int.mul_emod, Int.emod_emod_of_dvd _ (Int.dvd_refl c), ← Int.mul_emod]
theorem Mont.kp_add (x y : Int) : (kp c u x + kp c u y) % c = kp c u ((x + y) % c) := by
  rw [Mont.kp_mod]
  unfold kp
  rw [← Int.add_emod, Int.add_mul]
end
section
variable {prog : Program} {w : World} {A : Around} {E : Value → Shared → Prop} {s : Shared} {h₀ : Heap} {L : Addr} {news : List (Addr × Obj)} {l : Addr} {vs : List Value} {ns : List Int} {k : Nat} {i x : Int} {u : Tok} {e1 e2 : Expr} {Q : Value → Shared → Prop}
theorem item_M (N : News h₀ L s.heap news) (hm : (l, listOf vs.toArray k) ∈ news) (hI : IntsAre vs ns) (h0 : 0 ≤ i) (hi : i < ns.length) (hs : ns.length < 2 ^ 62) (hx : ns.getD i.toNat 0 = x) (h : ∀ t, Q (.int x t) s) (q1 : subscripted e2 false (.ref l) (.int i u) = operate [.ref l, .int i u] (getItem (.ref l) (.int i u))) (q2 : ∀ r, letTemporaryGo e1 (.ref l) r = pure ()) : wpAny (model prog w) A (subscriptTail e1 e2 (.ref l) (.int i u)) Q E s :=
  item_list_ints (N.isList hm) hI h0 hi (by omega) (fun t => by rw [hx]; exact h t) q1 q2
theorem item_G {g : Heap} {m : Str → Option Value} (F : Fr g L s.heap m) (hl : g.IsList l vs.toArray) (hI : IntsAre vs ns) (h0 : 0 ≤ i) (hi : i < ns.length) (hs : ns.length ≤ 1000) (h : ∀ t, Q (.int (ns.getD i.toNat 0) t) s) (q1 : subscripted e2 false (.ref l) (.int i u) = operate [.ref l, .int i u] (getItem (.ref l) (.int i u))) (q2 : ∀ r, letTemporaryGo e1 (.ref l) r = pure ()) : wpAny (model prog w) A (subscriptTail e1 e2 (.ref l) (.int i u)) Q E s :=
  item_list_ints (Fr.lst F hl) hI h0 hi (by omega) h q1 q2
theorem keptL_getD {c u : Int} {n : Nat} {i : Int} (h0 : 0 ≤ i) (hi : i < n) : (keptL c u n).getD i.toNat 0 = kp c u i := by
  have h1 := keptL_get c u (i := n) (j := i.toNat) (by omega)
  rw [List.getD_eq_getElem?_getD, h1, Int.toNat_of_nonneg h0]
  rfl
theorem kept_M {c u : Int} {n : Nat} {u1 : Tok} (N : News h₀ L s.heap news) (hm : (l, listOf vs.toArray k) ∈ news) (hI : IntsAre vs (keptL c u n)) (h0 : 0 ≤ i) (hi : i < n) (hs : n ≤ 1000) (h : ∀ t, Q (.int (kp c u i) t) s) (q1 : subscripted e2 false (.ref l) (.int i u1) = operate [.ref l, .int i u1] (getItem (.ref l) (.int i u1))) (q2 : ∀ r, letTemporaryGo e1 (.ref l) r = pure ()) : wpAny (model prog w) A (subscriptTail e1 e2 (.ref l) (.int i u1)) Q E s :=
  item_M N hm hI h0 (by rw [keptL_length]; exact hi) (by rw [keptL_length]; omega) (keptL_getD h0 hi) h q1 q2
theorem rangeKs_getD {n : Nat} {i : Int} (h0 : 0 ≤ i) (hi : i < n) : (rangeKs 0 n).getD i.toNat 0 = i := by
  unfold rangeKs
  rw [List.getD_eq_getElem?_getD, List.getElem?_map, List.getElem?_range (by omega)]
  simp; omega
theorem range_item {n : Nat} (N : News h₀ L s.heap news) (hm : (l, listOf vs.toArray k) ∈ news) (hI : IntsAre vs (rangeKs 0 n)) (h0 : 0 ≤ i) (hi : i < n) (hs : n ≤ 1000) (h : ∀ t, Q (.int i t) s) (q1 : subscripted e2 false (.ref l) (.int i u) = operate [.ref l, .int i u] (getItem (.ref l) (.int i u))) (q2 : ∀ r, letTemporaryGo e1 (.ref l) r = pure ()) : wpAny (model prog w) A (subscriptTail e1 e2 (.ref l) (.int i u)) Q E s :=
  item_M N hm hI h0 (by rw [rangeKs_length]; exact hi) (by rw [rangeKs_length]; omega) (rangeKs_getD h0 hi) h q1 q2
end
section
open PySem.Spec
variable {prog : Program} {w : World} {A : Around} {E : Value → Shared → Prop} {s : Shared} {env : Env} {h₀ : Heap} {x : Str} {body : List Stmt} {Q : Flow → Shared → Prop}
/-- for over a range with a step -/
theorem rangec_M {r : Addr} {a₀ b₀ c : Int} {t₀ u₀ v₀ : Tok} {n : Nat} {m₀ : Str → Option Value} {news : List (Addr × Obj)} (J : Nat → (Str → Option Value) → List (Addr × Obj) → Prop)
    (hh : A.handled = none) (hr : IsRange s.heap r a₀ b₀ c t₀ u₀ v₀) (hsmall : Builtin.Range.small a₀ b₀ c = true) (hn : Builtin.Range.rangeSize a₀ b₀ c = (n : Int)) (F : Fr h₀ env.locals s.heap m₀) (N : News h₀ env.locals s.heap news) (hj : J 0 m₀ news)
    (turn : ∀ (i : Nat) t I m₁ nx h tk o, i < n → J i m₁ nx → (∀ p ∈ nx, p.1 ≠ I) → (∀ p ∈ news, p.1 < I) → Fr h₀ env.locals h (fun y => if y = x then some (.int (a₀ + i * c) t) else m₁ y) → News h₀ env.locals h ((I, o) :: nx) →
      wpAny (model prog w) A (execs body env) (TurnPostM h₀ env.locals I o (J (i + 1)) { s with heap := h, toks := tk } Q) E { s with heap := h, toks := tk })
    (done : ∀ m₁ nx h tk, J n m₁ nx → Fr h₀ env.locals h m₁ → News h₀ env.locals h nx → Q .next { s with heap := h, toks := tk }) :
    wpAny (model prog w) A (pyIter (.ref r)) (fun it s₂ => LoopAtV prog w A h₀ env x body Q E it s₂) E s := by
  refine wpAny_pyIter_range hr hsmall ?_
  have W : Walks prog w A s.heap.objs.size [s.heap.objs.size] [s.heap.objs.size] n (fun i v => i < n ∧ ∃ t, v = .int (a₀ + i * c) t)
      (fun i h => IsRangeIter h s.heap.objs.size (a₀ + (i : Nat) * c) ((n : Int) - (i : Nat)) c) := (Walks.range hh _ a₀ c n).bound
  refine loop_M J [] (fun _ _ _ _ _ hp => nomatch hp) W (List.mem_singleton.mpr rfl) ?_ (next_is_new F) (fun b hb => .inl (List.mem_singleton.mp hb)) (fun i h hs => ⟨_, hs⟩) ?_ (by show IsRangeIter _ _ _ _ _; rw [hn]; simpa using Heap.get?_push_size _ rfl) (F.push _) (fun p hp => ⟨Heap.get?_push_of_some _ (N p hp).1, (N p hp).2⟩) hj ?_ ?_
  · intro hm
    exact absurd F.ns.lt ((List.mem_singleton.mp hm) ▸ Nat.lt_irrefl _)
  · intro p hp e
    exact absurd (Heap.lt_size (N p hp).1) (by rw [e]; exact Nat.lt_irrefl _)
  · rintro i v m₁ nx h tk o hi ⟨_, t, rfl⟩ hJ hnx F₁ N₁
    exact turn i t _ m₁ nx h tk o hi hJ hnx (fun p hp => Heap.lt_size (N p hp).1) F₁ N₁
  · exact done
end
theorem range2_facts {b : Int} (h0 : -1 ≤ b) (h1 : b ≤ 3) : ∃ n : Nat, Builtin.Range.small 0 b 2 = true ∧ Builtin.Range.rangeSize 0 b 2 = (n : Int) ∧ ∀ i : Nat, i < n → (i : Int) * 2 + 1 ≤ b := by
  have : b = -1 ∨ b = 0 ∨ b = 1 ∨ b = 2 ∨ b = 3 := by omega
  rcases this with rfl | rfl | rfl | rfl | rfl
  · exact ⟨0, by decide, by decide, fun i h => by omega⟩
  · exact ⟨0, by decide, by decide, fun i h => by omega⟩
  · exact ⟨1, by decide, by decide, fun i h => by omega⟩
  · exact ⟨1, by decide, by decide, fun i h => by omega⟩
  · exact ⟨2, by decide, by decide, fun i h => by omega⟩
theorem re3 {P1 P2 : Addr} {l1 k1 l2 k2 : Int} {TL TL' : List (Addr × Obj)} {h h' h₀ : Heap} {L I K O : Addr} {o ko oo : Obj} {m : Str → Option Value} (F : Fr h₀ L h m) (N : News h₀ L h ((I, o) :: (K, ko) :: (O, oo) :: TL)) (G : KeepsBut (TL.map (·.1)) h h') (x : TNx P1 l1 k1 P2 l2 k2 TL h TL' h')
    (sI : ∀ p ∈ TL, p.1 ≠ I) (sK : ∀ p ∈ TL, p.1 ≠ K) (sO : ∀ p ∈ TL, p.1 ≠ O) : News h₀ L h' ((I, o) :: (K, ko) :: (O, oo) :: TL') ∧ (∀ p ∈ TL', p.1 ≠ I) ∧ (∀ p ∈ TL', p.1 ≠ K) ∧ (∀ p ∈ TL', p.1 ≠ O) ∧ TabsIs P1 l1 k1 P2 l2 k2 TL' := by
  have nI := N _ (.head _)
  have nk := N _ (.tail _ (.head _))
  have no := N _ (.tail _ (.tail _ (.head _)))
  exact ⟨keep_one G sI nI (keep_one G sK nk (keep_one G sO no (x.news F (fun p hp => N p (.tail _ (.tail _ (.tail _ hp))))))), x.ne sI nI.1, x.ne sK nk.1, x.ne sO no.1, x.1⟩
theorem bis_range {n : Nat} {x r : Int} (b : Bis (rangeKs 0 n) x r) (h0 : 0 ≤ x) (h1 : x < n) : r = x := by
  obtain ⟨b0, b1, b2, b3⟩ := b
  rw [rangeKs_length] at b1 b3
  rcases Int.lt_trichotomy r x with h | h | h
  · have h4 := b3 r.toNat (by omega) (by omega)
    rw [rangeKs_getD (by omega) (by omega)] at h4
    omega
  · exact h
  · have h4 := b2 x.toNat (by omega)
    rw [rangeKs_getD h0 h1] at h4
    omega
theorem range_facts : ∀ k : Nat, k < 64 → Builtin.Range.small 0 (k : Int) 1 = true ∧ Builtin.Range.rangeSize 0 (k : Int) 1 = (k : Int) := by decide +kernel
section
variable {c u o : Int} (M : Mont c u o)
include M
theorem Mont.pow_step (a : Int) (e i : Nat) : Mine.redc (kp c u (a ^ e) * kp c u (a ^ (2 ^ i))) c u o = kp c u (a ^ (e + 2 ^ i)) := by
  rw [M.mul, Int.pow_add]
theorem Mont.sq_step (a : Int) (i : Nat) : Mine.redc (kp c u (a ^ (2 ^ i)) * kp c u (a ^ (2 ^ i))) c u o = kp c u (a ^ (2 ^ (i + 1))) := by
  rw [M.mul, ← Int.pow_add, Nat.pow_succ, Nat.mul_two]
end
/-- the exponent that the first i figures tell -/
def expo (ds : List Int) (i : Nat) : Nat := (undg 2 (ds.take i)).toNat
theorem expo_zero (ds : List Int) : expo ds 0 = 0 := rfl
theorem undg2_nonneg : ∀ ds : List Int, (∀ d ∈ ds, 0 ≤ d ∧ d < 2) → 0 ≤ undg 2 ds
  | [], _ => Int.le_refl _
  | d :: r, h => by
    have h1 := undg2_nonneg r fun x hx => h x (.tail _ hx)
    have h2 := (h d (.head _)).1
    show 0 ≤ d + 2 * undg 2 r
    omega
theorem expo_succ {ds : List Int} {i : Nat} {d : Int} (hd : ds[i]? = some d) (hs : ∀ d ∈ ds, 0 ≤ d ∧ d < 2) : expo ds (i + 1) = expo ds i + (if d = 1 then 2 ^ i else 0) := by
  unfold expo
  have hi : i < ds.length := (List.getElem?_eq_some_iff.mp hd).1
  have e : ds.take (i + 1) = ds.take i ++ [d] := by rw [List.take_add_one, hd]; rfl
  have h1 : 0 ≤ undg 2 (ds.take i) := undg2_nonneg _ fun x hx => hs x (List.mem_of_mem_take hx)
  rw [e, undg_append, List.length_take, Nat.min_eq_left (by omega)]
  have h3 : undg 2 [d] = d := by simp [undg]
  rw [h3]
  have hdm := hs d (List.mem_of_getElem? hd)
  by_cases h4 : d = 1
  · subst h4
    rw [if_pos rfl, Int.mul_one]
    have : (2 : Int) ^ i = ((2 ^ i : Nat) : Int) := by push_cast; rfl
    rw [this]; generalize (2 : Nat) ^ i = q; omega
  · have : d = 0 := by omega
    subst this
    rw [if_neg h4, Int.mul_zero]; omega
theorem dg2_mem : ∀ (k : Nat) (x : Int), ∀ d ∈ dg 2 k x, 0 ≤ d ∧ d < 2
  | 0, _, _, h => nomatch h
  | k + 1, x, d, h => by
    rcases List.mem_cons.mp h with rfl | h
    · omega
    · exact dg2_mem k _ d h
theorem expo_all {two : Int} (h0 : 0 ≤ two) (h1 : two < 1048576) {n : Nat} (hn : n = ndig two 1) : expo (dg 2 n two) n = two.toNat := by
  unfold expo
  subst hn
  rw [List.take_of_length_le (by rw [dg_length]; exact Nat.le_refl _)]
  have h2 := a_value (n := 1) h0 (by decide)
  rw [hv_rev] at h2
  rw [show ((2 : Int) ^ (1 : Int).toNat) = 2 by rfl] at h2
  rw [h2]
theorem tl_ne_list {P1 P2 : Addr} {l1 k1 l2 k2 : Int} {TL : List (Addr × Obj)} {h : Heap} {D : Addr} {a : Array Value} {k : Nat} (T : TabsIs P1 l1 k1 P2 l2 k2 TL) (hD : h.get? D = some (listOf a k)) (hg : ∀ p ∈ TL, h.get? p.1 = some p.2) : ∀ p ∈ TL, p.1 ≠ D := by
  intro p hp e
  have h1 := hg p hp
  rw [e, hD] at h1
  have h2 : p.2 = listOf a k := (Option.some.inj h1).symm
  obtain ⟨t1, t2, rfl, ok1, ok2⟩ := T
  have tab : ∀ {P : Addr} {l k : Int} {q : Str} {t : TS} {p : Addr × Obj}, TsOk P q t → p ∈ tabs1 P l k t → ∃ vs, p.2.data = .fields vs := by
    intro P l k q t p ok hp
    cases t with
    | cold => rw [List.mem_singleton.mp hp]; exact ⟨_, rfl⟩
    | warm c o =>
      rcases List.mem_cons.mp hp with rfl | hp
      · exact ⟨_, rfl⟩
      · rw [List.mem_singleton.mp hp]
        obtain ⟨_, vs, t, hd, _⟩ := ok
        exact ⟨vs, hd⟩
  rcases List.mem_append.mp hp with hp | hp
  · obtain ⟨vs, hv⟩ := tab ok1 hp
    rw [h2] at hv; cases hv
  · obtain ⟨vs, hv⟩ := tab ok2 hp
    rw [h2] at hv; cases hv
theorem re4 {P1 P2 : Addr} {l1 k1 l2 k2 : Int} {TL TL' : List (Addr × Obj)} {h h' h₀ : Heap} {L J I K O : Addr} {o jo ko oo : Obj} {m : Str → Option Value} (F : Fr h₀ L h m) (N : News h₀ L h ((J, jo) :: (I, o) :: (K, ko) :: (O, oo) :: TL)) (G : KeepsBut (TL.map (·.1)) h h') (x : TNx P1 l1 k1 P2 l2 k2 TL h TL' h')
    (sJ : ∀ p ∈ TL, p.1 ≠ J) (sI : ∀ p ∈ TL, p.1 ≠ I) (sK : ∀ p ∈ TL, p.1 ≠ K) (sO : ∀ p ∈ TL, p.1 ≠ O) : News h₀ L h' ((J, jo) :: (I, o) :: (K, ko) :: (O, oo) :: TL') ∧ (∀ p ∈ TL', p.1 ≠ J) ∧ (∀ p ∈ TL', p.1 ≠ I) ∧ (∀ p ∈ TL', p.1 ≠ K) ∧ (∀ p ∈ TL', p.1 ≠ O) ∧ TabsIs P1 l1 k1 P2 l2 k2 TL' := by
  have nJ := N _ (.head _)
  obtain ⟨N', r⟩ := re3 F (fun p hp => N p (.tail _ hp)) G x sI sK sO
  exact ⟨keep_one G sJ nJ N', x.ne sJ nJ.1, r⟩
theorem re5 {P1 P2 : Addr} {l1 k1 l2 k2 : Int} {TL TL' : List (Addr × Obj)} {h h' h₀ : Heap} {L H J I K O : Addr} {o ho jo ko oo : Obj} {m : Str → Option Value} (F : Fr h₀ L h m) (N : News h₀ L h ((H, ho) :: (J, jo) :: (I, o) :: (K, ko) :: (O, oo) :: TL)) (G : KeepsBut (TL.map (·.1)) h h') (x : TNx P1 l1 k1 P2 l2 k2 TL h TL' h')
    (sH : ∀ p ∈ TL, p.1 ≠ H) (sJ : ∀ p ∈ TL, p.1 ≠ J) (sI : ∀ p ∈ TL, p.1 ≠ I) (sK : ∀ p ∈ TL, p.1 ≠ K) (sO : ∀ p ∈ TL, p.1 ≠ O) : News h₀ L h' ((H, ho) :: (J, jo) :: (I, o) :: (K, ko) :: (O, oo) :: TL') ∧ (∀ p ∈ TL', p.1 ≠ H) ∧ (∀ p ∈ TL', p.1 ≠ J) ∧ (∀ p ∈ TL', p.1 ≠ I) ∧ (∀ p ∈ TL', p.1 ≠ K) ∧ (∀ p ∈ TL', p.1 ≠ O) ∧ TabsIs P1 l1 k1 P2 l2 k2 TL' := by
  have nJ := N _ (.head _)
  obtain ⟨N', r⟩ := re4 F (fun p hp => N p (.tail _ hp)) G x sJ sI sK sO
  exact ⟨keep_one G sH nJ N', x.ne sH nJ.1, r⟩
theorem tabs_grown {P1 P2 : Addr} {l1 k1 l2 k2 : Int} {TL : List (Addr × Obj)} {h : Heap} (T : TabsIs P1 l1 k1 P2 l2 k2 TL) (hg : ∀ p ∈ TL, h.get? p.1 = some p.2) : GrownAt P1 h ∧ GrownAt P2 h := by
  obtain ⟨t1, t2, rfl, -, -⟩ := T
  have tab : ∀ {P : Addr} {l k : Int} (t : TS), (∀ p ∈ tabs1 P l k t, h.get? p.1 = some p.2) → GrownAt P h := by
    intro P l k t hp
    cases t with
    | cold => exact ⟨_, hp _ (.head _)⟩
    | warm c o => exact ⟨_, hp _ (.head _)⟩
  exact ⟨tab t1 fun p hp => hg p (List.mem_append_left _ hp), tab t2 fun p hp => hg p (List.mem_append_right _ hp)⟩
open_top hd for PySem.Challenge.rw_ib0004_03
abbrev prog : Program := PySem.Challenge.rw_ib0004_03.row.prog
abbrev TB (h : Heap) : Prop := CodeHd h 34 30 ∧ CodeHd h 41 37
abbrev Tp (a b : Int) (t1 t2 : Tok) : Obj := { cls := .type "tuple", data := .seq #[.int a t1, .int b t2] }
local macro_rules | `(tactic| walk_at "newTuple") => `(tactic| (k_here; k_dflt (refine' newTuple_M ?k1 ?k2 ?_; (case k1 => k_asm); (case k2 => k_asm); k_whole); intro l' h' F' N' l1 l2; (try k_lt l1); (try k_lt2 l2); (try k_sweep)))
local macro_rules | `(tactic| walk_at "newList") => `(tactic| (k_here; k_dflt (refine' newList_M ?k1 ?k2 ?_; (case k1 => k_asm); (case k2 => k_asm); k_whole); intro l' h' F' N' l1 l2; (try k_lt l1); (try k_lt2 l2); (try k_sweep)))
local macro_rules | `(tactic| walk_at "binaryOp Mult ref int") => `(tactic| (k_here; (with_reducible show wpAny _ _ (binaryOp Operator.Mult (Value.ref _) (Value.int _ _)) _ _ _); k_dflt (refine' mul1_M ?k1 ?k2 ?k3 ?k4 ?k5 ?_; (case k1 => k_asm); (case k2 => k_asm); (case k3 => k_mem); (case k4 => omega); (case k5 => omega); k_whole); intro l' vs' h' i1 F' N' l1 l2; (try k_lt l1); (try k_lt2 l2); (try k_sweep)))
local macro_rules | `(tactic| walk_at "call ref") => `(tactic| (k_here; (with_reducible show wpAny _ _ (call (Value.ref _) _) _ _ _); refine Stop.mk ?_))
local macro_rules | `(tactic| walk_at "call builtin:len") => `(tactic| (k_here; k_dflt (show wpAny _ _ (call (Value.builtin _) [Value.ref _]) _ _ _); k_dflt (refine' len_M ?k1 ?k2 ?k3 ?k4 ?_; (case k1 => k_asm); (case k2 => k_mem); (case k3 => with_reducible assumption); (case k4 => (try simp only [List.length_replicate]); omega); k_whole); (try simp only [List.length_replicate])))
local macro_rules | `(tactic| walk_at "eval Name") => `(tactic| (k_here; kc_free; k_dflt (refine' nameX_G ?F ?c ?g ?d ?_ ?a ?b; (case a => rfl); (case b => rfl); (case F => k_asm); (case c => rfl); (case g => assumption); (case d => assumption); k_whole)))
local macro_rules | `(tactic| walk_at "binaryOp RShift int int") => `(tactic| (k_here; (with_reducible refine' shr_M ?k1 ?k2 ?_); (case k1 => omega); (case k2 => omega)))
local macro_rules | `(tactic| walk_at "binaryOp RShift int int") => `(tactic| (k_here; (with_reducible refine' shr1_M ?_ ?k1); (case k1 => omega)))
local macro_rules | `(tactic| walk_at "binaryOp LShift int int") => `(tactic| (k_here; (with_reducible refine' shl_M ?k1 ?k2 ?k3 ?k4 ?_); (case k1 => omega); (case k2 => omega); (case k3 => omega); (case k4 => omega)))
local macro_rules | `(tactic| walk_at "binaryOp BitXor int int") => `(tactic| (k_here; (with_reducible refine' xor_M ?k1 ?_); (case k1 => omega)))
local macro_rules | `(tactic| walk_at "callWith ref") => `(tactic| (k_here; kn_here; k_dflt (refine' callWith_F ?k1 ?_; (case k1 => exact fnAt_G (by k_asm) (by assumption)); k_whole)))
local macro_rules | `(tactic| walk_at "FnAt") => `(tactic| (k_dflt (exact fnAt_G (by k_asm) (by assumption))))
local macro_rules | `(tactic| walk_at "call builtin:list.append") => `(tactic| (k_here; k_dflt (show wpAny _ _ (call (Value.builtin _) [Value.ref _, _]) _ _ _); k_dflt (refine' append_M ?k1 ?k2 ?k3 ?k4 ?_; (case k1 => k_asm); (case k2 => k_asm); (case k3 => k_upd); (case k4 => first | omega | (simp; omega)); k_whole); intro h' F' N'; (try k_sweep)))
local macro_rules | `(tactic| walk_at "call builtin:list.reverse") => `(tactic| (k_here; k_dflt (show wpAny _ _ (call (Value.builtin _) [Value.ref _]) _ _ _); k_dflt (refine' reverse_M ?k1 ?k2 ?k3 ?k4 ?_; (case k1 => k_asm); (case k2 => k_asm); (case k3 => k_upd); (case k4 => first | omega | (simp; omega)); k_whole); intro h' F' N'; (try k_sweep)))
local macro_rules | `(tactic| walk_at "pyIter ref") => `(tactic| ((with_reducible show wpAny _ _ (pyIter (Value.ref _)) (fun it s₂ => LoopAtV _ _ _ _ _ _ _ _ _ it s₂) _ _); refine Stop.mk ?_))
local macro_rules | `(tactic| walk_at "exec For") => `(tactic| (k_here; (with_reducible show wpAny _ _ (exec (Stmt.For (Expr.Name _ _) _ _ [] _) _) _ _ _); (rename Fr _ _ _ _ => lF'); (with_unfolding_all refine' For_invVF lF' ?k1 ?k2 ?_; (case k1 => exact rfl); (case k2 => exact rfl); k_whole)))
local macro_rules | `(tactic| k_all) => `(tactic| assumption)
theorem c_int2digits_cold (w : World) (a n : Int) (ta tn : Tok) (ha : 0 ≤ a) (hlt : a < 1048576) (hn : 0 < n) (hn2 : n ≤ 20) :
   Ctr prog hd.heap_39 TB w 35 40 1000 [.int a ta, .int n tn] (tabs1 30 32 4 .cold) (fun _ => True) (PDig 30 32 4 (Str.ofString "_int2digits.<locals>.inner") a n .cold) := by
  have fill : PySem.Challenge.rw_ib0004_03 = PySem.Challenge.rw_ib0004_03 → hd.heap_39 = hd.heap_39 → True := by k_fill; intros; trivial
  have hq : 0 ≤ ((Builtin.Int.intBits a : Nat) : Int) := Int.natCast_nonneg _
  have hd1 : 0 ≤ (((Builtin.Int.intBits a : Nat) : Int) + n - 1).fdiv n := by
    rw [Int.fdiv_eq_ediv_of_nonneg _ (by omega)]; exact Int.ediv_nonneg (by omega) (by omega)
  have hd2 : (((Builtin.Int.intBits a : Nat) : Int) + n - 1).fdiv n ≤ 1048576 := by
    rw [Int.fdiv_eq_ediv_of_nonneg _ (by omega)]; refine Int.le_trans (Int.ediv_le_self _ (by omega)) ?_; have := bits_le ha (k := 20) (by simpa using hlt); omega
  have hbits : (Builtin.Int.intBits a : Int) ≤ 20 := bits_le ha (by simpa using hlt)
  unfold tabs1
  k_dflt (refine' ctr_cells (binds := [(Str.ofString "a", .int a ta), (Str.ofString "n", .int n tn)]) ?k6 ?k7 ?kd ?k9 ?kB ?kD ?c2 ?c3 ?c4 ?_; (case k6 => k_is); (case k7 => k_is); (case kd => decide); (case k9 => intro s' X'; exact BindsTo.of_eq rfl); (case kB => exact rfl); (case kD => decide +kernel); (case c2 => exact rfl); (case c3 => exact rfl); (case c4 => exact rfl))
  intro p loose mean mg mb dp un gd outer A₀ base g L' h₁ tk s cells B F X N Y T hTB hpre hG hL hk1 lm hdp hun
  obtain ⟨C1, C2⟩ := hTB
  k_lt lm
  k_cells Y
  (try simp only [List.cons_append, List.nil_append] at N)
  (try dsimp only)
  (try k_unmd)
  k_fold
  k_steps
  rotate_left
  · rename_i o1 o2 o3 d1 d2 d3 lt h1 lt1 lt2 l vs h2 i1 l1 l2 h3 oA dA f c oc vc tc ctv dcv h4 tk4 dc1 dc2 lc1 lc2 h5 oI F5 N5 dI hane
    subst hane
    have dc2' : vc[1]? = some (.str (Str.ofString "_int2digits.<locals>.inner") tc) := by rw [dc2]; rfl
    (try dsimp only)
    (try k_unfold)
    refine ⟨h5, _, _, rfl, F5, ⟨l, vs, rfl, N5.get (by k_mem), ?_, by omega⟩, c, oc, ⟨ltN (by omega), vc, tc, dc1, dc2'⟩, tabs_two (N5.get (by k_mem)) (N5.get (by k_mem)), .inr ⟨rfl, by omega⟩⟩
    rw [ndig_zero hn]
    have e0 : Builtin.Int.intBits 0 = 0 := rfl
    rw [e0, Int.fdiv_eq_ediv_of_nonneg _ (by omega), Int.ediv_eq_zero_of_lt (by omega) (by omega)] at i1
    exact i1
  rename_i o1 o2 o3 d1 d2 d3 lt h1 lt1 lt2 l vs h2 i1 l1 l2 h3 oA dA f c oc vc tc ctv dcv h4 tk4 dc1 dc2 lc1 lc2 h5 oI F5 N5 dI hane
  have dc2' : vc[1]? = some (.str (Str.ofString "_int2digits.<locals>.inner") tc) := by rw [dc2]; rfl
  have d3' : o3.data = .cell (some (.int n tn)) := d3
  have gf := N5.get (a := f) (.head _)
  have gc := N5.get (a := c) (o := oc) (by k_mem)
  have gI := N5.get (a := L' + 1 + 1 + 1) (o := oI) (by k_mem)
  have gA := N5.get (a := L' + 1 + 1) (o := oA) (by k_mem)
  have gN := N5.get (a := L' + 1) (o := o3) (by k_mem)
  have key : ∀ d : IDat, Ctr prog hd.heap_39 TB w f (d.sz + 1) (40 * d.sz + 60) [.int d.x d.tx, .int d.L d.tL, .int d.R d.tR] [(l, listOf d.vs.toArray 0)]
      (fun h => d.Ok n ∧ h.get? f = h5.get? f ∧ h.get? c = some oc ∧ h.get? (L' + 1 + 1 + 1) = some oI ∧ h.get? (L' + 1 + 1) = some oA ∧ h.get? (L' + 1) = some o3)
      (fun _ v h' => ∃ vs', IntsAre vs' (wr d.ns d.L.toNat (dg (2 ^ n.toNat) d.sz d.x)) ∧ h'.get? l = some (listOf vs'.toArray 0)) := by
    refine by_size IDat.sz fun d IH => ?_
    obtain ⟨x, lo, hi, tx, tL, tR, vs0, ns0⟩ := d
    dsimp only [IDat.sz] at IH ⊢
    k_dflt (refine' ctr_clos (binds := [(Str.ofString "x", .int x tx), (Str.ofString "L", .int lo tL), (Str.ofString "R", .int hi tR)]) ?k6 ?kd ?k9 ?kB ?c2 ?c3 ?c4 ?c5 ?_; (case k6 => (intro h0 hp; exact ⟨hp.2.1.trans gf, _, _, _, _, rfl, hp.2.2.1, dc1, dc2⟩)); (case kd => omega); (case k9 => intro s'; exact BindsTo.of_eq rfl); (case kB => exact locs rfl); (case c2 => exact rfl); (case c3 => exact rfl); (case c4 => exact rfl); (case c5 => decide))
    clear B X T C1 C2 hpre hG hk1 F5 N5
    intro p' loose' mean' mg' mb' dp' un' gd' outer' A₀' base' g' Lx h₁' tk' s' B F X N T hTB hpre hG hL' hk1 hdp' hun'
    obtain ⟨C1, C2⟩ := hTB
    obtain ⟨ok, q1, q2, q3, q4, q5⟩ := hpre
    obtain ⟨l0, lr, rl, few, x0, xs, xl, isI, nl⟩ := ok
    dsimp only at l0 lr rl few x0 xs xl isI nl
    have ne : ∀ b, b ≠ l → b ∉ List.map (fun x => x.fst) [(l, listOf vs0.toArray 0)] := fun b hb hm => hb (List.mem_singleton.mp hm)
    have g1 := hG _ _ (ne _ (by k_ne)) (q1.trans gf)
    have g2 := hG _ _ (ne _ (by k_ne)) q2
    have g3 := hG _ _ (ne _ (by k_ne)) q3
    have g4 := hG _ _ (ne _ (by k_ne)) q4
    have g5 := hG _ _ (ne _ (by k_ne)) q5
    have hs1 : 0 ≤ ((lo + hi) / 2 - lo) * n := Int.mul_nonneg (by omega) (by omega)
    have hs2 : ((lo + hi) / 2 - lo) * n ≤ 20 * 20 := Int.mul_le_mul (by omega) hn2 (by omega) (by omega)
    have hu1 : 0 ≤ x / 2 ^ (((lo + hi) / 2 - lo) * n).toNat := Int.ediv_nonneg x0 (Int.le_of_lt (Int.pow_pos (by decide)))
    have hu2 : x / 2 ^ (((lo + hi) / 2 - lo) * n).toNat < 1048576 := Int.lt_of_le_of_lt (Int.ediv_le_self _ x0) xs
    clear q1 q2 q3 q4 q5 hk1
    (try k_unmd)
    k_fold
    k_steps
    · dsimp only
      k_unfold
      rename_i hone h' F' N' hi' hl' hs'
      refine ⟨h', _, _, rfl, F', _, ?_, N'.get (.head _)⟩
      have e1 : (hi - lo).toNat = 1 := by omega
      have e2 : dg (2 ^ n.toNat) (hi - lo).toNat x = [x] := by
        rw [e1] at xl ⊢
        show [x % 2 ^ n.toNat] = [x]
        rw [Int.emod_eq_of_lt x0 (by rw [Int.pow_succ, Int.pow_zero, Int.one_mul] at xl; exact xl)]
      rw [e2, wr_one (by omega)]
      exact hi'
    · rename_i hone h1' h2' h3' h4' F' N'
      generalize hmid : (lo + hi) / 2 = mid at *
      have hml : lo < mid := by omega
      have hmh : mid < hi := by omega
      have eB : (2 : Int) ^ ((mid - lo) * n).toNat = (2 ^ n.toNat) ^ (mid - lo).toNat := pow_shift (by omega) (by omega)
      have hB : (0 : Int) < 2 ^ n.toNat := Int.pow_pos (by decide)
      have hBm : (0 : Int) < (2 ^ n.toNat) ^ (mid - lo).toNat := Int.pow_pos hB
      have esz : (hi - lo).toNat = (mid - lo).toNat + (hi - mid).toNat := by omega
      refine Stop.out (Ctr.use (IH ⟨x % 2 ^ ((mid - lo) * n).toNat, lo, mid, _, _, _, vs0, ns0⟩ (by dsimp only; omega)) (by assumption) (by assumption) (by assumption) (by assumption) (by assumption) rfl ⟨C1, C2⟩ ⟨⟨l0, hml, by dsimp only; omega, by dsimp only; omega, Int.emod_nonneg _ (by rw [eB]; omega), Int.lt_of_le_of_lt (emod_le' x0 (by rw [eB]; exact hBm)) xs, by dsimp only; rw [eB]; exact Int.emod_lt_of_pos _ hBm, isI, nl⟩, (F'.keep _ _ g1).trans gf.symm, F'.keep _ _ g2, F'.keep _ _ g3, F'.keep _ _ g4, F'.keep _ _ g5⟩ (by dsimp only; omega) (by dsimp only; omega) ?_)
      rintro v5 h5' tk5 G5 ⟨vs1, i1', hl1⟩ F6
      dsimp only at i1' hl1
      have N6 : News g' Lx h5' [(l, listOf vs1.toArray 0)] := news_cons hl1 (N' _ (.head _)).2.1 (N' _ (.head _)).2.2 News.nil
      clear F' N'
      dsimp only
      k_steps
      have len1 : (wr ns0 lo.toNat (dg (2 ^ n.toNat) (mid - lo).toNat (x % 2 ^ ((mid - lo) * n).toNat))).length = ns0.length := wr_length (by rw [dg_length]; omega)
      generalize hns : wr ns0 lo.toNat (dg (2 ^ n.toNat) (mid - lo).toNat (x % 2 ^ ((mid - lo) * n).toNat)) = ns1 at *
      have xup : x / (2 ^ n.toNat) ^ (mid - lo).toNat < (2 ^ n.toNat) ^ (hi - mid).toNat := by
        refine Int.ediv_lt_of_lt_mul hBm ?_
        rw [Int.mul_comm, ← Int.pow_add, ← esz]
        exact xl
      refine Stop.out (Ctr.use (IH ⟨x / 2 ^ ((mid - lo) * n).toNat, mid, hi, _, _, _, vs1, ns1⟩ (by dsimp only; omega)) (by assumption) (by assumption) (by assumption) (by assumption) (by assumption) rfl ⟨C1, C2⟩ ⟨⟨by dsimp only; omega, hmh, by dsimp only; omega, by dsimp only; omega, hu1, hu2, by dsimp only; rw [eB]; exact xup, i1', by dsimp only; omega⟩, (F6.keep _ _ g1).trans gf.symm, F6.keep _ _ g2, F6.keep _ _ g3, F6.keep _ _ g4, F6.keep _ _ g5⟩ (by dsimp only; omega) (by dsimp only; omega) ?_)
      rintro v7 h7' tk7 G7 ⟨vs2, i2', hl2⟩ F7
      dsimp only at i2' hl2
      clear F6
      dsimp only
      k_steps
      try dsimp only
      try k_unfold
      refine ⟨h7', _, _, rfl, F7, vs2, ?_, hl2⟩
      have e1 : (lo.toNat + (dg (2 ^ n.toNat) (mid - lo).toNat (x % 2 ^ ((mid - lo) * n).toNat)).length) = mid.toNat := by rw [dg_length]; omega
      rw [← hns, ← e1, wr_wr (by simp only [dg_length]; omega), eB, dg_mod hB, ← dg_split hB, ← esz] at i2'
      exact i2'
  have ek : ((((Builtin.Int.intBits a : Nat) : Int) + n - 1).fdiv n).toNat = ndig a n := by rw [Int.fdiv_eq_ediv_of_nonneg _ (by omega)]; rfl
  rw [ek] at i1 ⊢
  obtain ⟨n1, n2, n3⟩ := ndig_le hane hn
  have lth := lt_dig ha hane hn
  refine Stop.out (Ctr.use (key ⟨a, 0, ndig a n, _, _, _, vs, List.replicate (ndig a n) 0⟩) (by assumption) F5 (by assumption) (kst_newsOf N5 (by intro p hp; rw [List.mem_singleton.mp hp]; k_mem)) (by assumption) rfl ⟨C1, C2⟩
    ⟨⟨Int.le_refl _, by dsimp only; omega, by dsimp only; rw [List.length_replicate]; omega, by dsimp only; omega, ha, hlt, by dsimp only; rw [show ((ndig a n : Int) - 0).toNat = ndig a n by omega]; exact lth, i1, by dsimp only; rw [List.length_replicate]; omega⟩, rfl, gc, gI, gA, gN⟩ (by dsimp only [IDat.sz]; omega) (by dsimp only [IDat.sz]; omega) ?_)
  rintro v7 h7 tk7 G7 ⟨vs2, i2', hl2⟩ F7
  dsimp only [IDat.sz] at i2' hl2
  rw [show ((ndig a n : Int) - 0).toNat = ndig a n by omega] at i2'
  rw [show (0 : Int).toNat = 0 from rfl, wr_all (by rw [dg_length, List.length_replicate])] at i2'
  have ne : ∀ b, b ≠ l → b ∉ List.map (fun x => x.fst) [(l, listOf vs.toArray 0)] := fun b hb hm => hb (List.mem_singleton.mp hm)
  have k30 := G7 30 _ (ne _ (by k_ne)) (N5.get (a := 30) (by k_mem))
  have kc := G7 c _ (ne _ (by k_ne)) gc
  have N7 : News g L' h7 [(L' + 1 + 1, oA)] := news_cons (G7 _ _ (ne _ (by k_ne)) gA) (by k_ne) (N5 (L' + 1 + 1, oA) (by k_mem)).2.2 News.nil
  clear N5 F5
  try dsimp only
  k_steps
  (try dsimp only)
  (try k_unfold)
  exact ⟨h7, _, _, rfl, F7, ⟨l, vs2, rfl, hl2, i2', by omega⟩, c, oc, ⟨ltN (by omega), vc, tc, dc1, dc2'⟩, tabs_two k30 kc, .inr ⟨rfl, by omega⟩⟩
theorem c_int2digits_warm (w : World) (a n : Int) (ta tn : Tok) (ha : 0 ≤ a) (hlt : a < 1048576) (hn : 0 < n) (hn2 : n ≤ 20) (c : Addr) (oc : Obj) (hok : TsOk 30 (Str.ofString "_int2digits.<locals>.inner") (.warm c oc)) :
   Ctr prog hd.heap_39 TB w 35 40 1000 [.int a ta, .int n tn] (tabs1 30 32 4 (.warm c oc)) (fun _ => True) (PDig 30 32 4 (Str.ofString "_int2digits.<locals>.inner") a n (.warm c oc)) := by
  obtain ⟨hlt0, vc, tc, dc1, dc2'⟩ := hok
  have fill : PySem.Challenge.rw_ib0004_03 = PySem.Challenge.rw_ib0004_03 → hd.heap_39 = hd.heap_39 → True := by k_fill; intros; trivial
  have hq : 0 ≤ ((Builtin.Int.intBits a : Nat) : Int) := Int.natCast_nonneg _
  have hd1 : 0 ≤ (((Builtin.Int.intBits a : Nat) : Int) + n - 1).fdiv n := by
    rw [Int.fdiv_eq_ediv_of_nonneg _ (by omega)]; exact Int.ediv_nonneg (by omega) (by omega)
  have hd2 : (((Builtin.Int.intBits a : Nat) : Int) + n - 1).fdiv n ≤ 1048576 := by
    rw [Int.fdiv_eq_ediv_of_nonneg _ (by omega)]; refine Int.le_trans (Int.ediv_le_self _ (by omega)) ?_; have := bits_le ha (k := 20) (by simpa using hlt); omega
  have hbits : (Builtin.Int.intBits a : Int) ≤ 20 := bits_le ha (by simpa using hlt)
  unfold tabs1
  k_dflt (refine' ctr_cells (binds := [(Str.ofString "a", .int a ta), (Str.ofString "n", .int n tn)]) ?k6 ?k7 ?kd ?k9 ?kB ?kD ?c2 ?c3 ?c4 ?_; (case k6 => k_is); (case k7 => k_is); (case kd => decide); (case k9 => intro s' X'; exact BindsTo.of_eq rfl); (case kB => exact rfl); (case kD => decide +kernel); (case c2 => exact rfl); (case c3 => exact rfl); (case c4 => exact rfl))
  intro p loose mean mg mb dp un gd outer A₀ base g L' h₁ tk s cells B F X N Y T hTB hpre hG hL hk1 lm hdp hun
  obtain ⟨C1, C2⟩ := hTB
  k_lt lm
  k_cells Y
  (try simp only [List.cons_append, List.nil_append] at N)
  (try dsimp only)
  (try k_unmd)
  k_fold
  k_steps
  rotate_left
  · rename_i o1 o2 o3 d1 d2 d3 lt h1 lt1 lt2 l vs h2 i1 l1 l2 h3 oA dA f ctv dcv h4 tk4 lc1 h5 oI F5 N5 dI hane
    subst hane
    (try dsimp only)
    (try k_unfold)
    refine ⟨h5, _, _, rfl, F5, ⟨l, vs, rfl, N5.get (by k_mem), ?_, by omega⟩, c, oc, ⟨ltN (by omega), vc, tc, dc1, dc2'⟩, tabs_two (N5.get (by k_mem)) (N5.get (by k_mem)), .inl rfl⟩
    rw [ndig_zero hn]
    have e0 : Builtin.Int.intBits 0 = 0 := rfl
    rw [e0, Int.fdiv_eq_ediv_of_nonneg _ (by omega), Int.ediv_eq_zero_of_lt (by omega) (by omega)] at i1
    exact i1
  rename_i o1 o2 o3 d1 d2 d3 lt h1 lt1 lt2 l vs h2 i1 l1 l2 h3 oA dA f ctv dcv h4 tk4 lc1 h5 oI F5 N5 dI hane
  have d3' : o3.data = .cell (some (.int n tn)) := d3
  have gf := N5.get (a := f) (.head _)
  have gc := N5.get (a := c) (o := oc) (by k_mem)
  have gI := N5.get (a := L' + 1 + 1 + 1) (o := oI) (by k_mem)
  have gA := N5.get (a := L' + 1 + 1) (o := oA) (by k_mem)
  have gN := N5.get (a := L' + 1) (o := o3) (by k_mem)
  have key : ∀ d : IDat, Ctr prog hd.heap_39 TB w f (d.sz + 1) (40 * d.sz + 60) [.int d.x d.tx, .int d.L d.tL, .int d.R d.tR] [(l, listOf d.vs.toArray 0)]
      (fun h => d.Ok n ∧ h.get? f = h5.get? f ∧ h.get? c = some oc ∧ h.get? (L' + 1 + 1 + 1) = some oI ∧ h.get? (L' + 1 + 1) = some oA ∧ h.get? (L' + 1) = some o3)
      (fun _ v h' => ∃ vs', IntsAre vs' (wr d.ns d.L.toNat (dg (2 ^ n.toNat) d.sz d.x)) ∧ h'.get? l = some (listOf vs'.toArray 0)) := by
    refine by_size IDat.sz fun d IH => ?_
    obtain ⟨x, lo, hi, tx, tL, tR, vs0, ns0⟩ := d
    dsimp only [IDat.sz] at IH ⊢
    k_dflt (refine' ctr_clos (binds := [(Str.ofString "x", .int x tx), (Str.ofString "L", .int lo tL), (Str.ofString "R", .int hi tR)]) ?k6 ?kd ?k9 ?kB ?c2 ?c3 ?c4 ?c5 ?_; (case k6 => (intro h0 hp; exact ⟨hp.2.1.trans gf, _, _, _, _, rfl, hp.2.2.1, dc1, dc2'⟩)); (case kd => omega); (case k9 => intro s'; exact BindsTo.of_eq rfl); (case kB => exact locs rfl); (case c2 => exact rfl); (case c3 => exact rfl); (case c4 => exact rfl); (case c5 => decide))
    clear B X T C1 C2 hpre hG hk1 F5 N5
    intro p' loose' mean' mg' mb' dp' un' gd' outer' A₀' base' g' Lx h₁' tk' s' B F X N T hTB hpre hG hL' hk1 hdp' hun'
    obtain ⟨C1, C2⟩ := hTB
    obtain ⟨ok, q1, q2, q3, q4, q5⟩ := hpre
    obtain ⟨l0, lr, rl, few, x0, xs, xl, isI, nl⟩ := ok
    dsimp only at l0 lr rl few x0 xs xl isI nl
    have ne : ∀ b, b ≠ l → b ∉ List.map (fun x => x.fst) [(l, listOf vs0.toArray 0)] := fun b hb hm => hb (List.mem_singleton.mp hm)
    have g1 := hG _ _ (ne _ (by k_ne)) (q1.trans gf)
    have g2 := hG _ _ (ne _ (by k_ne)) q2
    have g3 := hG _ _ (ne _ (by k_ne)) q3
    have g4 := hG _ _ (ne _ (by k_ne)) q4
    have g5 := hG _ _ (ne _ (by k_ne)) q5
    have hs1 : 0 ≤ ((lo + hi) / 2 - lo) * n := Int.mul_nonneg (by omega) (by omega)
    have hs2 : ((lo + hi) / 2 - lo) * n ≤ 20 * 20 := Int.mul_le_mul (by omega) hn2 (by omega) (by omega)
    have hu1 : 0 ≤ x / 2 ^ (((lo + hi) / 2 - lo) * n).toNat := Int.ediv_nonneg x0 (Int.le_of_lt (Int.pow_pos (by decide)))
    have hu2 : x / 2 ^ (((lo + hi) / 2 - lo) * n).toNat < 1048576 := Int.lt_of_le_of_lt (Int.ediv_le_self _ x0) xs
    clear q1 q2 q3 q4 q5 hk1
    (try k_unmd)
    k_fold
    k_steps
    · dsimp only
      k_unfold
      rename_i hone h' F' N' hi' hl' hs'
      refine ⟨h', _, _, rfl, F', _, ?_, N'.get (.head _)⟩
      have e1 : (hi - lo).toNat = 1 := by omega
      have e2 : dg (2 ^ n.toNat) (hi - lo).toNat x = [x] := by
        rw [e1] at xl ⊢
        show [x % 2 ^ n.toNat] = [x]
        rw [Int.emod_eq_of_lt x0 (by rw [Int.pow_succ, Int.pow_zero, Int.one_mul] at xl; exact xl)]
      rw [e2, wr_one (by omega)]
      exact hi'
    · rename_i hone h1' h2' h3' h4' F' N'
      generalize hmid : (lo + hi) / 2 = mid at *
      have hml : lo < mid := by omega
      have hmh : mid < hi := by omega
      have eB : (2 : Int) ^ ((mid - lo) * n).toNat = (2 ^ n.toNat) ^ (mid - lo).toNat := pow_shift (by omega) (by omega)
      have hB : (0 : Int) < 2 ^ n.toNat := Int.pow_pos (by decide)
      have hBm : (0 : Int) < (2 ^ n.toNat) ^ (mid - lo).toNat := Int.pow_pos hB
      have esz : (hi - lo).toNat = (mid - lo).toNat + (hi - mid).toNat := by omega
      refine Stop.out (Ctr.use (IH ⟨x % 2 ^ ((mid - lo) * n).toNat, lo, mid, _, _, _, vs0, ns0⟩ (by dsimp only; omega)) (by assumption) (by assumption) (by assumption) (by assumption) (by assumption) rfl ⟨C1, C2⟩ ⟨⟨l0, hml, by dsimp only; omega, by dsimp only; omega, Int.emod_nonneg _ (by rw [eB]; omega), Int.lt_of_le_of_lt (emod_le' x0 (by rw [eB]; exact hBm)) xs, by dsimp only; rw [eB]; exact Int.emod_lt_of_pos _ hBm, isI, nl⟩, (F'.keep _ _ g1).trans gf.symm, F'.keep _ _ g2, F'.keep _ _ g3, F'.keep _ _ g4, F'.keep _ _ g5⟩ (by dsimp only; omega) (by dsimp only; omega) ?_)
      rintro v5 h5' tk5 G5 ⟨vs1, i1', hl1⟩ F6
      dsimp only at i1' hl1
      have N6 : News g' Lx h5' [(l, listOf vs1.toArray 0)] := news_cons hl1 (N' _ (.head _)).2.1 (N' _ (.head _)).2.2 News.nil
      clear F' N'
      dsimp only
      k_steps
      have len1 : (wr ns0 lo.toNat (dg (2 ^ n.toNat) (mid - lo).toNat (x % 2 ^ ((mid - lo) * n).toNat))).length = ns0.length := wr_length (by rw [dg_length]; omega)
      generalize hns : wr ns0 lo.toNat (dg (2 ^ n.toNat) (mid - lo).toNat (x % 2 ^ ((mid - lo) * n).toNat)) = ns1 at *
      have xup : x / (2 ^ n.toNat) ^ (mid - lo).toNat < (2 ^ n.toNat) ^ (hi - mid).toNat := by
        refine Int.ediv_lt_of_lt_mul hBm ?_
        rw [Int.mul_comm, ← Int.pow_add, ← esz]
        exact xl
      refine Stop.out (Ctr.use (IH ⟨x / 2 ^ ((mid - lo) * n).toNat, mid, hi, _, _, _, vs1, ns1⟩ (by dsimp only; omega)) (by assumption) (by assumption) (by assumption) (by assumption) (by assumption) rfl ⟨C1, C2⟩ ⟨⟨by dsimp only; omega, hmh, by dsimp only; omega, by dsimp only; omega, hu1, hu2, by dsimp only; rw [eB]; exact xup, i1', by dsimp only; omega⟩, (F6.keep _ _ g1).trans gf.symm, F6.keep _ _ g2, F6.keep _ _ g3, F6.keep _ _ g4, F6.keep _ _ g5⟩ (by dsimp only; omega) (by dsimp only; omega) ?_)
      rintro v7 h7' tk7 G7 ⟨vs2, i2', hl2⟩ F7
      dsimp only at i2' hl2
      clear F6
      dsimp only
      k_steps
      try dsimp only
      try k_unfold
      refine ⟨h7', _, _, rfl, F7, vs2, ?_, hl2⟩
      have e1 : (lo.toNat + (dg (2 ^ n.toNat) (mid - lo).toNat (x % 2 ^ ((mid - lo) * n).toNat)).length) = mid.toNat := by rw [dg_length]; omega
      rw [← hns, ← e1, wr_wr (by simp only [dg_length]; omega), eB, dg_mod hB, ← dg_split hB, ← esz] at i2'
      exact i2'
  have ek : ((((Builtin.Int.intBits a : Nat) : Int) + n - 1).fdiv n).toNat = ndig a n := by rw [Int.fdiv_eq_ediv_of_nonneg _ (by omega)]; rfl
  rw [ek] at i1 ⊢
  obtain ⟨n1, n2, n3⟩ := ndig_le hane hn
  have lth := lt_dig ha hane hn
  refine Stop.out (Ctr.use (key ⟨a, 0, ndig a n, _, _, _, vs, List.replicate (ndig a n) 0⟩) (by assumption) F5 (by assumption) (kst_newsOf N5 (by intro p hp; rw [List.mem_singleton.mp hp]; k_mem)) (by assumption) rfl ⟨C1, C2⟩
    ⟨⟨Int.le_refl _, by dsimp only; omega, by dsimp only; rw [List.length_replicate]; omega, by dsimp only; omega, ha, hlt, by dsimp only; rw [show ((ndig a n : Int) - 0).toNat = ndig a n by omega]; exact lth, i1, by dsimp only; rw [List.length_replicate]; omega⟩, rfl, gc, gI, gA, gN⟩ (by dsimp only [IDat.sz]; omega) (by dsimp only [IDat.sz]; omega) ?_)
  rintro v7 h7 tk7 G7 ⟨vs2, i2', hl2⟩ F7
  dsimp only [IDat.sz] at i2' hl2
  rw [show ((ndig a n : Int) - 0).toNat = ndig a n by omega] at i2'
  rw [show (0 : Int).toNat = 0 from rfl, wr_all (by rw [dg_length, List.length_replicate])] at i2'
  have ne : ∀ b, b ≠ l → b ∉ List.map (fun x => x.fst) [(l, listOf vs.toArray 0)] := fun b hb hm => hb (List.mem_singleton.mp hm)
  have k30 := G7 30 _ (ne _ (by k_ne)) (N5.get (a := 30) (by k_mem))
  have kc := G7 c _ (ne _ (by k_ne)) gc
  have N7 : News g L' h7 [(L' + 1 + 1, oA)] := news_cons (G7 _ _ (ne _ (by k_ne)) gA) (by k_ne) (N5 (L' + 1 + 1, oA) (by k_mem)).2.2 News.nil
  clear N5 F5
  try dsimp only
  k_steps
  (try dsimp only)
  (try k_unfold)
  exact ⟨h7, _, _, rfl, F7, ⟨l, vs2, rfl, hl2, i2', by omega⟩, c, oc, ⟨ltN (by omega), vc, tc, dc1, dc2'⟩, tabs_two k30 kc, .inl rfl⟩
theorem c_int2digits (w : World) (a n : Int) (ta tn : Tok) (ha : 0 ≤ a) (hlt : a < 1048576) (hn : 0 < n) (hn2 : n ≤ 20) (t : TS) (hok : TsOk 30 (Str.ofString "_int2digits.<locals>.inner") t) :
   Ctr prog hd.heap_39 TB w 35 40 1000 [.int a ta, .int n tn] (tabs1 30 32 4 t) (fun _ => True) (PDig 30 32 4 (Str.ofString "_int2digits.<locals>.inner") a n t) := by
  cases t with
  | cold => exact c_int2digits_cold w a n ta tn ha hlt hn hn2
  | warm c o => exact c_int2digits_warm w a n ta tn ha hlt hn hn2 c o hok
theorem c_digits2int_cold (w : World) (l : Addr) (vs : List Value) (ns : List Int) (nk : Nat) (n : Int) (tn : Tok) (hi0 : IntsAre vs ns) (hlen : ns.length ≤ 20) (hn : 0 < n) (hn2 : n ≤ 20) (hnl : n * ns.length ≤ 60) (hds : ∀ d ∈ ns, 0 ≤ d ∧ d < 2 ^ n.toNat) :
   Ctr prog hd.heap_39 TB w 42 40 1000 [.ref l, .int n tn] (tabs1 37 47 4 .cold) (fun h => h.get? l = some (listOf vs.toArray nk)) (PUnd 37 47 4 (Str.ofString "_digits2int.<locals>.inner") ns n .cold) := by
  have fill : PySem.Challenge.rw_ib0004_03 = PySem.Challenge.rw_ib0004_03 → hd.heap_39 = hd.heap_39 → True := by k_fill; intros; trivial
  unfold tabs1
  k_dflt (refine' ctr_cells (binds := [(Str.ofString "digits", .ref l), (Str.ofString "n", .int n tn)]) ?k6 ?k7 ?kd ?k9 ?kB ?kD ?c2 ?c3 ?c4 ?_; (case k6 => k_is); (case k7 => k_is); (case kd => decide); (case k9 => intro s' X'; exact BindsTo.of_eq rfl); (case kB => exact rfl); (case kD => decide +kernel); (case c2 => exact rfl); (case c3 => exact rfl); (case c4 => exact rfl))
  intro p loose mean mg mb dp un gd outer A₀ base g L' h₁ tk s cells B F X N Y T hTB hpre hG hL hk1 lm hdp hun
  obtain ⟨C1, C2⟩ := hTB
  k_lt lm
  k_cells Y
  (try simp only [List.cons_append, List.nil_append] at N)
  have gl := hG _ _ (not_tabs (P := 37) (l := 47) (k := 4) (t := .cold) (q := (Str.ofString "_digits2int.<locals>.inner")) (fun p hp => N.get (List.mem_append_right [_, _, _] hp)) trivial (hk1 _ _ hpre)) hpre
  have gIL : g.IsList l vs.toArray := ⟨_, gl, rfl, _, rfl⟩
  have hl62 : ns.length < 2 ^ 62 := by omega
  (try dsimp only)
  (try k_unmd)
  k_fold
  k_steps
  rotate_left
  · rename_i o1 o2 o3 d1 d2 d3 f c oc vc tc ctv dcv h4 tk4 dc1 dc2 lc1 lc2 h5 oI F5 N5 dI hane
    have dc2' : vc[1]? = some (.str (Str.ofString "_digits2int.<locals>.inner") tc) := by rw [dc2]; rfl
    have e0 : ns = [] := List.eq_nil_of_length_eq_zero (by omega)
    (try dsimp only)
    (try k_unfold)
    refine ⟨h5, _, _, rfl, F5, ⟨_, by rw [e0]; rfl⟩, c, oc, ⟨ltN (by omega), vc, tc, dc1, dc2'⟩, tabs_two (N5.get (by k_mem)) (N5.get (by k_mem)), .inr ⟨rfl, by omega⟩⟩
  rename_i o1 o2 o3 d1 d2 d3 f c oc vc tc ctv dcv h4 tk4 dc1 dc2 lc1 lc2 h5 oI F5 N5 dI hane
  have dc2' : vc[1]? = some (.str (Str.ofString "_digits2int.<locals>.inner") tc) := by rw [dc2]; rfl
  have d2' : o2.data = .cell (some (.int n tn)) := d2
  have d3' : o3.data = .cell (some (.ref l)) := d3
  have gf := N5.get (a := f) (.head _)
  have gc := N5.get (a := c) (o := oc) (by k_mem)
  have gI := N5.get (a := L' + 1 + 1 + 1) (o := oI) (by k_mem)
  have gN := N5.get (a := L' + 1 + 1) (o := o2) (by k_mem)
  have gD := N5.get (a := L' + 1) (o := o3) (by k_mem)
  have g5l := F5.keep _ _ gl
  have key : ∀ d : JDat, Ctr prog hd.heap_39 TB w f (d.sz + 1) (40 * d.sz + 60) [.int d.L d.tL, .int d.R d.tR] []
      (fun h => (0 ≤ d.L ∧ d.L < d.R ∧ d.R ≤ ns.length) ∧ h.get? f = h5.get? f ∧ h.get? c = some oc ∧ h.get? (L' + 1 + 1 + 1) = some oI ∧ h.get? (L' + 1 + 1) = some o2 ∧ h.get? (L' + 1) = some o3 ∧ h.get? l = some (listOf vs.toArray nk))
      (fun _ v _ => ∃ tk, v = .int (undg (2 ^ n.toNat) (seg ns d.L d.R)) tk) := by
    refine by_size JDat.sz fun d IH => ?_
    obtain ⟨lo, hi, tL, tR⟩ := d
    dsimp only [JDat.sz] at IH ⊢
    k_dflt (refine' ctr_clos (binds := [(Str.ofString "L", .int lo tL), (Str.ofString "R", .int hi tR)]) ?k6 ?kd ?k9 ?kB ?c2 ?c3 ?c4 ?c5 ?_; (case k6 => (intro h0 hp; exact ⟨hp.2.1.trans gf, _, _, _, _, rfl, hp.2.2.1, dc1, dc2⟩)); (case kd => omega); (case k9 => intro s'; exact BindsTo.of_eq rfl); (case kB => exact locs rfl); (case c2 => exact rfl); (case c3 => exact rfl); (case c4 => exact rfl); (case c5 => decide))
    clear B X T C1 C2 hpre hG hk1 F5 N5 gIL
    intro p' loose' mean' mg' mb' dp' un' gd' outer' A₀' base' g' Lx h₁' tk' s' B F X N T hTB hpre hG hL' hk1 hdp' hun'
    obtain ⟨C1, C2⟩ := hTB
    obtain ⟨⟨l0, lr, rl⟩, q1, q2, q3, q4, q5, q6⟩ := hpre
    try dsimp only at l0 lr rl
    have ne : ∀ b, b ∉ List.map (fun x => x.fst) ([] : List (Addr × Obj)) := fun b hm => nomatch hm
    have g1 := hG _ _ (ne _) (q1.trans gf)
    have g2 := hG _ _ (ne _) q2
    have g3 := hG _ _ (ne _) q3
    have g4 := hG _ _ (ne _) q4
    have g5 := hG _ _ (ne _) q5
    have g6 := hG _ _ (ne _) q6
    have gIL : g'.IsList l vs.toArray := ⟨_, g6, rfl, _, rfl⟩
    have hs1 : 0 ≤ ((lo + hi) / 2 - lo) * n := Int.mul_nonneg (by omega) (by omega)
    have hs2 : ((lo + hi) / 2 - lo) * n ≤ 20 * 20 := Int.mul_le_mul (by omega) hn2 (by omega) (by omega)
    clear q1 q2 q3 q4 q5 q6 hk1
    (try k_unmd)
    k_fold
    k_steps
    · rename_i hone tk1
      (try dsimp only)
      (try k_unfold)
      refine' ⟨_, _, _, rfl, F, tk1, ?_⟩
      rw [← hone, seg_one l0 (by omega)]
      show _ = Value.int (ns.getD lo.toNat 0 + 2 ^ n.toNat * 0) _
      rw [Int.mul_zero, Int.add_zero]
    · rename_i hone h1' h2' F' N'
      generalize hmid : (lo + hi) / 2 = mid at *
      have hml : lo < mid := by omega
      have hmh : mid < hi := by omega
      have eB : (2 : Int) ^ ((mid - lo) * n).toNat = (2 ^ n.toNat) ^ (mid - lo).toNat := pow_shift (by omega) (by omega)
      refine Stop.out (Ctr.use (IH ⟨mid, hi, _, _⟩ (by dsimp only; omega)) (by assumption) (by assumption) (by assumption) (by assumption) (by assumption) rfl ⟨C1, C2⟩ ⟨⟨by dsimp only; omega, hmh, rl⟩, (F'.keep _ _ g1).trans gf.symm, F'.keep _ _ g2, F'.keep _ _ g3, F'.keep _ _ g4, F'.keep _ _ g5, F'.keep _ _ g6⟩ (by dsimp only; omega) (by dsimp only; omega) ?_)
      rintro v5 h5' tk5 G5 ⟨tk6, rfl⟩ F6
      dsimp only
      have hb1 := undg_small hn hnl hds (a := mid) (b := hi) (by omega) (by omega) rl
      obtain ⟨hb1a, hb1b⟩ := hb1
      generalize hu1 : undg (2 ^ n.toNat) (seg ns mid hi) = u1 at *
      have N6 : News g' Lx h5' [] := News.nil
      clear F' N'
      k_steps
      refine Stop.out (Ctr.use (IH ⟨lo, mid, _, _⟩ (by dsimp only; omega)) (by assumption) (by assumption) (by assumption) (by assumption) (by assumption) rfl ⟨C1, C2⟩ ⟨⟨l0, hml, by dsimp only; omega⟩, (F6.keep _ _ g1).trans gf.symm, F6.keep _ _ g2, F6.keep _ _ g3, F6.keep _ _ g4, F6.keep _ _ g5, F6.keep _ _ g6⟩ (by dsimp only; omega) (by dsimp only; omega) ?_)
      rintro v7 h7' tk7 G7 ⟨tk8, rfl⟩ F7
      have N8 : News g' Lx h7' [] := News.nil
      clear F6 N6
      dsimp only
      k_steps
      (try dsimp only)
      (try k_unfold)
      refine' ⟨h7', _, _, rfl, F7, _, ?_⟩
      rotate_left
      rw [seg_split (lo := lo) (hi := hi) (mid := mid) l0 (by omega) (by omega), undg_append, seg_length l0 (by omega) (by omega), hu1, ← eB, Int.mul_comm u1, Int.add_comm]
  refine Stop.out (Ctr.use (key ⟨0, ns.length, _, _⟩) (by assumption) F5 (by assumption) (fun _ hp => nomatch hp) (by assumption) rfl ⟨C1, C2⟩
    ⟨⟨Int.le_refl _, by dsimp only; omega, Int.le_refl _⟩, rfl, gc, gI, gN, gD, g5l⟩ (by dsimp only [JDat.sz]; omega) (by dsimp only [JDat.sz]; omega) ?_)
  rintro v7 h7 tk7 G7 ⟨tk8, rfl⟩ F7
  dsimp only
  rw [seg_all]
  have k37 := G7 37 _ (fun hm => nomatch hm) (N5.get (a := 37) (by k_mem))
  have kc := G7 c _ (fun hm => nomatch hm) gc
  (try k_unfold)
  (try dsimp only)
  (try k_unfold)
  exact ⟨h7, _, _, rfl, F7, ⟨_, rfl⟩, c, oc, ⟨ltN (by omega), vc, tc, dc1, dc2'⟩, tabs_two k37 kc, .inr ⟨rfl, by omega⟩⟩
theorem c_digits2int_warm (w : World) (l : Addr) (vs : List Value) (ns : List Int) (nk : Nat) (n : Int) (tn : Tok) (hi0 : IntsAre vs ns) (hlen : ns.length ≤ 20) (hn : 0 < n) (hn2 : n ≤ 20) (hnl : n * ns.length ≤ 60) (hds : ∀ d ∈ ns, 0 ≤ d ∧ d < 2 ^ n.toNat) (c : Addr) (oc : Obj) (hok : TsOk 37 (Str.ofString "_digits2int.<locals>.inner") (.warm c oc)) :
   Ctr prog hd.heap_39 TB w 42 40 1000 [.ref l, .int n tn] (tabs1 37 47 4 (.warm c oc)) (fun h => h.get? l = some (listOf vs.toArray nk)) (PUnd 37 47 4 (Str.ofString "_digits2int.<locals>.inner") ns n (.warm c oc)) := by
  have hok' := hok
  obtain ⟨hlt0, vc, tc, dc1, dc2'⟩ := hok
  have fill : PySem.Challenge.rw_ib0004_03 = PySem.Challenge.rw_ib0004_03 → hd.heap_39 = hd.heap_39 → True := by k_fill; intros; trivial
  unfold tabs1
  k_dflt (refine' ctr_cells (binds := [(Str.ofString "digits", .ref l), (Str.ofString "n", .int n tn)]) ?k6 ?k7 ?kd ?k9 ?kB ?kD ?c2 ?c3 ?c4 ?_; (case k6 => k_is); (case k7 => k_is); (case kd => decide); (case k9 => intro s' X'; exact BindsTo.of_eq rfl); (case kB => exact rfl); (case kD => decide +kernel); (case c2 => exact rfl); (case c3 => exact rfl); (case c4 => exact rfl))
  intro p loose mean mg mb dp un gd outer A₀ base g L' h₁ tk s cells B F X N Y T hTB hpre hG hL hk1 lm hdp hun
  obtain ⟨C1, C2⟩ := hTB
  k_lt lm
  k_cells Y
  (try simp only [List.cons_append, List.nil_append] at N)
  have gl := hG _ _ (not_tabs (P := 37) (l := 47) (k := 4) (t := (.warm c oc)) (q := (Str.ofString "_digits2int.<locals>.inner")) (fun p hp => N.get (List.mem_append_right [_, _, _] hp)) hok' (hk1 _ _ hpre)) hpre
  have gIL : g.IsList l vs.toArray := ⟨_, gl, rfl, _, rfl⟩
  have hl62 : ns.length < 2 ^ 62 := by omega
  (try dsimp only)
  (try k_unmd)
  k_fold
  k_steps
  rotate_left
  · rename_i o1 o2 o3 d1 d2 d3 f ctv dcv h4 tk4 lc1 h5 oI F5 N5 dI hane
    have e0 : ns = [] := List.eq_nil_of_length_eq_zero (by omega)
    (try dsimp only)
    (try k_unfold)
    refine ⟨h5, _, _, rfl, F5, ⟨_, by rw [e0]; rfl⟩, c, oc, ⟨ltN (by omega), vc, tc, dc1, dc2'⟩, tabs_two (N5.get (by k_mem)) (N5.get (by k_mem)), .inl rfl⟩
  rename_i o1 o2 o3 d1 d2 d3 f ctv dcv h4 tk4 lc1 h5 oI F5 N5 dI hane
  have d2' : o2.data = .cell (some (.int n tn)) := d2
  have d3' : o3.data = .cell (some (.ref l)) := d3
  have gf := N5.get (a := f) (.head _)
  have gc := N5.get (a := c) (o := oc) (by k_mem)
  have gI := N5.get (a := L' + 1 + 1 + 1) (o := oI) (by k_mem)
  have gN := N5.get (a := L' + 1 + 1) (o := o2) (by k_mem)
  have gD := N5.get (a := L' + 1) (o := o3) (by k_mem)
  have g5l := F5.keep _ _ gl
  have key : ∀ d : JDat, Ctr prog hd.heap_39 TB w f (d.sz + 1) (40 * d.sz + 60) [.int d.L d.tL, .int d.R d.tR] []
      (fun h => (0 ≤ d.L ∧ d.L < d.R ∧ d.R ≤ ns.length) ∧ h.get? f = h5.get? f ∧ h.get? c = some oc ∧ h.get? (L' + 1 + 1 + 1) = some oI ∧ h.get? (L' + 1 + 1) = some o2 ∧ h.get? (L' + 1) = some o3 ∧ h.get? l = some (listOf vs.toArray nk))
      (fun _ v _ => ∃ tk, v = .int (undg (2 ^ n.toNat) (seg ns d.L d.R)) tk) := by
    refine by_size JDat.sz fun d IH => ?_
    obtain ⟨lo, hi, tL, tR⟩ := d
    dsimp only [JDat.sz] at IH ⊢
    k_dflt (refine' ctr_clos (binds := [(Str.ofString "L", .int lo tL), (Str.ofString "R", .int hi tR)]) ?k6 ?kd ?k9 ?kB ?c2 ?c3 ?c4 ?c5 ?_; (case k6 => (intro h0 hp; exact ⟨hp.2.1.trans gf, _, _, _, _, rfl, hp.2.2.1, dc1, dc2'⟩)); (case kd => omega); (case k9 => intro s'; exact BindsTo.of_eq rfl); (case kB => exact locs rfl); (case c2 => exact rfl); (case c3 => exact rfl); (case c4 => exact rfl); (case c5 => decide))
    clear B X T C1 C2 hpre hG hk1 F5 N5 gIL
    intro p' loose' mean' mg' mb' dp' un' gd' outer' A₀' base' g' Lx h₁' tk' s' B F X N T hTB hpre hG hL' hk1 hdp' hun'
    obtain ⟨C1, C2⟩ := hTB
    obtain ⟨⟨l0, lr, rl⟩, q1, q2, q3, q4, q5, q6⟩ := hpre
    try dsimp only at l0 lr rl
    have ne : ∀ b, b ∉ List.map (fun x => x.fst) ([] : List (Addr × Obj)) := fun b hm => nomatch hm
    have g1 := hG _ _ (ne _) (q1.trans gf)
    have g2 := hG _ _ (ne _) q2
    have g3 := hG _ _ (ne _) q3
    have g4 := hG _ _ (ne _) q4
    have g5 := hG _ _ (ne _) q5
    have g6 := hG _ _ (ne _) q6
    have gIL : g'.IsList l vs.toArray := ⟨_, g6, rfl, _, rfl⟩
    have hs1 : 0 ≤ ((lo + hi) / 2 - lo) * n := Int.mul_nonneg (by omega) (by omega)
    have hs2 : ((lo + hi) / 2 - lo) * n ≤ 20 * 20 := Int.mul_le_mul (by omega) hn2 (by omega) (by omega)
    clear q1 q2 q3 q4 q5 q6 hk1
    (try k_unmd)
    k_fold
    k_steps
    · rename_i hone tk1
      (try dsimp only)
      (try k_unfold)
      refine' ⟨_, _, _, rfl, F, tk1, ?_⟩
      rw [← hone, seg_one l0 (by omega)]
      show _ = Value.int (ns.getD lo.toNat 0 + 2 ^ n.toNat * 0) _
      rw [Int.mul_zero, Int.add_zero]
    · rename_i hone h1' h2' F' N'
      generalize hmid : (lo + hi) / 2 = mid at *
      have hml : lo < mid := by omega
      have hmh : mid < hi := by omega
      have eB : (2 : Int) ^ ((mid - lo) * n).toNat = (2 ^ n.toNat) ^ (mid - lo).toNat := pow_shift (by omega) (by omega)
      refine Stop.out (Ctr.use (IH ⟨mid, hi, _, _⟩ (by dsimp only; omega)) (by assumption) (by assumption) (by assumption) (by assumption) (by assumption) rfl ⟨C1, C2⟩ ⟨⟨by dsimp only; omega, hmh, rl⟩, (F'.keep _ _ g1).trans gf.symm, F'.keep _ _ g2, F'.keep _ _ g3, F'.keep _ _ g4, F'.keep _ _ g5, F'.keep _ _ g6⟩ (by dsimp only; omega) (by dsimp only; omega) ?_)
      rintro v5 h5' tk5 G5 ⟨tk6, rfl⟩ F6
      dsimp only
      have hb1 := undg_small hn hnl hds (a := mid) (b := hi) (by omega) (by omega) rl
      obtain ⟨hb1a, hb1b⟩ := hb1
      generalize hu1 : undg (2 ^ n.toNat) (seg ns mid hi) = u1 at *
      have N6 : News g' Lx h5' [] := News.nil
      clear F' N'
      k_steps
      refine Stop.out (Ctr.use (IH ⟨lo, mid, _, _⟩ (by dsimp only; omega)) (by assumption) (by assumption) (by assumption) (by assumption) (by assumption) rfl ⟨C1, C2⟩ ⟨⟨l0, hml, by dsimp only; omega⟩, (F6.keep _ _ g1).trans gf.symm, F6.keep _ _ g2, F6.keep _ _ g3, F6.keep _ _ g4, F6.keep _ _ g5, F6.keep _ _ g6⟩ (by dsimp only; omega) (by dsimp only; omega) ?_)
      rintro v7 h7' tk7 G7 ⟨tk8, rfl⟩ F7
      have N8 : News g' Lx h7' [] := News.nil
      clear F6 N6
      dsimp only
      k_steps
      (try dsimp only)
      (try k_unfold)
      refine' ⟨h7', _, _, rfl, F7, _, ?_⟩
      rotate_left
      rw [seg_split (lo := lo) (hi := hi) (mid := mid) l0 (by omega) (by omega), undg_append, seg_length l0 (by omega) (by omega), hu1, ← eB, Int.mul_comm u1, Int.add_comm]
  refine Stop.out (Ctr.use (key ⟨0, ns.length, _, _⟩) (by assumption) F5 (by assumption) (fun _ hp => nomatch hp) (by assumption) rfl ⟨C1, C2⟩
    ⟨⟨Int.le_refl _, by dsimp only; omega, Int.le_refl _⟩, rfl, gc, gI, gN, gD, g5l⟩ (by dsimp only [JDat.sz]; omega) (by dsimp only [JDat.sz]; omega) ?_)
  rintro v7 h7 tk7 G7 ⟨tk8, rfl⟩ F7
  dsimp only
  rw [seg_all]
  have k37 := G7 37 _ (fun hm => nomatch hm) (N5.get (a := 37) (by k_mem))
  have kc := G7 c _ (fun hm => nomatch hm) gc
  (try k_unfold)
  (try dsimp only)
  (try k_unfold)
  exact ⟨h7, _, _, rfl, F7, ⟨_, rfl⟩, c, oc, ⟨ltN (by omega), vc, tc, dc1, dc2'⟩, tabs_two k37 kc, .inl rfl⟩
theorem c_digits2int (w : World) (l : Addr) (vs : List Value) (ns : List Int) (nk : Nat) (n : Int) (tn : Tok) (hi0 : IntsAre vs ns) (hlen : ns.length ≤ 20) (hn : 0 < n) (hn2 : n ≤ 20) (hnl : n * ns.length ≤ 60) (hds : ∀ d ∈ ns, 0 ≤ d ∧ d < 2 ^ n.toNat) (t : TS) (hok : TsOk 37 (Str.ofString "_digits2int.<locals>.inner") t) :
   Ctr prog hd.heap_39 TB w 42 40 1000 [.ref l, .int n tn] (tabs1 37 47 4 t) (fun h => h.get? l = some (listOf vs.toArray nk)) (PUnd 37 47 4 (Str.ofString "_digits2int.<locals>.inner") ns n t) := by
  cases t with
  | cold => exact c_digits2int_cold w l vs ns nk n tn hi0 hlen hn hn2 hnl hds
  | warm c o => exact c_digits2int_warm w l vs ns nk n tn hi0 hlen hn hn2 hnl hds c o hok
theorem c_div2n1n (w : World) (a b n : Int) (ta tb tn : Tok) 
  (ha : 0 ≤ a) (hb : 0 < b) (hlt : a < 1152921504606846976) (hbt : b < 1048576) (hn : 0 ≤ n) : Ctr prog hd.heap_39 TB w 21 1 8 [.int a ta, .int b tb, .int n tn] [] (fun _ => True) (PDiv a b) := by
  have fill : PySem.Challenge.rw_ib0004_03 = PySem.Challenge.rw_ib0004_03 → hd.heap_39 = hd.heap_39 → True := by k_fill; intros; trivial
  have hbits : (Builtin.Int.intBits a : Int) ≤ 60 := bits_le ha (by simpa using hlt)
  k_dflt (refine' ctr_plain (binds := [(Str.ofString "a", .int a ta), (Str.ofString "b", .int b tb), (Str.ofString "n", .int n tn)]) ?k6 ?k7 ?kd ?k9 ?kB ?c2 ?c3 ?c4 ?c5 ?_; (case k6 => k_is); (case k7 => k_is); (case kd => decide); (case k9 => intro s' X'; exact BindsTo.of_eq rfl); (case kB => exact locs rfl); (case c2 => exact rfl); (case c3 => exact rfl); (case c4 => exact rfl); (case c5 => decide))
  intro p loose mean mg mb dp un gd outer A₀ base g L' h₁ tk s B F X N T hTB hpre hG hL hk1 hdp hun
  obtain ⟨C1, C2⟩ := hTB
  try dsimp only
  (try k_unmd)
  k_fold
  k_steps
  rename_i h' F' N'
  have hD := N'.get (.head _)
  rw [Int.fdiv_eq_ediv_of_nonneg _ (by omega), Int.fmod_eq_emod_of_nonneg _ (by omega)] at hD
  exact ⟨h', _, _, rfl, F', _, _, _, rfl, hD, Nat.le_trans hL (Nat.le_of_lt F.ns.lt)⟩

theorem c_divmod_pos (w : World) (a b : Int) (ta tb : Tok) (ha : 0 ≤ a) (hb : 0 < b) (hlt : a < 1048576) (hbt : b < 1048576) (t1 t2 : TS) (ok1 : TsOk 30 (Str.ofString "_int2digits.<locals>.inner") t1) (ok2 : TsOk 37 (Str.ofString "_digits2int.<locals>.inner") t2) :
   Ctr prog hd.heap_39 TB w 49 50 1200 [.int a ta, .int b tb] (tabs1 30 32 4 t1 ++ tabs1 37 47 4 t2) (fun _ => True) (PDm 30 32 4 37 47 4 a b t1 t2) := by
  have fill : PySem.Challenge.rw_ib0004_03 = PySem.Challenge.rw_ib0004_03 → hd.heap_39 = hd.heap_39 → True := by k_fill; intros; trivial
  k_dflt (refine' ctr_plain (binds := [(Str.ofString "a", .int a ta), (Str.ofString "b", .int b tb)]) ?k6 ?k7 ?kd ?k9 ?kB ?c2 ?c3 ?c4 ?c5 ?_; (case k6 => k_is); (case k7 => k_is); (case kd => decide); (case k9 => intro s' X'; exact BindsTo.of_eq rfl); (case kB => exact locs rfl); (case c2 => exact rfl); (case c3 => exact rfl); (case c4 => exact rfl); (case c5 => decide))
  intro p loose mean mg mb dp un gd outer A₀ base g L' h₁ tk s B F X N T hTB hpre hG hL hk1 hdp hun
  obtain ⟨C1, C2⟩ := hTB
  try dsimp only
  (try k_unmd)
  k_fold
  k_steps
  rename_i h2 F2 N2
  have hB0 : 0 < ((Builtin.Int.intBits b : Nat) : Int) := by have := bits_pos (show b ≠ 0 by omega); omega
  have hB20 : ((Builtin.Int.intBits b : Nat) : Int) ≤ 20 := bits_le (by omega) (by simpa using hbt)
  have hbB : b < 2 ^ (Builtin.Int.intBits b) := lt_bits (by omega)
  generalize hn : ((Builtin.Int.intBits b : Nat) : Int) = n at *
  have hnb : n.toNat = Builtin.Int.intBits b := by omega
  rw [← hnb] at hbB
  have hap := tabs_apart (news_left N2) (news_right N2) ok1 ok2 (by decide) q_ne
  refine Stop.out (Ctr.use (c_int2digits w a n ta tk ha hlt hB0 hB20 t1 ok1) (by assumption) F2 (by assumption) (news_left N2) (by assumption) rfl ⟨C1, C2⟩ trivial (by omega) (by omega) ?_)
  rintro v3 h3 tk3 G3 ⟨⟨D, vs, rfl, hD, hI, hDs⟩, c1, o1, okc1, hc1, hcase1⟩ F3
  have NT := news_append (tabs_news F2 (news_left N2) hc1 hcase1) (news_after (news_right N2) G3 (off_of_apart hap))
  have hs2 : s.heap.objs.size ≤ h2.objs.size := Nat.le_trans hL (Nat.le_of_lt F2.ns.lt)
  have hcase1' := case_mono hs2 hcase1
  have hltT : ∀ p ∈ (tabs1 30 32 4 (.warm c1 o1) ++ tabs1 37 47 4 t2), p.1 ≠ D := fun p hp e => by
    rcases List.mem_append.mp hp with hp | hp
    · exact not_tabs (fun p hp => (news_left NT p hp).1) okc1 hD (List.mem_map.mpr ⟨p, hp, e⟩)
    · exact not_tabs (fun p hp => (news_right NT p hp).1) ok2 hD (List.mem_map.mpr ⟨p, hp, e⟩)
  have N3 := news_new F2 hD hDs NT
  obtain ⟨TL, hTL⟩ : ∃ z, z = (tabs1 30 32 4 (.warm c1 o1) ++ tabs1 37 47 4 t2) := ⟨_, rfl⟩
  rw [← hTL] at N3 hltT
  clear N2 F2 hD
  (try dsimp only)
  k_steps
  rename_i hA hB lq hC l1 l2 hDh I hE F5 N5 lI
  have hT2 : ∀ p ∈ TL, p.1 ≠ lq := fun p hp => Nat.ne_of_lt (ktn_ltOf l1.2 p hp)
  have hT3 : ∀ p ∈ TL, p.1 ≠ I := fun p hp => Nat.ne_of_lt (ktn_ltOf lI.2.2 p hp)
  have hBp : (0 : Int) < 2 ^ n.toNat := Int.pow_pos (by decide)
  have hBs : (2 : Int) ^ n.toNat ≤ 1048576 := by
    have h1 : (2 : Nat) ^ n.toNat ≤ 2 ^ 20 := Nat.pow_le_pow_right (by decide) (by omega)
    have h2 : (2 : Int) ^ n.toNat = ((2 ^ n.toNat : Nat) : Int) := by push_cast; rfl
    rw [h2]; omega
  have hIr := ints_reverse hI
  generalize hhs : (dg (2 ^ n.toNat) (ndig a n) a).reverse = hs at *
  have hsB : ∀ d ∈ hs, 0 ≤ d ∧ d < 2 ^ n.toNat := fun d hd => dg_bound hBp (ndig a n) a d (by rw [← hhs] at hd; exact List.mem_reverse.mp hd)
  have hslen : hs.length = vs.length := by rw [← hIr.length, List.length_reverse]
  have hvslen : vs.length ≤ 20 := by
    rw [hI.length, dg_length]
    by_cases h0 : a = 0
    · subst h0; rw [ndig_zero hB0]; omega
    · have h1 := (ndig_le h0 hB0).2.1
      have h2 := bits_le ha (k := 20) (by simpa using hlt)
      omega
  obtain ⟨m0, hm0, F5'⟩ := fr_name F5
  refine Stop.out (rev_M (k := 0) (vs := vs) (ax := D) (fun i m nx => ∃ r tr vq qs kq, JM (Str.ofString "a_digit") [Str.ofString "q_digit"] m0 [(Str.ofString "r", Value.int r tr)] m ∧ nx = (lq, listOf vq.toArray kq) :: (D, listOf vs.toArray 0) :: TL ∧ IntsAre vq qs ∧ qs.length = i ∧ (∀ q ∈ qs, 0 ≤ q ∧ q < 2 ^ n.toNat) ∧ 0 ≤ r ∧ r < b ∧ hv (2 ^ n.toNat) (hs.take i) = hv (2 ^ n.toNat) qs * b + r)
    rfl F5' N5 ?_ (.tail _ (.head _)) ?_ ?_ ?_ ?_)
  · intro p hp
    rcases List.mem_cons.mp hp with rfl | hp
    · k_ne
    · rcases List.mem_cons.mp hp with rfl | hp
      · k_ne
      · exact hT3 p hp
  · rintro i m nx ⟨_, _, _, _, _, _, rfl, _⟩
    exact .tail _ (.head _)
  · subst hm0
    refine' ⟨0, _, [], [], 0, ⟨fun p hp => ?hp, fun _ _ _ _ => rfl⟩, rfl, .nil, rfl, (fun _ h => nomatch h), Int.le_refl _, by omega, by simp [hv]⟩
    (case hp => rw [List.mem_singleton.mp hp]; rfl)
  · subst hm0
    clear F5 F5' N5
    rintro i v m₁ nx h tk o hvi ⟨r, tr, vq, qs, kq, jm, rfl, hq, hlen, hqs, r0, rb, inv⟩ hnI F6 N6
    obtain ⟨d, td, rfl, hd⟩ := ints_get hIr hvi
    have hdB := hsB d (List.mem_of_getElem? hd)
    have F7 := jm.fr F6
    clear F6
    have hi20 : vq.length ≤ 1048576 := by have := hq.length; have := (List.getElem?_eq_some_iff.mp hd).1; omega
    obtain ⟨hx0, hx1⟩ := shl_facts r0 rb hdB.1 hdB.2
    (try k_unmd)
    k_fold
    k_steps
    have hx2 : b * 2 ^ n.toNat ≤ 1048576 * 1048576 := Int.mul_le_mul (by omega) hBs (by omega) (by omega)
    refine Stop.out (Ctr.use (c_div2n1n w (r * 2 ^ n.toNat + d) b n _ _ _ hx0 hb (by omega) hbt (by omega)) (by assumption) F7 (by assumption) (fun _ h => nomatch h) (by assumption) rfl ⟨C1, C2⟩ trivial (by omega) (by omega) ?_)
    rintro v8 h8 tk8 G8 ⟨D8, ta8, tb8, rfl, hD8, hs8⟩ F8
    have N8 := news_new F7 hD8 hs8 (news_after (mts := []) N6 G8 (fun _ _ hm => nomatch hm))
    have l8 := lt_new N6 hs8
    k_lt l8
    clear F7 N6
    (try dsimp only)
    k_steps
    rename_i hX1 hX2 hX3 hX4 hX5 F9 N9
    have eq1 : ∀ {z : Str}, List.contains [Str.ofString "q_digit"] z = false → z ≠ Str.ofString "q_digit" := fun h e => by rw [e] at h; exact absurd h (by decide)
    refine' ⟨_, _, _, _, rfl, F9, (fun p hp => N9 p (.tail _ hp)), ?hI, _, tb8, _, qs ++ [(r * 2 ^ n.toNat + d) / b], kq + 1, ⟨?j1, ?j2⟩, rfl, ints_append hq (.cons _ _ .nil), by simp [hlen], ?hqs, Int.emod_nonneg _ (by omega), Int.emod_lt_of_pos _ hb, ?inv⟩
    · intro p hp
      rcases List.mem_cons.mp hp with rfl | hp
      · k_ne
      · rcases List.mem_cons.mp hp with rfl | hp
        · k_ne
        · exact hT3 p hp
    · intro p hp
      rw [List.mem_singleton.mp hp]; rfl
    · intro z z1 z2 z3
      have a1 := z2 _ (.head _)
      have a2 := eq1 z3
      simp only [kstB, if_neg a1, if_neg a2, if_neg z1, z3, Bool.false_eq_true, if_false]
    · intro q hq
      rcases List.mem_append.mp hq with hq | hq
      · exact hqs q hq
      · rw [List.mem_singleton.mp hq]
        exact ⟨Int.ediv_nonneg hx0 (by omega), Int.ediv_lt_of_lt_mul hb (by rw [Int.mul_comm (2 ^ n.toNat) b]; exact hx1)⟩
    · rw [List.take_add_one, hd, Option.toList_some, hv_snoc, inv, hv_snoc]
      exact step_inv
  · subst hm0
    clear F5 F5' N5
    rintro m₁ nx h tk ⟨r, tr, vq, qs, kq, jm, rfl, hq, hlen, hqs, r0, rb, inv⟩ F6 N6
    have F7 := jm.frOut F6
    clear F6
    have hi20 : vq.length ≤ 1048576 := by have := hq.length; omega
    (try dsimp only)
    k_steps
    rename_i hX1 hX2 F9 N9
    have hmul := ndig_mul ha hlt hB0 hB20
    have hvl : vs.length = ndig a n := by rw [hI.length, dg_length]
    have hql : qs.reverse.length = ndig a n := by rw [List.length_reverse]; omega
    have NT9 : News g L' hX2 TL := fun p hp => N9 p (.tail _ (.tail _ hp))
    rw [hTL] at NT9
    have hap9 := tabs_apart (news_right NT9) (news_left NT9) ok2 okc1 (by decide) (Ne.symm q_ne)
    refine Stop.out (Ctr.use (c_digits2int w lq vq.reverse qs.reverse kq n _ (ints_reverse hq) (by omega) hB0 hB20 (by rw [hql]; exact hmul) (fun d hd => hqs d (List.mem_reverse.mp hd)) t2 ok2) (by assumption) F9 (by assumption) (news_right NT9) (by assumption) rfl ⟨C1, C2⟩ (N9 _ (.head _)).1 (by omega) (by omega) ?_)
    rintro v10 h10 tk10 G10 ⟨⟨tq, rfl⟩, c2, o2, okc2, hc2, hcase2⟩ F10
    have NT10 := news_append (news_after (news_left NT9) G10 (off_of_apart hap9)) (tabs_news F9 (news_right NT9) hc2 hcase2)
    have hs9 : s.heap.objs.size ≤ hX2.objs.size := Nat.le_trans hL (Nat.le_of_lt F9.ns.lt)
    have hcase2' := case_mono hs9 hcase2
    obtain ⟨TL2, hTL2⟩ : ∃ z, z = (tabs1 30 32 4 (.warm c1 o1) ++ tabs1 37 47 4 (.warm c2 o2)) := ⟨_, rfl⟩
    rw [← hTL2] at NT10
    clear F9 N9 NT9
    (try dsimp only)
    k_steps
    rename_i lD hY3 F11 N11 lY1 lY2
    (try dsimp only)
    (try k_unfold)
    have hQ : undg (2 ^ n.toNat) qs.reverse = hv (2 ^ n.toNat) qs := by rw [← hv_rev, List.reverse_reverse]
    have hva : hv (2 ^ n.toNat) hs = a := by rw [← hhs]; exact a_value ha hB0
    rw [List.take_of_length_le (by omega), hva] at inv
    obtain ⟨e1, e2⟩ := qr_of inv r0 rb
    have hD11 := N11.get (.head _)
    rw [hQ, e1, e2] at hD11
    have hsub : ∀ p ∈ TL2, hY3.get? p.1 = some p.2 := fun p hp => (N11 p (.tail _ hp)).1
    rw [hTL2] at hsub
    exact ⟨_, _, _, rfl, F11, ⟨_, _, _, rfl, hD11, by first | exact Nat.le_trans hL (Nat.le_of_lt lY2) | exact Nat.le_trans hL (Nat.le_of_lt lY1)⟩, ⟨c1, o1, okc1, fun p hp => hsub p (List.mem_append_left _ hp), hcase1'⟩, ⟨c2, o2, okc2, fun p hp => hsub p (List.mem_append_right _ hp), hcase2'⟩⟩

theorem c_int_divmod (w : World) (a b : Int) (ta tb : Tok) (ha : 0 ≤ a) (hb : 0 < b) (hlt : a < 1048576) (hbt : b < 1048576) (t1 t2 : TS) (ok1 : TsOk 30 (Str.ofString "_int2digits.<locals>.inner") t1) (ok2 : TsOk 37 (Str.ofString "_digits2int.<locals>.inner") t2) :
   Ctr prog hd.heap_39 TB w 56 60 1300 [.int a ta, .int b tb] (tabs1 30 32 4 t1 ++ tabs1 37 47 4 t2) (fun _ => True) (PDm 30 32 4 37 47 4 a b t1 t2) := by
  have fill : PySem.Challenge.rw_ib0004_03 = PySem.Challenge.rw_ib0004_03 → hd.heap_39 = hd.heap_39 → True := by k_fill; intros; trivial
  k_dflt (refine' ctr_plain (binds := [(Str.ofString "a", .int a ta), (Str.ofString "b", .int b tb)]) ?k6 ?k7 ?kd ?k9 ?kB ?c2 ?c3 ?c4 ?c5 ?_; (case k6 => k_is); (case k7 => k_is); (case kd => decide); (case k9 => intro s' X'; exact BindsTo.of_eq rfl); (case kB => exact locs rfl); (case c2 => exact rfl); (case c3 => exact rfl); (case c4 => exact rfl); (case c5 => decide))
  intro p loose mean mg mb dp un gd outer A₀ base g L' h₁ tk s B F X N T hTB hpre hG hL hk1 hdp hun
  obtain ⟨C1, C2⟩ := hTB
  have hb1 : ¬ b = 0 := by omega
  have hb2 : (b == 0) = false := by simpa using hb1
  have hb3 : decide (b = 0) = false := by simpa using hb1
  try dsimp only
  (try k_unmd)
  k_fold
  k_steps
  refine Stop.out (Ctr.use (c_divmod_pos w a b ta tb ha hb hlt hbt t1 t2 ok1 ok2) (by assumption) F (by assumption) N (by assumption) rfl ⟨C1, C2⟩ trivial (by omega) (by omega) ?_)
  rintro v3 h3 tk3 G3 ⟨⟨D, td1, td2, rfl, hD, hDs⟩, ⟨c1, o1, okc1, hc1, hcase1⟩, ⟨c2, o2, okc2, hc2, hcase2⟩⟩ F3
  have hs2 : s.heap.objs.size ≤ h₁.objs.size := Nat.le_trans hL (Nat.le_of_lt F.ns.lt)
  (try dsimp only)
  (try k_unfold)
  (try dsimp only)
  (try k_unfold)
  exact ⟨_, _, _, rfl, F3, ⟨_, _, _, rfl, hD, Nat.le_trans hs2 hDs⟩, ⟨c1, o1, okc1, hc1, case_mono hs2 hcase1⟩, ⟨c2, o2, okc2, hc2, case_mono hs2 hcase2⟩⟩
local macro_rules | `(tactic| walk_at "exec While") => `(tactic| (k_here; refine Stop.mk ?_))
local macro_rules | `(tactic| walk_at "binaryOp FloorDiv int int") => `(tactic| (k_here; (with_reducible refine' fdiv_M ?k1 ?k2 ?_); (case k1 => omega); (case k2 => omega)))
local macro_rules | `(tactic| walk_at "binaryOp Mod int int") => `(tactic| (k_here; (with_reducible refine' mod_M ?k1 ?_); (case k1 => omega)))
local macro_rules | `(tactic| walk_at "call builtin:list.insert") => `(tactic| (k_here; k_dflt (show wpAny _ _ (call (Value.builtin _) [Value.ref _, Value.int _ _, _]) _ _ _); k_dflt (refine' insert_M ?k1 ?k2 ?k3 ?k4 ?k5 ?k6 ?_; (case k1 => k_asm); (case k2 => k_asm); (case k3 => k_upd); (case k4 => omega); (case k5 => omega); (case k6 => omega); k_whole); intro h' F' N'; (try k_sweep)))

theorem c_bisect2 (w : World) (l : Addr) (vs : List Value) (ns : List Int) (k : Nat) (x : Int) (tx : Tok) (hI : IntsAre vs ns) (hlen : ns.length ≤ 1048576) (hsrt : Srt ns) : 
   Ctr prog hd.heap_39 TB w 74 1 200 [.ref l, .int x tx] [] (fun h => h.get? l = some (listOf vs.toArray k)) (PBis ns x) := by
  have fill : PySem.Challenge.rw_ib0004_03 = PySem.Challenge.rw_ib0004_03 → hd.heap_39 = hd.heap_39 → True := by k_fill; intros; trivial
  k_dflt (refine' ctr_plain ?k6 ?k7 ?kd ?k9 ?kB ?c2 ?c3 ?c4 ?c5 ?_; (case k6 => k_is); (case k7 => k_is); (case kd => decide); (case k9 => intro s' X'; (refine' kp_binds ?kx ?ke; (case kx => exact X'); (case ke => exact fun _ => rfl))); (case kB => exact locs rfl); (case c2 => exact rfl); (case c3 => exact rfl); (case c4 => exact rfl); (case c5 => decide))
  intro p loose mean mg mb dp un gd outer A₀ base g L' h₁ tk s B F X N T hTB hpre hG hL hk1 hdp hun
  obtain ⟨C1, C2⟩ := hTB
  have gl := hG _ _ (fun hm => nomatch hm) hpre
  have gIL : g.IsList l vs.toArray := ⟨_, gl, rfl, _, rfl⟩
  have hl62 : ns.length < 2 ^ 62 := by omega
  (try dsimp only)
  (try k_unmd)
  k_fold
  k_steps
  rename_i h5 F5 N5
  obtain ⟨m0, hm0, F5'⟩ := fr_name F5
  refine Stop.out (While_inv (n₀ := ns.length) (fun n m nx => ∃ lo hi tlo thi, n = (hi - lo).toNat ∧ JM (Str.ofString "mid") [] m0 [(Str.ofString "lo", Value.int lo tlo), (Str.ofString "hi", Value.int hi thi)] m ∧ nx = [] ∧ BLoop ns x lo hi) F5' N5 ?_ ?_)
  · subst hm0
    refine' ⟨0, ns.length, _, _, by omega, ⟨fun p hp => ?j1, fun _ _ _ _ => rfl⟩, rfl, BLoop.start⟩
    (case j1 =>
      rcases List.mem_cons.mp hp with rfl | hp
      · rfl
      · rw [List.mem_singleton.mp hp]; rfl)
  · subst hm0
    clear F5 F5' N5
    rintro n m₁ nx h tk F6 N6 ⟨lo, hi, tlo, thi, rfl, jm, rfl, bl⟩
    have F7 := jm.frOut F6
    clear F6
    obtain ⟨b0, b1, b2, b3, b4⟩ := id bl
    (try k_unmd)
    k_fold
    k_steps
    · rename_i hlt hh1 tt hx hh2 F8 N8
      refine' WhileStep.intro (n' := (hi - ((lo + hi) / 2 + 1)).toNat) F8 N8 (by omega) ⟨(lo + hi) / 2 + 1, hi, _, thi, rfl, ⟨fun p hp => ?j1, ?j2⟩, rfl, BLoop.right hsrt bl hlt hx⟩
      (case j1 =>
        rcases List.mem_cons.mp hp with rfl | hp
        · rfl
        · rw [List.mem_singleton.mp hp]; rfl)
      (case j2 =>
        intro z z1 z2 z3
        have a1 : z ≠ Str.ofString "lo" := z2 _ (.head _)
        have a2 : z ≠ Str.ofString "hi" := z2 _ (.tail _ (.head _))
        simp only [kstB, if_neg a1, if_neg a2, if_neg z1, List.contains_nil, Bool.false_eq_true, if_false])
    · rename_i hlt hh1 tt hx hh2 F8 N8
      refine' WhileStep.intro (n' := ((lo + hi) / 2 - lo).toNat) F8 N8 (by omega) ⟨lo, (lo + hi) / 2, tlo, _, rfl, ⟨fun p hp => ?j1, ?j2⟩, rfl, BLoop.left hsrt bl hlt hx⟩
      (case j1 =>
        rcases List.mem_cons.mp hp with rfl | hp
        · rfl
        · rw [List.mem_singleton.mp hp]; rfl)
      (case j2 =>
        intro z z1 z2 z3
        have a1 : z ≠ Str.ofString "lo" := z2 _ (.head _)
        have a2 : z ≠ Str.ofString "hi" := z2 _ (.tail _ (.head _))
        simp only [kstB, if_neg a1, if_neg a2, if_neg z1, List.contains_nil, Bool.false_eq_true, if_false])
    · rename_i hlt
      (try dsimp only)
      (try k_unfold)
      (try dsimp only)
      (try k_unfold)
      exact ⟨_, _, _, rfl, F7, lo, _, rfl, bl.out hlt⟩

theorem c_bisect4 (w : World) (l : Addr) (vs : List Value) (ns : List Int) (k : Nat) (x : Int) (tx t0 : Tok) (hI : IntsAre vs ns) (hlen : ns.length ≤ 1048576) (hsrt : Srt ns) : 
   Ctr prog hd.heap_39 TB w 74 1 200 [.ref l, .int x tx, .int 0 t0, .none] [] (fun h => h.get? l = some (listOf vs.toArray k)) (PBis ns x) := by
  have fill : PySem.Challenge.rw_ib0004_03 = PySem.Challenge.rw_ib0004_03 → hd.heap_39 = hd.heap_39 → True := by k_fill; intros; trivial
  k_dflt (refine' ctr_plain ?k6 ?k7 ?kd ?k9 ?kB ?c2 ?c3 ?c4 ?c5 ?_; (case k6 => k_is); (case k7 => k_is); (case kd => decide); (case k9 => intro s' X'; (refine' kp_binds ?kx ?ke; (case kx => exact X'); (case ke => exact fun _ => rfl))); (case kB => exact locs rfl); (case c2 => exact rfl); (case c3 => exact rfl); (case c4 => exact rfl); (case c5 => decide))
  intro p loose mean mg mb dp un gd outer A₀ base g L' h₁ tk s B F X N T hTB hpre hG hL hk1 hdp hun
  obtain ⟨C1, C2⟩ := hTB
  have gl := hG _ _ (fun hm => nomatch hm) hpre
  have gIL : g.IsList l vs.toArray := ⟨_, gl, rfl, _, rfl⟩
  have hl62 : ns.length < 2 ^ 62 := by omega
  (try dsimp only)
  (try k_unmd)
  k_fold
  k_steps
  rename_i h5 F5 N5
  obtain ⟨m0, hm0, F5'⟩ := fr_name F5
  refine Stop.out (While_inv (n₀ := ns.length) (fun n m nx => ∃ lo hi tlo thi, n = (hi - lo).toNat ∧ JM (Str.ofString "mid") [] m0 [(Str.ofString "lo", Value.int lo tlo), (Str.ofString "hi", Value.int hi thi)] m ∧ nx = [] ∧ BLoop ns x lo hi) F5' N5 ?_ ?_)
  · subst hm0
    refine' ⟨0, ns.length, _, _, by omega, ⟨fun p hp => ?j1, fun _ _ _ _ => rfl⟩, rfl, BLoop.start⟩
    (case j1 =>
      rcases List.mem_cons.mp hp with rfl | hp
      · rfl
      · rw [List.mem_singleton.mp hp]; rfl)
  · subst hm0
    clear F5 F5' N5
    rintro n m₁ nx h tk F6 N6 ⟨lo, hi, tlo, thi, rfl, jm, rfl, bl⟩
    have F7 := jm.frOut F6
    clear F6
    obtain ⟨b0, b1, b2, b3, b4⟩ := id bl
    (try k_unmd)
    k_fold
    k_steps
    · rename_i hlt hh1 tt hx hh2 F8 N8
      refine' WhileStep.intro (n' := (hi - ((lo + hi) / 2 + 1)).toNat) F8 N8 (by omega) ⟨(lo + hi) / 2 + 1, hi, _, thi, rfl, ⟨fun p hp => ?j1, ?j2⟩, rfl, BLoop.right hsrt bl hlt hx⟩
      (case j1 =>
        rcases List.mem_cons.mp hp with rfl | hp
        · rfl
        · rw [List.mem_singleton.mp hp]; rfl)
      (case j2 =>
        intro z z1 z2 z3
        have a1 : z ≠ Str.ofString "lo" := z2 _ (.head _)
        have a2 : z ≠ Str.ofString "hi" := z2 _ (.tail _ (.head _))
        simp only [kstB, if_neg a1, if_neg a2, if_neg z1, List.contains_nil, Bool.false_eq_true, if_false])
    · rename_i hlt hh1 tt hx hh2 F8 N8
      refine' WhileStep.intro (n' := ((lo + hi) / 2 - lo).toNat) F8 N8 (by omega) ⟨lo, (lo + hi) / 2, tlo, _, rfl, ⟨fun p hp => ?j1, ?j2⟩, rfl, BLoop.left hsrt bl hlt hx⟩
      (case j1 =>
        rcases List.mem_cons.mp hp with rfl | hp
        · rfl
        · rw [List.mem_singleton.mp hp]; rfl)
      (case j2 =>
        intro z z1 z2 z3
        have a1 : z ≠ Str.ofString "lo" := z2 _ (.head _)
        have a2 : z ≠ Str.ofString "hi" := z2 _ (.tail _ (.head _))
        simp only [kstB, if_neg a1, if_neg a2, if_neg z1, List.contains_nil, Bool.false_eq_true, if_false])
    · rename_i hlt
      (try dsimp only)
      (try k_unfold)
      (try dsimp only)
      (try k_unfold)
      exact ⟨_, _, _, rfl, F7, lo, _, rfl, bl.out hlt⟩

theorem c_insort (w : World) (l : Addr) (vs : List Value) (ns : List Int) (k : Nat) (x : Int) (tx : Tok) (hI : IntsAre vs ns) (hlen : ns.length ≤ 1000000) (hsrt : Srt ns) : 
   Ctr prog hd.heap_39 TB w 65 2 300 [.ref l, .int x tx] [(l, listOf vs.toArray k)] (fun _ => True) (PIns l ns k x) := by
  have fill : PySem.Challenge.rw_ib0004_03 = PySem.Challenge.rw_ib0004_03 → hd.heap_39 = hd.heap_39 → True := by k_fill; intros; trivial
  k_dflt (refine' ctr_plain ?k6 ?k7 ?kd ?k9 ?kB ?c2 ?c3 ?c4 ?c5 ?_; (case k6 => k_is); (case k7 => k_is); (case kd => decide); (case k9 => intro s' X'; (refine' kp_binds ?kx ?ke; (case kx => exact X'); (case ke => exact fun _ => rfl))); (case kB => exact locs rfl); (case c2 => exact rfl); (case c3 => exact rfl); (case c4 => exact rfl); (case c5 => decide))
  intro p loose mean mg mb dp un gd outer A₀ base g L' h₁ tk s B F X N T hTB hpre hG hL hk1 hdp hun
  obtain ⟨C1, C2⟩ := hTB
  (try dsimp only)
  (try k_unmd)
  k_fold
  k_steps
  refine Stop.out (Ctr.use (c_bisect4 w l vs ns k x _ _ hI (by omega) hsrt) (by assumption) F (by assumption) (fun _ h => nomatch h) (by assumption) rfl ⟨C1, C2⟩ (N.get (.head _)) (by omega) (by omega) ?_)
  rintro v3 h3 tk3 G3 ⟨r, tr, rfl, hb⟩ F3
  have N3 := news_after (mts := []) N G3 (fun _ _ hm => nomatch hm)
  have hr0 := hb.1
  have hr1 := hb.2.1
  have hvl : vs.length ≤ 1000000 := by rw [hI.length]; exact hlen
  have hr2 : r ≤ vs.length := by rw [hI.length]; exact hr1
  clear F N
  (try dsimp only)
  k_steps
  rename_i hh F5 N5
  (try dsimp only)
  (try k_unfold)
  (try dsimp only)
  (try k_unfold)
  exact ⟨_, _, _, rfl, F5, rfl, r, _, hb, N5.get (.head _), ints_ins hI r.toNat x _⟩

theorem c_other (w : World) (count unit : Int) (tc tu : Tok) (hc : 0 < count) (hc2 : count ≤ 61) (hu : 2 ≤ unit) (hu2 : unit ≤ 64) : 
   Ctr prog hd.heap_39 TB w 81 1 200 [.int count tc, .int unit tu] [] (fun _ => True) (fun _ v _ => ∃ t, v = .int (oth count unit) t) := by
  have fill : PySem.Challenge.rw_ib0004_03 = PySem.Challenge.rw_ib0004_03 → hd.heap_39 = hd.heap_39 → True := by k_fill; intros; trivial
  k_dflt (refine' ctr_plain (binds := [(Str.ofString "count", .int count tc), (Str.ofString "unit", .int unit tu)]) ?k6 ?k7 ?kd ?k9 ?kB ?c2 ?c3 ?c4 ?c5 ?_; (case k6 => k_is); (case k7 => k_is); (case kd => decide); (case k9 => intro s' X'; exact BindsTo.of_eq rfl); (case kB => exact locs rfl); (case c2 => exact rfl); (case c3 => exact rfl); (case c4 => exact rfl); (case c5 => decide))
  intro p loose mean mg mb dp un gd outer A₀ base g L' h₁ tk s B F X N T hTB hpre hG hL hk1 hdp hun
  obtain ⟨C1, C2⟩ := hTB
  (try dsimp only)
  (try k_unmd)
  k_fold
  k_steps
  rename_i h2 F2 N2 h3 tk3 t₁ u₁ v₁ hr F5 N5 hgr
  obtain ⟨m0, hm0, F5'⟩ := fr_name F5
  refine Stop.out (range_M (n := 4) (fun i m nx => ∃ t, JM (Str.ofString "turn") [] m0 [(Str.ofString "found", Value.int (fo count unit i) t)] m ∧ nx = []) rfl hr (by decide) (by decide) F5' N5 ?_ ?_ ?_)
  · subst hm0
    refine' ⟨_, ⟨fun p hp => ?j1, fun _ _ _ _ => rfl⟩, rfl⟩
    (case j1 => rw [List.mem_singleton.mp hp]; rfl)
  · subst hm0
    clear F2 N2 F5 F5' N5 hr hgr
    rintro i t I m₁ nx h tk o hi ⟨tf, jm, rfl⟩ hnI hlI F6 N6
    have F7 := jm.fr F6
    clear F6
    obtain ⟨b1, b2⟩ := fo_bound (count := count) hu hu2 i
    have e1 : fo count unit (i + 1) = fo count unit i * (2 - count * fo count unit i) % unit := rfl
    rw [e1]
    generalize fo count unit i = f at *
    have b3 : 0 ≤ count * f := Int.mul_nonneg (by omega) b1
    have b4 : count * f ≤ 61 * 64 := Int.mul_le_mul hc2 b2 b1 (by omega)
    (try k_unmd)
    k_fold
    k_steps
    rename_i hh F9 N9
    refine' ⟨_, _, _, _, rfl, F9, N9, (fun _ h => nomatch h), _, ⟨fun p hp => ?j1, ?j2⟩, rfl⟩
    (case j1 => rw [List.mem_singleton.mp hp]; rfl)
    (case j2 =>
      intro z z1 z2 z3
      have a1 : z ≠ Str.ofString "found" := z2 _ (.head _)
      simp only [kstB, if_neg a1, if_neg z1, List.contains_nil, Bool.false_eq_true, if_false])
  · subst hm0
    clear F2 N2 F5 F5' N5 hr hgr
    rintro m₁ nx h tk ⟨tf, jm, rfl⟩ F6 N6
    have F7 := jm.frOut F6
    clear F6
    (try dsimp only)
    k_steps
    (try dsimp only)
    (try k_unfold)
    (try dsimp only)
    (try k_unfold)
    exact ⟨_, _, _, rfl, F7, _, rfl⟩

theorem c_taken (w : World) (number count unit other : Int) (tn tc tu to : Tok) (hn : 0 ≤ number) (hn2 : number ≤ 4000) (hc : 0 < count) (hc2 : count ≤ 61) (hu : 2 ≤ unit) (hu2 : unit ≤ 64) (ho : 0 ≤ other) (ho2 : other ≤ 64)
    (hrest : (number + oft number unit other * count) % unit = 0) (t1 t2 : TS) (ok1 : TsOk 30 (Str.ofString "_int2digits.<locals>.inner") t1) (ok2 : TsOk 37 (Str.ofString "_digits2int.<locals>.inner") t2) : 
   Ctr prog hd.heap_39 TB w 88 70 1400 [.int number tn, .int count tc, .int unit tu, .int other to] (tabs1 30 32 4 t1 ++ tabs1 37 47 4 t2) (fun _ => True)
     (fun h v h' => (∃ t, v = .int (redc number count unit other) t) ∧ TNext 30 32 4 (Str.ofString "_int2digits.<locals>.inner") t1 h h' ∧ TNext 37 47 4 (Str.ofString "_digits2int.<locals>.inner") t2 h h') := by
  have fill : PySem.Challenge.rw_ib0004_03 = PySem.Challenge.rw_ib0004_03 → hd.heap_39 = hd.heap_39 → True := by k_fill; intros; trivial
  k_dflt (refine' ctr_plain (binds := [(Str.ofString "number", .int number tn), (Str.ofString "count", .int count tc), (Str.ofString "unit", .int unit tu), (Str.ofString "other", .int other to)]) ?k6 ?k7 ?kd ?k9 ?kB ?c2 ?c3 ?c4 ?c5 ?_; (case k6 => k_is); (case k7 => k_is); (case kd => decide); (case k9 => intro s' X'; exact BindsTo.of_eq rfl); (case kB => exact locs rfl); (case c2 => exact rfl); (case c3 => exact rfl); (case c4 => exact rfl); (case c5 => decide))
  intro p loose mean mg mb dp un gd outer A₀ base g L' h₁ tk s B F X N T hTB hpre hG hL hk1 hdp hun
  obtain ⟨C1, C2⟩ := hTB
  have b1 := Int.emod_nonneg number (show unit ≠ 0 by omega)
  have b2 := Int.emod_lt_of_pos number (show 0 < unit by omega)
  have b3 := Int.emod_nonneg (number % unit * other) (show unit ≠ 0 by omega)
  have b4 := Int.emod_lt_of_pos (number % unit * other) (show 0 < unit by omega)
  have b5 : 0 ≤ number % unit * other % unit * count := Int.mul_nonneg b3 (by omega)
  have b6 : number % unit * other % unit * count ≤ 64 * 61 := Int.mul_le_mul (by omega) hc2 (by omega) (by omega)
  (try dsimp only)
  (try k_unmd)
  k_fold
  k_steps
  rename_i h2 F2 N2
  refine Stop.out (Ctr.use (c_int_divmod w (number + number % unit * other % unit * count) unit _ _ (by omega) (by omega) (by omega) (by omega) t1 t2 ok1 ok2) (by assumption) F2 (by assumption) N2 (by assumption) rfl ⟨C1, C2⟩ trivial (by omega) (by omega) ?_)
  rintro v3 h3 tk3 G3 ⟨⟨D, td1, td2, rfl, hD, hDs⟩, n1, n2⟩ F3
  obtain ⟨c1, o1, c2, o2, okc1, okc2, NT, ca1, ca2⟩ := dm_news F2 N2 n1 n2
  have hs2 : s.heap.objs.size ≤ h2.objs.size := Nat.le_trans hL (Nat.le_of_lt F2.ns.lt)
  replace ca1 := case_mono hs2 ca1
  replace ca2 := case_mono hs2 ca2
  have hrest' : (number + number % unit * other % unit * count) % unit = 0 := hrest
  rw [hrest'] at hD
  have hred : redc number count unit other = if (number + number % unit * other % unit * count) / unit ≥ count then (number + number % unit * other % unit * count) / unit - count else (number + number % unit * other % unit * count) / unit := rfl
  generalize (number + number % unit * other % unit * count) / unit = wh at *
  obtain ⟨TL, hTL⟩ : ∃ z, z = (tabs1 30 32 4 (.warm c1 o1) ++ tabs1 37 47 4 (.warm c2 o2)) := ⟨_, rfl⟩
  rw [← hTL] at NT
  have N3 := news_new F2 hD hDs NT
  clear F2 N2 hrest hrest' n1 n2
  (try dsimp only)
  k_steps
  all_goals (
    (rename Fr _ _ _ _ => F5)
    (rename News _ _ _ _ => N5)
    have hsub := fun p (hp : p ∈ TL) => (N5 p (.tail _ hp)).1
    rw [hTL] at hsub
    (try dsimp only)
    (try k_unfold)
    (try dsimp only)
    (try k_unfold)
    refine' ⟨_, _, _, rfl, F5, ⟨_, by first | rw [hred, if_pos (by assumption)] | rw [hred, if_neg (by assumption)]⟩, ⟨c1, o1, okc1, fun p hp => hsub p (List.mem_append_left _ hp), ca1⟩, ⟨c2, o2, okc2, fun p hp => hsub p (List.mem_append_right _ hp), ca2⟩⟩)
abbrev TabsL (TL : List (Addr × Obj)) : Prop := TabsIs 30 32 4 37 47 4 TL
abbrev TNxL (TL : List (Addr × Obj)) (h : Heap) (TL' : List (Addr × Obj)) (h' : Heap) : Prop := TNx 30 32 4 37 47 4 TL h TL' h'
theorem e_int_divmod (w : World) (a b : Int) (ta tb : Tok) (ha : 0 ≤ a) (hb : 0 < b) (hlt : a < 1048576) (hbt : b < 1048576) (TL : List (Addr × Obj)) (hT : TabsL TL) :
   Ctr prog hd.heap_39 TB w 56 60 1300 [.int a ta, .int b tb] TL (fun _ => True) (fun h v h' => PDiv a b h v h' ∧ ∃ TL', TNxL TL h TL' h') := by
  obtain ⟨t1, t2, rfl, ok1, ok2⟩ := hT
  exact (c_int_divmod w a b ta tb ha hb hlt hbt t1 t2 ok1 ok2).weak (fun _ h => h) fun _ _ _ _ _ _ _ P => ⟨P.1, tnx_of P.2.1 P.2.2⟩
theorem e_int2digits (w : World) (a n : Int) (ta tn : Tok) (ha : 0 ≤ a) (hlt : a < 1048576) (hn : 0 < n) (hn2 : n ≤ 20) (TL : List (Addr × Obj)) (hT : TabsL TL) :
   Ctr prog hd.heap_39 TB w 35 40 1000 [.int a ta, .int n tn] TL (fun _ => True) (fun h v h' => (∃ D vs, v = .ref D ∧ h'.get? D = some (listOf vs.toArray 0) ∧ IntsAre vs (dg (2 ^ n.toNat) (ndig a n) a) ∧ h.objs.size ≤ D) ∧ ∃ TL', TNxL TL h TL' h') := by
  obtain ⟨t1, t2, rfl, ok1, ok2⟩ := hT
  exact (c_int2digits w a n ta tn ha hlt hn hn2 t1 ok1).weak (fun _ h => List.mem_append_left _ h) fun _ _ _ _ _ N G P => ⟨P.1, tnx_first N ok1 ok2 (by decide) G P.2⟩
theorem e_taken (w : World) (number count unit other : Int) (tn tc tu to : Tok) (hn : 0 ≤ number) (hn2 : number ≤ 4000) (hc : 0 < count) (hc2 : count ≤ 61) (hu : 2 ≤ unit) (hu2 : unit ≤ 64) (ho : 0 ≤ other) (ho2 : other ≤ 64)
    (hrest : (number + oft number unit other * count) % unit = 0) (TL : List (Addr × Obj)) (hT : TabsL TL) : 
   Ctr prog hd.heap_39 TB w 88 70 1400 [.int number tn, .int count tc, .int unit tu, .int other to] TL (fun _ => True)
     (fun h v h' => (∃ t, v = .int (redc number count unit other) t) ∧ ∃ TL', TNxL TL h TL' h') := by
  obtain ⟨t1, t2, rfl, ok1, ok2⟩ := hT
  exact (c_taken w number count unit other tn tc tu to hn hn2 hc hc2 hu hu2 ho ho2 hrest t1 t2 ok1 ok2).weak (fun _ h => h) fun _ _ _ _ _ _ _ P => ⟨P.1, tnx_of P.2.1 P.2.2⟩
theorem pow_M {prog : Program} {w : World} {A : Around} {E : Value → Shared → Prop} {s : Shared} {k : Nat} {unit : Int} {t u : Tok} {Q : Value → Shared → Prop} (hu : unit = 2 ^ k) (hk : k ≤ 1000) (h : Q (.int unit s.toks) { s with toks := s.toks + 1 }) : wpAny (model prog w) A (binaryOp .Pow (.int 2 t) (.int (k : Nat) u)) Q E s := by
  subst hu
  exact pow_int_small (by omega) (by omega) (by decide) h
local macro_rules | `(tactic| walk_at "binaryOp Pow int int") => `(tactic| (k_here; (with_reducible refine' pow_M ?k1 ?k2 ?_); (case k1 => with_reducible assumption); (case k2 => omega)))
local macro_rules | `(tactic| walk_at "compareOp NotEq ref ref") => `(tactic| (k_here; refine Stop.mk ?_))
local macro_rules | `(tactic| walk_at "subscriptTail") => `(tactic| (k_here; (with_reducible show wpAny _ _ (subscriptTail _ _ (Value.ref _) (Value.int _ _)) _ _ _); k_dflt (refine' kept_M ?k1 ?k2 ?k3 ?k4 ?k5 ?k6 ?_ ?q1 ?q2; (case k1 => k_asm); (case k2 => k_mem); (case k3 => with_reducible assumption); (case k4 => omega); (case k5 => omega); (case k6 => omega); (case q1 => with_unfolding_all rfl); (case q2 => intro _; with_unfolding_all rfl); k_whole); intro _))
local macro_rules | `(tactic| walk_at "subscriptTail") => `(tactic| (k_here; (with_reducible show wpAny _ _ (subscriptTail _ _ (Value.ref _) (Value.int _ _)) _ _ _); k_dflt (refine' range_item ?k1 ?k2 ?k3 ?k4 ?k5 ?k6 ?_ ?q1 ?q2; (case k1 => k_asm); (case k2 => k_mem); (case k3 => with_reducible assumption); (case k4 => omega); (case k5 => omega); (case k6 => omega); (case q1 => with_unfolding_all rfl); (case q2 => intro _; with_unfolding_all rfl); k_whole); intro _))
local macro_rules | `(tactic| walk_at "subscriptTail Name Constant ref int") => `(tactic| (k_here; (with_reducible show wpAny _ _ (subscriptTail _ _ (Value.ref _) (Value.int _ _)) _ _ _); k_dflt (refine' kept_M ?k1 ?k2 ?k3 ?k4 ?k5 ?k6 ?_ ?q1 ?q2; (case k1 => k_asm); (case k2 => k_mem); (case k3 => with_reducible assumption); (case k4 => omega); (case k5 => omega); (case k6 => omega); (case q1 => with_unfolding_all rfl); (case q2 => intro _; with_unfolding_all rfl); k_whole); intro _))
local macro_rules | `(tactic| walk_at "subscriptTail Name Constant ref int") => `(tactic| (k_here; (with_reducible show wpAny _ _ (subscriptTail _ _ (Value.ref _) (Value.int _ _)) _ _ _); k_dflt (refine' range_item ?k1 ?k2 ?k3 ?k4 ?k5 ?k6 ?_ ?q1 ?q2; (case k1 => k_asm); (case k2 => k_mem); (case k3 => with_reducible assumption); (case k4 => omega); (case k5 => omega); (case k6 => omega); (case q1 => with_unfolding_all rfl); (case q2 => intro _; with_unfolding_all rfl); k_whole); intro _))
local macro_rules | `(tactic| walk_at "subscriptTail Name Name ref int") => `(tactic| (k_here; (with_reducible show wpAny _ _ (subscriptTail _ _ (Value.ref _) (Value.int _ _)) _ _ _); k_dflt (refine' kept_M ?k1 ?k2 ?k3 ?k4 ?k5 ?k6 ?_ ?q1 ?q2; (case k1 => k_asm); (case k2 => k_mem); (case k3 => with_reducible assumption); (case k4 => omega); (case k5 => omega); (case k6 => omega); (case q1 => with_unfolding_all rfl); (case q2 => intro _; with_unfolding_all rfl); k_whole); intro _))
local macro_rules | `(tactic| walk_at "subscriptTail Name Name ref int") => `(tactic| (k_here; (with_reducible show wpAny _ _ (subscriptTail _ _ (Value.ref _) (Value.int _ _)) _ _ _); k_dflt (refine' range_item ?k1 ?k2 ?k3 ?k4 ?k5 ?k6 ?_ ?q1 ?q2; (case k1 => k_asm); (case k2 => k_mem); (case k3 => with_reducible assumption); (case k4 => omega); (case k5 => omega); (case k6 => omega); (case q1 => with_unfolding_all rfl); (case q2 => intro _; with_unfolding_all rfl); k_whole); intro _))
local macro_rules | `(tactic| walk_at "subscriptTail Name Subscript ref int") => `(tactic| (k_here; (with_reducible show wpAny _ _ (subscriptTail _ _ (Value.ref _) (Value.int _ _)) _ _ _); k_dflt (refine' kept_M ?k1 ?k2 ?k3 ?k4 ?k5 ?k6 ?_ ?q1 ?q2; (case k1 => k_asm); (case k2 => k_mem); (case k3 => with_reducible assumption); (case k4 => omega); (case k5 => omega); (case k6 => omega); (case q1 => with_unfolding_all rfl); (case q2 => intro _; with_unfolding_all rfl); k_whole); intro _))
local macro_rules | `(tactic| walk_at "subscriptTail Name Subscript ref int") => `(tactic| (k_here; (with_reducible show wpAny _ _ (subscriptTail _ _ (Value.ref _) (Value.int _ _)) _ _ _); k_dflt (refine' range_item ?k1 ?k2 ?k3 ?k4 ?k5 ?k6 ?_ ?q1 ?q2; (case k1 => k_asm); (case k2 => k_mem); (case k3 => with_reducible assumption); (case k4 => omega); (case k5 => omega); (case k6 => omega); (case q1 => with_unfolding_all rfl); (case q2 => intro _; with_unfolding_all rfl); k_whole); intro _))
local macro_rules | `(tactic| walk_at "subscriptTail Name BinOp ref int") => `(tactic| (k_here; (with_reducible show wpAny _ _ (subscriptTail _ _ (Value.ref _) (Value.int _ _)) _ _ _); k_dflt (refine' kept_M ?k1 ?k2 ?k3 ?k4 ?k5 ?k6 ?_ ?q1 ?q2; (case k1 => k_asm); (case k2 => k_mem); (case k3 => with_reducible assumption); (case k4 => omega); (case k5 => omega); (case k6 => omega); (case q1 => with_unfolding_all rfl); (case q2 => intro _; with_unfolding_all rfl); k_whole); intro _))
local macro_rules | `(tactic| walk_at "subscriptTail Name BinOp ref int") => `(tactic| (k_here; (with_reducible show wpAny _ _ (subscriptTail _ _ (Value.ref _) (Value.int _ _)) _ _ _); k_dflt (refine' range_item ?k1 ?k2 ?k3 ?k4 ?k5 ?k6 ?_ ?q1 ?q2; (case k1 => k_asm); (case k2 => k_mem); (case k3 => with_reducible assumption); (case k4 => omega); (case k5 => omega); (case k6 => omega); (case q1 => with_unfolding_all rfl); (case q2 => intro _; with_unfolding_all rfl); k_whole); intro _))
local macro_rules | `(tactic| walk_at "subscriptTail Name Call ref int") => `(tactic| (k_here; (with_reducible show wpAny _ _ (subscriptTail _ _ (Value.ref _) (Value.int _ _)) _ _ _); k_dflt (refine' kept_M ?k1 ?k2 ?k3 ?k4 ?k5 ?k6 ?_ ?q1 ?q2; (case k1 => k_asm); (case k2 => k_mem); (case k3 => with_reducible assumption); (case k4 => omega); (case k5 => omega); (case k6 => omega); (case q1 => with_unfolding_all rfl); (case q2 => intro _; with_unfolding_all rfl); k_whole); intro _))
local macro_rules | `(tactic| walk_at "subscriptTail Name Call ref int") => `(tactic| (k_here; (with_reducible show wpAny _ _ (subscriptTail _ _ (Value.ref _) (Value.int _ _)) _ _ _); k_dflt (refine' range_item ?k1 ?k2 ?k3 ?k4 ?k5 ?k6 ?_ ?q1 ?q2; (case k1 => k_asm); (case k2 => k_mem); (case k3 => with_reducible assumption); (case k4 => omega); (case k5 => omega); (case k6 => omega); (case q1 => with_unfolding_all rfl); (case q2 => intro _; with_unfolding_all rfl); k_whole); intro _))
local macro_rules | `(tactic| walk_at "subscriptTail") => `(tactic| (k_here; (with_reducible show wpAny _ _ (subscriptTail _ _ (Value.ref _) (Value.int _ _)) _ _ _); k_dflt (refine' item_G ?k1 ?k2 ?k3 ?k4 ?k5 ?k6 ?_ ?q1 ?q2; (case k1 => k_asm); (case k2 => with_reducible assumption); (case k3 => with_reducible assumption); (case k4 => omega); (case k5 => omega); (case k6 => omega); (case q1 => with_unfolding_all rfl); (case q2 => intro _; with_unfolding_all rfl); k_whole); intro _))
local macro_rules | `(tactic| walk_at "subscriptTail Name Constant ref int") => `(tactic| (k_here; (with_reducible show wpAny _ _ (subscriptTail _ _ (Value.ref _) (Value.int _ _)) _ _ _); k_dflt (refine' item_G ?k1 ?k2 ?k3 ?k4 ?k5 ?k6 ?_ ?q1 ?q2; (case k1 => k_asm); (case k2 => with_reducible assumption); (case k3 => with_reducible assumption); (case k4 => omega); (case k5 => omega); (case k6 => omega); (case q1 => with_unfolding_all rfl); (case q2 => intro _; with_unfolding_all rfl); k_whole); intro _))
local macro_rules | `(tactic| walk_at "subscriptTail Name Name ref int") => `(tactic| (k_here; (with_reducible show wpAny _ _ (subscriptTail _ _ (Value.ref _) (Value.int _ _)) _ _ _); k_dflt (refine' item_G ?k1 ?k2 ?k3 ?k4 ?k5 ?k6 ?_ ?q1 ?q2; (case k1 => k_asm); (case k2 => with_reducible assumption); (case k3 => with_reducible assumption); (case k4 => omega); (case k5 => omega); (case k6 => omega); (case q1 => with_unfolding_all rfl); (case q2 => intro _; with_unfolding_all rfl); k_whole); intro _))
local macro_rules | `(tactic| walk_at "subscriptTail Name Subscript ref int") => `(tactic| (k_here; (with_reducible show wpAny _ _ (subscriptTail _ _ (Value.ref _) (Value.int _ _)) _ _ _); k_dflt (refine' item_G ?k1 ?k2 ?k3 ?k4 ?k5 ?k6 ?_ ?q1 ?q2; (case k1 => k_asm); (case k2 => with_reducible assumption); (case k3 => with_reducible assumption); (case k4 => omega); (case k5 => omega); (case k6 => omega); (case q1 => with_unfolding_all rfl); (case q2 => intro _; with_unfolding_all rfl); k_whole); intro _))
local macro_rules | `(tactic| walk_at "subscriptTail Name BinOp ref int") => `(tactic| (k_here; (with_reducible show wpAny _ _ (subscriptTail _ _ (Value.ref _) (Value.int _ _)) _ _ _); k_dflt (refine' item_G ?k1 ?k2 ?k3 ?k4 ?k5 ?k6 ?_ ?q1 ?q2; (case k1 => k_asm); (case k2 => with_reducible assumption); (case k3 => with_reducible assumption); (case k4 => omega); (case k5 => omega); (case k6 => omega); (case q1 => with_unfolding_all rfl); (case q2 => intro _; with_unfolding_all rfl); k_whole); intro _))
local macro_rules | `(tactic| walk_at "subscriptTail Name Call ref int") => `(tactic| (k_here; (with_reducible show wpAny _ _ (subscriptTail _ _ (Value.ref _) (Value.int _ _)) _ _ _); k_dflt (refine' item_G ?k1 ?k2 ?k3 ?k4 ?k5 ?k6 ?_ ?q1 ?q2; (case k1 => k_asm); (case k2 => with_reducible assumption); (case k3 => with_reducible assumption); (case k4 => omega); (case k5 => omega); (case k6 => omega); (case q1 => with_unfolding_all rfl); (case q2 => intro _; with_unfolding_all rfl); k_whole); intro _))
local macro_rules | `(tactic| walk_at "GrownAll") => `(tactic| (refine Stop.mk ?_))
theorem ints_name {vs : List Value} {ns : List Int} (_ : IntsAre vs ns) : ∃ vs' ns', vs' = vs ∧ ns' = ns := ⟨_, _, rfl, rfl⟩
theorem unit_facts : ∀ j : Nat, j < 30 → (3 + 2 * (j : Int)) < 2 ^ (ndig (3 + 2 * (j : Int)) 1) ∧ (2 : Int) ^ (ndig (3 + 2 * (j : Int)) 1) ≤ 2 * (3 + 2 * (j : Int)) ∧ 4 ≤ (2 : Int) ^ (ndig (3 + 2 * (j : Int)) 1) ∧ (2 : Int) ^ (ndig (3 + 2 * (j : Int)) 1) ≤ 64 ∧ ndig (3 + 2 * (j : Int)) 1 ≤ 6 ∧
    ((3 + 2 * (j : Int)) * oth (3 + 2 * (j : Int)) (2 ^ (ndig (3 + 2 * (j : Int)) 1)) + 1) % 2 ^ (ndig (3 + 2 * (j : Int)) 1) = 0 ∧ 0 ≤ oth (3 + 2 * (j : Int)) (2 ^ (ndig (3 + 2 * (j : Int)) 1)) ∧ oth (3 + 2 * (j : Int)) (2 ^ (ndig (3 + 2 * (j : Int)) 1)) ≤ 64 := by decide +kernel
set_option maxHeartbeats 8000000 in
theorem X : PySem.Challenge.rw_ib0004_03.Holds := hd (by
  k_go0
  all_goals (try k_fold)
  k_steps
  (rename Fr _ _ _ _ => F)
  (rename News _ _ _ _ => N)
  (rename Below _ _ _ _ => K')
  (rename Top _ _ _ _ _ _ => T')
  (rename IntsAre _ _ => hI)
  obtain ⟨svs, script, e1, e2⟩ := ints_name hI
  subst e1
  subst e2
  obtain ⟨j, hj⟩ : ∃ j : Nat, (j : Int) = script.sum % 30 := ⟨(script.sum % 30).toNat, by omega⟩
  have hj1 : j < 30 := by omega
  rw [← hj] at F ⊢
  obtain ⟨f1, f2, f3, f4, f5, f6, f7, f8⟩ := unit_facts j hj1
  obtain ⟨count, hcount⟩ : ∃ c, c = 3 + 2 * (j : Int) := ⟨_, rfl⟩
  rw [← hcount] at F f1 f2 f3 f4 f5 f6 f7 f8 ⊢
  (rename CodeHd _ 34 30 => C1)
  (rename CodeHd _ 41 37 => C2)
  refine Stop.out (Ctr.use (c_int2digits _ count 1 _ _ (by omega) (by omega) (by decide) (by decide) .cold trivial) (by assumption) F (by assumption) (fun p hp => by rw [List.mem_singleton.mp hp]; exact N _ (.tail _ (.head _))) (by assumption) rfl ⟨C1, C2⟩ trivial (by decide) (by decide) ?_)
  rintro v h tk G ⟨⟨D, dvs, rfl, hD, hDi, hDs⟩, n1⟩ F3
  obtain ⟨TL, hT, NT⟩ := first_tabs (l2 := 47) (k2 := 4) (by decide) F N G rfl n1
  replace hT : TabsL TL := hT
  have N3 := news_new F hD hDs NT
  have hTD : ∀ p ∈ TL, p.1 ≠ D := tl_ne_list hT hD fun p hp => (NT p hp).1
  obtain ⟨ds, hds⟩ : ∃ z, z = dg (2 ^ (1 : Int).toNat) (ndig count 1) count := ⟨_, rfl⟩
  have hdl : ds.length = ndig count 1 := by rw [hds, dg_length]
  rw [← hds] at hDi
  rw [← hdl] at f1 f2 f3 f4 f5 f6 f7 f8
  obtain ⟨unit, hunit⟩ : ∃ z : Int, z = 2 ^ ds.length := ⟨_, rfl⟩
  rw [← hunit] at f1 f2 f3 f4 f6 f7 f8
  have eq1 : ordL count unit (3 + 2 * j) = rangeKs 0 (count - 0).toNat := by
    have h1 := ord_all j hj1
    rw [← hcount, ← hdl, ← hunit] at h1
    rw [h1, hcount]
    unfold rangeKs
    rw [show ((3 + 2 * (j : Int)) - 0).toNat = 3 + 2 * j by omega]
    simp
  have g1 : ¬ ¬ count < unit := by omega
  have g2 : ¬ ¬ unit ≤ 2 * count := by omega
  clear F N n1 NT G
  (try dsimp only)
  k_steps
  clear hDi hD hDs
  (rename Fr _ _ _ _ => F)
  (rename News _ _ _ _ => N)
  refine Stop.out (Ctr.use (c_other _ count unit _ _ (by omega) (by omega) (by omega) (by omega)) (by assumption) F (by assumption) (fun _ h => nomatch h) (by assumption) rfl ⟨C1, C2⟩ trivial (by decide) (by decide) ?_)
  rintro v h4 tk4 G4 ⟨to, rfl⟩ F4
  have N4 := news_after (mts := []) (fun p (hp : p ∈ TL) => N p (.tail _ hp)) G4 (fun _ _ hm => nomatch hm)
  clear F N G4 hTD
  obtain ⟨other, hother⟩ : ∃ z, z = oth count unit := ⟨_, rfl⟩
  rw [← hother] at f6 f7 f8 ⊢
  have g3 : ((count * other + 1) % unit != 0) = false := by rw [f6]; rfl
  (try dsimp only)
  k_steps
  have M : Mont count unit other := ⟨by omega, by omega, f1, f3, f4, f6, f7, f8⟩
  have hcn : count = ((3 + 2 * j : Nat) : Int) := by omega
  rename_i ord1 h5 l5 l6 kep1 h6 l7 l8 tup1 h7 l9 l10 h8 h9 h10 F7 N7 h11 tk11 t11 u11 v11 hr F N hgr
  obtain ⟨m0, hm0, F'⟩ := fr_name F
  refine Stop.out (range_M (n := 3 + 2 * j) (fun i m nx => ∃ kvs ovs TL', nx = (kep1, listOf kvs.toArray i) :: (ord1, listOf ovs.toArray i) :: TL' ∧ IntsAre kvs (keptL count unit i) ∧ IntsAre ovs (ordL count unit i) ∧ TabsL TL' ∧ (∀ p ∈ TL', p.1 ≠ kep1) ∧ (∀ p ∈ TL', p.1 ≠ ord1) ∧ JM (Str.ofString "rest") [] m0 [] m) rfl hr ?_ ?_ F' (news := (kep1, listOf #[] 0) :: (ord1, listOf #[] 0) :: TL) (fun p hp => N p (.tail _ hp)) ?_ ?_ ?_)
  · have : ∀ j : Nat, j < 30 → Builtin.Range.small 0 (3 + 2 * (j : Int)) 1 = true := by decide +kernel
    rw [hcount]; exact this j hj1
  · have : ∀ j : Nat, j < 30 → Builtin.Range.rangeSize 0 (3 + 2 * (j : Int)) 1 = ((3 + 2 * j : Nat) : Int) := by decide +kernel
    rw [hcount]; exact this j hj1
  · have lk : ∀ p ∈ TL, p.1 ≠ kep1 := fun p hp => by
      have : ∀ {l : List (Addr × Obj)} {d : Nat}, AllLt d l → ∀ p ∈ l, p.1 < d := fun {l d} h => by
        induction l with
        | nil => exact fun _ h => nomatch h
        | cons q r ih => exact fun p hp => (List.mem_cons.mp hp).elim (fun e => e ▸ h.1) (ih h.2 p)
      exact Nat.ne_of_lt (this l7.2 p hp)
    have lo : ∀ p ∈ TL, p.1 ≠ ord1 := fun p hp => Nat.ne_of_lt (l5 p hp)
    exact ⟨[], [], TL, rfl, .nil, .nil, hT, lk, lo, (fun _ h => nomatch h), fun _ _ _ _ => rfl⟩
  · subst hm0
    have hko := ltN (a := ord1) (b := kep1) (by first | exact l7.1 | omega)
    clear F' F N hr hgr hT
    rintro i t I m₁ nx h tk o hi ⟨kvs, ovs, TL', rfl, hk, ho, hT, sk, so, jm⟩ hnI hlI F6 N6
    have F7 := jm.fr F6
    clear F6
    have sI : ∀ p ∈ TL', p.1 ≠ I := fun p hp => hnI p (.tail _ (.tail _ hp))
    have skI := ltN (a := kep1) (b := I) (hlI _ (.head _))
    have soI := ltN (a := ord1) (b := I) (hlI _ (.tail _ (.head _)))
    have i0 : 0 ≤ (0 + (i : Int)) * unit := Int.mul_nonneg (by omega) (by omega)
    have i1 : (0 + (i : Int)) * unit ≤ 61 * 64 := Int.mul_le_mul (by omega) (by omega) (by omega) (by omega)
    (try k_unmd)
    k_fold
    k_steps
    (rename Fr _ _ _ _ => F8)
    (rename News _ _ _ _ => N8)
    refine Stop.out (Ctr.use (e_int_divmod _ ((0 + (i : Int)) * unit) count _ _ (by omega) (by omega) (by omega) (by omega) TL' hT) (by assumption) F8 (by assumption) (fun p hp => N8 p (.tail _ (.tail _ (.tail _ hp)))) (by assumption) rfl ⟨C1, C2⟩ trivial (by decide) (by decide) ?_)
    rintro v h9 tk9 G9 ⟨⟨D, td1, td2, rfl, hD, hDs⟩, TL2, x2⟩ F9
    have nI := N8 _ (.head _)
    have nk := N8 _ (.tail _ (.head _))
    have no := N8 _ (.tail _ (.tail _ (.head _)))
    have NT := x2.news F8 (fun p hp => N8 p (.tail _ (.tail _ (.tail _ hp))))
    have N9 := news_new F8 hD hDs (keep_one G9 sI nI (keep_one G9 sk nk (keep_one G9 so no NT)))
    have sI2 := x2.ne sI nI.1
    have sk2 := x2.ne sk nk.1
    have so2 := x2.ne so no.1
    have hT2 := x2.1
    have dI := ltN (a := I) (b := D) (Nat.lt_of_lt_of_le (Heap.lt_size nI.1) hDs)
    have dk := ltN (a := kep1) (b := D) (Nat.lt_trans skI dI)
    have do' := ltN (a := ord1) (b := D) (Nat.lt_trans soI dI)
    clear F8 N8 nI nk no NT G9 hD hDs x2 sI sk so hT i0 i1
    have ek : (0 + (i : Int)) * unit % count = kp count unit i := by rw [Int.zero_add]; rfl
    rw [ek] at N9
    obtain ⟨kb0, kb1⟩ := M.kp_bound (i : Int)
    have kl : kvs.length = i := by rw [hk.length, keptL_length]
    have ol : ovs.length = i := by rw [ho.length, ordL_length]
    (try dsimp only)
    k_steps
    (rename Fr _ _ _ _ => F10)
    (rename News _ _ _ _ => N10)
    have no := N10 _ (.tail _ (.tail _ (.tail _ (.head _))))
    refine Stop.out (Ctr.use (c_insort _ ord1 ovs (ordL count unit i) i (kp count unit i) _ ho (by rw [ordL_length]; omega) (ordL_srt count unit i)) (by assumption) F10 (by assumption) (fun p hp => by rw [List.mem_singleton.mp hp]; exact no) (by assumption) rfl ⟨C1, C2⟩ trivial (by decide) (by decide) ?_)
    rintro v h11 tk11 G11 ⟨rfl, r, ovs', hb, hoo, hoi⟩ F11
    rw [ins_insf _ _ _ hb] at hoi
    have kp1 : ∀ a o, a ≠ ord1 → _ := fun a o (ha : a ≠ ord1) => G11 a o fun hm => ha (List.mem_singleton.mp hm)
    have nI := N10 _ (.tail _ (.head _))
    have nk := N10 _ (.tail _ (.tail _ (.head _)))
    have N11 := news_cons (kp1 _ _ (Nat.ne_of_gt soI) nI.1) nI.2.1 nI.2.2 (news_cons (kp1 _ _ (Nat.ne_of_gt hko) nk.1) nk.2.1 nk.2.2 (news_cons (p := (ord1, _)) hoo no.2.1 no.2.2 (fun p (hp : p ∈ TL2) => ⟨kp1 _ _ (so2 p hp) (N10 p (.tail _ (.tail _ (.tail _ (.tail _ hp))))).1, (N10 p (.tail _ (.tail _ (.tail _ (.tail _ hp))))).2⟩)))
    clear F10 N10 nI nk no G11 hoo hb kp1
    (try dsimp only)
    k_steps
    (rename Fr _ _ _ _ => F12)
    (rename News _ _ _ _ => N12)
    refine Stop.out (Ctr.use (e_taken _ (kp count unit i) count unit other _ _ _ _ kb0 (by omega) (by omega) (by omega) (by omega) (by omega) f7 f8 (M.rest _) TL2 hT2) (by assumption) F12 (by assumption) (fun p hp => N12 p (.tail _ (.tail _ (.tail _ hp)))) (by assumption) rfl ⟨C1, C2⟩ trivial (by decide) (by decide) ?_)
    rintro v h13 tk13 G13 ⟨⟨tt, rfl⟩, TL3, x3⟩ F13
    have ei : redc (kp count unit i) count unit other = 0 + (i : Int) := by rw [M.out, Int.emod_eq_of_lt (by omega) (by omega)]; omega
    rw [ei]
    have nI := N12 _ (.head _)
    have nk := N12 _ (.tail _ (.head _))
    have no := N12 _ (.tail _ (.tail _ (.head _)))
    have N13 := keep_one G13 sI2 nI (keep_one G13 sk2 nk (keep_one G13 so2 no (x3.news F12 (fun p hp => N12 p (.tail _ (.tail _ (.tail _ hp)))))))
    have sI3 := x3.ne sI2 nI.1
    have sk3 := x3.ne sk2 nk.1
    have so3 := x3.ne so2 no.1
    have hT3 := x3.1
    clear F12 N12 nI nk no G13 x3 sI2 sk2 so2 hT2
    have g4 : (0 + (i : Int) != 0 + (i : Int)) = false := by simp
    (try dsimp only)
    k_steps
    (rename Fr _ _ _ _ => F14)
    (rename News _ _ _ _ => N14)
    refine' ⟨_, _, _, _, rfl, F14, N14, ?sep, _, _, TL3, rfl, ?ik, ?io, hT3, sk3, so3, ⟨fun _ h => (nomatch h), ?j2⟩⟩
    (case sep => exact fun p hp => (List.mem_cons.mp hp).elim (fun e => by rw [e]; exact Nat.ne_of_lt skI) (fun hp => (List.mem_cons.mp hp).elim (fun e => by rw [e]; exact Nat.ne_of_lt soI) (sI3 p)))
    (case ik => rw [keptL_succ]; exact IntsAre.append hk (.cons _ _ .nil))
    (case io => exact hoi)
    (case j2 =>
      intro z z1 z2 z3
      simp only [kstB, if_neg z1, List.contains_nil, Bool.false_eq_true, if_false])
  · subst hm0
    clear F' F N hr hgr hT
    rintro m₁ nx h tk ⟨kvs, ovs, TL', rfl, hk, ho, hT, sk, so, jm⟩ F6 N6
    have F7 := jm.frOut F6
    clear F6
    have hko := ltN (a := ord1) (b := kep1) (by first | exact l7.1 | omega)
    (try dsimp only)
    k_steps
    (rename Fr _ _ _ _ => F8)
    (rename News _ _ _ _ => N8)
    (rename IntsAre _ (rangeKs _ _) => hR)
    refine Stop.out (ne_intsK (News.isList N8 (.tail _ (.tail _ (.head _)))) ho (News.isList N8 (.head _)) hR (by units_room) ?_)
    rw [decide_eq_true eq1]
    have kl : kvs.length = 3 + 2 * j := by rw [hk.length, keptL_length]
    have ol : ovs.length = 3 + 2 * j := by rw [ho.length, ordL_length]
    have g5 : (kp count unit 1 != unit % count) = false := by unfold kp; rw [Int.one_mul]; simp
    (try dsimp only)
    k_steps
    (rename IsRange _ _ _ _ _ _ _ _ => hr2)
    (rename Fr _ _ _ _ => F10)
    (rename News _ _ _ _ => N10)
    have N11 : News _ _ _ ((kep1, listOf kvs.toArray (3 + 2 * j)) :: (ord1, listOf ovs.toArray (3 + 2 * j)) :: TL') := fun p hp => N10 p (.tail _ hp)
    obtain ⟨b, hb⟩ : ∃ b : Int, b = ((if (script.length : Int) < 4 then (script.length : Int) else 4) - 1) := ⟨_, rfl⟩
    rw [← hb] at hr2
    have hb0 : -1 ≤ b ∧ b ≤ 3 ∧ b ≤ script.length - 1 := by rw [hb]; split <;> omega
    obtain ⟨nt, hn1, hn2, hn3⟩ := range2_facts hb0.1 hb0.2.1
    obtain ⟨m1, hm1, F11⟩ := fr_name F10
    clear N10 F10 hb
    refine Stop.out (rangec_M (n := nt) (fun i m nx => ∃ TL', nx = (kep1, listOf kvs.toArray (3 + 2 * j)) :: (ord1, listOf ovs.toArray (3 + 2 * j)) :: TL' ∧ TabsL TL' ∧ (∀ p ∈ TL', p.1 ≠ kep1) ∧ (∀ p ∈ TL', p.1 ≠ ord1) ∧ JM (Str.ofString "k") [Str.ofString "one", Str.ofString "two", Str.ofString "product", Str.ofString "power", Str.ofString "here", Str.ofString "plain", Str.ofString "figure", Str.ofString "turn"] m1 [] m) rfl hr2 hn1 hn2 F11 N11 ?_ ?_ ?_)
    · exact ⟨TL', rfl, hT, sk, so, (fun _ h => nomatch h), fun _ _ _ _ => rfl⟩
    · subst hm1
      clear F11 N11 hr2 hT sk so
      rintro i t I m₂ nx h tk o hi ⟨TL', rfl, hT, sk, so, jm⟩ hnI hlI F6 N6
      have F7 := jm.fr F6
      clear F6
      have hi3 := hn3 i hi
      have sI : ∀ p ∈ TL', p.1 ≠ I := fun p hp => hnI p (.tail _ (.tail _ hp))
      have skI := ltN (a := kep1) (b := I) (hlI _ (.head _))
      have soI := ltN (a := ord1) (b := I) (hlI _ (.tail _ (.head _)))
      have hc0 : 0 < count := by omega
      have o0 := Int.emod_nonneg (script.getD (0 + (i : Int) * 2).toNat 0) (Int.ne_of_gt hc0)
      have o1 := Int.emod_lt_of_pos (script.getD (0 + (i : Int) * 2).toNat 0) hc0
      have t0 := Int.emod_nonneg (script.getD (0 + (i : Int) * 2 + 1).toNat 0) (Int.ne_of_gt hc0)
      have t1 := Int.emod_lt_of_pos (script.getD (0 + (i : Int) * 2 + 1).toNat 0) hc0
      obtain ⟨one, hone⟩ : ∃ z, z = script.getD (0 + (i : Int) * 2).toNat 0 % count := ⟨_, rfl⟩
      obtain ⟨two, htwo⟩ : ∃ z, z = script.getD (0 + (i : Int) * 2 + 1).toNat 0 % count := ⟨_, rfl⟩
      have ka := M.kp_bound (script.getD (0 + (i : Int) * 2).toNat 0 % count)
      have kb := M.kp_bound (script.getD (0 + (i : Int) * 2 + 1).toNat 0 % count)
      obtain ⟨ka0, ka1⟩ := ka
      obtain ⟨kb0, kb1⟩ := kb
      (try k_unmd)
      k_fold
      k_steps
      (rename Fr _ _ _ _ => F8)
      (rename News _ _ _ _ => N8)
      rw [← hone] at F8 o0 o1 ka0 ka1 ⊢
      rw [← htwo] at F8 t0 t1 kb0 kb1 ⊢
      obtain ⟨p0, p1, p2⟩ := M.prod_lt one two
      refine Stop.out (Ctr.use (e_taken _ (kp count unit one * kp count unit two) count unit other _ _ _ _ p0 (by omega) (by omega) (by omega) (by omega) (by omega) f7 f8 (M.rest _) TL' hT) (by assumption) F8 (by assumption) (fun p hp => N8 p (.tail _ (.tail _ (.tail _ (.tail _ hp))))) (by assumption) rfl ⟨C1, C2⟩ trivial (by decide) (by decide) ?_)
      rintro v h9 tk9 G9 ⟨⟨tp, rfl⟩, TL2, x2⟩ F9
      rw [M.mul]
      obtain ⟨N9, sI2, sk2, so2, hT2⟩ := re3 F8 (fun p hp => N8 p (.tail _ hp)) G9 x2 sI sk so
      clear F8 N8 G9 x2 sI sk so hT
      have m0 : 0 ≤ one * two := Int.mul_nonneg o0 t0
      have m1 : one * two ≤ 61 * 61 := Int.mul_le_mul (by omega) (by omega) t0 (by omega)
      (try dsimp only)
      k_steps
      (rename Fr _ _ _ _ => F10)
      (rename News _ _ _ _ => N10)
      refine Stop.out (Ctr.use (e_int_divmod _ (one * two) count _ _ (by omega) (by omega) (by omega) (by omega) TL2 hT2) (by assumption) F10 (by assumption) (fun p hp => N10 p (.tail _ (.tail _ (.tail _ hp)))) (by assumption) rfl ⟨C1, C2⟩ trivial (by decide) (by decide) ?_)
      rintro v h11 tk11 G11 ⟨⟨D, td1, td2, rfl, hD, hDs⟩, TL3, x3⟩ F11
      obtain ⟨N11, sI3, sk3, so3, hT3⟩ := re3 F10 N10 G11 x3 sI2 sk2 so2
      have N12 := news_new F10 hD hDs N11
      clear F10 N10 N11 G11 x3 sI2 sk2 so2 hT2 hD hDs
      have w0 := Int.emod_nonneg (one * two) (Int.ne_of_gt hc0)
      have w1 := Int.emod_lt_of_pos (one * two) hc0
      have s0 := Int.emod_nonneg (one + two) (Int.ne_of_gt hc0)
      have s1 := Int.emod_lt_of_pos (one + two) hc0
      have g6 : (kp count unit (one * two) != kp count unit (one * two % count)) = false := by rw [Mont.kp_mod]; simp
      have g7 : ((kp count unit one + kp count unit two) % count != kp count unit ((one + two) % count)) = false := by rw [M.kp_add]; simp
      (try dsimp only)
      k_steps
      (rename Fr _ _ _ _ => F13)
      (rename News _ _ _ _ => N13)
      have kq := M.kp_bound (one * two)
      refine Stop.out (Ctr.use (c_bisect2 _ ord1 ovs (rangeKs 0 (count - 0).toNat) (3 + 2 * j) (kp count unit (one * two)) _ (eq1 ▸ ho) (by rw [rangeKs_length]; omega) (eq1 ▸ ordL_srt count unit (3 + 2 * j))) (by assumption) F13 (by assumption) (fun _ h => nomatch h) (by assumption) rfl ⟨C1, C2⟩ (N13.get (.tail _ (.tail _ (.tail _ (.head _))))) (by decide) (by decide) ?_)
      rintro v h14 tk14 G14 ⟨r, tr, rfl, hbs⟩ F14
      obtain rfl := bis_range hbs kq.1 (by omega)
      have N14 := news_after (mts := []) (fun p (hp : p ∈ (I, o) :: (kep1, listOf kvs.toArray (3 + 2 * j)) :: (ord1, listOf ovs.toArray (3 + 2 * j)) :: TL3) => N13 p (.tail _ hp)) G14 (fun _ _ hm => nomatch hm)
      have hoR : IntsAre ovs (rangeKs 0 (count - 0).toNat) := eq1 ▸ ho
      clear F13 N13 G14 hbs g6 g7
      have g8 : (kp count unit (one * two) != kp count unit (one * two)) = false := by simp
      (try dsimp only)
      k_steps
      (rename Fr _ _ _ _ => F15)
      (rename News _ _ _ _ => N15)
      have N15' : News _ _ _ ((I, o) :: (kep1, listOf kvs.toArray (3 + 2 * j)) :: (ord1, listOf ovs.toArray (3 + 2 * j)) :: TL3) := fun p hp => N15 p (.tail _ hp)
      refine Stop.out (Ctr.use (e_int2digits _ two 1 _ _ t0 (by omega) (by decide) (by decide) TL3 hT3) (by assumption) F15 (by assumption) (fun p hp => N15' p (.tail _ (.tail _ (.tail _ hp)))) (by assumption) rfl ⟨C1, C2⟩ trivial (by decide) (by decide) ?_)
      rintro v h16 tk16 G16 ⟨⟨D2, dvs, rfl, hD, hDi, hDs⟩, TL4, x4⟩ F16
      obtain ⟨N16, sI4, sk4, so4, hT4⟩ := re3 F15 N15' G16 x4 sI3 sk3 so3
      have sD4 := tl_ne_list hT4 hD x4.2.1
      have dI2 := ltN (a := I) (b := D2) (Nat.lt_of_lt_of_le (Heap.lt_size (N15' _ (.head _)).1) hDs)
      have dk2 := ltN (a := kep1) (b := D2) (Nat.lt_trans skI dI2)
      have do2 := ltN (a := ord1) (b := D2) (Nat.lt_trans soI dI2)
      have N17 := news_new F15 hD hDs N16
      clear F15 N15 N15' N16 G16 x4 sI3 sk3 so3 hT3 hD hDs
      have hs : ∀ d ∈ dg (2 ^ (1 : Int).toNat) (ndig two 1) two, 0 ≤ d ∧ d < 2 := dg2_mem _ _
      have hall : expo (dg (2 ^ (1 : Int).toNat) (ndig two 1) two) (ndig two 1) = two.toNat := expo_all t0 (by omega) rfl
      have hdl2 : dvs.length = ndig two 1 := by rw [hDi.length, dg_length]
      obtain ⟨ds2, hds2⟩ : ∃ z, z = dg (2 ^ (1 : Int).toNat) (ndig two 1) two := ⟨_, rfl⟩
      rw [← hds2] at hs hall hDi
      rw [← hdl2] at hall
      (try dsimp only)
      obtain ⟨m2, hm2, F18⟩ := fr_name F16
      refine list_M (fun i m nx => ∃ TL' tp th, nx = (D2, listOf dvs.toArray 0) :: (I, o) :: (kep1, listOf kvs.toArray (3 + 2 * j)) :: (ord1, listOf ovs.toArray (3 + 2 * j)) :: TL' ∧ TabsL TL' ∧ (∀ p ∈ TL', p.1 ≠ D2) ∧ (∀ p ∈ TL', p.1 ≠ I) ∧ (∀ p ∈ TL', p.1 ≠ kep1) ∧ (∀ p ∈ TL', p.1 ≠ ord1) ∧ JM (Str.ofString "figure") [] m2 [(Str.ofString "power", Value.int (kp count unit (one ^ expo ds2 i)) tp), (Str.ofString "here", Value.int (kp count unit (one ^ (2 ^ i))) th)] m) rfl (.head _) ?_ F18 N17 ?_ ?_ ?_
      · rintro i m nx ⟨TL', tp, th, rfl, _⟩
        exact .head _
      · subst hm2
        refine' ⟨TL4, _, _, rfl, hT4, sD4, sI4, sk4, so4, ⟨fun p hp => ?j1, fun _ _ _ _ => rfl⟩⟩
        (case j1 =>
          rw [expo_zero, Int.pow_zero, Nat.pow_zero, Int.pow_succ, Int.pow_zero, Int.one_mul] at hp
          rcases List.mem_cons.mp hp with rfl | hp
          · rfl
          · rw [List.mem_singleton.mp hp]; rfl)
      · subst hm2
        clear F18 N17 F16 hT4 sI4 sk4 so4 sD4
        rintro i2 v I2 m₃ nx h tk o2 hv ⟨TL5, tp2, th2, rfl, hT5, sD5, sI5, sk5, so5, jm2⟩ hnI2 hlI2 F6 N6
        obtain ⟨d, td, rfl, hdd⟩ := ints_get hDi hv
        have F7 := jm2.fr F6
        clear F6
        have sI25 : ∀ p ∈ TL5, p.1 ≠ I2 := fun p hp => hnI2 p (.tail _ (.tail _ (.tail _ (.tail _ hp))))
        have lD := ltN (a := D2) (b := I2) (hlI2 _ (.head _))
        have lI := ltN (a := I) (b := I2) (hlI2 _ (.tail _ (.head _)))
        have lk := ltN (a := kep1) (b := I2) (hlI2 _ (.tail _ (.tail _ (.head _))))
        have lo := ltN (a := ord1) (b := I2) (hlI2 _ (.tail _ (.tail _ (.tail _ (.head _)))))
        have dd := hs d (List.mem_of_getElem? hdd)
        have hd01 : d = 0 ∨ d = 1 := by omega
        rcases hd01 with rfl | rfl
        · have ex : expo ds2 (i2 + 1) = expo ds2 i2 := by rw [expo_succ hdd hs, if_neg (by decide)]; rfl
          obtain ⟨q0, q1, q2⟩ := M.prod_lt (one ^ (2 ^ i2)) (one ^ (2 ^ i2))
          obtain ⟨r0, r1⟩ := M.kp_bound (one ^ (2 ^ i2))
          (try k_unmd)
          k_fold
          (try dsimp only)
          k_steps
          (rename Fr _ _ _ _ => F8)
          (rename News _ _ _ _ => N8)
          refine Stop.out (Ctr.use (e_taken _ (kp count unit (one ^ (2 ^ i2)) * kp count unit (one ^ (2 ^ i2))) count unit other _ _ _ _ q0 (by omega) (by omega) (by omega) (by omega) (by omega) f7 f8 (M.rest _) TL5 hT5) (by assumption) F8 (by assumption) (fun p hp => N8 p (.tail _ (.tail _ (.tail _ (.tail _ (.tail _ hp)))))) (by assumption) rfl ⟨C1, C2⟩ trivial (by decide) (by decide) ?_)
          rintro v h9 tk9 G9 ⟨⟨tq, rfl⟩, TL6, x6⟩ F9
          rw [M.sq_step]
          obtain ⟨N9, sI26, sD6, sI6, sk6, so6, hT6⟩ := re5 F8 N8 G9 x6 sI25 sD5 sI5 sk5 so5
          clear F8 N8 G9 x6 sI25 sD5 sI5 sk5 so5 hT5
          (try dsimp only)
          k_steps
          (rename Fr _ _ _ _ => F10)
          (rename News _ _ _ _ => N10)
          refine' ⟨_, _, _, _, rfl, F10, N10, ?sep, TL6, _, _, rfl, hT6, sD6, sI6, sk6, so6, ⟨fun p hp => ?j1, ?j2⟩⟩
          (case sep =>
            exact fun p hp => (List.mem_cons.mp hp).elim (fun e => by rw [e]; exact Nat.ne_of_lt lD) fun hp => (List.mem_cons.mp hp).elim (fun e => by rw [e]; exact Nat.ne_of_lt lI) fun hp => (List.mem_cons.mp hp).elim (fun e => by rw [e]; exact Nat.ne_of_lt lk) fun hp => (List.mem_cons.mp hp).elim (fun e => by rw [e]; exact Nat.ne_of_lt lo) (sI26 p))
          (case j1 =>
            rw [ex] at hp
            rcases List.mem_cons.mp hp with rfl | hp
            · rfl
            · rw [List.mem_singleton.mp hp]; rfl)
          (case j2 =>
            intro z z1 z2 z3
            have a1 : z ≠ Str.ofString "power" := z2 _ (.head _)
            have a2 : z ≠ Str.ofString "here" := z2 _ (.tail _ (.head _))
            simp only [kstB, if_neg a1, if_neg a2, if_neg z1, List.contains_nil, Bool.false_eq_true, if_false])
        · have ex : expo ds2 (i2 + 1) = expo ds2 i2 + 2 ^ i2 := by rw [expo_succ hdd hs, if_pos rfl]
          obtain ⟨u0, u1, u2⟩ := M.prod_lt (one ^ expo ds2 i2) (one ^ (2 ^ i2))
          obtain ⟨v0, v1⟩ := M.kp_bound (one ^ expo ds2 i2)
          obtain ⟨v2, v3⟩ := M.kp_bound (one ^ (2 ^ i2))
          (try k_unmd)
          k_fold
          k_steps
          (rename Fr _ _ _ _ => F11)
          (rename News _ _ _ _ => N11)
          refine Stop.out (Ctr.use (e_taken _ (kp count unit (one ^ expo ds2 i2) * kp count unit (one ^ (2 ^ i2))) count unit other _ _ _ _ u0 (by omega) (by omega) (by omega) (by omega) (by omega) f7 f8 (M.rest _) TL5 hT5) (by assumption) F11 (by assumption) (fun p hp => N11 p (.tail _ (.tail _ (.tail _ (.tail _ (.tail _ hp)))))) (by assumption) rfl ⟨C1, C2⟩ trivial (by decide) (by decide) ?_)
          rintro v h12 tk12 G12 ⟨⟨tq2, rfl⟩, TLN, x5⟩ F12
          rw [M.pow_step]
          obtain ⟨N12, sI2N, sDN, sIN, skN, soN, hTN⟩ := re5 F11 N11 G12 x5 sI25 sD5 sI5 sk5 so5
          clear F11 N11 G12 x5 sI25 sD5 sI5 sk5 so5 hT5
          obtain ⟨q0, q1, q2⟩ := M.prod_lt (one ^ (2 ^ i2)) (one ^ (2 ^ i2))
          obtain ⟨r0, r1⟩ := M.kp_bound (one ^ (2 ^ i2))
          (try dsimp only)
          k_steps
          (rename Fr _ _ _ _ => F8)
          (rename News _ _ _ _ => N8)
          refine Stop.out (Ctr.use (e_taken _ (kp count unit (one ^ (2 ^ i2)) * kp count unit (one ^ (2 ^ i2))) count unit other _ _ _ _ q0 (by omega) (by omega) (by omega) (by omega) (by omega) f7 f8 (M.rest _) TLN hTN) (by assumption) F8 (by assumption) (fun p hp => N8 p (.tail _ (.tail _ (.tail _ (.tail _ (.tail _ hp)))))) (by assumption) rfl ⟨C1, C2⟩ trivial (by decide) (by decide) ?_)
          rintro v h9 tk9 G9 ⟨⟨tq, rfl⟩, TL6, x6⟩ F9
          rw [M.sq_step]
          obtain ⟨N9, sI26, sD6, sI6, sk6, so6, hT6⟩ := re5 F8 N8 G9 x6 sI2N sDN sIN skN soN
          clear F8 N8 G9 x6 sI2N sDN sIN skN soN hTN
          (try dsimp only)
          k_steps
          (rename Fr _ _ _ _ => F10)
          (rename News _ _ _ _ => N10)
          refine' ⟨_, _, _, _, rfl, F10, N10, ?sep, TL6, _, _, rfl, hT6, sD6, sI6, sk6, so6, ⟨fun p hp => ?j1, ?j2⟩⟩
          (case sep =>
            exact fun p hp => (List.mem_cons.mp hp).elim (fun e => by rw [e]; exact Nat.ne_of_lt lD) fun hp => (List.mem_cons.mp hp).elim (fun e => by rw [e]; exact Nat.ne_of_lt lI) fun hp => (List.mem_cons.mp hp).elim (fun e => by rw [e]; exact Nat.ne_of_lt lk) fun hp => (List.mem_cons.mp hp).elim (fun e => by rw [e]; exact Nat.ne_of_lt lo) (sI26 p))
          (case j1 =>
            rw [ex] at hp
            rcases List.mem_cons.mp hp with rfl | hp
            · rfl
            · rw [List.mem_singleton.mp hp]; rfl)
          (case j2 =>
            intro z z1 z2 z3
            have a1 : z ≠ Str.ofString "power" := z2 _ (.head _)
            have a2 : z ≠ Str.ofString "here" := z2 _ (.tail _ (.head _))
            simp only [kstB, if_neg a1, if_neg a2, if_neg z1, List.contains_nil, Bool.false_eq_true, if_false])
      · subst hm2
        clear F18 N17 F16 hT4 sI4 sk4 so4 sD4
        rintro m₃ nx h tk ⟨TL5, tp2, th2, rfl, hT5, sD5, sI5, sk5, so5, jm2⟩ F6 N6
        rw [hall] at jm2
        have F7 := jm2.frOut F6
        clear F6
        (try dsimp only)
        k_steps
        (rename IsRange _ _ _ _ _ _ _ _ => hr3)
        (rename Fr _ _ _ _ => F8)
        (rename News _ _ _ _ => N8)
        have hk3 : ((two.toNat : Nat) : Int) = two := by omega
        have rf := range_facts two.toNat (by omega)
        rw [hk3] at rf
        have rf2 : Builtin.Range.rangeSize 0 two 1 = ((two.toNat : Nat) : Int) := by rw [hk3]; exact rf.2
        have N9 : News _ _ _ ((I, o) :: (kep1, listOf kvs.toArray (3 + 2 * j)) :: (ord1, listOf ovs.toArray (3 + 2 * j)) :: TL5) := fun p hp => N8 p (.tail _ hp)
        obtain ⟨m3, hm3, F9⟩ := fr_name F8
        refine Stop.out (range_M (n := two.toNat) (fun i m nx => ∃ TL' tp, nx = (I, o) :: (kep1, listOf kvs.toArray (3 + 2 * j)) :: (ord1, listOf ovs.toArray (3 + 2 * j)) :: TL' ∧ TabsL TL' ∧ (∀ p ∈ TL', p.1 ≠ I) ∧ (∀ p ∈ TL', p.1 ≠ kep1) ∧ (∀ p ∈ TL', p.1 ≠ ord1) ∧ JM (Str.ofString "turn") [] m3 [(Str.ofString "plain", Value.int (one ^ i % count) tp)] m) rfl hr3 rf.1 rf2 F9 N9 ?_ ?_ ?_)
        · subst hm3
          refine' ⟨TL5, _, rfl, hT5, sI5, sk5, so5, ⟨fun p hp => ?j1, fun _ _ _ _ => rfl⟩⟩
          (case j1 =>
            rw [Int.pow_zero, Int.emod_eq_of_lt (by decide) (by omega)] at hp
            rw [List.mem_singleton.mp hp]; rfl)
        · subst hm3
          clear F9 N9 F8 N8 hr3 hT5 sI5 sk5 so5 sD5
          rintro i3 t3 I3 m4 nx h tk o3 hi4 ⟨TL6, tp6, rfl, hT6, sI6, sk6, so6, jm3⟩ hnI3 hlI3 F10 N10
          have F11 := jm3.fr F10
          clear F10
          have sI36 : ∀ p ∈ TL6, p.1 ≠ I3 := fun p hp => hnI3 p (.tail _ (.tail _ (.tail _ hp)))
          have lI3 := ltN (a := I) (b := I3) (hlI3 _ (.head _))
          have lk3 := ltN (a := kep1) (b := I3) (hlI3 _ (.tail _ (.head _)))
          have lo3 := ltN (a := ord1) (b := I3) (hlI3 _ (.tail _ (.tail _ (.head _))))
          have pb0 := Int.emod_nonneg (one ^ i3) (Int.ne_of_gt hc0)
          have pb1 := Int.emod_lt_of_pos (one ^ i3) hc0
          have pm0 : 0 ≤ one ^ i3 % count * one := Int.mul_nonneg pb0 o0
          have pm1 : one ^ i3 % count * one ≤ 61 * 61 := Int.mul_le_mul (by omega) (by omega) o0 (by omega)
          (try k_unmd)
          k_fold
          k_steps
          (rename Fr _ _ _ _ => F12)
          (rename News _ _ _ _ => N12)
          refine Stop.out (Ctr.use (e_int_divmod _ (one ^ i3 % count * one) count _ _ (by omega) (by omega) (by omega) (by omega) TL6 hT6) (by assumption) F12 (by assumption) (fun p hp => N12 p (.tail _ (.tail _ (.tail _ (.tail _ hp))))) (by assumption) rfl ⟨C1, C2⟩ trivial (by decide) (by decide) ?_)
          rintro v h13 tk13 G13 ⟨⟨D3, td1, td2, rfl, hD, hDs⟩, TL7, x7⟩ F13
          have ep : one ^ i3 % count * one % count = one ^ (i3 + 1) % count := by rw [Int.pow_succ, Int.mul_emod, Int.emod_emod_of_dvd _ (Int.dvd_refl count), ← Int.mul_emod]
          rw [ep] at hD
          obtain ⟨N13, sI37, sI7, sk7, so7, hT7⟩ := re4 F12 N12 G13 x7 sI36 sI6 sk6 so6
          have N14 := news_new F12 hD hDs N13
          clear F12 N12 N13 G13 x7 sI36 sI6 sk6 so6 hT6 hD hDs
          (try dsimp only)
          k_steps
          (rename Fr _ _ _ _ => F15)
          (rename News _ _ _ _ => N15)
          refine' ⟨_, _, _, _, rfl, F15, (fun p hp => N15 p (.tail _ hp)), ?sep, TL7, _, rfl, hT7, sI7, sk7, so7, ⟨fun p hp => ?j1, ?j2⟩⟩
          (case sep =>
            exact fun p hp => (List.mem_cons.mp hp).elim (fun e => by rw [e]; exact Nat.ne_of_lt lI3) fun hp => (List.mem_cons.mp hp).elim (fun e => by rw [e]; exact Nat.ne_of_lt lk3) fun hp => (List.mem_cons.mp hp).elim (fun e => by rw [e]; exact Nat.ne_of_lt lo3) (sI37 p))
          (case j1 => rw [List.mem_singleton.mp hp]; rfl)
          (case j2 =>
            intro z z1 z2 z3
            have a1 : z ≠ Str.ofString "plain" := z2 _ (.head _)
            simp only [kstB, if_neg a1, if_neg z1, List.contains_nil, Bool.false_eq_true, if_false])
        · subst hm3
          clear F9 N9 F8 N8 hr3 hT5 sI5 sk5 so5 sD5
          rintro m4 nx h tk ⟨TL6, tp6, rfl, hT6, sI6, sk6, so6, jm3⟩ F10 N10
          have F11 := jm3.frOut F10
          clear F10
          have pb0 := Int.emod_nonneg (one ^ two.toNat) (Int.ne_of_gt hc0)
          have pb1 := Int.emod_lt_of_pos (one ^ two.toNat) hc0
          obtain ⟨kz0, kz1⟩ := M.kp_bound (one ^ two.toNat)
          have g9 : (kp count unit (one ^ two.toNat) != kp count unit (one ^ two.toNat % count)) = false := by rw [Mont.kp_mod]; simp
          (try dsimp only)
          k_steps
          (rename Fr _ _ _ _ => F12)
          (rename News _ _ _ _ => N12)
          refine Stop.out (Ctr.use (e_taken _ (kp count unit (one ^ two.toNat)) count unit other _ _ _ _ kz0 (by omega) (by omega) (by omega) (by omega) (by omega) f7 f8 (M.rest _) TL6 hT6) (by assumption) F12 (by assumption) (fun p hp => N12 p (.tail _ (.tail _ (.tail _ hp)))) (by assumption) rfl ⟨C1, C2⟩ trivial (by decide) (by decide) ?_)
          rintro v h13 tk13 G13 ⟨⟨tq3, rfl⟩, TL7, x7⟩ F13
          rw [M.out]
          obtain ⟨N13, sI7, sk7, so7, hT7⟩ := re3 F12 N12 G13 x7 sI6 sk6 so6
          clear F12 N12 G13 x7 sI6 sk6 so6 hT6 g9
          have g10 : (one ^ two.toNat % count != one ^ two.toNat % count) = false := by simp
          (try dsimp only)
          k_steps
          (rename Fr _ _ _ _ => F15)
          (rename News _ _ _ _ => N15)
          refine' ⟨_, _, _, _, rfl, F15, N15, ?sep, TL7, rfl, hT7, sk7, so7, ⟨fun _ h => (nomatch h), ?j2⟩⟩
          (case sep =>
            exact fun p hp => (List.mem_cons.mp hp).elim (fun e => by rw [e]; exact Nat.ne_of_lt skI) fun hp => (List.mem_cons.mp hp).elim (fun e => by rw [e]; exact Nat.ne_of_lt soI) (sI7 p))
          (case j2 =>
            intro z z1 z2 z3
            have hz : ∀ q ∈ [Str.ofString "one", Str.ofString "two", Str.ofString "product", Str.ofString "power", Str.ofString "here", Str.ofString "plain", Str.ofString "figure", Str.ofString "turn"], z ≠ q := fun q hq e => by
              rw [e, List.contains_iff_mem.mpr hq] at z3
              cases z3
            have a1 := hz (Str.ofString "one") (.head _)
            have a2 := hz (Str.ofString "two") (.tail _ (.head _))
            have a3 := hz (Str.ofString "product") (.tail _ (.tail _ (.head _)))
            have a4 := hz (Str.ofString "power") (.tail _ (.tail _ (.tail _ (.head _))))
            have a5 := hz (Str.ofString "here") (.tail _ (.tail _ (.tail _ (.tail _ (.head _)))))
            have a6 := hz (Str.ofString "plain") (.tail _ (.tail _ (.tail _ (.tail _ (.tail _ (.head _))))))
            have a7 := hz (Str.ofString "figure") (.tail _ (.tail _ (.tail _ (.tail _ (.tail _ (.tail _ (.head _)))))))
            have a8 := hz (Str.ofString "turn") (.tail _ (.tail _ (.tail _ (.tail _ (.tail _ (.tail _ (.tail _ (.head _))))))))
            simp only [kstB, if_neg a1, if_neg a2, if_neg a3, if_neg a4, if_neg a5, if_neg a6, if_neg a7, if_neg a8, if_neg z1, z3, List.contains_nil, Bool.false_eq_true, if_false])
    · subst hm1
      clear F11 N11 hr2 hT sk so
      rintro m₂ nx h tk ⟨TL', rfl, hT, sk, so, jm⟩ F6 N6
      have F7 := jm.frOut F6
      clear F6
      (try dsimp only)
      k_steps
      obtain ⟨ga, gb⟩ := tabs_grown hT (fun p hp => (N6 p (.tail _ (.tail _ hp))).1)
      exact Stop.out ⟨gb, ga, trivial⟩)
end Mine
theorem PySem.Challenge.cw_ib0004_03_holds : PySem.Challenge.rw_ib0004_03.Holds :=
  Mine.X
