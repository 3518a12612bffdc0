import PyProof.Rows.All
import Wide.All
import OpenK.AllK
import Wide.FinOn
import PySem.Challenge.RW_ib0004_02
open PySem PySem.W PySem.Calls PyProof.Rows
set_option Elab.async false
set_option maxRecDepth 100000
set_option maxHeartbeats 8000000
namespace Mine

/-- what a call keeps: all but what it may change -/
def KeepsBut (mts : List Addr) (h h' : Heap) : Prop := ∀ b o, b ∉ mts → h.get? b = some o → h'.get? b = some o

/-- a call's contract -/
def Ctr (prog : Program) (K : Params → Frag) (TB : Heap → Prop) (w : World) (f : Addr) (dd uu : Nat) (vs : List Value) (mts : List (Addr × Obj)) (Pre : Heap → Prop) (Post : Heap → Value → Heap → Prop) : Prop :=
  ∀ (p : Program) (loose : List Str) (mean : ExcName → Option Value) (mg mb : Str → Option Value) (dp un : Nat) (gd : Option (List Code)) (cn : Str) (cs : Scope) (a : Addr) (ccd : Value) (cl : List (Str × Addr)) (outer : List Env) (A₀ : Around) (base h₀ : Heap) (L : Addr) (m : Str → Option Value) (s : Shared) (Q E : Value → Shared → Prop),
    Below A₀ base outer h₀ → Fr h₀ L s.heap m → (K w.params).In h₀ → News h₀ L s.heap mts → Top p loose mean mg mb h₀ → cs.kind = .function → TB base → Pre s.heap → dp + dd < recursionLimit → un + uu < cLine →
    (∀ v h' tk', KeepsBut (mts.map (·.1)) s.heap h' → Post s.heap v h' → Q v { s with heap := h', toks := tk' }) →
    wpAny (model prog w) (ktrTop dp un gd cn cs L a ccd cl outer) (call (.ref f) vs) Q E s

def CEnd (g : Heap) (L' : Addr) (s : Shared) (Post : Value → Heap → Prop) (v : Value) (s' : Shared) : Prop :=
  ∃ h' tk' m', s' = { s with heap := h', toks := tk' } ∧ Fr g L' h' m' ∧ Post v h'

section
variable {prog : Program} {K : Params → Frag} {TB : Heap → Prop} {w : World}

theorem ctr_plain {f : Addr} {dd uu : Nat} {vs : List Value} {mts : List (Addr × Obj)} {Pre : Heap → Prop} {Post : Heap → Value → Heap → Prop}
    {name qual : Str} {params : Arguments} {body : List Stmt} {scope : Scope} {dV kV doc pm cdv ct oc : Value} {an od : Option Addr} {osl : Array (Option Value)} {binds : List (Str × Value)}
    (ho : (K w.params).lookup f = some ⟨oc, od, .func (fnOf name qual params body scope dV kV doc pm an cdv ct), osl⟩) (hcd : codeIn (K w.params) cdv qual = true) (hdd : 1 ≤ dd)
    (hbind : ∀ s : Shared, (K w.params).In s.heap → BindsTo s (fnOf name qual params body scope dV kV doc pm an cdv ct) ⟨vs, []⟩ binds) (hloc : ∀ y ∈ binds, scope.names.lookup y.1 = some .local)
    (hco : scope.isCoroutine = false) (hgen : scope.isGenerator = false) (hk : scope.kind = .function) (hcell : ∀ x ∈ scope.names, x.2 ≠ .cell)
    (h : ∀ (p : Program) (loose : List Str) (mean : ExcName → Option Value) (mg mb : Str → Option Value) (dp un : Nat) (gd : Option (List Code)) (outer : List Env) (A₀ : Around) (base g : Heap) (L' : Addr) (h₁ : Heap) (tk : Nat) (s : Shared),
      Below A₀ base outer g → Fr g L' h₁ (fun y => binds.reverse.lookup y) → (K w.params).In g → News g L' h₁ mts → Top p loose mean mg mb g → TB base → Pre s.heap → KeepsBut (mts.map (·.1)) s.heap g → s.heap.objs.size ≤ L' →
      (∀ b o, s.heap.get? b = some o → h₁.get? b = some o) → dp + dd < recursionLimit + 1 → un + uu < cLine + 3 →
      wpAny (model prog w) (ktrTop dp un gd qual scope L' f cdv [] outer) (execs body (envX qual scope L' f cdv []))
        (fun fl s' => CEnd g L' s (Post s.heap) (match fl with | .ret v => v | _ => .none) s') (fun _ _ => False) { s with heap := h₁, toks := tk }) :
    Ctr prog K TB w f dd uu vs mts Pre Post := by
  intro p loose mean mg mb dp un gd cn cs a ccd cl outer A₀ base h₀ L m s Q E B F X N T hkd hTB hpre hdp hun hret
  refine wpAny_call ?_
  obtain ⟨FG, BG, st, _⟩ := groundX (R := fun _ _ => True) B F N (A := ktrTop dp un gd cn cs L a ccd cl outer) rfl rfl hkd
  refine codeAny_call_def (fd := fnX name qual params body scope [] dV kV doc pm an cdv ct) (body := body) (binds := binds) (by show dp < recursionLimit; omega) ((X.keeps F.keep) _ _ ho) rfl (T.nolimit.keeps F.keep) (codeRec_of (X.keeps F.keep) hcd) rfl (hbind s (X.keeps F.keep)) hcell hloc (fun h₁ hns hk₁ => ?_) hco hgen hk
  have key := h p loose mean mg mb (dp + 1) (un + 3) gd (envX cn cs L a ccd cl :: outer) _ base (hideAll s.heap (mts.map (·.1))) s.heap.objs.size h₁ (s.toks + binds.length) s BG
    ⟨hns, fun b o e => hk₁ b o (of_hideAll _ e), Nat.le_of_eq (hideAll_size _ _)⟩ (X.keeps st)
    (fun p hp => ⟨hk₁ _ _ (N p hp).1, Nat.ne_of_lt (Heap.lt_size (N p hp).1), hideAll_none _ (List.mem_map_of_mem hp)⟩) (T.keeps st) hTB hpre
    (fun b o hb e => hideAll_get _ e hb) (Nat.le_refl _) hk₁ (by omega) (by omega)
  refine wpAny_mono key (fun fl s' hl => ?_) (fun _ _ x => x.elim)
  obtain ⟨h', tk', m', rfl, F', hp⟩ := hl
  exact hret _ h' tk' (fun b o hb e => F'.keep b o (hideAll_get _ e hb)) hp
theorem ctr_clos {f : Addr} {dd uu : Nat} {vs : List Value} {mts : List (Addr × Obj)} {Pre : Heap → Prop} {Post : Heap → Value → Heap → Prop}
    {name qual : Str} {params : Arguments} {body : List Stmt} {scope : Scope} {cl : List (Str × Addr)} {doc pm ctv : Value} {c' : Addr} {binds : List (Str × Value)}
    (hfn : ∀ h, Pre h → h.get? f = some (fnMade name qual params body scope cl doc pm c' ctv) ∧ h.CodeRec (.ref c') qual) (hdd : 1 ≤ dd)
    (hbind : ∀ s : Shared, BindsTo s (fnX name qual params body scope cl .none .none doc pm none (.ref c') ctv) ⟨vs, []⟩ binds) (hloc : ∀ y ∈ binds, scope.names.lookup y.1 = some .local)
    (hco : scope.isCoroutine = false) (hgen : scope.isGenerator = false) (hk : scope.kind = .function) (hcell : ∀ x ∈ scope.names, x.2 ≠ .cell)
    (h : ∀ (p : Program) (loose : List Str) (mean : ExcName → Option Value) (mg mb : Str → Option Value) (dp un : Nat) (gd : Option (List Code)) (outer : List Env) (A₀ : Around) (base g : Heap) (L' : Addr) (h₁ : Heap) (tk : Nat) (s : Shared),
      Below A₀ base outer g → Fr g L' h₁ (fun y => binds.reverse.lookup y) → (K w.params).In g → News g L' h₁ mts → Top p loose mean mg mb g → TB base → Pre s.heap → KeepsBut (mts.map (·.1)) s.heap g → s.heap.objs.size ≤ L' →
      (∀ b o, s.heap.get? b = some o → h₁.get? b = some o) → dp + dd < recursionLimit + 1 → un + uu < cLine + 3 →
      wpAny (model prog w) (ktrTop dp un gd qual scope L' f (.ref c') cl outer) (execs body (envX qual scope L' f (.ref c') cl))
        (fun fl s' => CEnd g L' s (Post s.heap) (match fl with | .ret v => v | _ => .none) s') (fun _ _ => False) { s with heap := h₁, toks := tk }) :
    Ctr prog K TB w f dd uu vs mts Pre Post := by
  intro p loose mean mg mb dp un gd cn cs a ccd cl' outer A₀ base h₀ L m s Q E B F X N T hkd hTB hpre hdp hun hret
  refine wpAny_call ?_
  obtain ⟨FG, BG, st, _⟩ := groundX (R := fun _ _ => True) B F N (A := ktrTop dp un gd cn cs L a ccd cl' outer) rfl rfl hkd
  obtain ⟨ho, hcd⟩ := hfn _ hpre
  refine codeAny_call_def (fd := fnX name qual params body scope cl .none .none doc pm none (.ref c') ctv) (body := body) (binds := binds) (by show dp < recursionLimit; omega) ho rfl (T.nolimit.keeps F.keep) hcd rfl (hbind s) hcell hloc (fun h₁ hns hk₁ => ?_) hco hgen hk
  have key := h p loose mean mg mb (dp + 1) (un + 3) gd (envX cn cs L a ccd cl' :: outer) _ base (hideAll s.heap (mts.map (·.1))) s.heap.objs.size h₁ (s.toks + binds.length) s BG
    ⟨hns, fun b o e => hk₁ b o (of_hideAll _ e), Nat.le_of_eq (hideAll_size _ _)⟩ (X.keeps st)
    (fun p hp => ⟨hk₁ _ _ (N p hp).1, Nat.ne_of_lt (Heap.lt_size (N p hp).1), hideAll_none _ (List.mem_map_of_mem hp)⟩) (T.keeps st) hTB hpre
    (fun b o hb e => hideAll_get _ e hb) (Nat.le_refl _) hk₁ (by omega) (by omega)
  refine wpAny_mono key (fun fl s' hl => ?_) (fun _ _ x => x.elim)
  obtain ⟨h', tk', m', rfl, F', hp⟩ := hl
  exact hret _ h' tk' (fun b o hb e => F'.keep b o (hideAll_get _ e hb)) hp

theorem ctr_cells {f : Addr} {dd uu : Nat} {vs : List Value} {mts : List (Addr × Obj)} {Pre : Heap → Prop} {Post : Heap → Value → Heap → Prop}
    {name qual : Str} {params : Arguments} {body : List Stmt} {scope : Scope} {dV kV doc pm cdv ct oc : Value} {an od : Option Addr} {osl : Array (Option Value)} {binds : List (Str × Value)}
    (ho : (K w.params).lookup f = some ⟨oc, od, .func (fnOf name qual params body scope dV kV doc pm an cdv ct), osl⟩) (hcd : codeIn (K w.params) cdv qual = true) (hdd : 1 ≤ dd)
    (hbind : ∀ s : Shared, (K w.params).In s.heap → BindsTo s (fnOf name qual params body scope dV kV doc pm an cdv ct) ⟨vs, []⟩ binds)
    (hkind : (binds.all fun y => scope.names.lookup y.1 == some .local || scope.names.lookup y.1 == some .cell) = true)
    (hnd : ((cellsFrom 0 scope.names []).map (·.1)).Nodup)
    (hco : scope.isCoroutine = false) (hgen : scope.isGenerator = false) (hk : scope.kind = .function)
    (h : ∀ (p : Program) (loose : List Str) (mean : ExcName → Option Value) (mg mb : Str → Option Value) (dp un : Nat) (gd : Option (List Code)) (outer : List Env) (A₀ : Around) (base g : Heap) (L' : Addr) (h₁ : Heap) (tk : Nat) (s : Shared) (cells : List (Addr × Obj)),
      Below A₀ base outer g → Fr g L' h₁ (bindL (envOfC qual scope L' f cdv).kindOf binds fun _ => none) → (K w.params).In g → News g L' h₁ (cells ++ mts) →
      CellsAre (bindC (envOfC qual scope L' f cdv).kindOf binds fun _ => none) (cellsFrom (L' + 1) scope.names []) cells →
      Top p loose mean mg mb g → TB base → Pre s.heap → KeepsBut (mts.map (·.1)) s.heap g → s.heap.objs.size ≤ L' →
      (∀ b o, s.heap.get? b = some o → h₁.get? b = some o) → (∀ p ∈ mts, p.1 < L') → dp + dd < recursionLimit + 1 → un + uu < cLine + 3 →
      wpAny (model prog w) (ktrTop dp un gd qual scope L' f cdv (cellsFrom (L' + 1) scope.names []) outer) (execs body (envX qual scope L' f cdv (cellsFrom (L' + 1) scope.names [])))
        (fun fl s' => CEnd g L' s (Post s.heap) (match fl with | .ret v => v | _ => .none) s') (fun _ _ => False) { s with heap := h₁, toks := tk }) :
    Ctr prog K TB w f dd uu vs mts Pre Post := by
  intro p loose mean mg mb dp un gd cn cs a ccd cl outer A₀ base h₀ L m s Q E B F X N T hkd hTB hpre hdp hun hret
  refine wpAny_call ?_
  obtain ⟨FG, BG, st, _⟩ := groundX (R := fun _ _ => True) B F N (A := ktrTop dp un gd cn cs L a ccd cl outer) rfl rfl hkd
  have hlim : h₀.NoLimit := T.nolimit
  refine codeAny_call_function (by show dp < recursionLimit; omega) ((X.keeps F.keep) _ _ ho) rfl hco hgen rfl (codeRec_of (X.keeps F.keep) hcd) (hbind s (X.keeps F.keep) _ _ _ _ ?_)
  refine wpAny_newFunctionEnv_cells hk (kindsX hkind _) fun env' he s' x => ?_
  subst he
  refine ⟨(hlim.keeps F.keep).keeps x.toInCall.keep, codeAny_func ?_⟩
  obtain ⟨h₁, tk, rfl, _⟩ := x.done
  have hk₁ := x.toInCall.keep
  obtain ⟨cells, NC, Y⟩ := Cl.news (h₀ := s.heap) (Nat.le_refl _) fun n c hm => ⟨x.cell n c (lookup_of_mem_nodup (cellsFrom_names scope.names 0 (s.heap.objs.size + 1) [] [] rfl ▸ hnd) hm), x.above n c hm⟩
  have X' := X.keeps st
  have T' := T.keeps st
  have key := fun hN => h p loose mean mg mb (dp + 1) (un + 3) gd (envX cn cs L a ccd cl :: outer) _ base (hideAll s.heap (mts.map (·.1))) s.heap.objs.size h₁ tk s cells BG
    ⟨x.toInCall.ns, fun b o e => hk₁ b o (of_hideAll _ e), Nat.le_of_eq (hideAll_size _ _)⟩ X' hN Y T' hTB hpre
    (fun b o hb e => hideAll_get _ e hb) (Nat.le_refl _) hk₁ (fun p hp => Heap.lt_size (N p hp).1) (by omega) (by omega)
  refine wpAny_mono (key ?_) (fun fl s' hl => ?_) (fun _ _ x => x.elim)
  rotate_left
  · obtain ⟨h', tk', m', rfl, F', hp⟩ := hl
    exact hret _ h' tk' (fun b o hb e => F'.keep b o (hideAll_get _ e hb)) hp
  · intro p hp
    rcases List.mem_append.mp hp with hp | hp
    · refine ⟨(NC p hp).1, (NC p hp).2.1, ?_⟩
      cases q : (hideAll s.heap (mts.map (·.1))).get? p.1 with
      | none => rfl
      | some o => have := of_hideAll _ q; rw [(NC p hp).2.2] at this; cases this
    · exact ⟨hk₁ _ _ (N p hp).1, Nat.ne_of_lt (Heap.lt_size (N p hp).1), hideAll_none _ (List.mem_map_of_mem hp)⟩

theorem by_size {D : Type} {P : D → Prop} (size : D → Nat) (step : ∀ d, (∀ d', size d' < size d → P d') → P d) : ∀ d, P d := by
  have all : ∀ n, ∀ d, size d < n → P d := by
    intro n
    induction n with
    | zero => intro d h; exact absurd h (Nat.not_lt_zero _)
    | succ n ih => exact fun d h => step d fun d' h' => ih d' (Nat.lt_of_lt_of_le h' (Nat.le_of_lt_succ h))
  exact fun d => all _ d (Nat.lt_succ_self _)
end

section
variable {M : Model} {A : Around} {E : Value → Shared → Prop} {s : Shared} {h₀ : Heap} {L : Addr} {m : Str → Option Value} {news : List (Addr × Obj)}
theorem newTuple_M {vs : List Value} {Q : Value → Shared → Prop} (F : Fr h₀ L s.heap m) (N : News h₀ L s.heap news)
    (h : ∀ D h', Fr h₀ L h' m → News h₀ L h' ((D, { cls := .type "tuple", data := .seq vs.toArray }) :: news) → (∀ p ∈ news, p.1 < D) → L < D → Q (.ref D) { s with heap := h' }) (hsz : vs.length ≤ sizeLine := by size_fits) :
    wpAny M A (newTuple vs) Q E s := newTuple_N F N (fun h' F' N' => h _ h' F' N' (fun p hp => Heap.lt_size (N p hp).1) F.ns.lt) hsz
theorem newList_M {vs : List Value} {Q : Value → Shared → Prop} (F : Fr h₀ L s.heap m) (N : News h₀ L s.heap news)
    (h : ∀ D h', Fr h₀ L h' m → News h₀ L h' ((D, { cls := .type "list", data := .seq vs.toArray }) :: news) → (∀ p ∈ news, p.1 < D) → L < D → Q (.ref D) { s with heap := h' }) (hsz : vs.length ≤ sizeLine := by size_fits) :
    wpAny M A (newList vs) Q E s := newList_N F N (fun h' F' N' => h _ h' F' N' (fun p hp => Heap.lt_size (N p hp).1) F.ns.lt) hsz
end

theorem foldl_rep (v : Value) : ∀ k : Nat, ∀ a : Array Value, List.foldl (fun x1 x2 => x1 ++ x2) a (List.replicate k #[v]) = a ++ (List.replicate k v).toArray
  | 0, a => by simp
  | k + 1, a => by
    rw [List.replicate_succ, List.foldl_cons, foldl_rep v k, List.replicate_succ]
    apply Array.ext'
    simp
theorem ints_rep (c : Int) (t : Tok) : ∀ k, IntsAre (List.replicate k (Value.int c t)) (List.replicate k c)
  | 0 => .nil
  | k + 1 => by rw [List.replicate_succ, List.replicate_succ]; exact .cons c t (ints_rep c t k)
theorem mul1_M {prog : Program} {w : World} {A : Around} {E : Value → Shared → Prop} {s : Shared} {h₀ : Heap} {L : Addr} {m : Str → Option Value} {news : List (Addr × Obj)} {l : Addr} {c : Int} {t : Tok} {k : Nat} {x : Int} {u : Tok} {Q : Value → Shared → Prop}
    (F : Fr h₀ L s.heap m) (N : News h₀ L s.heap news) (hm : (l, listOf #[.int c t] k) ∈ news) (h0 : 0 ≤ x) (hhi : x ≤ 1048576)
    (h : ∀ D vs h', IntsAre vs (List.replicate x.toNat c) → Fr h₀ L h' m → News h₀ L h' ((D, listOf vs.toArray 0) :: news) → (∀ p ∈ news, p.1 < D) → L < D → Q (.ref D) { s with heap := h' }) :
    wpAny (model prog w) A (binaryOp .Mult (.ref l) (.int x u)) Q E s :=
  mul_list F N (N.get hm) (by omega) (by omega) (by show 1 * x.toNat ≤ 2 ^ 24; omega) fun h' F' N' => by
    have e : List.foldl (fun x1 x2 => x1 ++ x2) #[] (List.replicate (if (#[Value.int c t] : Array Value).isEmpty = true then 0 else x.toNat) #[Value.int c t]) = (List.replicate x.toNat (Value.int c t)).toArray := by
      rw [foldl_rep]
      apply Array.ext'
      simp
    rw [e] at N'
    exact h _ _ h' (ints_rep c t _) F' N' (fun p hp => Heap.lt_size (N p hp).1) F.ns.lt

theorem len_M {prog : Program} {w : World} {A : Around} {E : Value → Shared → Prop} {s : Shared} {h₀ : Heap} {L : Addr} {news : List (Addr × Obj)} {l : Addr} {vs : List Value} {ns : List Int} {k : Nat} {Q : Value → Shared → Prop}
    (N : News h₀ L s.heap news) (hm : (l, listOf vs.toArray k) ∈ news) (hi : IntsAre vs ns) (hfit : ns.length < 2 ^ 62)
    (h : Q (.int (ns.length : Nat) (s.toks + 1)) { s with toks := s.toks + 1 + 1 }) : wpAny (model prog w) A (call (.builtin "len") [.ref l]) Q E s :=
  len_ints_fit (PySem.IsL.isList (n := k) (N _ hm).1) hi hfit h

theorem fr_after {h₀ h h' : Heap} {L : Addr} {m : Str → Option Value} {mts : List (Addr × Obj)} (F : Fr h₀ L h m) (N : News h₀ L h mts) (k : KeepsBut (mts.map (·.1)) h h') : Fr h₀ L h' m := by
  obtain ⟨oL, es, ep, hL, hd, hk, hf⟩ := F.ns
  refine ⟨⟨oL, es, ep, k _ _ (fun q => ?_) hL, hd, hk, hf⟩, fun b o e => k b o (fun q => ?_) (F.keep b o e), F.above⟩
  · obtain ⟨p, hp, e⟩ := List.mem_map.mp q
    exact (N p hp).2.1 e
  · obtain ⟨p, hp, rfl⟩ := List.mem_map.mp q
    rw [(N p hp).2.2] at e; cases e
theorem news_after {h₀ h h' : Heap} {L : Addr} {mts news : List (Addr × Obj)} (N : News h₀ L h news) (k : KeepsBut (mts.map (·.1)) h h') (hn : ∀ p ∈ news, p.1 ∉ mts.map (·.1)) : News h₀ L h' news :=
  fun p hp => ⟨k _ _ (hn p hp) (N p hp).1, (N p hp).2⟩
theorem news_cons {h₀ h : Heap} {L : Addr} {p : Addr × Obj} {news : List (Addr × Obj)} (h1 : h.get? p.1 = some p.2) (h2 : p.1 ≠ L) (h3 : h₀.get? p.1 = none) (N : News h₀ L h news) : News h₀ L h (p :: news) :=
  fun q hq => (List.mem_cons.mp hq).elim (fun e => e ▸ ⟨h1, h2, h3⟩) (N q)
theorem none_of_size {h : Heap} {D : Addr} (hd : h.objs.size ≤ D) : h.get? D = none := by
  cases q : h.get? D with
  | none => rfl
  | some o => exact absurd (Heap.lt_size q) (Nat.not_lt.mpr hd)
/-- a new object that a call handed back enters the ledger -/
theorem news_new {h₀ h h' : Heap} {L D : Addr} {m : Str → Option Value} {o : Obj} {news : List (Addr × Obj)} (F : Fr h₀ L h m) (hD : h'.get? D = some o) (hs : h.objs.size ≤ D) (N : News h₀ L h' news) : News h₀ L h' ((D, o) :: news) :=
  news_cons hD (Nat.ne_of_gt (Nat.lt_of_lt_of_le F.ns.lt hs)) (none_of_size (Nat.le_trans (Nat.le_trans F.above (Nat.le_of_lt F.ns.lt)) hs)) N
theorem lt_new {h₀ h : Heap} {L D : Addr} {news : List (Addr × Obj)} (N : News h₀ L h news) (hs : h.objs.size ≤ D) : ∀ p ∈ news, p.1 < D :=
  fun p hp => Nat.lt_of_lt_of_le (Heap.lt_size (N p hp).1) hs

theorem nameX_G {M : Model} {A : Around} {E : Value → Shared → Prop} {s : Shared} {g : Heap} {L a c : Addr} {m : Str → Option Value} {cn : Str} {cs : Scope} {ccd : Value} {cl : List (Str × Addr)} {x : Str} {pos : Pos} {o : Obj} {v : Value} {Q : Value → Shared → Prop}
    (F : Fr g L s.heap m) (hc : cl.lookup x = some c) (hg : g.get? c = some o) (hd : o.data = .cell (some v)) (h : Q v s)
    (hk : cs.kind = .function := by rfl) (hx : (envX cn cs L a ccd cl).kindOf x = some .free := by rfl) (hb : (x == ("__debug__" : Str)) = false := by decide) (hn : (x == ("__classdict__" : Str)) = false := by decide) :
    wpAny M A (eval (.Name x pos) (envX cn cs L a ccd cl)) Q E s := wpAny_Name (wpAny_loadName_free hk hx hc ⟨o, F.keep _ _ hg, hd⟩ h hn) hb

theorem fnAt_G {g h : Heap} {L q : Addr} {m : Str → Option Value} {oc : Value} {od : Option Addr} {fd : FuncData} {sl : Array (Option Value)} (F : Fr g L h m) (hg : g.get? q = some ⟨oc, od, .func fd, sl⟩) : FnAt q h := ⟨_, _, _, _, F.keep _ _ hg⟩

/-- digits to a base, the lowest first -/
def dg (B : Int) : Nat → Int → List Int
  | 0, _ => []
  | k + 1, x => x % B :: dg B k (x / B)
theorem dg_length (B : Int) : ∀ k x, (dg B k x).length = k
  | 0, _ => rfl
  | k + 1, x => by show (dg B k _).length + 1 = _; rw [dg_length B k]
def wr (ns : List Int) (l : Nat) (ds : List Int) : List Int := ns.take l ++ ds ++ ns.drop (l + ds.length)

structure IDat where
  x : Int
  L : Int
  R : Int
  tx : Tok
  tL : Tok
  tR : Tok
  vs : List Value
  ns : List Int
def IDat.sz (d : IDat) : Nat := (d.R - d.L).toNat
structure IDat.Ok (n : Int) (d : IDat) : Prop where
  l0 : 0 ≤ d.L
  lr : d.L < d.R
  rl : d.R ≤ d.ns.length
  few : d.R - d.L ≤ 20
  x0 : 0 ≤ d.x
  xs : d.x < 1048576
  xl : d.x < (2 ^ n.toNat) ^ (d.R - d.L).toNat
  isI : IntsAre d.vs d.ns
  nl : d.ns.length ≤ 1048576

def Stop (P : Prop) : Prop := P
theorem Stop.mk {P : Prop} (h : Stop P) : P := h
theorem Stop.out {P : Prop} (h : P) : Stop P := h

theorem bits_le {a : Int} {k : Nat} (h0 : 0 ≤ a) (h : a < 2 ^ k) : (Builtin.Int.intBits a : Int) ≤ k := by
  unfold Builtin.Int.intBits
  by_cases ha : a = 0
  · subst ha; simp
  · have hb : (a == 0) = false := by simpa using ha
    rw [hb]
    simp only [Bool.false_eq_true, if_false]
    have h2 : a.natAbs < 2 ^ k := by
      have : ((a.natAbs : Nat) : Int) < ((2 ^ k : Nat) : Int) := by
        rw [Int.natAbs_of_nonneg h0]; simpa using h
      exact Int.ofNat_lt.mp this
    have h3 : a.natAbs.log2 < k := (Nat.log2_lt (by omega)).mpr h2
    omega
theorem and_high (x k : Nat) : x &&& (x / 2 ^ k * 2 ^ k) = x / 2 ^ k * 2 ^ k := by
  have e : x / 2 ^ k * 2 ^ k = (x >>> k) <<< k := by rw [Nat.shiftLeft_eq, Nat.shiftRight_eq_div_pow]
  rw [e]
  apply Nat.eq_of_testBit_eq
  intro i
  rw [Nat.testBit_and, Nat.testBit_shiftLeft, Nat.testBit_shiftRight]
  by_cases h : k ≤ i
  · have : k + (i - k) = i := by omega
    rw [this]
    simp [h]
  · simp [h]
theorem xor_low {x : Int} {k : Nat} (hx : 0 ≤ x) : Builtin.bitXor x (x / 2 ^ k * 2 ^ k) = x % 2 ^ k := by
  obtain ⟨n, rfl⟩ := Int.eq_ofNat_of_zero_le hx
  have e : ((n : Int) / 2 ^ k * 2 ^ k) = ((n / 2 ^ k * 2 ^ k : Nat) : Int) := by push_cast; rfl
  rw [bitXor_and, e, bitAnd_pp (by omega) (by omega)]
  simp only [Int.toNat_natCast, and_high]
  rw [← e]
  have := Int.emod_def (n : Int) (2 ^ k)
  rw [this, Int.mul_comm]
  omega
section
variable {prog : Program} {w : World} {A : Around} {E : Value → Shared → Prop} {s : Shared} {a b : Int} {t u : Tok} {Q : Value → Shared → Prop}
theorem shr_M (ha : 0 ≤ a) (hb : 0 ≤ b) (h : Q (.int (a / 2 ^ b.toNat) s.toks) { s with toks := s.toks + 1 }) : wpAny (model prog w) A (binaryOp .RShift (.int a t) (.int b u)) Q E s := by
  refine PySem.AutoIntOpsIf.rshift ?_
  rw [if_neg (by omega)]
  by_cases hc : b ≥ ((Builtin.Int.intBits a : Nat) : Int)
  · rw [if_pos hc, if_neg (by omega)]
    have e : a / 2 ^ b.toNat = 0 := by
      obtain ⟨n, rfl⟩ := Int.eq_ofNat_of_zero_le ha
      have h2 : n < 2 ^ b.toNat := by
        by_cases h0 : n = 0
        · subst h0; exact Nat.two_pow_pos _
        · have h3 : ((n : Int) == 0) = false := by simpa using h0
          unfold Builtin.Int.intBits at hc
          rw [h3] at hc
          simp only [Bool.false_eq_true, if_false, Int.natAbs_natCast] at hc
          have h4 : n.log2 < b.toNat := by omega
          exact (Nat.log2_lt h0).mp h4
      rw [show ((2 : Int) ^ b.toNat) = ((2 ^ b.toNat : Nat) : Int) by push_cast; rfl, ← Int.natCast_ediv, Nat.div_eq_of_lt h2]
      rfl
    rw [e] at h
    exact h
  · rw [if_neg hc, Int.fdiv_eq_ediv_of_nonneg _ (Int.le_of_lt (Int.pow_pos (by decide)))]
    exact h
theorem shr1_M (h : Q (.int (a / 2) s.toks) { s with toks := s.toks + 1 }) (ha : 0 ≤ a) : wpAny (model prog w) A (binaryOp .RShift (.int a t) (.int 1 u)) Q E s :=
  shr_M (b := 1) ha (by decide) h
theorem shl_M (ha : 0 ≤ a) (ha2 : a < 18446744073709551616) (hb : 0 ≤ b) (hb2 : b ≤ 1000000) (h : Q (.int (a * 2 ^ b.toNat) s.toks) { s with toks := s.toks + 1 }) : wpAny (model prog w) A (binaryOp .LShift (.int a t) (.int b u)) Q E s :=
  lshift_int_small hb hb2 (by show a.natAbs < 18446744073709551616; omega) h
theorem xor_M {k : Nat} (ha : 0 ≤ a) (h : Q (.int (a % 2 ^ k) s.toks) { s with toks := s.toks + 1 }) : wpAny (model prog w) A (binaryOp .BitXor (.int a t) (.int (a / 2 ^ k * 2 ^ k) u)) Q E s :=
  xor_int (by rw [xor_low ha]; exact h)
end
theorem Ctr.use {prog : Program} {K : Params → Frag} {TB : Heap → Prop} {w : World} {f : Addr} {dd uu : Nat} {vs : List Value} {mts : List (Addr × Obj)} {Pre : Heap → Prop} {Post : Heap → Value → Heap → Prop} (c : Ctr prog K TB w f dd uu vs mts Pre Post)
    {p : Program} {loose : List Str} {mean : ExcName → Option Value} {mg mb : Str → Option Value} {dp un : Nat} {gd : Option (List Code)} {cn : Str} {cs : Scope} {a : Addr} {ccd : Value} {cl : List (Str × Addr)} {outer : List Env} {A₀ : Around} {base h₀ : Heap} {L : Addr} {m : Str → Option Value} {s : Shared} {Q E : Value → Shared → Prop}
    (B : Below A₀ base outer h₀) (F : Fr h₀ L s.heap m) (X : (K w.params).In h₀) (N : News h₀ L s.heap mts) (T : Top p loose mean mg mb h₀) (hk : cs.kind = .function) (hTB : TB base) (hpre : Pre s.heap) (hd : dp + dd < recursionLimit) (hu : un + uu < cLine)
    (k : ∀ v h' tk', KeepsBut (mts.map (·.1)) s.heap h' → Post s.heap v h' → Fr h₀ L h' m → Q v { s with heap := h', toks := tk' }) :
    wpAny (model prog w) (ktrTop dp un gd cn cs L a ccd cl outer) (call (.ref f) vs) Q E s :=
  c _ _ _ _ _ _ _ _ _ _ _ _ _ _ _ _ _ _ _ _ _ _ B F X N T hk hTB hpre hd hu fun v h' tk' G P => k v h' tk' G P (fr_after F N G)

theorem dg_mod {B : Int} (hB : 0 < B) : ∀ (j : Nat) (x : Int), dg B j (x % B ^ j) = dg B j x
  | 0, _ => rfl
  | j + 1, x => by
    show x % B ^ (j + 1) % B :: dg B j (x % B ^ (j + 1) / B) = x % B :: dg B j (x / B)
    have e1 : x % B ^ (j + 1) % B = x % B := Int.emod_emod_of_dvd _ ⟨B ^ j, by rw [Int.pow_succ, Int.mul_comm]⟩
    have e2 : x % B ^ (j + 1) / B = x / B % B ^ j := by
      have h1 := Int.emod_def x (B ^ (j + 1))
      have h2 : x / B ^ (j + 1) = x / B / B ^ j := by
        rw [Int.ediv_ediv_of_nonneg (Int.le_of_lt hB), Int.pow_succ, Int.mul_comm]
      rw [h1, h2, Int.pow_succ, Int.emod_def (x / B)]
      have h3 : x - B ^ j * B * (x / B / B ^ j) = x + B * (-(B ^ j * (x / B / B ^ j))) := by
        rw [Int.mul_neg, Int.mul_comm (B ^ j) B, Int.mul_assoc]; omega
      rw [h3, Int.add_mul_ediv_left _ _ (by omega)]
      omega
    rw [e1, e2, dg_mod hB j]
theorem dg_split {B : Int} (hB : 0 < B) (k : Nat) : ∀ (j : Nat) (x : Int), dg B (j + k) x = dg B j x ++ dg B k (x / B ^ j)
  | 0, x => by simp [dg]
  | j + 1, x => by
    rw [show j + 1 + k = (j + k) + 1 by omega]
    show x % B :: dg B (j + k) (x / B) = x % B :: (dg B j (x / B) ++ _)
    rw [dg_split hB k j, Int.ediv_ediv_of_nonneg (Int.le_of_lt hB), ← Int.pow_succ']
theorem wr_length {ns ds : List Int} {l : Nat} (h : l + ds.length ≤ ns.length) : (wr ns l ds).length = ns.length := by
  unfold wr; simp; omega
theorem wr_wr {ns d1 d2 : List Int} {l : Nat} (h : l + d1.length + d2.length ≤ ns.length) : wr (wr ns l d1) (l + d1.length) d2 = wr ns l (d1 ++ d2) := by
  unfold wr
  have e1 : (ns.take l ++ d1 ++ ns.drop (l + d1.length)).take (l + d1.length) = ns.take l ++ d1 := by
    rw [List.take_append_of_le_length (by simp; omega), List.take_of_length_le (by simp; omega)]
  have e2 : (ns.take l ++ d1 ++ ns.drop (l + d1.length)).drop (l + d1.length + d2.length) = ns.drop (l + d1.length + d2.length) := by
    rw [List.drop_append, List.drop_eq_nil_of_le (by simp; omega), List.nil_append, List.drop_drop]
    congr 1
    simp; omega
  rw [e1, e2]
  simp [Nat.add_assoc]
theorem wr_one {ns : List Int} {l : Nat} {x : Int} (h : l < ns.length) : wr ns l [x] = ns.set l x := by
  unfold wr
  rw [List.set_eq_take_append_cons_drop, if_pos h]
  simp
theorem pow_shift {m n : Int} (hm : 0 ≤ m) (hn : 0 ≤ n) : (2 : Int) ^ (m * n).toNat = (2 ^ n.toNat) ^ m.toNat := by
  obtain ⟨a, rfl⟩ := Int.eq_ofNat_of_zero_le hm
  obtain ⟨b, rfl⟩ := Int.eq_ofNat_of_zero_le hn
  rw [← Int.natCast_mul]
  simp only [Int.toNat_natCast]
  rw [← Int.pow_mul, Nat.mul_comm]
theorem emod_le' {x m : Int} (hx : 0 ≤ x) (hm : 0 < m) : x % m ≤ x := by
  have h1 := Int.emod_add_mul_ediv x m
  have h2 : 0 ≤ m * (x / m) := Int.mul_nonneg (Int.le_of_lt hm) (Int.ediv_nonneg hx (Int.le_of_lt hm))
  omega
/-- how many digits to the base 2 ^ n -/
def ndig (a n : Int) : Nat := ((((Builtin.Int.intBits a : Nat) : Int) + n - 1) / n).toNat
theorem ndig_zero {n : Int} (hn : 0 < n) : ndig 0 n = 0 := by
  unfold ndig
  have e : Builtin.Int.intBits 0 = 0 := rfl
  rw [e, Int.ediv_eq_zero_of_lt (by omega) (by omega)]
  rfl
theorem bits_pos {a : Int} (ha : a ≠ 0) : 1 ≤ Builtin.Int.intBits a := by
  unfold Builtin.Int.intBits
  rw [if_neg (by simpa using ha)]; omega
theorem lt_bits {a : Int} (ha : 0 ≤ a) : a < 2 ^ (Builtin.Int.intBits a) := by
  unfold Builtin.Int.intBits
  by_cases h : a = 0
  · subst h; decide
  · rw [if_neg (by simpa using h)]
    obtain ⟨k, rfl⟩ := Int.eq_ofNat_of_zero_le ha
    have := @Nat.lt_log2_self k
    rw [Int.natAbs_natCast]
    exact_mod_cast this
theorem ndig_le {a n : Int} (ha : a ≠ 0) (hn : 0 < n) : 1 ≤ ndig a n ∧ (ndig a n : Int) ≤ (Builtin.Int.intBits a : Nat) ∧ ((Builtin.Int.intBits a : Nat) : Int) ≤ n * ndig a n := by
  have hb := bits_pos ha
  unfold ndig
  generalize Builtin.Int.intBits a = b at *
  have h1 : 1 ≤ ((b : Int) + n - 1) / n := by
    rw [Int.le_ediv_iff_mul_le hn]; omega
  have h2 : ((b : Int) + n - 1) / n ≤ b := by
    rw [← Int.lt_add_one_iff, Int.ediv_lt_iff_lt_mul hn]
    have : 0 ≤ ((b : Int) - 1) * (n - 1) := Int.mul_nonneg (by omega) (by omega)
    rw [Int.sub_mul, Int.mul_sub] at this
    rw [Int.add_mul]
    omega
  have h3 : (b : Int) ≤ n * (((b : Int) + n - 1) / n) := by
    have := Int.emod_add_mul_ediv ((b : Int) + n - 1) n
    have := Int.emod_lt_of_pos ((b : Int) + n - 1) hn
    omega
  refine ⟨by omega, by omega, ?_⟩
  rw [Int.toNat_of_nonneg (by omega)]
  exact h3
theorem lt_dig {a n : Int} (ha : 0 ≤ a) (h0 : a ≠ 0) (hn : 0 < n) : a < (2 ^ n.toNat) ^ (ndig a n) := by
  obtain ⟨_, _, h3⟩ := ndig_le h0 hn
  rw [← Int.pow_mul]
  refine Int.lt_of_lt_of_le (lt_bits ha) ?_
  have : Builtin.Int.intBits a ≤ n.toNat * ndig a n := by
    obtain ⟨k, rfl⟩ := Int.eq_ofNat_of_zero_le (Int.le_of_lt hn)
    exact_mod_cast h3
  exact_mod_cast Nat.pow_le_pow_right (by decide) this
theorem wr_all {ns ds : List Int} (h : ds.length = ns.length) : wr ns 0 ds = ds := by
  unfold wr
  simp [h]

theorem get_mem {h₀ h : Heap} {L : Addr} {p : Addr × Obj} {news : List (Addr × Obj)} (N : News h₀ L h news) (hm : p ∈ news) : h.get? p.1 = some p.2 := (N p hm).1

/-- a code table: cold, or with the one code object -/
inductive TS
  | cold
  | warm (c : Addr) (o : Obj)
def tabs1 (P : Addr) (l k : Int) : TS → List (Addr × Obj)
  | .cold => [(P, tabObj #[])]
  | .warm c o => [(P, tabObj #[rawInt l, rawInt k, .ref c]), (c, o)]
def TsOk (P : Addr) (q : Str) : TS → Prop
  | .cold => True
  | .warm c o => P < c ∧ ∃ vs t, o.data = .fields vs ∧ vs[1]? = some (.str q t)
/-- behind a call the table is warm: as it was, or with a new code object -/
def TNext (P : Addr) (l k : Int) (q : Str) (t : TS) (h h' : Heap) : Prop :=
  ∃ c o, TsOk P q (.warm c o) ∧ (∀ p ∈ tabs1 P l k (.warm c o), h'.get? p.1 = some p.2) ∧ (t = .warm c o ∨ (t = .cold ∧ h.objs.size ≤ c))
def PDig (P : Addr) (l k : Int) (q : Str) (a n : Int) (t : TS) (h : Heap) (v : Value) (h' : Heap) : Prop :=
  (∃ D vs, v = .ref D ∧ h'.get? D = some (listOf vs.toArray 0) ∧ IntsAre vs (dg (2 ^ n.toNat) (ndig a n) a) ∧ h.objs.size ≤ D) ∧ TNext P l k q t h h'
theorem tabs_two {P : Addr} {l k : Int} {c : Addr} {o : Obj} {h : Heap} (h1 : h.get? P = some (tabObj #[rawInt l, rawInt k, .ref c])) (h2 : h.get? c = some o) : ∀ p ∈ tabs1 P l k (.warm c o), h.get? p.1 = some p.2 := by
  intro p hp
  rcases List.mem_cons.mp hp with rfl | hp
  · exact h1
  · rw [List.mem_singleton.mp hp]; exact h2

/-- the number of digits to a base, the lowest first -/
def undg (B : Int) : List Int → Int
  | [] => 0
  | d :: r => d + B * undg B r
theorem undg_append (B : Int) : ∀ a b : List Int, undg B (a ++ b) = undg B a + B ^ a.length * undg B b
  | [], b => by simp [undg]
  | d :: r, b => by
    show d + B * undg B (r ++ b) = d + B * undg B r + B ^ (r.length + 1) * undg B b
    rw [undg_append B r b, Int.mul_add, Int.pow_succ', Int.mul_assoc, Int.add_assoc]
theorem undg_bound {B : Int} (hB : 0 < B) : ∀ {a : List Int}, (∀ d ∈ a, 0 ≤ d ∧ d < B) → 0 ≤ undg B a ∧ undg B a < B ^ a.length
  | [], _ => by simp [undg]
  | d :: r, h => by
    have ih := undg_bound hB (a := r) fun x hx => h x (.tail _ hx)
    have hd := h d (.head _)
    show 0 ≤ d + B * undg B r ∧ d + B * undg B r < B ^ (r.length + 1)
    have h1 : 0 ≤ B * undg B r := Int.mul_nonneg (Int.le_of_lt hB) ih.1
    have h2 : B * (undg B r + 1) ≤ B * B ^ r.length := Int.mul_le_mul_of_nonneg_left (by omega) (Int.le_of_lt hB)
    rw [Int.mul_add, Int.mul_one] at h2
    rw [Int.pow_succ']
    omega
theorem undg_dg {B : Int} (hB : 0 < B) : ∀ (k : Nat) (x : Int), 0 ≤ x → x < B ^ k → undg B (dg B k x) = x
  | 0, x, h0, h1 => by simp at h1; show (0 : Int) = x; omega
  | k + 1, x, h0, h1 => by
    show x % B + B * undg B (dg B k (x / B)) = x
    rw [undg_dg hB k (x / B) (Int.ediv_nonneg h0 (Int.le_of_lt hB)) (Int.ediv_lt_of_lt_mul hB (by rw [← Int.pow_succ]; exact h1))]
    exact Int.emod_add_mul_ediv x B
theorem dg_bound {B : Int} (hB : 0 < B) : ∀ (k : Nat) (x : Int), ∀ d ∈ dg B k x, 0 ≤ d ∧ d < B
  | 0, _, _, h => nomatch h
  | k + 1, x, d, h => by
    rcases List.mem_cons.mp h with rfl | h
    · exact ⟨Int.emod_nonneg _ (by omega), Int.emod_lt_of_pos _ hB⟩
    · exact dg_bound hB k _ d h
structure JDat where
  L : Int
  R : Int
  tL : Tok
  tR : Tok
def JDat.sz (d : JDat) : Nat := (d.R - d.L).toNat
def seg (ns : List Int) (lo hi : Int) : List Int := (ns.drop lo.toNat).take (hi - lo).toNat
theorem seg_split {ns : List Int} {lo mid hi : Int} (h0 : 0 ≤ lo) (h1 : lo ≤ mid) (h2 : mid ≤ hi) : seg ns lo hi = seg ns lo mid ++ seg ns mid hi := by
  unfold seg
  have e1 : (hi - lo).toNat = (mid - lo).toNat + (hi - mid).toNat := by omega
  have e2 : mid.toNat = lo.toNat + (mid - lo).toNat := by omega
  rw [e1, List.take_add, List.drop_drop, e2]
theorem seg_length {ns : List Int} {lo hi : Int} (h0 : 0 ≤ lo) (h1 : lo ≤ hi) (h2 : hi ≤ ns.length) : (seg ns lo hi).length = (hi - lo).toNat := by
  unfold seg; simp; omega
theorem seg_mem {ns : List Int} {lo hi : Int} {d : Int} (h : d ∈ seg ns lo hi) : d ∈ ns := List.mem_of_mem_drop (List.mem_of_mem_take h)
theorem seg_one {ns : List Int} {lo : Int} (h0 : 0 ≤ lo) (h1 : lo < ns.length) : seg ns lo (lo + 1) = [ns.getD lo.toNat 0] := by
  unfold seg
  have e : (lo + 1 - lo).toNat = 1 := by omega
  rw [e]
  have hl : lo.toNat < ns.length := by omega
  rw [List.drop_eq_getElem_cons hl, List.getD_eq_getElem?_getD, List.getElem?_eq_getElem hl]
  rfl
theorem seg_all {ns : List Int} : seg ns 0 ns.length = ns := by
  unfold seg; simp
def PUnd (P : Addr) (l k : Int) (q : Str) (ns : List Int) (n : Int) (t : TS) (h : Heap) (v : Value) (h' : Heap) : Prop :=
  (∃ tk, v = .int (undg (2 ^ n.toNat) ns) tk) ∧ TNext P l k q t h h'

theorem not_tabs {P : Addr} {l k : Int} {q : Str} {t : TS} {h : Heap} {a : Addr} {xs : Array Value} {nk : Nat} (ht : ∀ p ∈ tabs1 P l k t, h.get? p.1 = some p.2) (ok : TsOk P q t) (hl : h.get? a = some (listOf xs nk)) : a ∉ (tabs1 P l k t).map (·.1) := by
  intro hm
  obtain ⟨p, hp, rfl⟩ := List.mem_map.mp hm
  have e := (ht p hp).symm.trans hl
  cases t with
  | cold =>
    rw [List.mem_singleton.mp hp] at e
    cases e
  | warm c o =>
    obtain ⟨_, vs, tk, hd, _⟩ := ok
    rcases List.mem_cons.mp hp with rfl | hp
    · cases e
    · rw [List.mem_singleton.mp hp] at e
      have e' : o = listOf xs nk := Option.some.inj e
      rw [e'] at hd
      cases hd
theorem undg_small {ns : List Int} {n : Int} (hn : 0 < n) (hnl : n * ns.length ≤ 60) (hds : ∀ d ∈ ns, 0 ≤ d ∧ d < (2 : Int) ^ n.toNat) {a b : Int} (h0 : 0 ≤ a) (h1 : a ≤ b) (h2 : b ≤ ns.length) :
    0 ≤ undg (2 ^ n.toNat) (seg ns a b) ∧ undg (2 ^ n.toNat) (seg ns a b) < 18446744073709551616 := by
  have hb := undg_bound (B := 2 ^ n.toNat) (Int.pow_pos (by decide)) (a := seg ns a b) fun d hd => hds d (seg_mem hd)
  refine ⟨hb.1, Int.lt_trans hb.2 ?_⟩
  rw [seg_length h0 h1 h2, ← Int.pow_mul]
  obtain ⟨k, rfl⟩ := Int.eq_ofNat_of_zero_le (Int.le_of_lt hn)
  have h3 : k * (b - a).toNat ≤ k * ns.length := Nat.mul_le_mul_left _ (by omega)
  have h4 : k * ns.length ≤ 60 := by exact_mod_cast hnl
  have h5 : (2 : Nat) ^ (k * (b - a).toNat) ≤ 2 ^ 60 := Nat.pow_le_pow_right (by decide) (by omega)
  simp only [Int.toNat_natCast]
  have h6 : ((2 : Int) ^ (k * (b - a).toNat)) = ((2 ^ (k * (b - a).toNat) : Nat) : Int) := by push_cast; rfl
  rw [h6]
  omega
section
open PySem.Spec
variable {prog : Program} {w : World} {A : Around} {E : Value → Shared → Prop} {s : Shared} {env : Env} {h₀ : Heap} {x : Str} {body : List Stmt} {Q : Flow → Shared → Prop}

/-- the end of a loop's turn -/
def TurnM (h₀ : Heap) (L : Addr) (I : Addr) (o : Obj) (Jn : (Str → Option Value) → List (Addr × Obj) → Prop) (s s' : Shared) : Prop :=
  ∃ h' tk' m' nx, s' = { s with heap := h', toks := tk' } ∧ Fr h₀ L h' m' ∧ News h₀ L h' ((I, o) :: nx) ∧ (∀ p ∈ nx, p.1 ≠ I) ∧ Jn m' nx
def TurnPostM (h₀ : Heap) (L : Addr) (I : Addr) (o : Obj) (Jn : (Str → Option Value) → List (Addr × Obj) → Prop) (s : Shared) (Q : Flow → Shared → Prop) (f : Flow) (s' : Shared) : Prop :=
  match f with
  | .ret v => Q (.ret v) s'
  | .brk => Q .next s'
  | _ => TurnM h₀ L I o Jn s s'

theorem loop_M {I : Addr} {fp : List Addr} {n : Nat} {P : Nat → Value → Prop} {St : Nat → Heap → Prop} {m₀ : Str → Option Value} {news : List (Addr × Obj)}
    (J : Nat → (Str → Option Value) → List (Addr × Obj) → Prop) (fixed : List (Addr × Obj)) (hfix : ∀ i m nx, J i m nx → ∀ p ∈ fixed, p ∈ nx)
    (W : Walks prog w A I fp [I] n P St) (hIf : I ∈ fp) (hLf : env.locals ∉ fp) (hI0 : h₀.get? I = none) (hls : ∀ b ∈ fp, b = I ∨ (∃ o, h₀.get? b = some o) ∨ ∃ o, (b, o) ∈ fixed)
    (hob : ∀ i h, St i h → ∃ o, h.get? I = some o)
    (hnI : ∀ p ∈ news, p.1 ≠ I) (hst : St 0 s.heap) (F : Fr h₀ env.locals s.heap m₀) (N : News h₀ env.locals s.heap news) (hj : J 0 m₀ news)
    (turn : ∀ i v m₁ nx h tk o, i < n → P i v → J i m₁ nx → (∀ p ∈ nx, p.1 ≠ I) → Fr h₀ env.locals h (fun y => if y = x then some v else m₁ y) → News h₀ env.locals h ((I, o) :: nx) →
      wpAny (model prog w) A (execs body env) (TurnPostM h₀ env.locals I o (J (i + 1)) { s with heap := h, toks := tk } Q) E { s with heap := h, toks := tk })
    (done : ∀ m₁ nx h tk, J n m₁ nx → Fr h₀ env.locals h m₁ → News h₀ env.locals h nx → Q .next { s with heap := h, toks := tk }) :
    LoopAtV prog w A h₀ env x body Q E (.ref I) s := by
  refine ⟨I, fp, [I], n, P, St, m₀, news, J, rfl, W, hLf, ?_, ?_, hst, F, N, hj, ?_, ?_⟩
  · intro b hb; rw [List.mem_singleton.mp hb]; exact hI0
  · intro p hp hm; exact hnI p hp (List.mem_singleton.mp hm)
  · rintro i v m₁ nx s₁ own ⟨h, tk, rfl⟩ hi hP hJ hoff hown hget hall hst' F₁ N₁
    obtain ⟨o, ho⟩ := hob _ _ hst'
    have hio : (I, o) ∈ own := hall I hIf hI0 o ho
    have hnx : ∀ p ∈ nx, p.1 ≠ I := fun p hp e => hoff p hp (by rw [e]; exact List.mem_singleton.mpr rfl)
    have N₂ : News h₀ env.locals h ((I, o) :: nx) := fun p hp => by
      rcases List.mem_cons.mp hp with rfl | hp
      · exact N₁ _ (List.mem_append_left _ hio)
      · exact N₁ _ (List.mem_append_right _ hp)
    refine wpAny_mono (turn i v m₁ nx h tk o hi hP hJ hnx F₁ N₂) (fun f s₂ p => ?_) fun _ _ e => e
    have fin : TurnM h₀ env.locals I o (J (i + 1)) { s with heap := h, toks := tk } s₂ → LoopStepU h₀ env.locals [I] own (J (i + 1)) { s with heap := h, toks := tk } .next s₂ := by
      rintro ⟨h', tk', m', nx', e, F', N', hn', hJ'⟩
      refine ⟨rfl, h', tk', m', nx', e, F', fun p hp => ?_, fun p hp hm => hn' p hp (List.mem_singleton.mp hm), hJ'⟩
      rcases List.mem_append.mp hp with hp | hp
      · have h3 := N₁ p (List.mem_append_left _ hp)
        rcases hls p.1 (hown p hp) with e1 | ⟨o0, e1⟩ | ⟨o1, e1⟩
        · have e2 : p.2 = o := by
            have h4 := h3.1
            rw [e1, ho] at h4
            exact (Option.some.inj h4).symm
          rw [show p = (I, o) from Prod.ext e1 e2]
          exact N' _ (.head _)
        · have := h3.2.2
          rw [e1] at this; cases this
        · have h4 := hfix _ _ _ hJ _ e1
          have h5 := (N₂ _ (.tail _ h4)).1
          rw [h3.1] at h5
          have e2 : p = (p.1, o1) := Prod.ext rfl (Option.some.inj h5)
          rw [e2]
          exact N' _ (.tail _ (hfix _ _ _ hJ' _ e1))
      · exact N' _ (.tail _ hp)
    cases f with
    | ret v => exact .ret p
    | brk => exact .brk p
    | next => exact .next (fin p)
    | cont => exact .cont (fin p)
  · rintro h' tk m' news' F' N' _ hJ
    exact done m' news' h' tk hJ F' N'

/-- for over a range by ones -/
theorem range_M {r : Addr} {a₀ b₀ : Int} {t₀ u₀ v₀ : Tok} {n : Nat} {m₀ : Str → Option Value} {news : List (Addr × Obj)} (J : Nat → (Str → Option Value) → List (Addr × Obj) → Prop)
    (hh : A.handled = none) (hr : IsRange s.heap r a₀ b₀ 1 t₀ u₀ v₀) (hsmall : Builtin.Range.small a₀ b₀ 1 = true) (hn : Builtin.Range.rangeSize a₀ b₀ 1 = (n : Int)) (F : Fr h₀ env.locals s.heap m₀) (N : News h₀ env.locals s.heap news) (hj : J 0 m₀ news)
    (turn : ∀ (i : Nat) t I m₁ nx h tk o, i < n → J i m₁ nx → (∀ p ∈ nx, p.1 ≠ I) → (∀ p ∈ news, p.1 < I) → Fr h₀ env.locals h (fun y => if y = x then some (.int (a₀ + i) t) else m₁ y) → News h₀ env.locals h ((I, o) :: nx) →
      wpAny (model prog w) A (execs body env) (TurnPostM h₀ env.locals I o (J (i + 1)) { s with heap := h, toks := tk } Q) E { s with heap := h, toks := tk })
    (done : ∀ m₁ nx h tk, J n m₁ nx → Fr h₀ env.locals h m₁ → News h₀ env.locals h nx → Q .next { s with heap := h, toks := tk }) :
    wpAny (model prog w) A (pyIter (.ref r)) (fun it s₂ => LoopAtV prog w A h₀ env x body Q E it s₂) E s := by
  refine wpAny_pyIter_range hr hsmall ?_
  have W : Walks prog w A s.heap.objs.size [s.heap.objs.size] [s.heap.objs.size] n (fun i v => i < n ∧ ∃ t, v = .int (a₀ + i * 1) t)
      (fun i h => IsRangeIter h s.heap.objs.size (a₀ + (i : Nat) * 1) ((n : Int) - (i : Nat)) 1) := (Walks.range hh _ a₀ 1 n).bound
  refine loop_M J [] (fun _ _ _ _ _ hp => nomatch hp) W (List.mem_singleton.mpr rfl) ?_ (next_is_new F) (fun b hb => .inl (List.mem_singleton.mp hb)) (fun i h hs => ⟨_, hs⟩) ?_ (by show IsRangeIter _ _ _ _ _; rw [hn]; simpa using Heap.get?_push_size _ rfl) (F.push _) (fun p hp => ⟨Heap.get?_push_of_some _ (N p hp).1, (N p hp).2⟩) hj ?_ ?_
  · intro hm
    exact absurd F.ns.lt ((List.mem_singleton.mp hm) ▸ Nat.lt_irrefl _)
  · intro p hp e
    exact absurd (Heap.lt_size (N p hp).1) (by rw [e]; exact Nat.lt_irrefl _)
  · rintro i v m₁ nx h tk o hi ⟨_, t, rfl⟩ hJ hnx F₁ N₁
    rw [Int.mul_one] at F₁
    exact turn i t _ m₁ nx h tk o hi hJ hnx (fun p hp => Heap.lt_size (N p hp).1) F₁ N₁
  · exact done

/-- for over a list of the ledger that no turn changes -/
theorem list_M {l : Addr} {vs : List Value} {k : Nat} {m₀ : Str → Option Value} {news : List (Addr × Obj)} (J : Nat → (Str → Option Value) → List (Addr × Obj) → Prop)
    (hh : A.handled = none) (hl : (l, listOf vs.toArray k) ∈ news) (hfix : ∀ i m nx, J i m nx → (l, listOf vs.toArray k) ∈ nx) (F : Fr h₀ env.locals s.heap m₀) (N : News h₀ env.locals s.heap news) (hj : J 0 m₀ news)
    (turn : ∀ (i : Nat) v I m₁ nx h tk o, vs[i]? = some v → J i m₁ nx → (∀ p ∈ nx, p.1 ≠ I) → (∀ p ∈ news, p.1 < I) → Fr h₀ env.locals h (fun y => if y = x then some v else m₁ y) → News h₀ env.locals h ((I, o) :: nx) →
      wpAny (model prog w) A (execs body env) (TurnPostM h₀ env.locals I o (J (i + 1)) { s with heap := h, toks := tk } Q) E { s with heap := h, toks := tk })
    (done : ∀ m₁ nx h tk, J vs.length m₁ nx → Fr h₀ env.locals h m₁ → News h₀ env.locals h nx → Q .next { s with heap := h, toks := tk }) :
    wpAny (model prog w) A (pyIter (.ref l)) (fun it s₂ => LoopAtV prog w A h₀ env x body Q E it s₂) E s := by
  have hol : s.heap.get? l = some (listOf vs.toArray k) := (N _ hl).1
  have hls : s.heap.IsList l vs.toArray := ⟨_, hol, rfl, k, rfl⟩
  have hne : l ≠ s.heap.objs.size := Nat.ne_of_lt (Heap.lt_size hol)
  refine wpAny_pyIter_list hls ?_
  have W := Walks.list (prog := prog) (w := w) hh s.heap.objs.size l hne vs.toArray
  have hlen : vs.toArray.size = vs.length := by simp
  rw [hlen] at W
  refine loop_M J [(l, listOf vs.toArray k)] (fun i m nx hJ p hp => by rw [List.mem_singleton.mp hp]; exact hfix i m nx hJ) W (.head _) ?_ (next_is_new F) ?_ ?_ ?_ ⟨⟨_, Heap.get?_push_size _ rfl, rfl, rfl⟩, hls.at fun o e => Heap.get?_push_of_some _ e⟩ (F.push _) (fun p hp => ⟨Heap.get?_push_of_some _ (N p hp).1, (N p hp).2⟩) hj ?_ ?_
  · intro hm
    rcases List.mem_cons.mp hm with e | hm
    · exact absurd F.ns.lt (e ▸ Nat.lt_irrefl _)
    · exact (N _ hl).2.1 ((List.mem_singleton.mp hm).symm)
  · intro b hb
    rcases List.mem_cons.mp hb with e | hb
    · exact .inl e
    · exact .inr (.inr ⟨_, by rw [List.mem_singleton.mp hb]; exact List.mem_singleton.mpr rfl⟩)
  · rintro i h ⟨⟨o, ho, _⟩, _⟩
    exact ⟨o, ho⟩
  · intro p hp e
    exact absurd (Heap.lt_size (N p hp).1) (by rw [e]; exact Nat.lt_irrefl _)
  · rintro i v m₁ nx h tk o hi hP hJ hnx F₁ N₁
    exact turn i v _ m₁ nx h tk o (by simpa using hP) hJ hnx (fun p hp => Heap.lt_size (N p hp).1) F₁ N₁
  · exact done

/-- for over reversed(a list of the ledger) -/
theorem rev_M {ax I : Addr} {vs : List Value} {k : Nat} {m₀ : Str → Option Value} {news : List (Addr × Obj)} (J : Nat → (Str → Option Value) → List (Addr × Obj) → Prop)
    (hh : A.handled = none) (F : Fr h₀ env.locals s.heap m₀) (N : News h₀ env.locals s.heap ((I, revObj ax ((vs.length : Int) - 1)) :: news)) (hoff : ∀ p ∈ news, p.1 ≠ I) (hm : (ax, listOf vs.toArray k) ∈ news) (hfix : ∀ i m nx, J i m nx → (ax, listOf vs.toArray k) ∈ nx) (hj : J 0 m₀ news)
    (turn : ∀ (i : Nat) v m₁ nx h tk o, vs.reverse[i]? = some v → J i m₁ nx → (∀ p ∈ nx, p.1 ≠ I) → Fr h₀ env.locals h (fun y => if y = x then some v else m₁ y) → News h₀ env.locals h ((I, o) :: nx) →
      wpAny (model prog w) A (execs body env) (TurnPostM h₀ env.locals I o (J (i + 1)) { s with heap := h, toks := tk } Q) E { s with heap := h, toks := tk })
    (done : ∀ m₁ nx h tk, J vs.length m₁ nx → Fr h₀ env.locals h m₁ → News h₀ env.locals h nx → Q .next { s with heap := h, toks := tk }) :
    wpAny (model prog w) A (pyIter (.ref I)) (fun it s₂ => LoopAtV prog w A h₀ env x body Q E it s₂) E s := by
  have hIx := N _ (List.mem_cons_self ..)
  have hax := N _ (List.mem_cons_of_mem _ hm)
  have hl : s.heap.IsList ax vs.toArray := ⟨_, hax.1, rfl, k, rfl⟩
  have hne : ax ≠ I := hoff _ hm
  have hit : s.heap.IsRevIter I ax ((vs.length : Int) - 1) := ⟨_, hIx.1, rfl, rfl⟩
  refine wpAny_pyIter_revIter hit ?_
  have W := Walks.listRev (prog := prog) (w := w) hh I ax hne vs.toArray
  have hlen : vs.toArray.size = vs.length := by simp
  rw [hlen] at W
  refine loop_M J [(ax, listOf vs.toArray k)] (fun i m nx hJ p hp => by rw [List.mem_singleton.mp hp]; exact hfix i m nx hJ) W (.head _) ?_ hIx.2.2 ?_ ?_ hoff ⟨Nat.zero_le _, ?_, hl⟩ F (fun p hp => N p (List.mem_cons_of_mem _ hp)) hj ?_ ?_
  · intro hmm
    rcases List.mem_cons.mp hmm with e | hmm
    · exact hIx.2.1 e.symm
    · exact hax.2.1 (List.mem_singleton.mp hmm).symm
  · intro b hb
    rcases List.mem_cons.mp hb with e | hb
    · exact .inl e
    · exact .inr (.inr ⟨_, by rw [List.mem_singleton.mp hb]; exact List.mem_singleton.mpr rfl⟩)
  · rintro i h ⟨_, ⟨o, ho, _⟩, _⟩
    exact ⟨o, ho⟩
  · have e : (vs.length : Int) - 1 - ((0 : Nat) : Int) = (vs.length : Int) - 1 := by omega
    rw [e]
    exact hit
  · rintro i v m₁ nx h tk o hi hP hJ hnx F₁ N₁
    refine turn i v m₁ nx h tk o ?_ hJ hnx F₁ N₁
    rw [List.getElem?_reverse hi]
    simpa using hP
  · exact done
end

section
variable {prog : Program} {w : World} {A : Around} {E : Value → Shared → Prop} {s : Shared} {h₀ : Heap} {L D : Addr} {m : Str → Option Value} {news news' : List (Addr × Obj)} {vs : List Value} {k : Nat} {x : Value} {Q : Value → Shared → Prop}
theorem append_M (F : Fr h₀ L s.heap m) (N : News h₀ L s.heap news) (U : Upd D (listOf vs.toArray k) (listOf (vs ++ [x]).toArray (k + 1)) news news') (hsz : vs.length ≤ 1048576)
    (h : ∀ h', Fr h₀ L h' m → News h₀ L h' news' → Q .none { s with heap := h' }) : wpAny (model prog w) A (call (.builtin "list.append") [.ref D, x]) Q E s := by
  have e : (vs ++ [x]).toArray = vs.toArray.push x := by simp
  rw [e] at U
  exact append_K F N U h (by rw [List.size_toArray, sizeLine_eq]; omega)
theorem reverse_M (F : Fr h₀ L s.heap m) (N : News h₀ L s.heap news) (U : Upd D (listOf vs.toArray k) (listOf vs.reverse.toArray k) news news') (hsz : vs.length ≤ 1048576)
    (h : ∀ h', Fr h₀ L h' m → News h₀ L h' news' → Q .none { s with heap := h' }) : wpAny (model prog w) A (call (.builtin "list.reverse") [.ref D]) Q E s :=
  kl_reverse F N rfl U (by show vs.length ≤ sizeLine; rw [sizeLine_eq]; omega) h
end
theorem ints_reverse {vs : List Value} {ns : List Int} (h : IntsAre vs ns) : IntsAre vs.reverse ns.reverse := by
  induction h with
  | nil => exact .nil
  | cons n t h ih => rw [List.reverse_cons, List.reverse_cons]; exact IntsAre.append ih (.cons n t .nil)

/-- a loop's frame: what it knows of the names -/
def JM (x : Str) (stored : List Str) (m₀ : Str → Option Value) (ps : List (Str × Value)) (m : Str → Option Value) : Prop :=
  (∀ p ∈ ps, m p.1 = some p.2) ∧ ∀ z, z ≠ x → (∀ p ∈ ps, z ≠ p.1) → stored.contains z = false → m z = m₀ z
theorem JM.fr {x : Str} {stored : List Str} {m₀ m : Str → Option Value} {ps : List (Str × Value)} {h₀ h : Heap} {L : Addr} {v : Value} (j : JM x stored m₀ ps m) (F : Fr h₀ L h (fun y => if y = x then some v else m y)) :
    Fr h₀ L h (fun y => if y = x then some v else kstB (fun z => if stored.contains z then m z else m₀ z) ps y) := kst_fr j.1 j.2 F
theorem JM.frOut {x : Str} {stored : List Str} {m₀ m : Str → Option Value} {ps : List (Str × Value)} {h₀ h : Heap} {L : Addr} (j : JM x stored m₀ ps m) (F : Fr h₀ L h m) :
    Fr h₀ L h (fun y => if y = x then m y else kstB (fun z => if stored.contains z then m z else m₀ z) ps y) := kst_frOut j.1 j.2 F

/-- the number of digits, the highest first -/
def hv (B : Int) (l : List Int) : Int := l.foldl (fun v d => v * B + d) 0
theorem hv_snoc (B : Int) (l : List Int) (d : Int) : hv B (l ++ [d]) = hv B l * B + d := by
  unfold hv; rw [List.foldl_append]; rfl
theorem hv_rev (B : Int) : ∀ l : List Int, hv B l.reverse = undg B l
  | [] => rfl
  | d :: r => by
    rw [List.reverse_cons, hv_snoc, hv_rev B r, Int.mul_comm, Int.add_comm]; rfl
def PDiv (a b : Int) (h : Heap) (v : Value) (h' : Heap) : Prop :=
  ∃ D t1 t2, v = .ref D ∧ h'.get? D = some { cls := .type "tuple", data := .seq #[.int (a / b) t1, .int (a % b) t2] } ∧ h.objs.size ≤ D
theorem tabs_apart {h₀ h : Heap} {L : Addr} {P1 P2 : Addr} {l1 k1 l2 k2 : Int} {q1 q2 : Str} {t1 t2 : TS} (N1 : News h₀ L h (tabs1 P1 l1 k1 t1)) (N2 : News h₀ L h (tabs1 P2 l2 k2 t2)) (ok1 : TsOk P1 q1 t1) (ok2 : TsOk P2 q2 t2) (hP : P1 ≠ P2) (hq : q1 ≠ q2) :
    ∀ p ∈ tabs1 P1 l1 k1 t1, ∀ q ∈ tabs1 P2 l2 k2 t2, p.1 ≠ q.1 := by
  intro p hp q hq' e
  have e1 := (N1 p hp).1
  have e2 := (N2 q hq').1
  rw [e] at e1
  have eo : p.2 = q.2 := Option.some.inj (e1.symm.trans e2)
  have tab : ∀ {P : Addr} {l k : Int} {t : TS} {p : Addr × Obj}, p ∈ tabs1 P l k t → (p.1 = P ∧ (p.2 = tabObj #[] ∨ ∃ c, p.2 = tabObj #[rawInt l, rawInt k, .ref c])) ∨ (∃ c o, t = .warm c o ∧ p = (c, o)) := by
    intro P l k t p hp
    cases t with
    | cold => rw [List.mem_singleton.mp hp]; exact .inl ⟨rfl, .inl rfl⟩
    | warm c o =>
      rcases List.mem_cons.mp hp with rfl | hp
      · exact .inl ⟨rfl, .inr ⟨c, rfl⟩⟩
      · exact .inr ⟨c, o, rfl, List.mem_singleton.mp hp⟩
  have no : ∀ {l k : Int} {c : Addr} {o : Obj} {q : Str} {ps : Array Value}, (∃ vs t, o.data = .fields vs ∧ vs[1]? = some (.str q t)) → (ps = #[] ∨ ps = #[rawInt l, rawInt k, .ref c]) → o = tabObj ps → False := by
    rintro l k c o q ps ⟨vs, t, hd, hv⟩ hps rfl
    cases hd
    rcases hps with rfl | rfl
    · cases hv
    · cases hv
  rcases tab hp with ⟨ep, hp1⟩ | ⟨c, o, rfl, rfl⟩
  · rcases tab hq' with ⟨eq, _⟩ | ⟨c', o', rfl, rfl⟩
    · exact hP (ep.symm.trans (e.trans eq))
    · rcases hp1 with h1 | ⟨c, h1⟩
      · exact no (l := 0) (k := 0) (c := 0) ok2.2 (.inl rfl) (eo.symm.trans h1)
      · exact no ok2.2 (.inr rfl) (eo.symm.trans h1)
  · rcases tab hq' with ⟨eq, hq1⟩ | ⟨c', o', rfl, rfl⟩
    · rcases hq1 with h1 | ⟨c, h1⟩
      · exact no (l := 0) (k := 0) (c := 0) ok1.2 (.inl rfl) (eo.trans h1)
      · exact no ok1.2 (.inr rfl) (eo.trans h1)
    · obtain ⟨_, vs, t, hd, hv⟩ := ok1
      obtain ⟨_, vs', t', hd', hv'⟩ := ok2
      dsimp only at eo
      subst eo
      rw [hd] at hd'
      cases hd'
      rw [hv] at hv'
      cases hv'
      exact hq rfl
theorem tabs_news {h₀ h h' : Heap} {L : Addr} {m : Str → Option Value} {P : Addr} {l k : Int} {t : TS} {c : Addr} {o : Obj} (F : Fr h₀ L h m) (N : News h₀ L h (tabs1 P l k t)) (hc : ∀ p ∈ tabs1 P l k (.warm c o), h'.get? p.1 = some p.2) (hcase : t = .warm c o ∨ (t = .cold ∧ h.objs.size ≤ c)) :
    News h₀ L h' (tabs1 P l k (.warm c o)) := by
  intro p hp
  refine ⟨hc p hp, ?_⟩
  rcases hcase with rfl | ⟨rfl, hs⟩
  · exact (N p hp).2
  · rcases List.mem_cons.mp hp with rfl | hp
    · exact (N (P, tabObj #[]) (.head _)).2
    · rw [List.mem_singleton.mp hp]
      exact ⟨Nat.ne_of_gt (Nat.lt_of_lt_of_le F.ns.lt hs), none_of_size (Nat.le_trans (Nat.le_trans F.above (Nat.le_of_lt F.ns.lt)) hs)⟩
theorem TNext.of {P : Addr} {l k : Int} {q : Str} {t : TS} {c : Addr} {o : Obj} {h h' : Heap} (ok : TsOk P q (.warm c o)) (hc : ∀ p ∈ tabs1 P l k (.warm c o), h'.get? p.1 = some p.2) (hcase : t = .warm c o ∨ (t = .cold ∧ h.objs.size ≤ c)) : TNext P l k q t h h' := ⟨c, o, ok, hc, hcase⟩
theorem case_mono {t : TS} {c : Addr} {o : Obj} {h s : Heap} (hs : s.objs.size ≤ h.objs.size) (hcase : t = .warm c o ∨ (t = .cold ∧ h.objs.size ≤ c)) : t = .warm c o ∨ (t = .cold ∧ s.objs.size ≤ c) :=
  hcase.imp id fun x => ⟨x.1, Nat.le_trans hs x.2⟩
/-- what is not the table's stays -/
theorem off_of_apart {a b : List (Addr × Obj)} (h : ∀ p ∈ a, ∀ q ∈ b, p.1 ≠ q.1) : ∀ q ∈ b, q.1 ∉ a.map (·.1) := fun q hq hm => by
  obtain ⟨p, hp, e⟩ := List.mem_map.mp hm
  exact h p hp q hq e
theorem news_left {h₀ h : Heap} {L : Addr} {a b : List (Addr × Obj)} (N : News h₀ L h (a ++ b)) : News h₀ L h a := fun p hp => N p (List.mem_append_left _ hp)
theorem news_right {h₀ h : Heap} {L : Addr} {a b : List (Addr × Obj)} (N : News h₀ L h (a ++ b)) : News h₀ L h b := fun p hp => N p (List.mem_append_right _ hp)
theorem news_append {h₀ h : Heap} {L : Addr} {a b : List (Addr × Obj)} (N1 : News h₀ L h a) (N2 : News h₀ L h b) : News h₀ L h (a ++ b) := fun p hp => (List.mem_append.mp hp).elim (N1 p) (N2 p)
theorem q_ne : (Str.ofString "_int2digits.<locals>.inner") ≠ Str.ofString "_digits2int.<locals>.inner" := by decide +kernel
theorem ints_append {a b : List Value} {x y : List Int} (h1 : IntsAre a x) (h2 : IntsAre b y) : IntsAre (a ++ b) (x ++ y) := IntsAre.append h1 h2
theorem ints_get {vs : List Value} {ns : List Int} (h : IntsAre vs ns) {i : Nat} {v : Value} (hv : vs[i]? = some v) : ∃ d t, v = .int d t ∧ ns[i]? = some d := by
  have hi : i < vs.length := (List.getElem?_eq_some_iff.mp hv).1
  have hl := h.length
  have hn : ns[i]? = some ns[i] := List.getElem?_eq_getElem (by omega)
  obtain ⟨t, e⟩ := h.get i _ hn
  rw [e] at hv
  exact ⟨_, t, (Option.some.inj hv).symm, hn⟩
theorem fr_name {h₀ h : Heap} {L : Addr} {m : Str → Option Value} (F : Fr h₀ L h m) : ∃ m0, m0 = m ∧ Fr h₀ L h m0 := ⟨m, rfl, F⟩
theorem shl_facts {r B b d : Int} (r0 : 0 ≤ r) (rb : r < b) (d0 : 0 ≤ d) (dB : d < B) : 0 ≤ r * B + d ∧ r * B + d < b * B := by
  have h1 : 0 ≤ r * B := Int.mul_nonneg r0 (by omega)
  have h2 : (r + 1) * B ≤ b * B := Int.mul_le_mul_of_nonneg_right (by omega) (by omega)
  rw [Int.add_mul, Int.one_mul] at h2
  omega
theorem step_inv {H b B r d : Int} : (H * b + r) * B + d = (H * B + (r * B + d) / b) * b + (r * B + d) % b := by
  have h := Int.emod_add_mul_ediv (r * B + d) b
  have e1 : (H * b + r) * B = H * B * b + r * B := by rw [Int.add_mul, Int.mul_right_comm]
  have e2 : (H * B + (r * B + d) / b) * b = H * B * b + b * ((r * B + d) / b) := by rw [Int.add_mul, Int.mul_comm ((r * B + d) / b) b]
  rw [e1, e2]
  omega
theorem ndig_mul {a n : Int} (ha : 0 ≤ a) (hlt : a < 1048576) (hn : 0 < n) (hn2 : n ≤ 20) : n * ndig a n ≤ 60 := by
  have h1 := bits_le ha (k := 20) (by simpa using hlt)
  unfold ndig
  generalize (((Builtin.Int.intBits a : Nat) : Int)) = b at *
  by_cases hb : 0 ≤ (b + n - 1) / n
  · rw [Int.toNat_of_nonneg hb]
    have := Int.emod_add_mul_ediv (b + n - 1) n
    have := Int.emod_nonneg (b + n - 1) (show n ≠ 0 by omega)
    omega
  · rw [Int.toNat_of_nonpos (by omega)]; simp
theorem a_value {a n : Int} (ha : 0 ≤ a) (hn : 0 < n) : hv (2 ^ n.toNat) (dg (2 ^ n.toNat) (ndig a n) a).reverse = a := by
  rw [hv_rev]
  refine undg_dg (Int.pow_pos (by decide)) _ _ ha ?_
  by_cases h0 : a = 0
  · subst h0; rw [ndig_zero hn, Int.pow_zero]; decide
  · exact lt_dig ha h0 hn
theorem qr_of {a b q r : Int} (h : a = q * b + r) (r0 : 0 ≤ r) (rb : r < b) : q = a / b ∧ r = a % b := by
  have := (Int.ediv_emod_unique (a := a) (b := b) (q := q) (r := r) (by omega)).mpr ⟨by rw [h, Int.mul_comm]; omega, r0, rb⟩
  exact ⟨this.1.symm, this.2.symm⟩
def PDm (P1 : Addr) (l1 k1 : Int) (P2 : Addr) (l2 k2 : Int) (a b : Int) (t1 t2 : TS) (h : Heap) (v : Value) (h' : Heap) : Prop :=
  PDiv a b h v h' ∧ TNext P1 l1 k1 (Str.ofString "_int2digits.<locals>.inner") t1 h h' ∧ TNext P2 l2 k2 (Str.ofString "_digits2int.<locals>.inner") t2 h h'

section
variable {prog : Program} {w : World} {A : Around} {E : Value → Shared → Prop} {s : Shared} {a b : Int} {t u : Tok} {Q : Value → Shared → Prop}
theorem fdiv_M (hb : 0 < b) (hb2 : b < 1073741824) (h : Q (.int (a / b) s.toks) { s with toks := s.toks + 1 }) : wpAny (model prog w) A (binaryOp .FloorDiv (.int a t) (.int b u)) Q E s :=
  floordiv_int (by omega) (by rw [Int.fdiv_eq_ediv_of_nonneg _ (by omega)]; exact h) (.inl (PyProof.noPylong_small (by omega)))
theorem mod_M (hb : 0 < b) (h : Q (.int (a % b) s.toks) { s with toks := s.toks + 1 }) : wpAny (model prog w) A (binaryOp .Mod (.int a t) (.int b u)) Q E s :=
  mod_int' (by omega) (by rw [Int.fmod_eq_emod_of_nonneg _ (by omega)]; exact h)
end
/-- a list of ints in order -/
def Srt (ns : List Int) : Prop := ∀ i j : Nat, i ≤ j → j < ns.length → ns.getD i 0 ≤ ns.getD j 0
/-- where x is to stand, to the left -/
def Bis (ns : List Int) (x r : Int) : Prop := 0 ≤ r ∧ r ≤ ns.length ∧ (∀ i : Nat, (i : Int) < r → ns.getD i 0 < x) ∧ ∀ i : Nat, r ≤ i → i < ns.length → x ≤ ns.getD i 0
def PBis (ns : List Int) (x : Int) (_h : Heap) (v : Value) (_h' : Heap) : Prop := ∃ r t, v = .int r t ∧ Bis ns x r
def BLoop (ns : List Int) (x lo hi : Int) : Prop := 0 ≤ lo ∧ lo ≤ hi ∧ hi ≤ ns.length ∧ (∀ i : Nat, (i : Int) < lo → ns.getD i 0 < x) ∧ ∀ i : Nat, hi ≤ i → i < ns.length → x ≤ ns.getD i 0
theorem BLoop.start {ns : List Int} {x : Int} : BLoop ns x 0 ns.length := ⟨Int.le_refl _, by omega, Int.le_refl _, fun i h => by omega, fun i h1 h2 => by omega⟩
theorem BLoop.right {ns : List Int} {x lo hi : Int} (hs : Srt ns) (b : BLoop ns x lo hi) (h : lo < hi) (hx : ns.getD ((lo + hi) / 2).toNat 0 < x) : BLoop ns x ((lo + hi) / 2 + 1) hi := by
  obtain ⟨h0, h1, h2, h3, h4⟩ := b
  refine ⟨by omega, by omega, h2, fun i hi' => ?_, h4⟩
  exact Int.lt_of_le_of_lt (hs i ((lo + hi) / 2).toNat (by omega) (by omega)) hx
theorem BLoop.left {ns : List Int} {x lo hi : Int} (hs : Srt ns) (b : BLoop ns x lo hi) (h : lo < hi) (hx : ¬ ns.getD ((lo + hi) / 2).toNat 0 < x) : BLoop ns x lo ((lo + hi) / 2) := by
  obtain ⟨h0, h1, h2, h3, h4⟩ := b
  refine ⟨h0, by omega, by omega, h3, fun i hi' hl => ?_⟩
  exact Int.le_trans (Int.not_lt.mp hx) (hs ((lo + hi) / 2).toNat i (by omega) hl)
theorem BLoop.out {ns : List Int} {x lo hi : Int} (b : BLoop ns x lo hi) (h : ¬ lo < hi) : Bis ns x lo := by
  obtain ⟨h0, h1, h2, h3, h4⟩ := b
  exact ⟨h0, by omega, h3, fun i hi' hl => h4 i (by omega) hl⟩

def ins (ns : List Int) (r : Nat) (x : Int) : List Int := ns.take r ++ x :: ns.drop r
def PIns (l : Addr) (ns : List Int) (k : Nat) (x : Int) (_h : Heap) (v : Value) (h' : Heap) : Prop :=
  v = .none ∧ ∃ (r : Int) (vs' : List Value), Bis ns x r ∧ h'.get? l = some (listOf vs'.toArray (k + 1)) ∧ IntsAre vs' (ins ns r.toNat x)
theorem ints_take {vs : List Value} {ns : List Int} (h : IntsAre vs ns) : ∀ r, IntsAre (vs.take r) (ns.take r) := by
  induction h with
  | nil => intro r; simp; exact .nil
  | cons n t h ih =>
    intro r
    cases r with
    | zero => exact .nil
    | succ r => exact .cons n t (ih r)
theorem ints_drop {vs : List Value} {ns : List Int} (h : IntsAre vs ns) : ∀ r, IntsAre (vs.drop r) (ns.drop r) := by
  induction h with
  | nil => intro r; simp; exact .nil
  | cons n t h ih =>
    intro r
    cases r with
    | zero => exact .cons n t h
    | succ r => exact ih r
theorem ints_ins {vs : List Value} {ns : List Int} (h : IntsAre vs ns) (r : Nat) (x : Int) (t : Tok) : IntsAre (vs.take r ++ .int x t :: vs.drop r) (ins ns r x) :=
  IntsAre.append (ints_take h r) (.cons x t (ints_drop h r))
section
variable {prog : Program} {w : World} {A : Around} {E : Value → Shared → Prop} {s : Shared} {h₀ : Heap} {L D : Addr} {m : Str → Option Value} {news news' : List (Addr × Obj)} {vs : List Value} {k : Nat} {r : Int} {u : Tok} {y : Value} {Q : Value → Shared → Prop}
theorem insert_M (F : Fr h₀ L s.heap m) (N : News h₀ L s.heap news) (U : Upd D (listOf vs.toArray k) (listOf (vs.take r.toNat ++ y :: vs.drop r.toNat).toArray (k + 1)) news news') (h0 : 0 ≤ r) (h1 : r ≤ vs.length) (hsz : vs.length ≤ 1000000)
    (h : ∀ h', Fr h₀ L h' m → News h₀ L h' news' → Q .none { s with heap := h' }) : wpAny (model prog w) A (call (.builtin "list.insert") [.ref D, .int r u, y]) Q E s := by
  refine kl_insert F N (fitsIndex_of h0 (by omega)) ?_ U (by show vs.length ≤ sizeLine; rw [sizeLine_eq]; omega) h
  show kl_ins vs r y = _
  unfold kl_ins
  rw [if_neg (by omega), Nat.min_eq_left (by omega)]
end

/-- both tables behind a call of int_divmod -/
theorem dm_news {h₀ h h' : Heap} {L : Addr} {m : Str → Option Value} {P1 P2 : Addr} {l1 k1 l2 k2 : Int} {q1 q2 : Str} {t1 t2 : TS} (F : Fr h₀ L h m) (N : News h₀ L h (tabs1 P1 l1 k1 t1 ++ tabs1 P2 l2 k2 t2)) (n1 : TNext P1 l1 k1 q1 t1 h h') (n2 : TNext P2 l2 k2 q2 t2 h h') :
    ∃ c1 o1 c2 o2, TsOk P1 q1 (.warm c1 o1) ∧ TsOk P2 q2 (.warm c2 o2) ∧ News h₀ L h' (tabs1 P1 l1 k1 (.warm c1 o1) ++ tabs1 P2 l2 k2 (.warm c2 o2)) ∧ (t1 = .warm c1 o1 ∨ (t1 = .cold ∧ h.objs.size ≤ c1)) ∧ (t2 = .warm c2 o2 ∨ (t2 = .cold ∧ h.objs.size ≤ c2)) := by
  obtain ⟨c1, o1, ok1, hc1, ca1⟩ := n1
  obtain ⟨c2, o2, ok2, hc2, ca2⟩ := n2
  exact ⟨c1, o1, c2, o2, ok1, ok2, news_append (tabs_news F (news_left N) hc1 ca1) (tabs_news F (news_right N) hc2 ca2), ca1, ca2⟩

/-- Newton's doublings -/
def fo (count unit : Int) : Nat → Int
  | 0 => 1
  | k + 1 => fo count unit k * (2 - count * fo count unit k) % unit
def oth (count unit : Int) : Int := (unit - fo count unit 4) % unit
theorem fo_bound {count unit : Int} (hu : 2 ≤ unit) (hu2 : unit ≤ 64) : ∀ k, 0 ≤ fo count unit k ∧ fo count unit k ≤ 64
  | 0 => by show (0 : Int) ≤ 1 ∧ (1 : Int) ≤ 64; decide
  | k + 1 => by
    have h1 := Int.emod_nonneg (fo count unit k * (2 - count * fo count unit k)) (show unit ≠ 0 by omega)
    have h2 := Int.emod_lt_of_pos (fo count unit k * (2 - count * fo count unit k)) (show 0 < unit by omega)
    exact ⟨h1, by show _ % unit ≤ 64; omega⟩
/-- Montgomery's reduction -/
def oft (number unit other : Int) : Int := number % unit * other % unit
def redc (number count unit other : Int) : Int :=
  if (number + oft number unit other * count) / unit ≥ count then (number + oft number unit other * count) / unit - count else (number + oft number unit other * count) / unit

/-- both code tables, as the ledger holds them -/
def TabsIs (P1 : Addr) (l1 k1 : Int) (P2 : Addr) (l2 k2 : Int) (TL : List (Addr × Obj)) : Prop :=
  ∃ t1 t2, TL = tabs1 P1 l1 k1 t1 ++ tabs1 P2 l2 k2 t2 ∧ TsOk P1 (Str.ofString "_int2digits.<locals>.inner") t1 ∧ TsOk P2 (Str.ofString "_digits2int.<locals>.inner") t2
/-- the tables behind a call -/
def TNx (P1 : Addr) (l1 k1 : Int) (P2 : Addr) (l2 k2 : Int) (TL : List (Addr × Obj)) (h : Heap) (TL' : List (Addr × Obj)) (h' : Heap) : Prop :=
  TabsIs P1 l1 k1 P2 l2 k2 TL' ∧ (∀ p ∈ TL', h'.get? p.1 = some p.2) ∧ ∀ p ∈ TL', p.1 ∈ TL.map (·.1) ∨ h.objs.size ≤ p.1
theorem tab_head {P : Addr} {l k : Int} (t : TS) : ∃ o, (P, o) ∈ tabs1 P l k t := by
  cases t with
  | cold => exact ⟨_, .head _⟩
  | warm c o => exact ⟨_, .head _⟩
theorem head_l {P : Addr} {l k : Int} (t : TS) (b : List (Addr × Obj)) : P ∈ (tabs1 P l k t ++ b).map (·.1) := by
  obtain ⟨o, ho⟩ := tab_head (P := P) (l := l) (k := k) t
  exact List.mem_map.mpr ⟨_, List.mem_append_left _ ho, rfl⟩
theorem head_r {P : Addr} {l k : Int} (t : TS) (b : List (Addr × Obj)) : P ∈ (b ++ tabs1 P l k t).map (·.1) := by
  obtain ⟨o, ho⟩ := tab_head (P := P) (l := l) (k := k) t
  exact List.mem_map.mpr ⟨_, List.mem_append_right _ ho, rfl⟩
section
variable {P1 P2 : Addr} {l1 k1 l2 k2 : Int} {TL TL' : List (Addr × Obj)} {h h' h₀ : Heap} {L : Addr}
theorem TNx.ne {K : Addr} {o : Obj} (x : TNx P1 l1 k1 P2 l2 k2 TL h TL' h') (s : ∀ p ∈ TL, p.1 ≠ K) (hK : h.get? K = some o) : ∀ p ∈ TL', p.1 ≠ K := fun p hp e => by
  rcases x.2.2 p hp with hm | hm
  · obtain ⟨q, hq, e2⟩ := List.mem_map.mp hm
    exact s q hq (e2.trans e)
  · exact absurd (Heap.lt_size hK) (by rw [← e]; exact Nat.not_lt.mpr hm)
theorem first_tabs {h₀ h h' : Heap} {L : Addr} {m : Str → Option Value} {P1 P2 : Addr} {l1 k1 l2 k2 : Int} {t : TS} (hP : P1 ≠ P2) (F : Fr h₀ L h m) (N : News h₀ L h [(P2, tabObj #[]), (P1, tabObj #[])]) (G : KeepsBut ((tabs1 P1 l1 k1 t).map (·.1)) h h') (ht : t = .cold)
    (n1 : TNext P1 l1 k1 (Str.ofString "_int2digits.<locals>.inner") t h h') : ∃ TL, TabsIs P1 l1 k1 P2 l2 k2 TL ∧ News h₀ L h' TL := by
  subst ht
  obtain ⟨c1, o1, ok1, hc1, ca1⟩ := n1
  refine ⟨tabs1 P1 l1 k1 (.warm c1 o1) ++ tabs1 P2 l2 k2 .cold, ⟨_, _, rfl, ok1, trivial⟩, news_append (tabs_news F (fun p hp => ?_) hc1 ca1) fun p hp => ?_⟩
  · rw [List.mem_singleton.mp hp]; exact N _ (.tail _ (.head _))
  · rw [List.mem_singleton.mp hp]
    have n2 := N _ (.head _)
    refine ⟨G _ _ (fun hm => ?_) n2.1, n2.2⟩
    exact hP (List.mem_singleton.mp hm).symm
theorem TNx.news {m : Str → Option Value} (F : Fr h₀ L h m) (N : News h₀ L h TL) (x : TNx P1 l1 k1 P2 l2 k2 TL h TL' h') : News h₀ L h' TL' := fun p hp => by
  refine ⟨x.2.1 p hp, ?_⟩
  rcases x.2.2 p hp with hm | hm
  · obtain ⟨q, hq, e2⟩ := List.mem_map.mp hm
    rw [← e2]; exact (N q hq).2
  · exact ⟨Nat.ne_of_gt (Nat.lt_of_lt_of_le F.ns.lt hm), none_of_size (Nat.le_trans (Nat.le_trans F.above (Nat.le_of_lt F.ns.lt)) hm)⟩
theorem off_one {K : Addr} (s : ∀ p ∈ TL, p.1 ≠ K) : K ∉ TL.map (·.1) := fun hm => by
  obtain ⟨q, hq, e⟩ := List.mem_map.mp hm
  exact s q hq e
/-- one object of the ledger stays -/
theorem keep_one {K : Addr} {o : Obj} (G : KeepsBut (TL.map (·.1)) h h') (s : ∀ p ∈ TL, p.1 ≠ K) (hN : h.get? K = some o ∧ K ≠ L ∧ h₀.get? K = none) {R : List (Addr × Obj)} (N : News h₀ L h' R) : News h₀ L h' ((K, o) :: R) :=
  news_cons (G _ _ (off_one s) hN.1) hN.2.1 hN.2.2 N
theorem tnx_refl (T : TabsIs P1 l1 k1 P2 l2 k2 TL) (hg : ∀ p ∈ TL, h.get? p.1 = some p.2) : TNx P1 l1 k1 P2 l2 k2 TL h TL h := ⟨T, hg, fun p hp => .inl (List.mem_map_of_mem hp)⟩
theorem tnx_of {t1 t2 : TS} (n1 : TNext P1 l1 k1 (Str.ofString "_int2digits.<locals>.inner") t1 h h') (n2 : TNext P2 l2 k2 (Str.ofString "_digits2int.<locals>.inner") t2 h h') :
    ∃ TL', TNx P1 l1 k1 P2 l2 k2 (tabs1 P1 l1 k1 t1 ++ tabs1 P2 l2 k2 t2) h TL' h' := by
  obtain ⟨c1, o1, ok1, hc1, ca1⟩ := n1
  obtain ⟨c2, o2, ok2, hc2, ca2⟩ := n2
  refine ⟨tabs1 P1 l1 k1 (.warm c1 o1) ++ tabs1 P2 l2 k2 (.warm c2 o2), ⟨_, _, rfl, ok1, ok2⟩, fun p hp => (List.mem_append.mp hp).elim (hc1 p) (hc2 p), fun p hp => ?_⟩
  rcases List.mem_append.mp hp with hp | hp
  · rcases List.mem_cons.mp hp with rfl | hp
    · left
      exact head_l t1 _
    · rw [List.mem_singleton.mp hp]
      rcases ca1 with rfl | ⟨rfl, hs⟩
      · left; exact List.mem_map_of_mem (f := (·.1)) (a := (c1, o1)) (List.mem_append_left _ (.tail _ (.head _)))
      · exact .inr hs
  · rcases List.mem_cons.mp hp with rfl | hp
    · left
      exact head_r t2 _
    · rw [List.mem_singleton.mp hp]
      rcases ca2 with rfl | ⟨rfl, hs⟩
      · left; exact List.mem_map_of_mem (f := (·.1)) (a := (c2, o2)) (List.mem_append_right _ (.tail _ (.head _)))
      · exact .inr hs
theorem tnx_first {t1 t2 : TS} (N : News h₀ L h (tabs1 P1 l1 k1 t1 ++ tabs1 P2 l2 k2 t2)) (ok1 : TsOk P1 (Str.ofString "_int2digits.<locals>.inner") t1) (ok2 : TsOk P2 (Str.ofString "_digits2int.<locals>.inner") t2) (hP : P1 ≠ P2)
    (G : KeepsBut ((tabs1 P1 l1 k1 t1).map (·.1)) h h') (n1 : TNext P1 l1 k1 (Str.ofString "_int2digits.<locals>.inner") t1 h h') :
    ∃ TL', TNx P1 l1 k1 P2 l2 k2 (tabs1 P1 l1 k1 t1 ++ tabs1 P2 l2 k2 t2) h TL' h' := by
  obtain ⟨c1, o1, ok1', hc1, ca1⟩ := n1
  have ap := tabs_apart (news_left N) (news_right N) ok1 ok2 hP q_ne
  refine ⟨tabs1 P1 l1 k1 (.warm c1 o1) ++ tabs1 P2 l2 k2 t2, ⟨_, _, rfl, ok1', ok2⟩, fun p hp => (List.mem_append.mp hp).elim (hc1 p) (fun hm => G _ _ (off_of_apart ap p hm) (N p (List.mem_append_right _ hm)).1), fun p hp => ?_⟩
  rcases List.mem_append.mp hp with hp | hp
  · rcases List.mem_cons.mp hp with rfl | hp
    · left
      exact head_l t1 _
    · rw [List.mem_singleton.mp hp]
      rcases ca1 with rfl | ⟨rfl, hs⟩
      · left; exact List.mem_map_of_mem (f := (·.1)) (a := (c1, o1)) (List.mem_append_left _ (.tail _ (.head _)))
      · exact .inr hs
  · exact .inl (List.mem_map_of_mem (List.mem_append_right _ hp))
theorem tnx_second {t1 t2 : TS} (N : News h₀ L h (tabs1 P1 l1 k1 t1 ++ tabs1 P2 l2 k2 t2)) (ok1 : TsOk P1 (Str.ofString "_int2digits.<locals>.inner") t1) (ok2 : TsOk P2 (Str.ofString "_digits2int.<locals>.inner") t2) (hP : P1 ≠ P2)
    (G : KeepsBut ((tabs1 P2 l2 k2 t2).map (·.1)) h h') (n2 : TNext P2 l2 k2 (Str.ofString "_digits2int.<locals>.inner") t2 h h') :
    ∃ TL', TNx P1 l1 k1 P2 l2 k2 (tabs1 P1 l1 k1 t1 ++ tabs1 P2 l2 k2 t2) h TL' h' := by
  obtain ⟨c2, o2, ok2', hc2, ca2⟩ := n2
  have ap := tabs_apart (news_left N) (news_right N) ok1 ok2 hP q_ne
  have ap' : ∀ q ∈ tabs1 P1 l1 k1 t1, q.1 ∉ (tabs1 P2 l2 k2 t2).map (·.1) := fun q hq hm => by
    obtain ⟨p, hp, e⟩ := List.mem_map.mp hm
    exact ap q hq p hp e.symm
  refine ⟨tabs1 P1 l1 k1 t1 ++ tabs1 P2 l2 k2 (.warm c2 o2), ⟨_, _, rfl, ok1, ok2'⟩, fun p hp => (List.mem_append.mp hp).elim (fun hm => G _ _ (ap' p hm) (N p (List.mem_append_left _ hm)).1) (hc2 p), fun p hp => ?_⟩
  rcases List.mem_append.mp hp with hp | hp
  · exact .inl (List.mem_map_of_mem (List.mem_append_left _ hp))
  · rcases List.mem_cons.mp hp with rfl | hp
    · left
      exact head_r t2 _
    · rw [List.mem_singleton.mp hp]
      rcases ca2 with rfl | ⟨rfl, hs⟩
      · left; exact List.mem_map_of_mem (f := (·.1)) (a := (c2, o2)) (List.mem_append_right _ (.tail _ (.head _)))
      · exact .inr hs
end
theorem Ctr.weak {prog : Program} {K : Params → Frag} {TB : Heap → Prop} {w : World} {f : Addr} {dd uu : Nat} {vs : List Value} {mts mts' : List (Addr × Obj)} {Pre : Heap → Prop} {Post Post' : Heap → Value → Heap → Prop} (c : Ctr prog K TB w f dd uu vs mts Pre Post) (hsub : ∀ p ∈ mts, p ∈ mts')
    (hp : ∀ h₀ L h v h', News h₀ L h mts' → KeepsBut (mts.map (·.1)) h h' → Post h v h' → Post' h v h') : Ctr prog K TB w f dd uu vs mts' Pre Post' := by
  intro p loose mean mg mb dp un gd cn cs a ccd cl outer A₀ base h₀ L m s Q E B F X N T hkd hTB hpre hdp hun hret
  refine c p loose mean mg mb dp un gd cn cs a ccd cl outer A₀ base h₀ L m s Q E B F X (fun q hq => N q (hsub q hq)) T hkd hTB hpre hdp hun fun v h' tk' G P => hret v h' tk' (fun b o hb e => G b o (fun hm => hb ?_) e) (hp _ _ _ _ _ N G P)
  obtain ⟨q, hq, e⟩ := List.mem_map.mp hm
  exact e ▸ List.mem_map_of_mem (hsub q hq)
section
variable {prog : Program} {w : World} {A : Around} {h₀ : Heap} {L : Addr} {m : Str → Option Value} {env : Env} {ct elt : Expr} {x : Str} {scope : Scope} {cl : List (Str × Addr)} {s : Shared} {S : List (Addr × Obj) → Prop} {P : Nat → Value → Prop} {Fin : List Value → List (Addr × Obj) → Prop}
theorem compEnd_mono {s₁ s₂ : Shared} {I C D : Addr} {oI oC oD : Obj} {r r' : Value → List (Addr × Obj) → Prop} {y : Value} (h : LCg.CompEnd h₀ L m s₁ I oI C oC D oD S r y s₂) (k : ∀ n, r y n → r' y n) : LCg.CompEnd h₀ L m s₁ I oI C oC D oD S r' y s₂ := by
  obtain ⟨h', tk, n, e, F, N, off, hS, hr⟩ := h
  exact ⟨h', tk, n, e, F, N, off, hS, k n hr⟩
/-- a comprehension with a test, by what holds of its turns -/
theorem rest_T {n : Nat} {news : List (Addr × Obj)} (J : Nat → List Value → List (Addr × Obj) → Prop) (fin : ∀ ys nw, J n ys nw → Fin ys nw) (start : J 0 [] news)
    (turn : ∀ i ys nw v I oI C oC D m₂ h tk (E' : Value → Shared → Prop), i < n → J i ys nw → P i v → LCg.NsObj oC m₂ → m₂ x = some v → Fr h₀ L h m → News h₀ L h ((I, oI) :: (C, oC) :: (D, LCg.lst ys) :: nw) → LCg.Off3 I C D nw → ((@Ne Nat I C) ∧ (@Ne Nat I D) ∧ (@Ne Nat C D)) →
      wpAny (model prog w) A (isTrue ct (compEnvC scope cl C env) (eval ct (compEnvC scope cl C env))) (fun ok s' => if ok = true then
        wpAny (model prog w) A (eval elt (compEnvC scope cl C env)) (LCg.CompEnd h₀ L m { s with heap := h, toks := tk } I oI C oC D (LCg.lst ys) S (fun y nw' => J (i + 1) (ys ++ [y]) nw')) E' s'
        else LCg.CompEnd h₀ L m { s with heap := h, toks := tk } I oI C oC D (LCg.lst ys) S (fun _ nw' => J (i + 1) ys nw') Value.none s') E' { s with heap := h, toks := tk }) :
    LCt.CompRestT prog w A h₀ L m env ct elt x scope cl s S P Fin n 0 [] news := by
  have key : ∀ (k i : Nat) (ys : List Value) (nw : List (Addr × Obj)), i + k = n → J i ys nw → LCt.CompRestT prog w A h₀ L m env ct elt x scope cl s S P Fin k i ys nw := by
    intro k
    induction k with
    | zero => intro i ys nw e j; exact LCt.CompRestT.zero (fin ys nw (by rw [← e]; exact j))
    | succ k ih =>
      intro i ys nw e j
      refine LCt.CompRestT.succ ?_
      intro v I oI C oC D m₂ h tk E' hv hC hx F N off ne
      refine wpAny_mono (turn i ys nw v I oI C oC D m₂ h tk E' (by omega) j hv hC hx F N off ne) (fun ok s₂ hq => ?_) fun _ _ e => e
      cases ok with
      | true =>
        simp only [if_true] at hq ⊢
        exact wpAny_mono hq (fun y s₃ h₃ => compEnd_mono h₃ fun nw' j' => ih (i + 1) _ nw' (by omega) j') fun _ _ e => e
      | false =>
        simp only [Bool.false_eq_true, if_false] at hq ⊢
        exact compEnd_mono hq fun nw' j' => ih (i + 1) _ nw' (by omega) j'
  exact key n 0 [] news (by omega) start
/-- a comprehension without a test -/
theorem rest_U {n : Nat} {news : List (Addr × Obj)} (J : Nat → List Value → List (Addr × Obj) → Prop) (fin : ∀ ys nw, J n ys nw → Fin ys nw) (start : J 0 [] news)
    (turn : ∀ i ys nw v I oI C oC D m₂ h tk (E' : Value → Shared → Prop), i < n → J i ys nw → P i v → LCg.NsObj oC m₂ → m₂ x = some v → Fr h₀ L h m → News h₀ L h ((I, oI) :: (C, oC) :: (D, LCg.lst ys) :: nw) → LCg.Off3 I C D nw → ((@Ne Nat I C) ∧ (@Ne Nat I D) ∧ (@Ne Nat C D)) →
      wpAny (model prog w) A (eval elt (compEnvC scope cl C env)) (LCg.CompEnd h₀ L m { s with heap := h, toks := tk } I oI C oC D (LCg.lst ys) S (fun y nw' => J (i + 1) (ys ++ [y]) nw')) E' { s with heap := h, toks := tk }) :
    LCg.CompRest prog w A h₀ L m env elt x scope cl s S P Fin n 0 [] news := by
  have key : ∀ (k i : Nat) (ys : List Value) (nw : List (Addr × Obj)), i + k = n → J i ys nw → LCg.CompRest prog w A h₀ L m env elt x scope cl s S P Fin k i ys nw := by
    intro k
    induction k with
    | zero => intro i ys nw e j; exact LCg.CompRest.zero (fin ys nw (by rw [← e]; exact j))
    | succ k ih =>
      intro i ys nw e j
      refine LCg.CompRest.succ ?_
      intro v I oI C oC D m₂ h tk E' hv hC hx F N off ne
      exact wpAny_mono (turn i ys nw v I oI C oC D m₂ h tk E' (by omega) j hv hC hx F N off ne) (fun y s₃ h₃ => compEnd_mono h₃ fun nw' j' => ih (i + 1) _ nw' (by omega) j') fun _ _ e => e
  exact key n 0 [] news (by omega) start
end
section
variable {P1 P2 : Addr} {l1 k1 l2 k2 : Int} {TL TL' : List (Addr × Obj)} {h h' h₀ : Heap} {L : Addr}
/-- the tables behind a call, with none left out -/
def TNy (P1 : Addr) (l1 k1 : Int) (P2 : Addr) (l2 k2 : Int) (TL : List (Addr × Obj)) (h : Heap) (TL' : List (Addr × Obj)) (h' : Heap) : Prop :=
  TNx P1 l1 k1 P2 l2 k2 TL h TL' h' ∧ ∀ p ∈ TL, p.1 ∈ TL'.map (·.1)
theorem tab_sub {P : Addr} {l k : Int} {t : TS} {c : Addr} {o : Obj} {h : Heap} (hc : t = .warm c o ∨ (t = .cold ∧ h.objs.size ≤ c)) : ∀ p ∈ tabs1 P l k t, p.1 ∈ (tabs1 P l k (.warm c o)).map (·.1) := by
  intro p hp
  rcases hc with rfl | ⟨rfl, _⟩
  · exact List.mem_map_of_mem hp
  · rw [List.mem_singleton.mp hp]
    exact .head _
theorem tny_of {t1 t2 : TS} (n1 : TNext P1 l1 k1 (Str.ofString "_int2digits.<locals>.inner") t1 h h') (n2 : TNext P2 l2 k2 (Str.ofString "_digits2int.<locals>.inner") t2 h h') :
    ∃ TL', TNy P1 l1 k1 P2 l2 k2 (tabs1 P1 l1 k1 t1 ++ tabs1 P2 l2 k2 t2) h TL' h' := by
  obtain ⟨c1, o1, ok1, hc1, ca1⟩ := n1
  obtain ⟨c2, o2, ok2, hc2, ca2⟩ := n2
  have sub : ∀ p ∈ tabs1 P1 l1 k1 t1 ++ tabs1 P2 l2 k2 t2, p.1 ∈ (tabs1 P1 l1 k1 (.warm c1 o1) ++ tabs1 P2 l2 k2 (.warm c2 o2)).map (·.1) := fun p hp => by
    rw [List.map_append]
    exact (List.mem_append.mp hp).elim (fun q => List.mem_append_left _ (tab_sub ca1 p q)) fun q => List.mem_append_right _ (tab_sub ca2 p q)
  refine ⟨tabs1 P1 l1 k1 (.warm c1 o1) ++ tabs1 P2 l2 k2 (.warm c2 o2), ⟨⟨_, _, rfl, ok1, ok2⟩, fun p hp => (List.mem_append.mp hp).elim (hc1 p) (hc2 p), fun p hp => ?_⟩, sub⟩
  rcases List.mem_append.mp hp with hp | hp
  · rcases List.mem_cons.mp hp with rfl | hp
    · exact .inl (head_l t1 _)
    · rw [List.mem_singleton.mp hp]
      rcases ca1 with rfl | ⟨rfl, hs⟩
      · left; exact List.mem_map_of_mem (f := (·.1)) (a := (c1, o1)) (List.mem_append_left _ (.tail _ (.head _)))
      · exact .inr hs
  · rcases List.mem_cons.mp hp with rfl | hp
    · exact .inl (head_r t2 _)
    · rw [List.mem_singleton.mp hp]
      rcases ca2 with rfl | ⟨rfl, hs⟩
      · left; exact List.mem_map_of_mem (f := (·.1)) (a := (c2, o2)) (List.mem_append_right _ (.tail _ (.head _)))
      · exact .inr hs
theorem TNx.tny (x : TNx P1 l1 k1 P2 l2 k2 TL h TL' h') (y : ∀ p ∈ TL, p.1 ∈ TL'.map (·.1)) : TNy P1 l1 k1 P2 l2 k2 TL h TL' h' := ⟨x, y⟩
/-- what the tables are, seen from an elder size -/
def TFrom (P1 : Addr) (l1 k1 : Int) (P2 : Addr) (l2 k2 : Int) (TL : List (Addr × Obj)) (n : Nat) (TL' : List (Addr × Obj)) : Prop :=
  TabsIs P1 l1 k1 P2 l2 k2 TL' ∧ (∀ p ∈ TL', p.1 ∈ TL.map (·.1) ∨ n ≤ p.1) ∧ ∀ p ∈ TL, p.1 ∈ TL'.map (·.1)
theorem TFrom.refl {n : Nat} (T : TabsIs P1 l1 k1 P2 l2 k2 TL) : TFrom P1 l1 k1 P2 l2 k2 TL n TL := ⟨T, fun p hp => .inl (List.mem_map_of_mem hp), fun p hp => List.mem_map_of_mem hp⟩
theorem TFrom.next {n : Nat} {TL2 : List (Addr × Obj)} (f : TFrom P1 l1 k1 P2 l2 k2 TL n TL') (y : TNy P1 l1 k1 P2 l2 k2 TL' h TL2 h') (hn : n ≤ h.objs.size) : TFrom P1 l1 k1 P2 l2 k2 TL n TL2 := by
  refine ⟨y.1.1, fun p hp => ?_, fun p hp => ?_⟩
  · rcases y.1.2.2 p hp with hm | hm
    · obtain ⟨q, hq, e⟩ := List.mem_map.mp hm
      exact e ▸ f.2.1 q hq
    · exact .inr (Nat.le_trans hn hm)
  · obtain ⟨q, hq, e⟩ := List.mem_map.mp (f.2.2 p hp)
    exact e ▸ y.2 q hq
theorem TFrom.tny (f : TFrom P1 l1 k1 P2 l2 k2 TL h.objs.size TL') (hg : ∀ p ∈ TL', h'.get? p.1 = some p.2) : TNy P1 l1 k1 P2 l2 k2 TL h TL' h' := ⟨⟨f.1, hg, f.2.1⟩, f.2.2⟩
end
/-- a new object that a call handed back, known only to have been free -/
theorem news_free {h₀ h h' : Heap} {L D : Addr} {m : Str → Option Value} {o : Obj} {news : List (Addr × Obj)} (F : Fr h₀ L h m) (hD : h'.get? D = some o) (hs : h.get? D = none) (N : News h₀ L h' news) : News h₀ L h' ((D, o) :: news) := by
  refine news_cons hD ?_ ?_ N
  · rintro rfl
    obtain ⟨oL, es, ep, hL, _⟩ := F.ns
    rw [hL] at hs; cases hs
  · cases q : h₀.get? D with
    | none => rfl
    | some o' => have := F.keep _ _ q; rw [hs] at this; cases this
theorem ne_free {h₀ h : Heap} {L D : Addr} {news : List (Addr × Obj)} (N : News h₀ L h news) (hs : h.get? D = none) : ∀ p ∈ news, p.1 ≠ D := fun p hp e => by
  have := (N p hp).1
  rw [e, hs] at this; cases this
/-- the ledger behind a call that turned the tables alone -/
theorem re_n {P1 P2 : Addr} {l1 k1 l2 k2 : Int} {TL TL' ps : List (Addr × Obj)} {h h' h₀ : Heap} {L : Addr} {m : Str → Option Value} (F : Fr h₀ L h m) (N : News h₀ L h (ps ++ TL)) (G : KeepsBut (TL.map (·.1)) h h') (x : TNx P1 l1 k1 P2 l2 k2 TL h TL' h')
    (sep : ∀ q ∈ ps, ∀ p ∈ TL, p.1 ≠ q.1) : News h₀ L h' (ps ++ TL') ∧ (∀ q ∈ ps, ∀ p ∈ TL', p.1 ≠ q.1) ∧ TabsIs P1 l1 k1 P2 l2 k2 TL' := by
  refine ⟨news_append (fun q hq => ?_) (x.news F (news_right N)), fun q hq => x.ne (sep q hq) (N q (List.mem_append_left _ hq)).1, x.1⟩
  have n := N q (List.mem_append_left _ hq)
  exact ⟨G _ _ (off_one (sep q hq)) n.1, n.2⟩
/-- .. and behind a call that turns nothing -/
theorem re_0 {ps : List (Addr × Obj)} {h h' h₀ : Heap} {L : Addr} (N : News h₀ L h ps) (G : KeepsBut (([] : List (Addr × Obj)).map (·.1)) h h') : News h₀ L h' ps :=
  news_after (mts := []) N G fun _ _ hm => nomatch hm
theorem sep_nil {TL : List (Addr × Obj)} : ∀ q ∈ ([] : List (Addr × Obj)), ∀ p ∈ TL, p.1 ≠ q.1 := fun _ h => nomatch h
theorem sep_cons {TL ps : List (Addr × Obj)} {a : Addr × Obj} (h1 : ∀ p ∈ TL, p.1 ≠ a.1) (h2 : ∀ q ∈ ps, ∀ p ∈ TL, p.1 ≠ q.1) : ∀ q ∈ a :: ps, ∀ p ∈ TL, p.1 ≠ q.1 := fun q hq => (List.mem_cons.mp hq).elim (fun e => e ▸ h1) (h2 q)
theorem sep_head {TL ps : List (Addr × Obj)} {a : Addr × Obj} (h : ∀ q ∈ a :: ps, ∀ p ∈ TL, p.1 ≠ q.1) : ∀ p ∈ TL, p.1 ≠ a.1 := h a (.head _)
theorem sep_tail {TL ps : List (Addr × Obj)} {a : Addr × Obj} (h : ∀ q ∈ a :: ps, ∀ p ∈ TL, p.1 ≠ q.1) : ∀ q ∈ ps, ∀ p ∈ TL, p.1 ≠ q.1 := fun q hq => h q (.tail _ hq)
theorem off3_of {I C D : Addr} {TL : List (Addr × Obj)} (h1 : ∀ p ∈ TL, p.1 ≠ I) (h2 : ∀ p ∈ TL, p.1 ≠ C) (h3 : ∀ p ∈ TL, p.1 ≠ D) : LCg.Off3 I C D TL := LCg.Off3.of fun p hp => ⟨h1 p hp, h2 p hp, h3 p hp⟩
theorem off1_mem {D : Addr} : ∀ {l : List (Addr × Obj)}, LCg.Off1 D l → ∀ p ∈ l, p.1 ≠ D
  | [], _, _, h => nomatch h
  | _ :: _, x, p, h => (List.mem_cons.mp h).elim (fun e => e ▸ x.1) (off1_mem x.2 p)
/-- what was nowhere in the written part was free ahead of the call -/
theorem free_of {P1 P2 : Addr} {l1 k1 l2 k2 : Int} {TL TL' : List (Addr × Obj)} {n : Nat} {h g : Heap} {D : Addr} (hG : KeepsBut (TL.map (·.1)) h g) (hD : g.get? D = none) (f : TFrom P1 l1 k1 P2 l2 k2 TL n TL') (o : ∀ p ∈ TL', p.1 ≠ D) : h.get? D = none := by
  cases q : h.get? D with
  | none => rfl
  | some ob =>
    by_cases hm : D ∈ TL.map (·.1)
    · obtain ⟨p, hp, e⟩ := List.mem_map.mp hm
      obtain ⟨p', hp', e'⟩ := List.mem_map.mp (f.2.2 p hp)
      exact absurd (e'.trans e) (o p' hp')
    · have := hG _ _ hm q
      rw [hD] at this; cases this
/-- some addresses are none of the tables' -/
def Sep (as : List Addr) (TL : List (Addr × Obj)) : Prop := ∀ a ∈ as, ∀ p ∈ TL, p.1 ≠ a
theorem Sep.nil {TL : List (Addr × Obj)} : Sep [] TL := fun _ h => nomatch h
theorem Sep.cons {a : Addr} {as : List Addr} {TL : List (Addr × Obj)} (h : ∀ p ∈ TL, p.1 ≠ a) (s : Sep as TL) : Sep (a :: as) TL := fun b hb => (List.mem_cons.mp hb).elim (fun e => e ▸ h) (s b)
theorem Sep.head {a : Addr} {as : List Addr} {TL : List (Addr × Obj)} (s : Sep (a :: as) TL) : ∀ p ∈ TL, p.1 ≠ a := s a (.head _)
theorem Sep.tail {a : Addr} {as : List Addr} {TL : List (Addr × Obj)} (s : Sep (a :: as) TL) : Sep as TL := fun b hb => s b (.tail _ hb)
theorem re_s {P1 P2 : Addr} {l1 k1 l2 k2 : Int} {TL TL' : List (Addr × Obj)} {as : List Addr} {h h' h₀ : Heap} {L : Addr} {m : Str → Option Value} (ps : List (Addr × Obj)) (F : Fr h₀ L h m) (N : News h₀ L h (ps ++ TL)) (G : KeepsBut (TL.map (·.1)) h h') (x : TNx P1 l1 k1 P2 l2 k2 TL h TL' h')
    (sep : Sep as TL) (has : as = ps.map (·.1)) : News h₀ L h' (ps ++ TL') ∧ Sep as TL' ∧ TabsIs P1 l1 k1 P2 l2 k2 TL' := by
  subst has
  obtain ⟨a, b, c⟩ := re_n (ps := ps) F N G x fun q hq => sep q.1 (List.mem_map_of_mem hq)
  refine ⟨a, fun q hq => ?_, c⟩
  obtain ⟨p, hp, rfl⟩ := List.mem_map.mp hq
  exact b p hp
def kp (c u x : Int) : Int := x * u % c
def keptL (c u : Int) (i : Nat) : List Int := (List.range i).map fun (j : Nat) => kp c u ((j : Nat) : Int)
/-- a number put into an ordered list, to the left -/
def insf (ns : List Int) (x : Int) : List Int := ns.takeWhile (· < x) ++ x :: ns.dropWhile (· < x)
def ordL (c u : Int) : Nat → List Int
  | 0 => []
  | i + 1 => insf (ordL c u i) (kp c u (i : Int))
theorem keptL_length (c u : Int) (i : Nat) : (keptL c u i).length = i := by simp [keptL]
theorem keptL_succ (c u : Int) (i : Nat) : keptL c u (i + 1) = keptL c u i ++ [kp c u (i : Int)] := by simp [keptL, List.range_succ]
theorem keptL_get (c u : Int) {i j : Nat} (h : j < i) : (keptL c u i)[j]? = some (kp c u (j : Int)) := by
  simp [keptL, List.getElem?_map, List.getElem?_range h]
theorem ins_insf : ∀ (ns : List Int) (x r : Int), Bis ns x r → ins ns r.toNat x = insf ns x
  | [], x, r, b => by
    have h1 : r.toNat = 0 := by have := b.1; have := b.2.1; simp at this; omega
    rw [h1]; rfl
  | y :: ns, x, r, b => by
    obtain ⟨b0, b1, b2, b3⟩ := b
    by_cases h : y < x
    · have hr : 0 < r := by
        rcases Int.lt_or_le 0 r with h1 | h1
        · exact h1
        · exact absurd h (Int.not_lt.mpr (b3 0 (by omega) (by simp)))
      have e : r.toNat = (r - 1).toNat + 1 := by omega
      have ih := ins_insf ns x (r - 1) ⟨by omega, by simp at b1; omega, fun i hi => by simpa using b2 (i + 1) (by omega), fun i hi hl => by simpa using b3 (i + 1) (by omega) (by simp; omega)⟩
      unfold ins insf at ih ⊢
      rw [e, List.takeWhile_cons, List.dropWhile_cons]
      simp only [h, decide_true, if_true, List.take_succ_cons, List.drop_succ_cons, List.cons_append]
      rw [ih]
    · have hr : r = 0 := by
        rcases Int.lt_or_le 0 r with h1 | h1
        · exact absurd (b2 0 (by omega)) (by simpa using h)
        · omega
      subst hr
      unfold ins insf
      rw [List.takeWhile_cons, List.dropWhile_cons]
      simp [h]
theorem insf_length (ns : List Int) (x : Int) : (insf ns x).length = ns.length + 1 := by
  unfold insf
  have := congrArg List.length (List.takeWhile_append_dropWhile (p := fun y => decide (y < x)) (l := ns))
  rw [List.length_append] at this
  rw [List.length_append, List.length_cons]
  omega
theorem srt_iff {ns : List Int} : Srt ns ↔ ns.Pairwise (· ≤ ·) := by
  rw [List.pairwise_iff_getElem]
  constructor
  · intro h i j hi hj hij
    have := h i j (by omega) hj
    simpa [List.getD_eq_getElem?_getD, hi, hj] using this
  · intro h i j hij hj
    rcases Nat.lt_or_ge i j with h1 | h1
    · have := h i j (by omega) hj h1
      simpa [List.getD_eq_getElem?_getD, hj, show i < ns.length by omega] using this
    · have : i = j := by omega
      subst this; exact Int.le_refl _
theorem insf_srt {ns : List Int} {x : Int} (h : Srt ns) : Srt (insf ns x) := by
  rw [srt_iff] at h ⊢
  induction ns with
  | nil => simp [insf]
  | cons y ns ih =>
    rw [List.pairwise_cons] at h
    have ih' := ih h.2
    unfold insf at ih' ⊢
    rw [List.takeWhile_cons, List.dropWhile_cons]
    by_cases hy : y < x
    · simp only [hy, decide_true, if_true, List.cons_append]
      rw [List.pairwise_cons]
      refine ⟨fun z hz => ?_, ih'⟩
      rcases List.mem_append.mp hz with hz | hz
      · exact h.1 z (List.takeWhile_prefix _ |>.subset hz)
      · rcases List.mem_cons.mp hz with rfl | hz
        · omega
        · exact h.1 z (List.dropWhile_suffix _ |>.subset hz)
    · simp only [hy, decide_false, List.nil_append]
      simp only [Bool.false_eq_true, if_false, List.nil_append]
      rw [List.pairwise_cons, List.pairwise_cons]
      refine ⟨fun z hz => ?_, h⟩
      rcases List.mem_cons.mp hz with rfl | hz
      · omega
      · have := h.1 z hz; omega
theorem ordL_length (c u : Int) : ∀ i, (ordL c u i).length = i
  | 0 => rfl
  | i + 1 => by rw [ordL, insf_length, ordL_length c u i]
theorem ordL_srt (c u : Int) : ∀ i, Srt (ordL c u i)
  | 0 => fun i j _ h => by simp [ordL] at h
  | i + 1 => insf_srt (ordL_srt c u i)
/-- all rests once, in order -/
theorem ord_all : ∀ j : Nat, j < 30 → ordL (3 + 2 * (j : Int)) (2 ^ (ndig (3 + 2 * (j : Int)) 1)) (3 + 2 * j) = (List.range (3 + 2 * j)).map fun (i : Nat) => ((i : Nat) : Int) := by decide +kernel

/-! Montgomery -/
structure Mont (c u o : Int) : Prop where
  c0 : 3 ≤ c
  c1 : c ≤ 61
  lt : c < u
  u0 : 4 ≤ u
  u1 : u ≤ 64
  inv : (c * o + 1) % u = 0
  o0 : 0 ≤ o
  o1 : o ≤ 64
section
variable {c u o : Int} (M : Mont c u o)
include M
theorem Mont.rest (n : Int) : (n + oft n u o * c) % u = 0 := by
  have hu : u ≠ 0 := by have := M.u0; omega
  unfold oft
  have h1 : (n + n % u * o % u * c) % u = (n + n * o * c) % u := by
    rw [Int.add_emod, Int.mul_emod (n % u * o % u), Int.emod_emod_of_dvd _ (Int.dvd_refl u), ← Int.mul_emod, Int.mul_emod (n % u * o), Int.mul_emod (n % u), Int.emod_emod_of_dvd _ (Int.dvd_refl u), ← Int.mul_emod n o, ← Int.mul_emod (n * o), ← Int.add_emod]
  rw [h1]
  have h2 : n + n * o * c = n * (c * o + 1) := by rw [Int.mul_add, Int.mul_one, Int.mul_comm c o, Int.mul_assoc]; omega
  rw [h2, Int.mul_emod, M.inv, Int.mul_zero]
  exact Int.zero_emod u
/-- the unit's inverse by the count -/
theorem Mont.winv : u * ((c * o + 1) / u) = c * o + 1 := by
  have := Int.emod_add_mul_ediv (c * o + 1) u
  rw [M.inv] at this
  omega
theorem Mont.redc {n : Int} (h0 : 0 ≤ n) (h1 : n < c * u) : Mine.redc n c u o = n * ((c * o + 1) / u) % c := by
  have hu : 0 < u := by have := M.u0; omega
  have hc : 0 < c := by have := M.c0; omega
  have hr := M.rest n
  have hw := M.winv
  have e := Int.emod_add_mul_ediv (n + oft n u o * c) u
  rw [hr] at e
  unfold Mine.redc
  have m0 : 0 ≤ oft n u o := Int.emod_nonneg _ (by omega)
  have m1 : oft n u o < u := Int.emod_lt_of_pos _ hu
  generalize oft n u o = m at *
  generalize (n + m * c) / u = t at *
  generalize (c * o + 1) / u = wv at *
  have t0 : 0 ≤ t := by
    have : 0 ≤ m * c := Int.mul_nonneg m0 (by omega)
    have h2 : 0 ≤ u * t := by omega
    rcases Int.lt_or_le t 0 with h3 | h3
    · have := Int.mul_neg_of_pos_of_neg hu h3; omega
    · exact h3
  have t1 : t < 2 * c := by
    have h3 : m * c ≤ u * c := Int.mul_le_mul_of_nonneg_right (by omega) (by omega)
    have h4 : u * t < u * (2 * c) := by
      have h5 : u * (2 * c) = c * u + u * c := by rw [Int.mul_comm c u, Int.two_mul, Int.mul_add]
      omega
    exact Int.lt_of_mul_lt_mul_left h4 (by omega)
  have ht : t % c = n * wv % c := by
    have h6 : n * wv = t + c * (o * t - m * wv) := by
      have h7 : n = u * t - m * c := by omega
      rw [h7, Int.sub_mul, Int.mul_right_comm, hw, Int.mul_sub, Int.add_mul, Int.one_mul, Int.mul_assoc, Int.mul_assoc m c, Int.mul_left_comm m c]
      omega
    rw [h6, Int.add_mul_emod_self_left]
  rw [← ht]
  by_cases hge : t ≥ c
  · rw [if_pos hge]
    have : t % c = (t - c) % c := by rw [Int.sub_emod, Int.emod_self, Int.sub_zero, Int.emod_emod_of_dvd _ (Int.dvd_refl c)]
    rw [this, Int.emod_eq_of_lt (by omega) (by omega)]
  · rw [if_neg hge, Int.emod_eq_of_lt t0 (by omega)]
theorem Mont.kp_bound (x : Int) : 0 ≤ kp c u x ∧ kp c u x < c := ⟨Int.emod_nonneg _ (by have := M.c0; omega), Int.emod_lt_of_pos _ (by have := M.c0; omega)⟩
theorem Mont.uw (x : Int) : x * u * ((c * o + 1) / u) % c = x % c := by
  rw [Int.mul_assoc, M.winv, Int.mul_add, Int.mul_one, Int.mul_left_comm, Int.add_comm, Int.add_mul_emod_self_left]
theorem Mont.small (n : Int) (h : n < c) : n < c * u := by
  have h1 : c * 1 ≤ c * u := Int.mul_le_mul_of_nonneg_left (by have := M.u0; omega) (by have := M.c0; omega)
  omega
/-- taken with one, a kept rest is the rest -/
theorem Mont.out (x : Int) : Mine.redc (kp c u x) c u o = x % c := by
  obtain ⟨h0, h1⟩ := M.kp_bound x
  rw [M.redc h0 (M.small _ h1)]
  show x * u % c * _ % c = _
  rw [Int.mul_emod, Int.emod_emod_of_dvd _ (Int.dvd_refl c), ← Int.mul_emod, M.uw]
theorem Mont.prod_lt (x y : Int) : 0 ≤ kp c u x * kp c u y ∧ kp c u x * kp c u y < c * u ∧ kp c u x * kp c u y ≤ 3600 := by
  obtain ⟨a0, a1⟩ := M.kp_bound x
  obtain ⟨b0, b1⟩ := M.kp_bound y
  have hc := M.c1
  have hl := M.lt
  generalize kp c u x = a at *
  generalize kp c u y = b at *
  refine ⟨Int.mul_nonneg a0 b0, ?_, ?_⟩
  · have h1 : a * b ≤ c * b := Int.mul_le_mul_of_nonneg_right (by omega) b0
    have h2 : c * b < c * u := Int.mul_lt_mul_of_pos_left (by omega) (by have := M.c0; omega)
    omega
  · have h1 : a * b ≤ 60 * 60 := Int.mul_le_mul (by omega) (by omega) b0 (by omega)
    omega
/-- two kept, both taken -/
theorem Mont.mul (x y : Int) : Mine.redc (kp c u x * kp c u y) c u o = kp c u (x * y) := by
  obtain ⟨h0, h1, _⟩ := M.prod_lt x y
  rw [M.redc h0 h1]
  show x * u % c * (y * u % c) * _ % c = x * y * u % c
  have e : ∀ a b w : Int, a % c * (b % c) * w % c = a * b * w % c := fun a b w => by
    rw [Int.mul_emod (a % c * (b % c)), ← Int.mul_emod a b, ← Int.mul_emod]
  rw [e]
  have e2 : x * u * (y * u) * ((c * o + 1) / u) = (x * y * u) * u * ((c * o + 1) / u) := by
    congr 1
    rw [Int.mul_assoc x u, Int.mul_left_comm u y u, ← Int.mul_assoc x, ← Int.mul_assoc]
  rw [e2, M.uw]
omit M in
theorem Mont.kp_mod (x : Int) : kp c u (x % c) = kp c u x := by
  unfold kp
  rw [Int.mul_emod, Int.emod_emod_of_dvd _ (Int.dvd_refl c), ← Int.mul_emod]
theorem Mont.kp_add (x y : Int) : (kp c u x + kp c u y) % c = kp c u ((x + y) % c) := by
  rw [Mont.kp_mod]
  unfold kp
  rw [← Int.add_emod, Int.add_mul]
end
section
variable {prog : Program} {w : World} {A : Around} {E : Value → Shared → Prop} {s : Shared} {h₀ : Heap} {L : Addr} {news : List (Addr × Obj)} {l : Addr} {vs : List Value} {ns : List Int} {k : Nat} {i x : Int} {u : Tok} {e1 e2 : Expr} {Q : Value → Shared → Prop}
theorem item_M (N : News h₀ L s.heap news) (hm : (l, listOf vs.toArray k) ∈ news) (hI : IntsAre vs ns) (h0 : 0 ≤ i) (hi : i < ns.length) (hs : ns.length < 2 ^ 62) (hx : ns.getD i.toNat 0 = x) (h : ∀ t, Q (.int x t) s) (q1 : subscripted e2 false (.ref l) (.int i u) = operate [.ref l, .int i u] (getItem (.ref l) (.int i u))) (q2 : ∀ r, letTemporaryGo e1 (.ref l) r = pure ()) : wpAny (model prog w) A (subscriptTail e1 e2 (.ref l) (.int i u)) Q E s :=
  item_list_ints (N.isList hm) hI h0 hi (by omega) (fun t => by rw [hx]; exact h t) q1 q2
theorem item_G {g : Heap} {m : Str → Option Value} (F : Fr g L s.heap m) (hl : g.IsList l vs.toArray) (hI : IntsAre vs ns) (h0 : 0 ≤ i) (hi : i < ns.length) (hs : ns.length ≤ 1000) (h : ∀ t, Q (.int (ns.getD i.toNat 0) t) s) (q1 : subscripted e2 false (.ref l) (.int i u) = operate [.ref l, .int i u] (getItem (.ref l) (.int i u))) (q2 : ∀ r, letTemporaryGo e1 (.ref l) r = pure ()) : wpAny (model prog w) A (subscriptTail e1 e2 (.ref l) (.int i u)) Q E s :=
  item_list_ints (Fr.lst F hl) hI h0 hi (by omega) h q1 q2
theorem keptL_getD {c u : Int} {n : Nat} {i : Int} (h0 : 0 ≤ i) (hi : i < n) : (keptL c u n).getD i.toNat 0 = kp c u i := by
  have h1 := keptL_get c u (i := n) (j := i.toNat) (by omega)
  rw [List.getD_eq_getElem?_getD, h1, Int.toNat_of_nonneg h0]
  rfl
theorem kept_M {c u : Int} {n : Nat} {u1 : Tok} (N : News h₀ L s.heap news) (hm : (l, listOf vs.toArray k) ∈ news) (hI : IntsAre vs (keptL c u n)) (h0 : 0 ≤ i) (hi : i < n) (hs : n ≤ 1000) (h : ∀ t, Q (.int (kp c u i) t) s) (q1 : subscripted e2 false (.ref l) (.int i u1) = operate [.ref l, .int i u1] (getItem (.ref l) (.int i u1))) (q2 : ∀ r, letTemporaryGo e1 (.ref l) r = pure ()) : wpAny (model prog w) A (subscriptTail e1 e2 (.ref l) (.int i u1)) Q E s :=
  item_M N hm hI h0 (by rw [keptL_length]; exact hi) (by rw [keptL_length]; omega) (keptL_getD h0 hi) h q1 q2
theorem rangeKs_getD {n : Nat} {i : Int} (h0 : 0 ≤ i) (hi : i < n) : (rangeKs 0 n).getD i.toNat 0 = i := by
  unfold rangeKs
  rw [List.getD_eq_getElem?_getD, List.getElem?_map, List.getElem?_range (by omega)]
  simp; omega
theorem range_item {n : Nat} (N : News h₀ L s.heap news) (hm : (l, listOf vs.toArray k) ∈ news) (hI : IntsAre vs (rangeKs 0 n)) (h0 : 0 ≤ i) (hi : i < n) (hs : n ≤ 1000) (h : ∀ t, Q (.int i t) s) (q1 : subscripted e2 false (.ref l) (.int i u) = operate [.ref l, .int i u] (getItem (.ref l) (.int i u))) (q2 : ∀ r, letTemporaryGo e1 (.ref l) r = pure ()) : wpAny (model prog w) A (subscriptTail e1 e2 (.ref l) (.int i u)) Q E s :=
  item_M N hm hI h0 (by rw [rangeKs_length]; exact hi) (by rw [rangeKs_length]; omega) (rangeKs_getD h0 hi) h q1 q2
end
section
open PySem.Spec
variable {prog : Program} {w : World} {A : Around} {E : Value → Shared → Prop} {s : Shared} {env : Env} {h₀ : Heap} {x : Str} {body : List Stmt} {Q : Flow → Shared → Prop}
/-- for over a range with a step -/
theorem rangec_M {r : Addr} {a₀ b₀ c : Int} {t₀ u₀ v₀ : Tok} {n : Nat} {m₀ : Str → Option Value} {news : List (Addr × Obj)} (J : Nat → (Str → Option Value) → List (Addr × Obj) → Prop)
    (hh : A.handled = none) (hr : IsRange s.heap r a₀ b₀ c t₀ u₀ v₀) (hsmall : Builtin.Range.small a₀ b₀ c = true) (hn : Builtin.Range.rangeSize a₀ b₀ c = (n : Int)) (F : Fr h₀ env.locals s.heap m₀) (N : News h₀ env.locals s.heap news) (hj : J 0 m₀ news)
    (turn : ∀ (i : Nat) t I m₁ nx h tk o, i < n → J i m₁ nx → (∀ p ∈ nx, p.1 ≠ I) → (∀ p ∈ news, p.1 < I) → Fr h₀ env.locals h (fun y => if y = x then some (.int (a₀ + i * c) t) else m₁ y) → News h₀ env.locals h ((I, o) :: nx) →
      wpAny (model prog w) A (execs body env) (TurnPostM h₀ env.locals I o (J (i + 1)) { s with heap := h, toks := tk } Q) E { s with heap := h, toks := tk })
    (done : ∀ m₁ nx h tk, J n m₁ nx → Fr h₀ env.locals h m₁ → News h₀ env.locals h nx → Q .next { s with heap := h, toks := tk }) :
    wpAny (model prog w) A (pyIter (.ref r)) (fun it s₂ => LoopAtV prog w A h₀ env x body Q E it s₂) E s := by
  refine wpAny_pyIter_range hr hsmall ?_
  have W : Walks prog w A s.heap.objs.size [s.heap.objs.size] [s.heap.objs.size] n (fun i v => i < n ∧ ∃ t, v = .int (a₀ + i * c) t)
      (fun i h => IsRangeIter h s.heap.objs.size (a₀ + (i : Nat) * c) ((n : Int) - (i : Nat)) c) := (Walks.range hh _ a₀ c n).bound
  refine loop_M J [] (fun _ _ _ _ _ hp => nomatch hp) W (List.mem_singleton.mpr rfl) ?_ (next_is_new F) (fun b hb => .inl (List.mem_singleton.mp hb)) (fun i h hs => ⟨_, hs⟩) ?_ (by show IsRangeIter _ _ _ _ _; rw [hn]; simpa using Heap.get?_push_size _ rfl) (F.push _) (fun p hp => ⟨Heap.get?_push_of_some _ (N p hp).1, (N p hp).2⟩) hj ?_ ?_
  · intro hm
    exact absurd F.ns.lt ((List.mem_singleton.mp hm) ▸ Nat.lt_irrefl _)
  · intro p hp e
    exact absurd (Heap.lt_size (N p hp).1) (by rw [e]; exact Nat.lt_irrefl _)
  · rintro i v m₁ nx h tk o hi ⟨_, t, rfl⟩ hJ hnx F₁ N₁
    exact turn i t _ m₁ nx h tk o hi hJ hnx (fun p hp => Heap.lt_size (N p hp).1) F₁ N₁
  · exact done
end
theorem range2_facts {b : Int} (h0 : -1 ≤ b) (h1 : b ≤ 3) : ∃ n : Nat, Builtin.Range.small 0 b 2 = true ∧ Builtin.Range.rangeSize 0 b 2 = (n : Int) ∧ ∀ i : Nat, i < n → (i : Int) * 2 + 1 ≤ b := by
  have : b = -1 ∨ b = 0 ∨ b = 1 ∨ b = 2 ∨ b = 3 := by omega
  rcases this with rfl | rfl | rfl | rfl | rfl
  · exact ⟨0, by decide, by decide, fun i h => by omega⟩
  · exact ⟨0, by decide, by decide, fun i h => by omega⟩
  · exact ⟨1, by decide, by decide, fun i h => by omega⟩
  · exact ⟨1, by decide, by decide, fun i h => by omega⟩
  · exact ⟨2, by decide, by decide, fun i h => by omega⟩
theorem re3 {P1 P2 : Addr} {l1 k1 l2 k2 : Int} {TL TL' : List (Addr × Obj)} {h h' h₀ : Heap} {L I K O : Addr} {o ko oo : Obj} {m : Str → Option Value} (F : Fr h₀ L h m) (N : News h₀ L h ((I, o) :: (K, ko) :: (O, oo) :: TL)) (G : KeepsBut (TL.map (·.1)) h h') (x : TNx P1 l1 k1 P2 l2 k2 TL h TL' h')
    (sI : ∀ p ∈ TL, p.1 ≠ I) (sK : ∀ p ∈ TL, p.1 ≠ K) (sO : ∀ p ∈ TL, p.1 ≠ O) : News h₀ L h' ((I, o) :: (K, ko) :: (O, oo) :: TL') ∧ (∀ p ∈ TL', p.1 ≠ I) ∧ (∀ p ∈ TL', p.1 ≠ K) ∧ (∀ p ∈ TL', p.1 ≠ O) ∧ TabsIs P1 l1 k1 P2 l2 k2 TL' := by
  have nI := N _ (.head _)
  have nk := N _ (.tail _ (.head _))
  have no := N _ (.tail _ (.tail _ (.head _)))
  exact ⟨keep_one G sI nI (keep_one G sK nk (keep_one G sO no (x.news F (fun p hp => N p (.tail _ (.tail _ (.tail _ hp))))))), x.ne sI nI.1, x.ne sK nk.1, x.ne sO no.1, x.1⟩
theorem bis_range {n : Nat} {x r : Int} (b : Bis (rangeKs 0 n) x r) (h0 : 0 ≤ x) (h1 : x < n) : r = x := by
  obtain ⟨b0, b1, b2, b3⟩ := b
  rw [rangeKs_length] at b1 b3
  rcases Int.lt_trichotomy r x with h | h | h
  · have h4 := b3 r.toNat (by omega) (by omega)
    rw [rangeKs_getD (by omega) (by omega)] at h4
    omega
  · exact h
  · have h4 := b2 x.toNat (by omega)
    rw [rangeKs_getD h0 h1] at h4
    omega
theorem range_facts : ∀ k : Nat, k < 64 → Builtin.Range.small 0 (k : Int) 1 = true ∧ Builtin.Range.rangeSize 0 (k : Int) 1 = (k : Int) := by decide +kernel
section
variable {c u o : Int} (M : Mont c u o)
include M
theorem Mont.pow_step (a : Int) (e i : Nat) : Mine.redc (kp c u (a ^ e) * kp c u (a ^ (2 ^ i))) c u o = kp c u (a ^ (e + 2 ^ i)) := by
  rw [M.mul, Int.pow_add]
theorem Mont.sq_step (a : Int) (i : Nat) : Mine.redc (kp c u (a ^ (2 ^ i)) * kp c u (a ^ (2 ^ i))) c u o = kp c u (a ^ (2 ^ (i + 1))) := by
  rw [M.mul, ← Int.pow_add, Nat.pow_succ, Nat.mul_two]
end
/-- the exponent that the first i figures tell -/
def expo (ds : List Int) (i : Nat) : Nat := (undg 2 (ds.take i)).toNat
theorem expo_zero (ds : List Int) : expo ds 0 = 0 := rfl
theorem undg2_nonneg : ∀ ds : List Int, (∀ d ∈ ds, 0 ≤ d ∧ d < 2) → 0 ≤ undg 2 ds
  | [], _ => Int.le_refl _
  | d :: r, h => by
    have h1 := undg2_nonneg r fun x hx => h x (.tail _ hx)
    have h2 := (h d (.head _)).1
    show 0 ≤ d + 2 * undg 2 r
    omega
theorem expo_succ {ds : List Int} {i : Nat} {d : Int} (hd : ds[i]? = some d) (hs : ∀ d ∈ ds, 0 ≤ d ∧ d < 2) : expo ds (i + 1) = expo ds i + (if d = 1 then 2 ^ i else 0) := by
  unfold expo
  have hi : i < ds.length := (List.getElem?_eq_some_iff.mp hd).1
  have e : ds.take (i + 1) = ds.take i ++ [d] := by rw [List.take_add_one, hd]; rfl
  have h1 : 0 ≤ undg 2 (ds.take i) := undg2_nonneg _ fun x hx => hs x (List.mem_of_mem_take hx)
  rw [e, undg_append, List.length_take, Nat.min_eq_left (by omega)]
  have h3 : undg 2 [d] = d := by simp [undg]
  rw [h3]
  have hdm := hs d (List.mem_of_getElem? hd)
  by_cases h4 : d = 1
  · subst h4
    rw [if_pos rfl, Int.mul_one]
    have : (2 : Int) ^ i = ((2 ^ i : Nat) : Int) := by push_cast; rfl
    rw [this]; generalize (2 : Nat) ^ i = q; omega
  · have : d = 0 := by omega
    subst this
    rw [if_neg h4, Int.mul_zero]; omega
theorem dg2_mem : ∀ (k : Nat) (x : Int), ∀ d ∈ dg 2 k x, 0 ≤ d ∧ d < 2
  | 0, _, _, h => nomatch h
  | k + 1, x, d, h => by
    rcases List.mem_cons.mp h with rfl | h
    · omega
    · exact dg2_mem k _ d h
theorem expo_all {two : Int} (h0 : 0 ≤ two) (h1 : two < 1048576) {n : Nat} (hn : n = ndig two 1) : expo (dg 2 n two) n = two.toNat := by
  unfold expo
  subst hn
  rw [List.take_of_length_le (by rw [dg_length]; exact Nat.le_refl _)]
  have h2 := a_value (n := 1) h0 (by decide)
  rw [hv_rev] at h2
  rw [show ((2 : Int) ^ (1 : Int).toNat) = 2 by rfl] at h2
  rw [h2]
theorem tl_ne_list {P1 P2 : Addr} {l1 k1 l2 k2 : Int} {TL : List (Addr × Obj)} {h : Heap} {D : Addr} {a : Array Value} {k : Nat} (T : TabsIs P1 l1 k1 P2 l2 k2 TL) (hD : h.get? D = some (listOf a k)) (hg : ∀ p ∈ TL, h.get? p.1 = some p.2) : ∀ p ∈ TL, p.1 ≠ D := by
  intro p hp e
  have h1 := hg p hp
  rw [e, hD] at h1
  have h2 : p.2 = listOf a k := (Option.some.inj h1).symm
  obtain ⟨t1, t2, rfl, ok1, ok2⟩ := T
  have tab : ∀ {P : Addr} {l k : Int} {q : Str} {t : TS} {p : Addr × Obj}, TsOk P q t → p ∈ tabs1 P l k t → ∃ vs, p.2.data = .fields vs := by
    intro P l k q t p ok hp
    cases t with
    | cold => rw [List.mem_singleton.mp hp]; exact ⟨_, rfl⟩
    | warm c o =>
      rcases List.mem_cons.mp hp with rfl | hp
      · exact ⟨_, rfl⟩
      · rw [List.mem_singleton.mp hp]
        obtain ⟨_, vs, t, hd, _⟩ := ok
        exact ⟨vs, hd⟩
  rcases List.mem_append.mp hp with hp | hp
  · obtain ⟨vs, hv⟩ := tab ok1 hp
    rw [h2] at hv; cases hv
  · obtain ⟨vs, hv⟩ := tab ok2 hp
    rw [h2] at hv; cases hv
theorem re4 {P1 P2 : Addr} {l1 k1 l2 k2 : Int} {TL TL' : List (Addr × Obj)} {h h' h₀ : Heap} {L J I K O : Addr} {o jo ko oo : Obj} {m : Str → Option Value} (F : Fr h₀ L h m) (N : News h₀ L h ((J, jo) :: (I, o) :: (K, ko) :: (O, oo) :: TL)) (G : KeepsBut (TL.map (·.1)) h h') (x : TNx P1 l1 k1 P2 l2 k2 TL h TL' h')
    (sJ : ∀ p ∈ TL, p.1 ≠ J) (sI : ∀ p ∈ TL, p.1 ≠ I) (sK : ∀ p ∈ TL, p.1 ≠ K) (sO : ∀ p ∈ TL, p.1 ≠ O) : News h₀ L h' ((J, jo) :: (I, o) :: (K, ko) :: (O, oo) :: TL') ∧ (∀ p ∈ TL', p.1 ≠ J) ∧ (∀ p ∈ TL', p.1 ≠ I) ∧ (∀ p ∈ TL', p.1 ≠ K) ∧ (∀ p ∈ TL', p.1 ≠ O) ∧ TabsIs P1 l1 k1 P2 l2 k2 TL' := by
  have nJ := N _ (.head _)
  obtain ⟨N', r⟩ := re3 F (fun p hp => N p (.tail _ hp)) G x sI sK sO
  exact ⟨keep_one G sJ nJ N', x.ne sJ nJ.1, r⟩
theorem re5 {P1 P2 : Addr} {l1 k1 l2 k2 : Int} {TL TL' : List (Addr × Obj)} {h h' h₀ : Heap} {L H J I K O : Addr} {o ho jo ko oo : Obj} {m : Str → Option Value} (F : Fr h₀ L h m) (N : News h₀ L h ((H, ho) :: (J, jo) :: (I, o) :: (K, ko) :: (O, oo) :: TL)) (G : KeepsBut (TL.map (·.1)) h h') (x : TNx P1 l1 k1 P2 l2 k2 TL h TL' h')
    (sH : ∀ p ∈ TL, p.1 ≠ H) (sJ : ∀ p ∈ TL, p.1 ≠ J) (sI : ∀ p ∈ TL, p.1 ≠ I) (sK : ∀ p ∈ TL, p.1 ≠ K) (sO : ∀ p ∈ TL, p.1 ≠ O) : News h₀ L h' ((H, ho) :: (J, jo) :: (I, o) :: (K, ko) :: (O, oo) :: TL') ∧ (∀ p ∈ TL', p.1 ≠ H) ∧ (∀ p ∈ TL', p.1 ≠ J) ∧ (∀ p ∈ TL', p.1 ≠ I) ∧ (∀ p ∈ TL', p.1 ≠ K) ∧ (∀ p ∈ TL', p.1 ≠ O) ∧ TabsIs P1 l1 k1 P2 l2 k2 TL' := by
  have nJ := N _ (.head _)
  obtain ⟨N', r⟩ := re4 F (fun p hp => N p (.tail _ hp)) G x sJ sI sK sO
  exact ⟨keep_one G sH nJ N', x.ne sH nJ.1, r⟩
theorem tabs_grown {P1 P2 : Addr} {l1 k1 l2 k2 : Int} {TL : List (Addr × Obj)} {h : Heap} (T : TabsIs P1 l1 k1 P2 l2 k2 TL) (hg : ∀ p ∈ TL, h.get? p.1 = some p.2) : GrownAt P1 h ∧ GrownAt P2 h := by
  obtain ⟨t1, t2, rfl, -, -⟩ := T
  have tab : ∀ {P : Addr} {l k : Int} (t : TS), (∀ p ∈ tabs1 P l k t, h.get? p.1 = some p.2) → GrownAt P h := by
    intro P l k t hp
    cases t with
    | cold => exact ⟨_, hp _ (.head _)⟩
    | warm c o => exact ⟨_, hp _ (.head _)⟩
  exact ⟨tab t1 fun p hp => hg p (List.mem_append_left _ hp), tab t2 fun p hp => hg p (List.mem_append_right _ hp)⟩
def divsL (number : Int) : List Int := (rangeKs 1 number.toNat).filter fun d => number % d == 0
def divsN (n : Nat) : List Nat := (List.range n).filter fun i => Nat.beq (Nat.mod n (Nat.succ i)) 0
def sumN (d : List Nat) : Nat := (d.map fun i => i + 1).sum
theorem divsL_nat (n : Nat) : divsL (n : Int) = (divsN n).map fun (i : Nat) => 1 + (i : Int) := by
  unfold divsL divsN rangeKs
  rw [Int.toNat_natCast, List.filter_map]
  congr 1
  congr 1
  funext i
  have e : (n : Int) % (1 + (i : Int)) = ((n % (i + 1) : Nat) : Int) := by
    rw [Int.natCast_emod]
    congr 1
    omega
  show ((n : Int) % (1 + (i : Int)) == 0) = _
  rw [e]
  show (((n % (i + 1) : Nat) : Int) == 0) = Nat.beq (n % (i + 1)) 0
  rw [Bool.eq_iff_iff, beq_iff_eq, Nat.beq_eq]
  omega
theorem sum_nat : ∀ d : List Nat, (d.map fun (i : Nat) => 1 + (i : Int)).sum = (sumN d : Int)
  | [] => rfl
  | i :: d => by
    unfold sumN
    rw [List.map_cons, List.map_cons, List.sum_cons, List.sum_cons, sum_nat d]
    unfold sumN
    omega
def intoN (n : Nat) (d : List Nat) : Bool :=
  (d.head? == some 0) && (d.getLast? == some (n - 1)) && Nat.ble d.length 200 && Nat.ble (sumN d) 1000 && (!(Nat.beq (n % 2) 0) || (Nat.beq (sumN d) (2 * n) == (Nat.beq n 6 || Nat.beq n 28 || Nat.beq n 496))) && (Nat.ble (n + 1) (sumN d) || Nat.beq n 1)
theorem into_N : ∀ k : Nat, k < 200 → intoN (k + 1) (divsN (k + 1)) = true := by decide +kernel
def sharesN (n o : Nat) : Bool := Nat.blt 1 (Nat.gcd n o) || Nat.beq (sumN (divsN (n * o))) (sumN (divsN n) * (o + 1))
theorem shares_N : ∀ k : Nat, k < 39 → (sharesN (k + 1) 2 && sharesN (k + 1) 3 && sharesN (k + 1) 5) = true := by decide +kernel
def intoChk (n : Int) (d : List Int) : Bool :=
  (decide (d = []) == false) && ((d.getD (0 : Int).toNat 0 != 1) == false) && ((d.getD (-1 + (d.length : Int)).toNat 0 != n) == false) && decide (1 ≤ d.length ∧ d.length ≤ 200 ∧ 0 ≤ d.sum ∧ d.sum ≤ 1000) && (!(n % 2 == 0) || (decide (d.sum = 2 * n) == (n == 6 || n == 28 || n == 496))) && (decide (n + 1 ≤ d.sum) || n == 1)
theorem into_chk (k : Nat) (h : k < 200) : intoChk ((k : Int) + 1) (divsL ((k : Int) + 1)) = true := by
  have c := into_N k h
  have e : (k : Int) + 1 = ((k + 1 : Nat) : Int) := rfl
  rw [e, divsL_nat]
  generalize divsN (k + 1) = d at *
  unfold intoN at c
  simp only [Bool.and_eq_true, Bool.or_eq_true, beq_iff_eq, Nat.beq_eq, Nat.ble_eq, Bool.not_eq_true'] at c
  obtain ⟨⟨⟨⟨⟨c1, c2⟩, c3⟩, c4⟩, c5⟩, c6⟩ := c
  have hs := sum_nat d
  have hl : (d.map fun (i : Nat) => 1 + (i : Int)).length = d.length := List.length_map ..
  have hne : d ≠ [] := fun q => by rw [q] at c1; cases c1
  have hl1 : 1 ≤ d.length := List.length_pos_iff.mpr hne
  have g1 : (d.map fun (i : Nat) => 1 + (i : Int)).getD (0 : Int).toNat 0 = 1 := by
    cases d with
    | nil => exact absurd rfl hne
    | cons x r =>
      have : x = 0 := by simpa using c1
      subst this; rfl
  have g2 : (d.map fun (i : Nat) => 1 + (i : Int)).getD (-1 + ((d.map fun (i : Nat) => 1 + (i : Int)).length : Int)).toNat 0 = ((k + 1 : Nat) : Int) := by
    rw [hl, show (-1 + (d.length : Int)).toNat = d.length - 1 by omega, List.getD_eq_getElem?_getD, List.getElem?_map, ← List.getLast?_eq_getElem?, c2]
    show 1 + ((k + 1 - 1 : Nat) : Int) = _
    omega
  unfold intoChk
  rw [g1, g2, hs, hl]
  simp only [Bool.and_eq_true, Bool.or_eq_true, beq_iff_eq, decide_eq_true_eq, bne_self_eq_false, Bool.not_eq_true', beq_eq_false_iff_ne, and_true, true_and, decide_eq_false_iff_not, List.map_eq_nil_iff]
  refine ⟨⟨⟨hne, by omega, by omega, by omega, by omega⟩, ?_⟩, by omega⟩
  rcases c5 with c5 | c5
  · left
    have : ¬ Nat.beq ((k + 1) % 2) 0 = true := by rw [c5]; decide
    rw [Nat.beq_eq] at this
    omega
  · right
    rw [Bool.eq_iff_iff] at c5 ⊢
    simp only [Nat.beq_eq, Bool.or_eq_true, decide_eq_true_eq, beq_iff_eq] at c5 ⊢
    omega
def sharesChk (n o : Int) : Bool := decide (1 < Int.gcd n o) || ((divsL (n * o)).sum != (divsL n).sum * (o + 1)) == false
theorem shares_one {k o : Nat} (h : sharesN (k + 1) o = true) : sharesChk ((k : Int) + 1) (o : Int) = true := by
  unfold sharesN at h
  unfold sharesChk
  have e : (k : Int) + 1 = ((k + 1 : Nat) : Int) := rfl
  rw [e, ← Int.natCast_mul, divsL_nat, divsL_nat, sum_nat, sum_nat, Int.gcd_natCast_natCast]
  rw [Bool.or_eq_true] at h ⊢
  rcases h with h | h
  · left
    rw [decide_eq_true_eq]
    have h2 : 2 ≤ (k + 1).gcd o := by simpa [Nat.blt] using h
    exact h2
  · right
    rw [Nat.beq_eq] at h
    rw [beq_iff_eq, bne_eq_false_iff_eq, h]
    push_cast; rfl
theorem shares_chk (k : Nat) (h : k < 39) : (sharesChk ((k : Int) + 1) 2 && sharesChk ((k : Int) + 1) 3 && sharesChk ((k : Int) + 1) 5) = true := by
  have c := shares_N k h
  rw [Bool.and_eq_true, Bool.and_eq_true] at c ⊢
  exact ⟨⟨shares_one (o := 2) c.1.1, shares_one (o := 3) c.1.2⟩, shares_one (o := 5) c.2⟩
def perfChk (d : Int) (mn : Nat) (ds : List Int) (v : List Int) : Bool :=
  (ds == List.replicate (mn - 1) 0 ++ List.replicate mn 1) && ((ds.filter fun x => x == 1).length == mn) && (v.sum == 2 * d) && ((v.map fun p => d / p).sum == 2 * d) && ((rangeKs 0 (2 ^ mn)).sum == d) && v.all (fun p => decide (1 ≤ p ∧ p ≤ 496))
/-- what the first loop has made behind i turns -/
def mades : Nat → List Int
  | 0 => []
  | 1 => [496]
  | 2 => [496]
  | 3 => [28, 496]
  | _ => [6, 28, 496]
theorem mades_srt (i : Nat) : Srt (mades i) := by
  rw [srt_iff]
  match i with
  | 0 => decide
  | 1 => decide
  | 2 => decide
  | 3 => decide
  | i + 4 => show List.Pairwise _ [6, 28, 496]; decide
theorem mades_length (i : Nat) : (mades i).length ≤ 3 := by
  match i with
  | 0 => decide
  | 1 => decide
  | 2 => decide
  | 3 => decide
  | i + 4 => show 3 ≤ 3; decide
/-- a number of so many ones -/
def onesOf (k : Nat) : Int := undg (2 ^ (1 : Int).toNat) (List.replicate k 1)
theorem ones_facts : ∀ k : Nat, k ≤ 5 → 2 ≤ k → onesOf k = 2 ^ k - 1 ∧ 3 ≤ onesOf k ∧ onesOf k ≤ 31 := by decide +kernel
def primeB (o : Int) : Bool := decide ((rangeKs 2 (o - 2).toNat).filter (fun d => o % d == 0) = [])
theorem prime_facts : primeB (onesOf 5) = true ∧ primeB (onesOf 4) = false ∧ primeB (onesOf 3) = true ∧ primeB (onesOf 2) = true := by decide +kernel
theorem five_item {i : Nat} {v : Value} {t5 t4 t3 t2 : Tok} (h : [Value.int 5 t5, .int 4 t4, .int 3 t3, .int 2 t2][i]? = some v) : ∃ (k : Nat) (t : Tok), v = .int (k : Int) t ∧ i + k = 5 ∧ 2 ≤ k := by
  match i, h with
  | 0, h => cases h; exact ⟨5, _, rfl, rfl, by decide⟩
  | 1, h => cases h; exact ⟨4, _, rfl, rfl, by decide⟩
  | 2, h => cases h; exact ⟨3, _, rfl, rfl, by decide⟩
  | 3, h => cases h; exact ⟨2, _, rfl, rfl, by decide⟩
  | i + 4, h => simp at h
theorem filt_succ (a : Int) (p : Int → Bool) (i : Nat) : (rangeKs a (i + 1)).filter p = (rangeKs a i).filter p ++ (if p (a + (i : Int)) = true then [a + (i : Int)] else []) := by
  unfold rangeKs
  rw [List.range_succ, List.map_append, List.filter_append]
  congr 1
  simp only [List.map_cons, List.map_nil, List.filter_cons, List.filter_nil]
/-- one object of the ledger turned, the rest as it stood -/
theorem re_o {h h' h₀ : Heap} {L D : Addr} {o o' : Obj} {mts ps qs : List (Addr × Obj)} (N : News h₀ L h (ps ++ (D, o) :: qs)) (G : KeepsBut (mts.map (·.1)) h h') (hm : mts = [(D, o)]) (hD : h'.get? D = some o') (a : ∀ p ∈ ps, p.1 ≠ D) (b : ∀ p ∈ qs, p.1 ≠ D) : News h₀ L h' (ps ++ (D, o') :: qs) := by
  subst hm
  have n := N (D, o) (List.mem_append_right _ (.head _))
  have k : ∀ p ∈ ps ++ (D, o) :: qs, p.1 ≠ D → h'.get? p.1 = some p.2 ∧ p.1 ≠ L ∧ h₀.get? p.1 = none := fun p hp hne =>
    ⟨G _ _ (fun hx => hne (List.mem_singleton.mp hx)) (N p hp).1, (N p hp).2⟩
  refine news_append (fun p hp => k p (List.mem_append_left _ hp) (a p hp)) (fun p hp => ?_)
  rcases List.mem_cons.mp hp with rfl | hp
  · exact ⟨hD, n.2⟩
  · exact k p (List.mem_append_right _ (.tail _ hp)) (b p hp)
theorem insf_496 : insf (mades 0) (31 * (31 + 1) / 2) = mades 1 := by decide
theorem insf_28 : insf (mades 2) (7 * (7 + 1) / 2) = mades 3 := by decide
theorem insf_6 : insf (mades 3) (3 * (3 + 1) / 2) = mades 4 := by decide
theorem itemneg_M {prog : Program} {w : World} {A : Around} {E : Value → Shared → Prop} {s : Shared} {h₀ : Heap} {L : Addr} {news : List (Addr × Obj)} {l : Addr} {vs : List Value} {ns : List Int} {k : Nat} {i : Int} {u : Tok} {e1 e2 : Expr} {Q : Value → Shared → Prop} (N : News h₀ L s.heap news) (hm : (l, listOf vs.toArray k) ∈ news) (hI : IntsAre vs ns) (h0 : i < 0) (hi : -(ns.length : Int) ≤ i) (hs : -(2 ^ 63) ≤ i) (h : ∀ t, Q (.int (ns.getD (i + ns.length).toNat 0) t) s) (q1 : subscripted e2 false (.ref l) (.int i u) = operate [.ref l, .int i u] (getItem (.ref l) (.int i u))) (q2 : ∀ r, letTemporaryGo e1 (.ref l) r = pure ()) : wpAny (model prog w) A (subscriptTail e1 e2 (.ref l) (.int i u)) Q E s :=
  item_list_ints_neg (N.isList hm) hI h0 hi hs h q1 q2
theorem into_facts (k : Nat) (h : k < 200) : decide (divsL ((k : Int) + 1) = []) = false ∧ ((divsL ((k : Int) + 1)).getD (0 : Int).toNat 0 != 1) = false ∧ ((divsL ((k : Int) + 1)).getD (-1 + ((divsL ((k : Int) + 1)).length : Int)).toNat 0 != (k : Int) + 1) = false ∧
    (1 ≤ (divsL ((k : Int) + 1)).length ∧ (divsL ((k : Int) + 1)).length ≤ 200 ∧ 0 ≤ (divsL ((k : Int) + 1)).sum ∧ (divsL ((k : Int) + 1)).sum ≤ 1000) ∧ (((k : Int) + 1) % 2 = 0 → decide ((divsL ((k : Int) + 1)).sum = 2 * ((k : Int) + 1)) = ((k : Int) + 1 == 6 || (k : Int) + 1 == 28 || (k : Int) + 1 == 496)) ∧ ((k : Int) + 1 + 1 ≤ (divsL ((k : Int) + 1)).sum ∨ (k : Int) + 1 = 1) := by
  have c := into_chk k h
  generalize divsL ((k : Int) + 1) = d at *
  generalize (k : Int) + 1 = n at *
  unfold intoChk at c
  simp only [Bool.and_eq_true, beq_iff_eq, Bool.or_eq_true, decide_eq_true_eq, Bool.not_eq_true', beq_eq_false_iff_ne] at c
  obtain ⟨⟨⟨⟨⟨c1, c2⟩, c3⟩, c4⟩, c5⟩, c6⟩ := c
  refine ⟨c1, c2, c3, c4, fun e => ?_, c6⟩
  rcases c5 with c5 | c5
  · exact absurd e (by simpa using c5)
  · exact c5
/-- a mark that bids the walk stop at the next if -/
def MarkIf : Prop := True
/-- behind an if that goes on -/
def IfEnd (g : Heap) (L : Addr) (m : Str → Option Value) (news : List (Addr × Obj)) (s : Shared) (f : Flow) (s' : Shared) : Prop :=
  f = .next ∧ ∃ h tk, s' = { s with heap := h, toks := tk } ∧ Fr g L h m ∧ News g L h news
theorem bis_cases {n r : Int} (b : Bis [6, 28, 496] n r) : (r = 0 ∧ n ≤ 6) ∨ (r = 1 ∧ 6 < n ∧ n ≤ 28) ∨ (r = 2 ∧ 28 < n ∧ n ≤ 496) ∨ (r = 3 ∧ 496 < n) := by
  obtain ⟨b0, b1, b2, b3⟩ := b
  have l : (([6, 28, 496] : List Int).length : Int) = 3 := rfl
  rw [l] at b1
  have hr : r = 0 ∨ r = 1 ∨ r = 2 ∨ r = 3 := by omega
  rcases hr with rfl | rfl | rfl | rfl
  · exact .inl ⟨rfl, b3 0 (by decide) (by decide)⟩
  · exact .inr (.inl ⟨rfl, b2 0 (by decide), b3 1 (by decide) (by decide)⟩)
  · exact .inr (.inr (.inl ⟨rfl, b2 1 (by decide), b3 2 (by decide) (by decide)⟩))
  · exact .inr (.inr (.inr ⟨rfl, b2 2 (by decide)⟩))
theorem if_join {M : Model} {A : Around} {E : Value → Shared → Prop} {s : Shared} {t : Sem Flow} {Q : Flow → Shared → Prop} {g : Heap} {L : Addr} {m : Str → Option Value} {news : List (Addr × Obj)}
    (h1 : wpAny M A t (IfEnd g L m news s) E s) (h2 : ∀ h tk, Fr g L h m → News g L h news → Q .next { s with heap := h, toks := tk }) : wpAny M A t Q E s :=
  wpAny_mono h1 (fun f s' hq => by obtain ⟨rfl, h, tk, rfl, F, N⟩ := hq; exact h2 h tk F N) fun _ _ e => e
theorem three_item {i : Nat} {v : Value} {t5 t4 t3 : Tok} (h : [Value.int 2 t5, .int 3 t4, .int 5 t3][i]? = some v) : ∃ (o : Int) (t : Tok), v = .int o t ∧ (o = 2 ∨ o = 3 ∨ o = 5) := by
  match i, h with
  | 0, h => cases h; exact ⟨2, _, rfl, by decide⟩
  | 1, h => cases h; exact ⟨3, _, rfl, by decide⟩
  | 2, h => cases h; exact ⟨5, _, rfl, by decide⟩
  | i + 3, h => simp at h
theorem shares_facts {n o : Int} (h0 : 1 ≤ n) (h1 : n < 40) (ho : o = 2 ∨ o = 3 ∨ o = 5) (hg : ¬ 1 < Int.gcd n o) : ((divsL (n * o)).sum != (divsL n).sum * (o + 1)) = false := by
  obtain ⟨k, rfl⟩ : ∃ k : Nat, n = (k : Int) + 1 := ⟨(n - 1).toNat, by omega⟩
  have c := shares_chk k (by omega)
  rw [Bool.and_eq_true, Bool.and_eq_true] at c
  have key : sharesChk ((k : Int) + 1) o = true := by exact ho.elim (fun e => e ▸ c.1.1) fun h => h.elim (fun e => e ▸ c.1.2) fun e => e ▸ c.2
  unfold sharesChk at key
  rw [Bool.or_eq_true, decide_eq_true_eq, beq_iff_eq] at key
  exact key.resolve_left hg
/-- a mark that bids the walk stop at the next for -/
def MarkFor : Prop := True
section
open PySem.Spec
variable {prog : Program} {w : World} {A : Around} {E : Value → Shared → Prop} {s : Shared} {env : Env} {h₀ : Heap} {target : Expr} {body : List Stmt} {Q : Flow → Shared → Prop}
def TurnT (h₀ : Heap) (L : Addr) (I : Addr) (o : Obj) (Jn : (Str → Option Value) → List (Addr × Obj) → Prop) (s : Shared) (f : Flow) (s' : Shared) : Prop := f = .next ∧ TurnM h₀ L I o Jn s s'
/-- for over a list of the ledger that no turn changes, whatever the target -/
theorem listT_M {l : Addr} {vs : List Value} {k : Nat} {m₀ : Str → Option Value} {news : List (Addr × Obj)} (J : Nat → (Str → Option Value) → List (Addr × Obj) → Prop)
    (hh : A.handled = none) (hl : (l, listOf vs.toArray k) ∈ news) (hfix : ∀ i m nx, J i m nx → (l, listOf vs.toArray k) ∈ nx) (F : Fr h₀ env.locals s.heap m₀) (N : News h₀ env.locals s.heap news) (hj : J 0 m₀ news)
    (turn : ∀ (i : Nat) v I m₁ nx (s₁ : Shared) o, vs[i]? = some v → J i m₁ nx → (∀ p ∈ nx, p.1 ≠ I) → (∀ p ∈ news, p.1 < I) → Fr h₀ env.locals s₁.heap m₁ → News h₀ env.locals s₁.heap ((I, o) :: nx) →
      wpAny (model prog w) A (assign target env v) (fun _ s₃ => wpAny (model prog w) A (execs body env) (TurnT h₀ env.locals I o (J (i + 1)) s₁) E s₃) E s₁)
    (done : ∀ m₁ nx h tk, J vs.length m₁ nx → Fr h₀ env.locals h m₁ → News h₀ env.locals h nx → Q .next { s with heap := h, toks := tk }) :
    wpAny (model prog w) A (pyIter (.ref l)) (fun it s₂ => LoopAtT prog w A h₀ env target body Q E it s₂) E s := by
  have hol : s.heap.get? l = some (listOf vs.toArray k) := (N _ hl).1
  have hls : s.heap.IsList l vs.toArray := ⟨_, hol, rfl, k, rfl⟩
  have hne : l ≠ s.heap.objs.size := Nat.ne_of_lt (Heap.lt_size hol)
  have hnI : ∀ p ∈ news, p.1 < s.heap.objs.size := fun p hp => Heap.lt_size (N p hp).1
  refine wpAny_pyIter_list hls ?_
  have W := Walks.list (prog := prog) (w := w) hh s.heap.objs.size l hne vs.toArray
  have hlen : vs.toArray.size = vs.length := by simp
  rw [hlen] at W
  refine ⟨s.heap.objs.size, _, _, vs.length, _, _, m₀, news, J, rfl, W, ?_, ?_, ?_, ⟨⟨_, Heap.get?_push_size _ rfl, rfl, rfl⟩, hls.at fun o e => Heap.get?_push_of_some _ e⟩, F.push _, (fun p hp => ⟨Heap.get?_push_of_some _ (N p hp).1, (N p hp).2⟩), (fun i s' v Q' st hQ' => letGo_listiter st.1 hQ'), hj, ?_, ?_⟩
  · intro hm
    rcases List.mem_cons.mp hm with e | hm
    · exact absurd F.ns.lt (e ▸ Nat.lt_irrefl _)
    · exact (N _ hl).2.1 ((List.mem_singleton.mp hm).symm)
  · intro b hb
    rw [List.mem_singleton.mp hb]
    exact next_is_new F
  · intro p hp hI
    exact absurd (hnI p hp) ((List.mem_singleton.mp hI) ▸ Nat.lt_irrefl _)
  · rintro i v m₁ nx s₁ own hi hP hJ hoff hown hget hall hst' F₁ N₁
    obtain ⟨⟨o, ho, _⟩, _⟩ := id hst'
    have hIn : h₀.get? s.heap.objs.size = none := next_is_new F
    have hio : (s.heap.objs.size, o) ∈ own := hall _ (.head _) hIn o ho
    have hnx : ∀ p ∈ nx, p.1 ≠ s.heap.objs.size := fun p hp e => hoff p hp (by rw [e]; exact List.mem_singleton.mpr rfl)
    have N₂ : News h₀ env.locals s₁.heap ((s.heap.objs.size, o) :: nx) := fun p hp => by
      rcases List.mem_cons.mp hp with rfl | hp
      · exact N₁ _ (List.mem_append_left _ hio)
      · exact N₁ _ (List.mem_append_right _ hp)
    refine wpAny_mono (turn i v _ m₁ nx s₁ o (by simpa using hP) hJ hnx hnI F₁ N₂) (fun _ s₂ h₂ => wpAny_mono h₂ (fun f s₃ p => ?_) fun _ _ e => e) fun _ _ e => e
    obtain ⟨rfl, h', tk', m', nx', e, F', N', hn', hJ'⟩ := p
    refine ⟨rfl, h', tk', m', nx', e, F', fun p hp => ?_, fun p hp hm => hn' p hp (List.mem_singleton.mp hm), hJ'⟩
    rcases List.mem_append.mp hp with hp | hp
    · have h3 := N₁ p (List.mem_append_left _ hp)
      rcases List.mem_cons.mp (hown p hp) with e1 | hm
      · have e2 : p.2 = o := by
          have h4 := h3.1
          rw [e1, ho] at h4
          exact (Option.some.inj h4).symm
        rw [show p = (s.heap.objs.size, o) from Prod.ext e1 e2]
        exact N' _ (.head _)
      · have e1 := List.mem_singleton.mp hm
        have h4 := hfix _ _ _ hJ
        have h5 := (N₂ _ (.tail _ h4)).1
        have h6 := h3.1
        rw [e1, h5] at h6
        have e2 : p = (l, listOf vs.toArray k) := Prod.ext e1 (Option.some.inj h6).symm
        rw [e2]
        exact N' _ (.tail _ (hfix _ _ _ hJ'))
    · exact N' _ (.tail _ hp)
  · rintro h' tk m' news' F' N' _ hJ
    exact done m' news' h' tk hJ F' N'
end
/-- a frame told anew: three names, and the rest without a word -/
theorem fr3 {g h : Heap} {L : Addr} {m : Str → Option Value} (x y z : Str) {a b c : Value} (F : Fr g L h m) (h1 : m x = some a) (h2 : m y = some b) (h3 : m z = some c) : ∃ m' : Str → Option Value, Fr g L h (fun n : Str => if n = x then some a else if n = y then some b else if n = z then some c else m' n) := by
  refine ⟨m, ?_⟩
  have e : (fun n => if n = x then some a else if n = y then some b else if n = z then some c else m n) = m := by
    funext n
    by_cases e1 : n = x
    · rw [if_pos e1, e1, h1]
    · rw [if_neg e1]
      by_cases e2 : n = y
      · rw [if_pos e2, e2, h2]
      · rw [if_neg e2]
        by_cases e3 : n = z
        · rw [if_pos e3, e3, h3]
        · rw [if_neg e3]
  rw [e]; exact F
theorem fr2 {g h : Heap} {L : Addr} {m : Str → Option Value} (x y : Str) {a b : Value} (F : Fr g L h m) (h1 : m x = some a) (h2 : m y = some b) : ∃ m' : Str → Option Value, Fr g L h (fun n : Str => if n = x then some a else if n = y then some b else m' n) := by
  obtain ⟨m', F'⟩ := fr3 x y y F h1 h2 h2
  refine ⟨fun n => if n = y then some b else m' n, ?_⟩
  exact F'
theorem perf_chk : perfChk 6 2 (dg (2 ^ (1 : Int).toNat) (ndig 6 1) 6) (divsL 6) = true ∧ perfChk 28 3 (dg (2 ^ (1 : Int).toNat) (ndig 28 1) 28) (divsL 28) = true ∧ perfChk 496 5 (dg (2 ^ (1 : Int).toNat) (ndig 496 1) 496) (divsL 496) = true := by decide +kernel
theorem perf_facts {i : Nat} {d : Int} (h : ([6, 28, 496] : List Int)[i]? = some d) : 6 ≤ d ∧ d ≤ 496 ∧ ∃ mn : Nat, 2 ≤ mn ∧ mn ≤ 5 ∧ dg (2 ^ (1 : Int).toNat) (ndig d 1) d = List.replicate (mn - 1) 0 ++ List.replicate mn 1 ∧
    ((dg (2 ^ (1 : Int).toNat) (ndig d 1) d).filter fun x => x == 1).length = mn ∧ (divsL d).sum = 2 * d ∧ ((divsL d).map fun p => d / p).sum = 2 * d ∧ (rangeKs 0 (2 ^ mn)).sum = d ∧ ∀ p ∈ divsL d, 1 ≤ p ∧ p ≤ 496 := by
  obtain ⟨c1, c2, c3⟩ := perf_chk
  have un : ∀ {d : Int} {mn : Nat} {ds v : List Int}, perfChk d mn ds v = true → ds = List.replicate (mn - 1) 0 ++ List.replicate mn 1 ∧ (ds.filter fun x => x == 1).length = mn ∧ v.sum = 2 * d ∧ (v.map fun p => d / p).sum = 2 * d ∧ (rangeKs 0 (2 ^ mn)).sum = d ∧ ∀ p ∈ v, 1 ≤ p ∧ p ≤ 496 := by
    intro d mn ds v h
    unfold perfChk at h
    simp only [Bool.and_eq_true, beq_iff_eq, List.all_eq_true, decide_eq_true_eq] at h
    obtain ⟨⟨⟨⟨⟨h1, h2⟩, h3⟩, h4⟩, h5⟩, h6⟩ := h
    exact ⟨h1, h2, h3, h4, h5, h6⟩
  match i, h with
  | 0, h => cases h; exact ⟨by decide, by decide, 2, by decide, by decide, un c1⟩
  | 1, h => cases h; exact ⟨by decide, by decide, 3, by decide, by decide, un c2⟩
  | 2, h => cases h; exact ⟨by decide, by decide, 5, by decide, by decide, un c3⟩
  | i + 3, h => simp at h
theorem pow_M {prog : Program} {w : World} {A : Around} {E : Value → Shared → Prop} {s : Shared} {k : Nat} {unit : Int} {t u : Tok} {Q : Value → Shared → Prop} (hu : unit = 2 ^ k) (hk : k ≤ 1000) (h : Q (.int unit s.toks) { s with toks := s.toks + 1 }) : wpAny (model prog w) A (binaryOp .Pow (.int 2 t) (.int (k : Nat) u)) Q E s := by
  subst hu
  exact pow_int_small (by omega) (by omega) (by decide) h
theorem preSum_range (a : Int) : ∀ n : Nat, preSum (fun i : Nat => a + (i : Int)) n = (rangeKs a n).sum
  | 0 => rfl
  | n + 1 => by
    show preSum (fun i : Nat => a + (i : Int)) n + (a + (n : Int)) = _
    rw [preSum_range a n]
    unfold rangeKs
    rw [List.range_succ, List.map_append, List.sum_append]
    simp
section
variable {prog : Program} {w : World} {A : Around} {E : Value → Shared → Prop} {s : Shared} {h₀ : Heap} {L : Addr} {m : Str → Option Value} {news : List (Addr × Obj)}
theorem sumrange_M {r : Addr} {a b : Int} {t u v : Tok} {n : Nat} {Q : Value → Shared → Prop} (hh : A.handled = none) (F : Fr h₀ L s.heap m) (N : News h₀ L s.heap news) (hr : IsRange s.heap r a b 1 t u v) (hsm : Builtin.Range.small a b 1 = true) (hn : Builtin.Range.rangeSize a b 1 = (n : Int))
    (h : ∀ h' tk t', Fr h₀ L h' m → News h₀ L h' news → Q (.int (rangeKs a n).sum t') { s with heap := h', toks := tk }) : wpAny (model prog w) A (call (.builtin "sum") [.ref r]) Q E s := by
  refine call_sum_walkG (wpAny_pyIter_range hr hsm ?_)
  have W := LCg.range_walks (prog := prog) (w := w) (A := A.in1) (I := s.heap.objs.size) hh a n
  refine ⟨_, _, _, n, _, _, fun i : Nat => a + (i : Int), rfl, W, by show IsRangeIter _ _ _ _ _; rw [hn]; simpa using Heap.get?_push_size _ rfl, ?_, fun i v hv => hv, ?_⟩
  · intro c hc
    rw [List.mem_singleton.mp hc]
    show s.heap.objs.size < (s.heap.push _).objs.size
    rw [Heap.size_push]; exact Nat.lt_succ_self _
  · intro h' tk t' hk
    rw [preSum_range]
    have k' : ∀ c o, s.heap.get? c = some o → h'.get? c = some o := fun c o e => hk c o (fun hm => absurd (Heap.lt_size e) (by rw [List.mem_singleton.mp hm]; exact Nat.lt_irrefl _)) (Heap.get?_push_of_some _ e)
    exact h h' tk t' (F.keeps k') (N.grown k')
end
/-- a mark that bids the walk take the rule for a range with a step -/
def MarkStep : Prop := True
section
open PySem.Spec
variable {prog : Program} {w : World} {A : Around} {E : Value → Shared → Prop} {s : Shared} {env : Env} {h₀ : Heap} {L : Addr} {m : Str → Option Value}
def SrcStep (prog : Program) (w : World) (A : Around) (h₀ : Heap) (L : Addr) (m : Str → Option Value) (env : Env) (elt : Expr) (x : Str) (scope : Scope) (cl : List (Str × Addr)) (Fin : Shared → List Value → List (Addr × Obj) → Prop) (xv : Value) (s₁ : Shared) : Prop :=
  ∃ r a b c t u v n news, xv = .ref r ∧ A.handled = none ∧ Fr h₀ L s₁.heap m ∧ News h₀ L s₁.heap news ∧ IsRange s₁.heap r a b c t u v ∧ Builtin.Range.small a b c = true ∧ Builtin.Range.rangeSize a b c = ((n : Nat) : Int) ∧ n ≤ sizeLine ∧
    ∀ s₂ : Shared, (∃ h, s₂ = { s₁ with heap := h }) → LCg.CompRest prog w A h₀ L m env elt x scope cl s₂ (fun _ => True) (fun i v => ∃ t, v = .int (a + (i : Int) * c) t) (Fin s₂) n 0 [] news
theorem comp_step {elt iter : Expr} {x : Str} {px : Pos} {scope : Scope} {cl : List (Str × Addr)} {pos : Pos} {Q : Value → Shared → Prop} (_F₀ : Fr h₀ L s.heap m)
    (hclos : closureFor scope env = pure cl) (hcell : ∀ y ∈ scope.names, y.2 ≠ .cell) (hkind : scope.kind = .function)
    (hnames : ∀ y ∈ scope.names, y.2 = .local → scope.names.lookup y.1 = some .local) (hx : scope.names.lookup x = some .local)
    (h : wpAny (model prog w) A (eval iter env) (SrcStep prog w A h₀ L m env elt x scope cl (fun s₂ => LCg.FinE h₀ L m s₂ Q)) E s)
    (hs : ∀ x, foldedSetIterable iter env x = pure x) :
    wpAny (model prog w) A (eval (.ListComp elt [⟨.Name x px, iter, [], 0⟩] scope pos) env) Q E s := by
  rw [eval_ListComp]
  refine wpAny_comprehension_free (use := none) rfl hs hclos hkind hnames (wpAny_mono h (fun xv s₁ h₁ => ?_) fun _ _ e => e)
  obtain ⟨r, a, b, c, t, u, v, n, news, rfl, hh, F, N, hr, hsm, hn, hsz, R⟩ := h₁
  refine wpAny_pyIter_range hr hsm ?_
  refine LCg.block_U (Walks.range hh s₁.heap.objs.size a c n) hsz (fun i g st => ⟨_, st⟩) (fun i g g' o nw st e e' _ _ _ => ?_) hcell hkind hx (by show IsRangeIter _ _ _ _ _; rw [hn]; simpa using Heap.get?_push_size _ rfl) (fun q hq => ?_)
    (F.keeps fun _ _ e => Heap.get?_push_of_some _ e) (N.grown fun _ _ e => Heap.get?_push_of_some _ e) (Nat.ne_of_lt F.ns.lt) (next_is_new F) (fun p hp => Nat.ne_of_lt (Heap.lt_size (N p hp).1)) trivial (R _ ⟨_, rfl⟩) ?_
  · have st' : g.get? s₁.heap.objs.size = some _ := st
    show g'.get? s₁.heap.objs.size = some _
    rw [e', ← e]; exact st'
  · rw [List.mem_singleton.mp hq]
    show s₁.heap.objs.size < (s₁.heap.push _).objs.size
    rw [Heap.size_push]; exact Nat.lt_succ_self _
  · intro D C g tk m' ys news' F' N' o1 hn' hC₀ hD₀ hCL hDL hCD offC fin
    refine ⟨m', hn', fun g' hs' => fin D g' tk (F'.change hs' hCL hC₀) (fun p hp => ?_) o1⟩
    refine ⟨hs'.extBut _ _ ?_ (N' p hp).1, (N' p hp).2⟩
    rcases List.mem_cons.mp hp with rfl | hp
    · exact Ne.symm hCD
    · exact offC p hp
end
def cubs (j : Nat) : List Int := (List.range j).map fun (i : Nat) => (1 + (i : Int) * 2) ^ (3 : Int).toNat
theorem cubs_succ (j : Nat) : cubs (j + 1) = cubs j ++ [(1 + (j : Int) * 2) ^ (3 : Int).toNat] := by
  unfold cubs
  rw [List.range_succ, List.map_append]
  rfl
open_top hd for PySem.Challenge.rw_ib0004_02
abbrev prog : Program := PySem.Challenge.rw_ib0004_02.row.prog
abbrev TB (h : Heap) : Prop := CodeHd h 34 30 ∧ CodeHd h 41 37
abbrev Tp (a b : Int) (t1 t2 : Tok) : Obj := { cls := .type "tuple", data := .seq #[.int a t1, .int b t2] }
local macro_rules | `(tactic| walk_at "newTuple") => `(tactic| (k_here; k_dflt (refine' newTuple_M ?k1 ?k2 ?_; (case k1 => k_asm); (case k2 => k_asm); k_whole); intro l' h' F' N' l1 l2; (try k_lt l1); (try k_lt2 l2); (try k_sweep)))
local macro_rules | `(tactic| walk_at "newList") => `(tactic| (k_here; k_dflt (refine' newList_M ?k1 ?k2 ?_; (case k1 => k_asm); (case k2 => k_asm); k_whole); intro l' h' F' N' l1 l2; (try k_lt l1); (try k_lt2 l2); (try k_sweep)))
local macro_rules | `(tactic| walk_at "binaryOp Mult ref int") => `(tactic| (k_here; (with_reducible show wpAny _ _ (binaryOp Operator.Mult (Value.ref _) (Value.int _ _)) _ _ _); k_dflt (refine' mul1_M ?k1 ?k2 ?k3 ?k4 ?k5 ?_; (case k1 => k_asm); (case k2 => k_asm); (case k3 => k_mem); (case k4 => omega); (case k5 => omega); k_whole); intro l' vs' h' i1 F' N' l1 l2; (try k_lt l1); (try k_lt2 l2); (try k_sweep)))
local macro_rules | `(tactic| walk_at "call ref") => `(tactic| (k_here; (with_reducible show wpAny _ _ (call (Value.ref _) _) _ _ _); refine Stop.mk ?_))
local macro_rules | `(tactic| walk_at "call builtin:len") => `(tactic| (k_here; k_dflt (show wpAny _ _ (call (Value.builtin _) [Value.ref _]) _ _ _); k_dflt (refine' len_M ?k1 ?k2 ?k3 ?k4 ?_; (case k1 => k_asm); (case k2 => k_mem); (case k3 => with_reducible assumption); (case k4 => (try simp only [List.length_replicate]); omega); k_whole); (try simp only [List.length_replicate])))
local macro_rules | `(tactic| walk_at "eval Name") => `(tactic| (k_here; kc_free; k_dflt (refine' nameX_G ?F ?c ?g ?d ?_ ?a ?b; (case a => rfl); (case b => rfl); (case F => k_asm); (case c => rfl); (case g => assumption); (case d => assumption); k_whole)))
local macro_rules | `(tactic| walk_at "binaryOp RShift int int") => `(tactic| (k_here; (with_reducible refine' shr_M ?k1 ?k2 ?_); (case k1 => omega); (case k2 => omega)))
local macro_rules | `(tactic| walk_at "binaryOp RShift int int") => `(tactic| (k_here; (with_reducible refine' shr1_M ?_ ?k1); (case k1 => omega)))
local macro_rules | `(tactic| walk_at "binaryOp LShift int int") => `(tactic| (k_here; (with_reducible refine' shl_M ?k1 ?k2 ?k3 ?k4 ?_); (case k1 => omega); (case k2 => omega); (case k3 => omega); (case k4 => omega)))
local macro_rules | `(tactic| walk_at "binaryOp BitXor int int") => `(tactic| (k_here; (with_reducible refine' xor_M ?k1 ?_); (case k1 => omega)))
local macro_rules | `(tactic| walk_at "callWith ref") => `(tactic| (k_here; kn_here; k_dflt (refine' callWith_F ?k1 ?_; (case k1 => exact fnAt_G (by k_asm) (by assumption)); k_whole)))
local macro_rules | `(tactic| walk_at "FnAt") => `(tactic| (k_dflt (exact fnAt_G (by k_asm) (by assumption))))
local macro_rules | `(tactic| walk_at "call builtin:list.append") => `(tactic| (k_here; k_dflt (show wpAny _ _ (call (Value.builtin _) [Value.ref _, _]) _ _ _); k_dflt (refine' append_M ?k1 ?k2 ?k3 ?k4 ?_; (case k1 => k_asm); (case k2 => k_asm); (case k3 => k_upd); (case k4 => first | omega | (simp; omega)); k_whole); intro h' F' N'; (try k_sweep)))
local macro_rules | `(tactic| walk_at "call builtin:list.reverse") => `(tactic| (k_here; k_dflt (show wpAny _ _ (call (Value.builtin _) [Value.ref _]) _ _ _); k_dflt (refine' reverse_M ?k1 ?k2 ?k3 ?k4 ?_; (case k1 => k_asm); (case k2 => k_asm); (case k3 => k_upd); (case k4 => first | omega | (simp; omega)); k_whole); intro h' F' N'; (try k_sweep)))
local macro_rules | `(tactic| walk_at "pyIter ref") => `(tactic| ((with_reducible show wpAny _ _ (pyIter (Value.ref _)) (fun it s₂ => LoopAtV _ _ _ _ _ _ _ _ _ it s₂) _ _); refine Stop.mk ?_))
local macro_rules | `(tactic| walk_at "exec For") => `(tactic| (k_here; (with_reducible show wpAny _ _ (exec (Stmt.For (Expr.Name _ _) _ _ [] _) _) _ _ _); (rename Fr _ _ _ _ => lF'); (with_unfolding_all refine' For_invVF lF' ?k1 ?k2 ?_; (case k1 => exact rfl); (case k2 => exact rfl); k_whole)))
local macro_rules | `(tactic| k_all) => `(tactic| assumption)
theorem c_int2digits_cold (w : World) (a n : Int) (ta tn : Tok) (ha : 0 ≤ a) (hlt : a < 1048576) (hn : 0 < n) (hn2 : n ≤ 20) :
   Ctr prog hd.heap_39 TB w 35 40 1000 [.int a ta, .int n tn] (tabs1 30 32 4 .cold) (fun _ => True) (PDig 30 32 4 (Str.ofString "_int2digits.<locals>.inner") a n .cold) := by
  have fill : PySem.Challenge.rw_ib0004_02 = PySem.Challenge.rw_ib0004_02 → hd.heap_39 = hd.heap_39 → True := by k_fill; intros; trivial
  have hq : 0 ≤ ((Builtin.Int.intBits a : Nat) : Int) := Int.natCast_nonneg _
  have hd1 : 0 ≤ (((Builtin.Int.intBits a : Nat) : Int) + n - 1).fdiv n := by
    rw [Int.fdiv_eq_ediv_of_nonneg _ (by omega)]; exact Int.ediv_nonneg (by omega) (by omega)
  have hd2 : (((Builtin.Int.intBits a : Nat) : Int) + n - 1).fdiv n ≤ 1048576 := by
    rw [Int.fdiv_eq_ediv_of_nonneg _ (by omega)]; refine Int.le_trans (Int.ediv_le_self _ (by omega)) ?_; have := bits_le ha (k := 20) (by simpa using hlt); omega
  have hbits : (Builtin.Int.intBits a : Int) ≤ 20 := bits_le ha (by simpa using hlt)
  unfold tabs1
  k_dflt (refine' ctr_cells (binds := [(Str.ofString "a", .int a ta), (Str.ofString "n", .int n tn)]) ?k6 ?k7 ?kd ?k9 ?kB ?kD ?c2 ?c3 ?c4 ?_; (case k6 => k_is); (case k7 => k_is); (case kd => decide); (case k9 => intro s' X'; exact BindsTo.of_eq rfl); (case kB => exact rfl); (case kD => decide +kernel); (case c2 => exact rfl); (case c3 => exact rfl); (case c4 => exact rfl))
  intro p loose mean mg mb dp un gd outer A₀ base g L' h₁ tk s cells B F X N Y T hTB hpre hG hL hk1 lm hdp hun
  obtain ⟨C1, C2⟩ := hTB
  k_lt lm
  k_cells Y
  (try simp only [List.cons_append, List.nil_append] at N)
  (try dsimp only)
  (try k_unmd)
  k_fold
  k_steps
  rotate_left
  · rename_i o1 o2 o3 d1 d2 d3 lt h1 lt1 lt2 l vs h2 i1 l1 l2 h3 oA dA f c oc vc tc ctv dcv h4 tk4 dc1 dc2 lc1 lc2 h5 oI F5 N5 dI hane
    subst hane
    have dc2' : vc[1]? = some (.str (Str.ofString "_int2digits.<locals>.inner") tc) := by rw [dc2]; rfl
    (try dsimp only)
    (try k_unfold)
    refine ⟨h5, _, _, rfl, F5, ⟨l, vs, rfl, N5.get (by k_mem), ?_, by omega⟩, c, oc, ⟨ltN (by omega), vc, tc, dc1, dc2'⟩, tabs_two (N5.get (by k_mem)) (N5.get (by k_mem)), .inr ⟨rfl, by omega⟩⟩
    rw [ndig_zero hn]
    have e0 : Builtin.Int.intBits 0 = 0 := rfl
    rw [e0, Int.fdiv_eq_ediv_of_nonneg _ (by omega), Int.ediv_eq_zero_of_lt (by omega) (by omega)] at i1
    exact i1
  rename_i o1 o2 o3 d1 d2 d3 lt h1 lt1 lt2 l vs h2 i1 l1 l2 h3 oA dA f c oc vc tc ctv dcv h4 tk4 dc1 dc2 lc1 lc2 h5 oI F5 N5 dI hane
  have dc2' : vc[1]? = some (.str (Str.ofString "_int2digits.<locals>.inner") tc) := by rw [dc2]; rfl
  have d3' : o3.data = .cell (some (.int n tn)) := d3
  have gf := N5.get (a := f) (.head _)
  have gc := N5.get (a := c) (o := oc) (by k_mem)
  have gI := N5.get (a := L' + 1 + 1 + 1) (o := oI) (by k_mem)
  have gA := N5.get (a := L' + 1 + 1) (o := oA) (by k_mem)
  have gN := N5.get (a := L' + 1) (o := o3) (by k_mem)
  have key : ∀ d : IDat, Ctr prog hd.heap_39 TB w f (d.sz + 1) (40 * d.sz + 60) [.int d.x d.tx, .int d.L d.tL, .int d.R d.tR] [(l, listOf d.vs.toArray 0)]
      (fun h => d.Ok n ∧ h.get? f = h5.get? f ∧ h.get? c = some oc ∧ h.get? (L' + 1 + 1 + 1) = some oI ∧ h.get? (L' + 1 + 1) = some oA ∧ h.get? (L' + 1) = some o3)
      (fun _ v h' => ∃ vs', IntsAre vs' (wr d.ns d.L.toNat (dg (2 ^ n.toNat) d.sz d.x)) ∧ h'.get? l = some (listOf vs'.toArray 0)) := by
    refine by_size IDat.sz fun d IH => ?_
    obtain ⟨x, lo, hi, tx, tL, tR, vs0, ns0⟩ := d
    dsimp only [IDat.sz] at IH ⊢
    k_dflt (refine' ctr_clos (binds := [(Str.ofString "x", .int x tx), (Str.ofString "L", .int lo tL), (Str.ofString "R", .int hi tR)]) ?k6 ?kd ?k9 ?kB ?c2 ?c3 ?c4 ?c5 ?_; (case k6 => (intro h0 hp; exact ⟨hp.2.1.trans gf, _, _, _, _, rfl, hp.2.2.1, dc1, dc2⟩)); (case kd => omega); (case k9 => intro s'; exact BindsTo.of_eq rfl); (case kB => exact locs rfl); (case c2 => exact rfl); (case c3 => exact rfl); (case c4 => exact rfl); (case c5 => decide))
    clear B X T C1 C2 hpre hG hk1 F5 N5
    intro p' loose' mean' mg' mb' dp' un' gd' outer' A₀' base' g' Lx h₁' tk' s' B F X N T hTB hpre hG hL' hk1 hdp' hun'
    obtain ⟨C1, C2⟩ := hTB
    obtain ⟨ok, q1, q2, q3, q4, q5⟩ := hpre
    obtain ⟨l0, lr, rl, few, x0, xs, xl, isI, nl⟩ := ok
    dsimp only at l0 lr rl few x0 xs xl isI nl
    have ne : ∀ b, b ≠ l → b ∉ List.map (fun x => x.fst) [(l, listOf vs0.toArray 0)] := fun b hb hm => hb (List.mem_singleton.mp hm)
    have g1 := hG _ _ (ne _ (by k_ne)) (q1.trans gf)
    have g2 := hG _ _ (ne _ (by k_ne)) q2
    have g3 := hG _ _ (ne _ (by k_ne)) q3
    have g4 := hG _ _ (ne _ (by k_ne)) q4
    have g5 := hG _ _ (ne _ (by k_ne)) q5
    have hs1 : 0 ≤ ((lo + hi) / 2 - lo) * n := Int.mul_nonneg (by omega) (by omega)
    have hs2 : ((lo + hi) / 2 - lo) * n ≤ 20 * 20 := Int.mul_le_mul (by omega) hn2 (by omega) (by omega)
    have hu1 : 0 ≤ x / 2 ^ (((lo + hi) / 2 - lo) * n).toNat := Int.ediv_nonneg x0 (Int.le_of_lt (Int.pow_pos (by decide)))
    have hu2 : x / 2 ^ (((lo + hi) / 2 - lo) * n).toNat < 1048576 := Int.lt_of_le_of_lt (Int.ediv_le_self _ x0) xs
    clear q1 q2 q3 q4 q5 hk1
    (try k_unmd)
    k_fold
    k_steps
    · dsimp only
      k_unfold
      rename_i hone h' F' N' hi' hl' hs'
      refine ⟨h', _, _, rfl, F', _, ?_, N'.get (.head _)⟩
      have e1 : (hi - lo).toNat = 1 := by omega
      have e2 : dg (2 ^ n.toNat) (hi - lo).toNat x = [x] := by
        rw [e1] at xl ⊢
        show [x % 2 ^ n.toNat] = [x]
        rw [Int.emod_eq_of_lt x0 (by rw [Int.pow_succ, Int.pow_zero, Int.one_mul] at xl; exact xl)]
      rw [e2, wr_one (by omega)]
      exact hi'
    · rename_i hone h1' h2' h3' h4' F' N'
      generalize hmid : (lo + hi) / 2 = mid at *
      have hml : lo < mid := by omega
      have hmh : mid < hi := by omega
      have eB : (2 : Int) ^ ((mid - lo) * n).toNat = (2 ^ n.toNat) ^ (mid - lo).toNat := pow_shift (by omega) (by omega)
      have hB : (0 : Int) < 2 ^ n.toNat := Int.pow_pos (by decide)
      have hBm : (0 : Int) < (2 ^ n.toNat) ^ (mid - lo).toNat := Int.pow_pos hB
      have esz : (hi - lo).toNat = (mid - lo).toNat + (hi - mid).toNat := by omega
      refine Stop.out (Ctr.use (IH ⟨x % 2 ^ ((mid - lo) * n).toNat, lo, mid, _, _, _, vs0, ns0⟩ (by dsimp only; omega)) (by assumption) (by assumption) (by assumption) (by assumption) (by assumption) rfl ⟨C1, C2⟩ ⟨⟨l0, hml, by dsimp only; omega, by dsimp only; omega, Int.emod_nonneg _ (by rw [eB]; omega), Int.lt_of_le_of_lt (emod_le' x0 (by rw [eB]; exact hBm)) xs, by dsimp only; rw [eB]; exact Int.emod_lt_of_pos _ hBm, isI, nl⟩, (F'.keep _ _ g1).trans gf.symm, F'.keep _ _ g2, F'.keep _ _ g3, F'.keep _ _ g4, F'.keep _ _ g5⟩ (by dsimp only; omega) (by dsimp only; omega) ?_)
      rintro v5 h5' tk5 G5 ⟨vs1, i1', hl1⟩ F6
      dsimp only at i1' hl1
      have N6 : News g' Lx h5' [(l, listOf vs1.toArray 0)] := news_cons hl1 (N' _ (.head _)).2.1 (N' _ (.head _)).2.2 News.nil
      clear F' N'
      dsimp only
      k_steps
      have len1 : (wr ns0 lo.toNat (dg (2 ^ n.toNat) (mid - lo).toNat (x % 2 ^ ((mid - lo) * n).toNat))).length = ns0.length := wr_length (by rw [dg_length]; omega)
      generalize hns : wr ns0 lo.toNat (dg (2 ^ n.toNat) (mid - lo).toNat (x % 2 ^ ((mid - lo) * n).toNat)) = ns1 at *
      have xup : x / (2 ^ n.toNat) ^ (mid - lo).toNat < (2 ^ n.toNat) ^ (hi - mid).toNat := by
        refine Int.ediv_lt_of_lt_mul hBm ?_
        rw [Int.mul_comm, ← Int.pow_add, ← esz]
        exact xl
      refine Stop.out (Ctr.use (IH ⟨x / 2 ^ ((mid - lo) * n).toNat, mid, hi, _, _, _, vs1, ns1⟩ (by dsimp only; omega)) (by assumption) (by assumption) (by assumption) (by assumption) (by assumption) rfl ⟨C1, C2⟩ ⟨⟨by dsimp only; omega, hmh, by dsimp only; omega, by dsimp only; omega, hu1, hu2, by dsimp only; rw [eB]; exact xup, i1', by dsimp only; omega⟩, (F6.keep _ _ g1).trans gf.symm, F6.keep _ _ g2, F6.keep _ _ g3, F6.keep _ _ g4, F6.keep _ _ g5⟩ (by dsimp only; omega) (by dsimp only; omega) ?_)
      rintro v7 h7' tk7 G7 ⟨vs2, i2', hl2⟩ F7
      dsimp only at i2' hl2
      clear F6
      dsimp only
      k_steps
      try dsimp only
      try k_unfold
      refine ⟨h7', _, _, rfl, F7, vs2, ?_, hl2⟩
      have e1 : (lo.toNat + (dg (2 ^ n.toNat) (mid - lo).toNat (x % 2 ^ ((mid - lo) * n).toNat)).length) = mid.toNat := by rw [dg_length]; omega
      rw [← hns, ← e1, wr_wr (by simp only [dg_length]; omega), eB, dg_mod hB, ← dg_split hB, ← esz] at i2'
      exact i2'
  have ek : ((((Builtin.Int.intBits a : Nat) : Int) + n - 1).fdiv n).toNat = ndig a n := by rw [Int.fdiv_eq_ediv_of_nonneg _ (by omega)]; rfl
  rw [ek] at i1 ⊢
  obtain ⟨n1, n2, n3⟩ := ndig_le hane hn
  have lth := lt_dig ha hane hn
  refine Stop.out (Ctr.use (key ⟨a, 0, ndig a n, _, _, _, vs, List.replicate (ndig a n) 0⟩) (by assumption) F5 (by assumption) (kst_newsOf N5 (by intro p hp; rw [List.mem_singleton.mp hp]; k_mem)) (by assumption) rfl ⟨C1, C2⟩
    ⟨⟨Int.le_refl _, by dsimp only; omega, by dsimp only; rw [List.length_replicate]; omega, by dsimp only; omega, ha, hlt, by dsimp only; rw [show ((ndig a n : Int) - 0).toNat = ndig a n by omega]; exact lth, i1, by dsimp only; rw [List.length_replicate]; omega⟩, rfl, gc, gI, gA, gN⟩ (by dsimp only [IDat.sz]; omega) (by dsimp only [IDat.sz]; omega) ?_)
  rintro v7 h7 tk7 G7 ⟨vs2, i2', hl2⟩ F7
  dsimp only [IDat.sz] at i2' hl2
  rw [show ((ndig a n : Int) - 0).toNat = ndig a n by omega] at i2'
  rw [show (0 : Int).toNat = 0 from rfl, wr_all (by rw [dg_length, List.length_replicate])] at i2'
  have ne : ∀ b, b ≠ l → b ∉ List.map (fun x => x.fst) [(l, listOf vs.toArray 0)] := fun b hb hm => hb (List.mem_singleton.mp hm)
  have k30 := G7 30 _ (ne _ (by k_ne)) (N5.get (a := 30) (by k_mem))
  have kc := G7 c _ (ne _ (by k_ne)) gc
  have N7 : News g L' h7 [(L' + 1 + 1, oA)] := news_cons (G7 _ _ (ne _ (by k_ne)) gA) (by k_ne) (N5 (L' + 1 + 1, oA) (by k_mem)).2.2 News.nil
  clear N5 F5
  try dsimp only
  k_steps
  (try dsimp only)
  (try k_unfold)
  exact ⟨h7, _, _, rfl, F7, ⟨l, vs2, rfl, hl2, i2', by omega⟩, c, oc, ⟨ltN (by omega), vc, tc, dc1, dc2'⟩, tabs_two k30 kc, .inr ⟨rfl, by omega⟩⟩
theorem c_int2digits_warm (w : World) (a n : Int) (ta tn : Tok) (ha : 0 ≤ a) (hlt : a < 1048576) (hn : 0 < n) (hn2 : n ≤ 20) (c : Addr) (oc : Obj) (hok : TsOk 30 (Str.ofString "_int2digits.<locals>.inner") (.warm c oc)) :
   Ctr prog hd.heap_39 TB w 35 40 1000 [.int a ta, .int n tn] (tabs1 30 32 4 (.warm c oc)) (fun _ => True) (PDig 30 32 4 (Str.ofString "_int2digits.<locals>.inner") a n (.warm c oc)) := by
  obtain ⟨hlt0, vc, tc, dc1, dc2'⟩ := hok
  have fill : PySem.Challenge.rw_ib0004_02 = PySem.Challenge.rw_ib0004_02 → hd.heap_39 = hd.heap_39 → True := by k_fill; intros; trivial
  have hq : 0 ≤ ((Builtin.Int.intBits a : Nat) : Int) := Int.natCast_nonneg _
  have hd1 : 0 ≤ (((Builtin.Int.intBits a : Nat) : Int) + n - 1).fdiv n := by
    rw [Int.fdiv_eq_ediv_of_nonneg _ (by omega)]; exact Int.ediv_nonneg (by omega) (by omega)
  have hd2 : (((Builtin.Int.intBits a : Nat) : Int) + n - 1).fdiv n ≤ 1048576 := by
    rw [Int.fdiv_eq_ediv_of_nonneg _ (by omega)]; refine Int.le_trans (Int.ediv_le_self _ (by omega)) ?_; have := bits_le ha (k := 20) (by simpa using hlt); omega
  have hbits : (Builtin.Int.intBits a : Int) ≤ 20 := bits_le ha (by simpa using hlt)
  unfold tabs1
  k_dflt (refine' ctr_cells (binds := [(Str.ofString "a", .int a ta), (Str.ofString "n", .int n tn)]) ?k6 ?k7 ?kd ?k9 ?kB ?kD ?c2 ?c3 ?c4 ?_; (case k6 => k_is); (case k7 => k_is); (case kd => decide); (case k9 => intro s' X'; exact BindsTo.of_eq rfl); (case kB => exact rfl); (case kD => decide +kernel); (case c2 => exact rfl); (case c3 => exact rfl); (case c4 => exact rfl))
  intro p loose mean mg mb dp un gd outer A₀ base g L' h₁ tk s cells B F X N Y T hTB hpre hG hL hk1 lm hdp hun
  obtain ⟨C1, C2⟩ := hTB
  k_lt lm
  k_cells Y
  (try simp only [List.cons_append, List.nil_append] at N)
  (try dsimp only)
  (try k_unmd)
  k_fold
  k_steps
  rotate_left
  · rename_i o1 o2 o3 d1 d2 d3 lt h1 lt1 lt2 l vs h2 i1 l1 l2 h3 oA dA f ctv dcv h4 tk4 lc1 h5 oI F5 N5 dI hane
    subst hane
    (try dsimp only)
    (try k_unfold)
    refine ⟨h5, _, _, rfl, F5, ⟨l, vs, rfl, N5.get (by k_mem), ?_, by omega⟩, c, oc, ⟨ltN (by omega), vc, tc, dc1, dc2'⟩, tabs_two (N5.get (by k_mem)) (N5.get (by k_mem)), .inl rfl⟩
    rw [ndig_zero hn]
    have e0 : Builtin.Int.intBits 0 = 0 := rfl
    rw [e0, Int.fdiv_eq_ediv_of_nonneg _ (by omega), Int.ediv_eq_zero_of_lt (by omega) (by omega)] at i1
    exact i1
  rename_i o1 o2 o3 d1 d2 d3 lt h1 lt1 lt2 l vs h2 i1 l1 l2 h3 oA dA f ctv dcv h4 tk4 lc1 h5 oI F5 N5 dI hane
  have d3' : o3.data = .cell (some (.int n tn)) := d3
  have gf := N5.get (a := f) (.head _)
  have gc := N5.get (a := c) (o := oc) (by k_mem)
  have gI := N5.get (a := L' + 1 + 1 + 1) (o := oI) (by k_mem)
  have gA := N5.get (a := L' + 1 + 1) (o := oA) (by k_mem)
  have gN := N5.get (a := L' + 1) (o := o3) (by k_mem)
  have key : ∀ d : IDat, Ctr prog hd.heap_39 TB w f (d.sz + 1) (40 * d.sz + 60) [.int d.x d.tx, .int d.L d.tL, .int d.R d.tR] [(l, listOf d.vs.toArray 0)]
      (fun h => d.Ok n ∧ h.get? f = h5.get? f ∧ h.get? c = some oc ∧ h.get? (L' + 1 + 1 + 1) = some oI ∧ h.get? (L' + 1 + 1) = some oA ∧ h.get? (L' + 1) = some o3)
      (fun _ v h' => ∃ vs', IntsAre vs' (wr d.ns d.L.toNat (dg (2 ^ n.toNat) d.sz d.x)) ∧ h'.get? l = some (listOf vs'.toArray 0)) := by
    refine by_size IDat.sz fun d IH => ?_
    obtain ⟨x, lo, hi, tx, tL, tR, vs0, ns0⟩ := d
    dsimp only [IDat.sz] at IH ⊢
    k_dflt (refine' ctr_clos (binds := [(Str.ofString "x", .int x tx), (Str.ofString "L", .int lo tL), (Str.ofString "R", .int hi tR)]) ?k6 ?kd ?k9 ?kB ?c2 ?c3 ?c4 ?c5 ?_; (case k6 => (intro h0 hp; exact ⟨hp.2.1.trans gf, _, _, _, _, rfl, hp.2.2.1, dc1, dc2'⟩)); (case kd => omega); (case k9 => intro s'; exact BindsTo.of_eq rfl); (case kB => exact locs rfl); (case c2 => exact rfl); (case c3 => exact rfl); (case c4 => exact rfl); (case c5 => decide))
    clear B X T C1 C2 hpre hG hk1 F5 N5
    intro p' loose' mean' mg' mb' dp' un' gd' outer' A₀' base' g' Lx h₁' tk' s' B F X N T hTB hpre hG hL' hk1 hdp' hun'
    obtain ⟨C1, C2⟩ := hTB
    obtain ⟨ok, q1, q2, q3, q4, q5⟩ := hpre
    obtain ⟨l0, lr, rl, few, x0, xs, xl, isI, nl⟩ := ok
    dsimp only at l0 lr rl few x0 xs xl isI nl
    have ne : ∀ b, b ≠ l → b ∉ List.map (fun x => x.fst) [(l, listOf vs0.toArray 0)] := fun b hb hm => hb (List.mem_singleton.mp hm)
    have g1 := hG _ _ (ne _ (by k_ne)) (q1.trans gf)
    have g2 := hG _ _ (ne _ (by k_ne)) q2
    have g3 := hG _ _ (ne _ (by k_ne)) q3
    have g4 := hG _ _ (ne _ (by k_ne)) q4
    have g5 := hG _ _ (ne _ (by k_ne)) q5
    have hs1 : 0 ≤ ((lo + hi) / 2 - lo) * n := Int.mul_nonneg (by omega) (by omega)
    have hs2 : ((lo + hi) / 2 - lo) * n ≤ 20 * 20 := Int.mul_le_mul (by omega) hn2 (by omega) (by omega)
    have hu1 : 0 ≤ x / 2 ^ (((lo + hi) / 2 - lo) * n).toNat := Int.ediv_nonneg x0 (Int.le_of_lt (Int.pow_pos (by decide)))
    have hu2 : x / 2 ^ (((lo + hi) / 2 - lo) * n).toNat < 1048576 := Int.lt_of_le_of_lt (Int.ediv_le_self _ x0) xs
    clear q1 q2 q3 q4 q5 hk1
    (try k_unmd)
    k_fold
    k_steps
    · dsimp only
      k_unfold
      rename_i hone h' F' N' hi' hl' hs'
      refine ⟨h', _, _, rfl, F', _, ?_, N'.get (.head _)⟩
      have e1 : (hi - lo).toNat = 1 := by omega
      have e2 : dg (2 ^ n.toNat) (hi - lo).toNat x = [x] := by
        rw [e1] at xl ⊢
        show [x % 2 ^ n.toNat] = [x]
        rw [Int.emod_eq_of_lt x0 (by rw [Int.pow_succ, Int.pow_zero, Int.one_mul] at xl; exact xl)]
      rw [e2, wr_one (by omega)]
      exact hi'
    · rename_i hone h1' h2' h3' h4' F' N'
      generalize hmid : (lo + hi) / 2 = mid at *
      have hml : lo < mid := by omega
      have hmh : mid < hi := by omega
      have eB : (2 : Int) ^ ((mid - lo) * n).toNat = (2 ^ n.toNat) ^ (mid - lo).toNat := pow_shift (by omega) (by omega)
      have hB : (0 : Int) < 2 ^ n.toNat := Int.pow_pos (by decide)
      have hBm : (0 : Int) < (2 ^ n.toNat) ^ (mid - lo).toNat := Int.pow_pos hB
      have esz : (hi - lo).toNat = (mid - lo).toNat + (hi - mid).toNat := by omega
      refine Stop.out (Ctr.use (IH ⟨x % 2 ^ ((mid - lo) * n).toNat, lo, mid, _, _, _, vs0, ns0⟩ (by dsimp only; omega)) (by assumption) (by assumption) (by assumption) (by assumption) (by assumption) rfl ⟨C1, C2⟩ ⟨⟨l0, hml, by dsimp only; omega, by dsimp only; omega, Int.emod_nonneg _ (by rw [eB]; omega), Int.lt_of_le_of_lt (emod_le' x0 (by rw [eB]; exact hBm)) xs, by dsimp only; rw [eB]; exact Int.emod_lt_of_pos _ hBm, isI, nl⟩, (F'.keep _ _ g1).trans gf.symm, F'.keep _ _ g2, F'.keep _ _ g3, F'.keep _ _ g4, F'.keep _ _ g5⟩ (by dsimp only; omega) (by dsimp only; omega) ?_)
      rintro v5 h5' tk5 G5 ⟨vs1, i1', hl1⟩ F6
      dsimp only at i1' hl1
      have N6 : News g' Lx h5' [(l, listOf vs1.toArray 0)] := news_cons hl1 (N' _ (.head _)).2.1 (N' _ (.head _)).2.2 News.nil
      clear F' N'
      dsimp only
      k_steps
      have len1 : (wr ns0 lo.toNat (dg (2 ^ n.toNat) (mid - lo).toNat (x % 2 ^ ((mid - lo) * n).toNat))).length = ns0.length := wr_length (by rw [dg_length]; omega)
      generalize hns : wr ns0 lo.toNat (dg (2 ^ n.toNat) (mid - lo).toNat (x % 2 ^ ((mid - lo) * n).toNat)) = ns1 at *
      have xup : x / (2 ^ n.toNat) ^ (mid - lo).toNat < (2 ^ n.toNat) ^ (hi - mid).toNat := by
        refine Int.ediv_lt_of_lt_mul hBm ?_
        rw [Int.mul_comm, ← Int.pow_add, ← esz]
        exact xl
      refine Stop.out (Ctr.use (IH ⟨x / 2 ^ ((mid - lo) * n).toNat, mid, hi, _, _, _, vs1, ns1⟩ (by dsimp only; omega)) (by assumption) (by assumption) (by assumption) (by assumption) (by assumption) rfl ⟨C1, C2⟩ ⟨⟨by dsimp only; omega, hmh, by dsimp only; omega, by dsimp only; omega, hu1, hu2, by dsimp only; rw [eB]; exact xup, i1', by dsimp only; omega⟩, (F6.keep _ _ g1).trans gf.symm, F6.keep _ _ g2, F6.keep _ _ g3, F6.keep _ _ g4, F6.keep _ _ g5⟩ (by dsimp only; omega) (by dsimp only; omega) ?_)
      rintro v7 h7' tk7 G7 ⟨vs2, i2', hl2⟩ F7
      dsimp only at i2' hl2
      clear F6
      dsimp only
      k_steps
      try dsimp only
      try k_unfold
      refine ⟨h7', _, _, rfl, F7, vs2, ?_, hl2⟩
      have e1 : (lo.toNat + (dg (2 ^ n.toNat) (mid - lo).toNat (x % 2 ^ ((mid - lo) * n).toNat)).length) = mid.toNat := by rw [dg_length]; omega
      rw [← hns, ← e1, wr_wr (by simp only [dg_length]; omega), eB, dg_mod hB, ← dg_split hB, ← esz] at i2'
      exact i2'
  have ek : ((((Builtin.Int.intBits a : Nat) : Int) + n - 1).fdiv n).toNat = ndig a n := by rw [Int.fdiv_eq_ediv_of_nonneg _ (by omega)]; rfl
  rw [ek] at i1 ⊢
  obtain ⟨n1, n2, n3⟩ := ndig_le hane hn
  have lth := lt_dig ha hane hn
  refine Stop.out (Ctr.use (key ⟨a, 0, ndig a n, _, _, _, vs, List.replicate (ndig a n) 0⟩) (by assumption) F5 (by assumption) (kst_newsOf N5 (by intro p hp; rw [List.mem_singleton.mp hp]; k_mem)) (by assumption) rfl ⟨C1, C2⟩
    ⟨⟨Int.le_refl _, by dsimp only; omega, by dsimp only; rw [List.length_replicate]; omega, by dsimp only; omega, ha, hlt, by dsimp only; rw [show ((ndig a n : Int) - 0).toNat = ndig a n by omega]; exact lth, i1, by dsimp only; rw [List.length_replicate]; omega⟩, rfl, gc, gI, gA, gN⟩ (by dsimp only [IDat.sz]; omega) (by dsimp only [IDat.sz]; omega) ?_)
  rintro v7 h7 tk7 G7 ⟨vs2, i2', hl2⟩ F7
  dsimp only [IDat.sz] at i2' hl2
  rw [show ((ndig a n : Int) - 0).toNat = ndig a n by omega] at i2'
  rw [show (0 : Int).toNat = 0 from rfl, wr_all (by rw [dg_length, List.length_replicate])] at i2'
  have ne : ∀ b, b ≠ l → b ∉ List.map (fun x => x.fst) [(l, listOf vs.toArray 0)] := fun b hb hm => hb (List.mem_singleton.mp hm)
  have k30 := G7 30 _ (ne _ (by k_ne)) (N5.get (a := 30) (by k_mem))
  have kc := G7 c _ (ne _ (by k_ne)) gc
  have N7 : News g L' h7 [(L' + 1 + 1, oA)] := news_cons (G7 _ _ (ne _ (by k_ne)) gA) (by k_ne) (N5 (L' + 1 + 1, oA) (by k_mem)).2.2 News.nil
  clear N5 F5
  try dsimp only
  k_steps
  (try dsimp only)
  (try k_unfold)
  exact ⟨h7, _, _, rfl, F7, ⟨l, vs2, rfl, hl2, i2', by omega⟩, c, oc, ⟨ltN (by omega), vc, tc, dc1, dc2'⟩, tabs_two k30 kc, .inl rfl⟩
theorem c_int2digits (w : World) (a n : Int) (ta tn : Tok) (ha : 0 ≤ a) (hlt : a < 1048576) (hn : 0 < n) (hn2 : n ≤ 20) (t : TS) (hok : TsOk 30 (Str.ofString "_int2digits.<locals>.inner") t) :
   Ctr prog hd.heap_39 TB w 35 40 1000 [.int a ta, .int n tn] (tabs1 30 32 4 t) (fun _ => True) (PDig 30 32 4 (Str.ofString "_int2digits.<locals>.inner") a n t) := by
  cases t with
  | cold => exact c_int2digits_cold w a n ta tn ha hlt hn hn2
  | warm c o => exact c_int2digits_warm w a n ta tn ha hlt hn hn2 c o hok
theorem c_digits2int_cold (w : World) (l : Addr) (vs : List Value) (ns : List Int) (nk : Nat) (n : Int) (tn : Tok) (hi0 : IntsAre vs ns) (hlen : ns.length ≤ 20) (hn : 0 < n) (hn2 : n ≤ 20) (hnl : n * ns.length ≤ 60) (hds : ∀ d ∈ ns, 0 ≤ d ∧ d < 2 ^ n.toNat) :
   Ctr prog hd.heap_39 TB w 42 40 1000 [.ref l, .int n tn] (tabs1 37 47 4 .cold) (fun h => h.get? l = some (listOf vs.toArray nk)) (PUnd 37 47 4 (Str.ofString "_digits2int.<locals>.inner") ns n .cold) := by
  have fill : PySem.Challenge.rw_ib0004_02 = PySem.Challenge.rw_ib0004_02 → hd.heap_39 = hd.heap_39 → True := by k_fill; intros; trivial
  unfold tabs1
  k_dflt (refine' ctr_cells (binds := [(Str.ofString "digits", .ref l), (Str.ofString "n", .int n tn)]) ?k6 ?k7 ?kd ?k9 ?kB ?kD ?c2 ?c3 ?c4 ?_; (case k6 => k_is); (case k7 => k_is); (case kd => decide); (case k9 => intro s' X'; exact BindsTo.of_eq rfl); (case kB => exact rfl); (case kD => decide +kernel); (case c2 => exact rfl); (case c3 => exact rfl); (case c4 => exact rfl))
  intro p loose mean mg mb dp un gd outer A₀ base g L' h₁ tk s cells B F X N Y T hTB hpre hG hL hk1 lm hdp hun
  obtain ⟨C1, C2⟩ := hTB
  k_lt lm
  k_cells Y
  (try simp only [List.cons_append, List.nil_append] at N)
  have gl := hG _ _ (not_tabs (P := 37) (l := 47) (k := 4) (t := .cold) (q := (Str.ofString "_digits2int.<locals>.inner")) (fun p hp => N.get (List.mem_append_right [_, _, _] hp)) trivial (hk1 _ _ hpre)) hpre
  have gIL : g.IsList l vs.toArray := ⟨_, gl, rfl, _, rfl⟩
  have hl62 : ns.length < 2 ^ 62 := by omega
  (try dsimp only)
  (try k_unmd)
  k_fold
  k_steps
  rotate_left
  · rename_i o1 o2 o3 d1 d2 d3 f c oc vc tc ctv dcv h4 tk4 dc1 dc2 lc1 lc2 h5 oI F5 N5 dI hane
    have dc2' : vc[1]? = some (.str (Str.ofString "_digits2int.<locals>.inner") tc) := by rw [dc2]; rfl
    have e0 : ns = [] := List.eq_nil_of_length_eq_zero (by omega)
    (try dsimp only)
    (try k_unfold)
    refine ⟨h5, _, _, rfl, F5, ⟨_, by rw [e0]; rfl⟩, c, oc, ⟨ltN (by omega), vc, tc, dc1, dc2'⟩, tabs_two (N5.get (by k_mem)) (N5.get (by k_mem)), .inr ⟨rfl, by omega⟩⟩
  rename_i o1 o2 o3 d1 d2 d3 f c oc vc tc ctv dcv h4 tk4 dc1 dc2 lc1 lc2 h5 oI F5 N5 dI hane
  have dc2' : vc[1]? = some (.str (Str.ofString "_digits2int.<locals>.inner") tc) := by rw [dc2]; rfl
  have d2' : o2.data = .cell (some (.int n tn)) := d2
  have d3' : o3.data = .cell (some (.ref l)) := d3
  have gf := N5.get (a := f) (.head _)
  have gc := N5.get (a := c) (o := oc) (by k_mem)
  have gI := N5.get (a := L' + 1 + 1 + 1) (o := oI) (by k_mem)
  have gN := N5.get (a := L' + 1 + 1) (o := o2) (by k_mem)
  have gD := N5.get (a := L' + 1) (o := o3) (by k_mem)
  have g5l := F5.keep _ _ gl
  have key : ∀ d : JDat, Ctr prog hd.heap_39 TB w f (d.sz + 1) (40 * d.sz + 60) [.int d.L d.tL, .int d.R d.tR] []
      (fun h => (0 ≤ d.L ∧ d.L < d.R ∧ d.R ≤ ns.length) ∧ h.get? f = h5.get? f ∧ h.get? c = some oc ∧ h.get? (L' + 1 + 1 + 1) = some oI ∧ h.get? (L' + 1 + 1) = some o2 ∧ h.get? (L' + 1) = some o3 ∧ h.get? l = some (listOf vs.toArray nk))
      (fun _ v _ => ∃ tk, v = .int (undg (2 ^ n.toNat) (seg ns d.L d.R)) tk) := by
    refine by_size JDat.sz fun d IH => ?_
    obtain ⟨lo, hi, tL, tR⟩ := d
    dsimp only [JDat.sz] at IH ⊢
    k_dflt (refine' ctr_clos (binds := [(Str.ofString "L", .int lo tL), (Str.ofString "R", .int hi tR)]) ?k6 ?kd ?k9 ?kB ?c2 ?c3 ?c4 ?c5 ?_; (case k6 => (intro h0 hp; exact ⟨hp.2.1.trans gf, _, _, _, _, rfl, hp.2.2.1, dc1, dc2⟩)); (case kd => omega); (case k9 => intro s'; exact BindsTo.of_eq rfl); (case kB => exact locs rfl); (case c2 => exact rfl); (case c3 => exact rfl); (case c4 => exact rfl); (case c5 => decide))
    clear B X T C1 C2 hpre hG hk1 F5 N5 gIL
    intro p' loose' mean' mg' mb' dp' un' gd' outer' A₀' base' g' Lx h₁' tk' s' B F X N T hTB hpre hG hL' hk1 hdp' hun'
    obtain ⟨C1, C2⟩ := hTB
    obtain ⟨⟨l0, lr, rl⟩, q1, q2, q3, q4, q5, q6⟩ := hpre
    try dsimp only at l0 lr rl
    have ne : ∀ b, b ∉ List.map (fun x => x.fst) ([] : List (Addr × Obj)) := fun b hm => nomatch hm
    have g1 := hG _ _ (ne _) (q1.trans gf)
    have g2 := hG _ _ (ne _) q2
    have g3 := hG _ _ (ne _) q3
    have g4 := hG _ _ (ne _) q4
    have g5 := hG _ _ (ne _) q5
    have g6 := hG _ _ (ne _) q6
    have gIL : g'.IsList l vs.toArray := ⟨_, g6, rfl, _, rfl⟩
    have hs1 : 0 ≤ ((lo + hi) / 2 - lo) * n := Int.mul_nonneg (by omega) (by omega)
    have hs2 : ((lo + hi) / 2 - lo) * n ≤ 20 * 20 := Int.mul_le_mul (by omega) hn2 (by omega) (by omega)
    clear q1 q2 q3 q4 q5 q6 hk1
    (try k_unmd)
    k_fold
    k_steps
    · rename_i hone tk1
      (try dsimp only)
      (try k_unfold)
      refine' ⟨_, _, _, rfl, F, tk1, ?_⟩
      rw [← hone, seg_one l0 (by omega)]
      show _ = Value.int (ns.getD lo.toNat 0 + 2 ^ n.toNat * 0) _
      rw [Int.mul_zero, Int.add_zero]
    · rename_i hone h1' h2' F' N'
      generalize hmid : (lo + hi) / 2 = mid at *
      have hml : lo < mid := by omega
      have hmh : mid < hi := by omega
      have eB : (2 : Int) ^ ((mid - lo) * n).toNat = (2 ^ n.toNat) ^ (mid - lo).toNat := pow_shift (by omega) (by omega)
      refine Stop.out (Ctr.use (IH ⟨mid, hi, _, _⟩ (by dsimp only; omega)) (by assumption) (by assumption) (by assumption) (by assumption) (by assumption) rfl ⟨C1, C2⟩ ⟨⟨by dsimp only; omega, hmh, rl⟩, (F'.keep _ _ g1).trans gf.symm, F'.keep _ _ g2, F'.keep _ _ g3, F'.keep _ _ g4, F'.keep _ _ g5, F'.keep _ _ g6⟩ (by dsimp only; omega) (by dsimp only; omega) ?_)
      rintro v5 h5' tk5 G5 ⟨tk6, rfl⟩ F6
      dsimp only
      have hb1 := undg_small hn hnl hds (a := mid) (b := hi) (by omega) (by omega) rl
      obtain ⟨hb1a, hb1b⟩ := hb1
      generalize hu1 : undg (2 ^ n.toNat) (seg ns mid hi) = u1 at *
      have N6 : News g' Lx h5' [] := News.nil
      clear F' N'
      k_steps
      refine Stop.out (Ctr.use (IH ⟨lo, mid, _, _⟩ (by dsimp only; omega)) (by assumption) (by assumption) (by assumption) (by assumption) (by assumption) rfl ⟨C1, C2⟩ ⟨⟨l0, hml, by dsimp only; omega⟩, (F6.keep _ _ g1).trans gf.symm, F6.keep _ _ g2, F6.keep _ _ g3, F6.keep _ _ g4, F6.keep _ _ g5, F6.keep _ _ g6⟩ (by dsimp only; omega) (by dsimp only; omega) ?_)
      rintro v7 h7' tk7 G7 ⟨tk8, rfl⟩ F7
      have N8 : News g' Lx h7' [] := News.nil
      clear F6 N6
      dsimp only
      k_steps
      (try dsimp only)
      (try k_unfold)
      refine' ⟨h7', _, _, rfl, F7, _, ?_⟩
      rotate_left
      rw [seg_split (lo := lo) (hi := hi) (mid := mid) l0 (by omega) (by omega), undg_append, seg_length l0 (by omega) (by omega), hu1, ← eB, Int.mul_comm u1, Int.add_comm]
  refine Stop.out (Ctr.use (key ⟨0, ns.length, _, _⟩) (by assumption) F5 (by assumption) (fun _ hp => nomatch hp) (by assumption) rfl ⟨C1, C2⟩
    ⟨⟨Int.le_refl _, by dsimp only; omega, Int.le_refl _⟩, rfl, gc, gI, gN, gD, g5l⟩ (by dsimp only [JDat.sz]; omega) (by dsimp only [JDat.sz]; omega) ?_)
  rintro v7 h7 tk7 G7 ⟨tk8, rfl⟩ F7
  dsimp only
  rw [seg_all]
  have k37 := G7 37 _ (fun hm => nomatch hm) (N5.get (a := 37) (by k_mem))
  have kc := G7 c _ (fun hm => nomatch hm) gc
  (try k_unfold)
  (try dsimp only)
  (try k_unfold)
  exact ⟨h7, _, _, rfl, F7, ⟨_, rfl⟩, c, oc, ⟨ltN (by omega), vc, tc, dc1, dc2'⟩, tabs_two k37 kc, .inr ⟨rfl, by omega⟩⟩
theorem c_digits2int_warm (w : World) (l : Addr) (vs : List Value) (ns : List Int) (nk : Nat) (n : Int) (tn : Tok) (hi0 : IntsAre vs ns) (hlen : ns.length ≤ 20) (hn : 0 < n) (hn2 : n ≤ 20) (hnl : n * ns.length ≤ 60) (hds : ∀ d ∈ ns, 0 ≤ d ∧ d < 2 ^ n.toNat) (c : Addr) (oc : Obj) (hok : TsOk 37 (Str.ofString "_digits2int.<locals>.inner") (.warm c oc)) :
   Ctr prog hd.heap_39 TB w 42 40 1000 [.ref l, .int n tn] (tabs1 37 47 4 (.warm c oc)) (fun h => h.get? l = some (listOf vs.toArray nk)) (PUnd 37 47 4 (Str.ofString "_digits2int.<locals>.inner") ns n (.warm c oc)) := by
  have hok' := hok
  obtain ⟨hlt0, vc, tc, dc1, dc2'⟩ := hok
  have fill : PySem.Challenge.rw_ib0004_02 = PySem.Challenge.rw_ib0004_02 → hd.heap_39 = hd.heap_39 → True := by k_fill; intros; trivial
  unfold tabs1
  k_dflt (refine' ctr_cells (binds := [(Str.ofString "digits", .ref l), (Str.ofString "n", .int n tn)]) ?k6 ?k7 ?kd ?k9 ?kB ?kD ?c2 ?c3 ?c4 ?_; (case k6 => k_is); (case k7 => k_is); (case kd => decide); (case k9 => intro s' X'; exact BindsTo.of_eq rfl); (case kB => exact rfl); (case kD => decide +kernel); (case c2 => exact rfl); (case c3 => exact rfl); (case c4 => exact rfl))
  intro p loose mean mg mb dp un gd outer A₀ base g L' h₁ tk s cells B F X N Y T hTB hpre hG hL hk1 lm hdp hun
  obtain ⟨C1, C2⟩ := hTB
  k_lt lm
  k_cells Y
  (try simp only [List.cons_append, List.nil_append] at N)
  have gl := hG _ _ (not_tabs (P := 37) (l := 47) (k := 4) (t := (.warm c oc)) (q := (Str.ofString "_digits2int.<locals>.inner")) (fun p hp => N.get (List.mem_append_right [_, _, _] hp)) hok' (hk1 _ _ hpre)) hpre
  have gIL : g.IsList l vs.toArray := ⟨_, gl, rfl, _, rfl⟩
  have hl62 : ns.length < 2 ^ 62 := by omega
  (try dsimp only)
  (try k_unmd)
  k_fold
  k_steps
  rotate_left
  · rename_i o1 o2 o3 d1 d2 d3 f ctv dcv h4 tk4 lc1 h5 oI F5 N5 dI hane
    have e0 : ns = [] := List.eq_nil_of_length_eq_zero (by omega)
    (try dsimp only)
    (try k_unfold)
    refine ⟨h5, _, _, rfl, F5, ⟨_, by rw [e0]; rfl⟩, c, oc, ⟨ltN (by omega), vc, tc, dc1, dc2'⟩, tabs_two (N5.get (by k_mem)) (N5.get (by k_mem)), .inl rfl⟩
  rename_i o1 o2 o3 d1 d2 d3 f ctv dcv h4 tk4 lc1 h5 oI F5 N5 dI hane
  have d2' : o2.data = .cell (some (.int n tn)) := d2
  have d3' : o3.data = .cell (some (.ref l)) := d3
  have gf := N5.get (a := f) (.head _)
  have gc := N5.get (a := c) (o := oc) (by k_mem)
  have gI := N5.get (a := L' + 1 + 1 + 1) (o := oI) (by k_mem)
  have gN := N5.get (a := L' + 1 + 1) (o := o2) (by k_mem)
  have gD := N5.get (a := L' + 1) (o := o3) (by k_mem)
  have g5l := F5.keep _ _ gl
  have key : ∀ d : JDat, Ctr prog hd.heap_39 TB w f (d.sz + 1) (40 * d.sz + 60) [.int d.L d.tL, .int d.R d.tR] []
      (fun h => (0 ≤ d.L ∧ d.L < d.R ∧ d.R ≤ ns.length) ∧ h.get? f = h5.get? f ∧ h.get? c = some oc ∧ h.get? (L' + 1 + 1 + 1) = some oI ∧ h.get? (L' + 1 + 1) = some o2 ∧ h.get? (L' + 1) = some o3 ∧ h.get? l = some (listOf vs.toArray nk))
      (fun _ v _ => ∃ tk, v = .int (undg (2 ^ n.toNat) (seg ns d.L d.R)) tk) := by
    refine by_size JDat.sz fun d IH => ?_
    obtain ⟨lo, hi, tL, tR⟩ := d
    dsimp only [JDat.sz] at IH ⊢
    k_dflt (refine' ctr_clos (binds := [(Str.ofString "L", .int lo tL), (Str.ofString "R", .int hi tR)]) ?k6 ?kd ?k9 ?kB ?c2 ?c3 ?c4 ?c5 ?_; (case k6 => (intro h0 hp; exact ⟨hp.2.1.trans gf, _, _, _, _, rfl, hp.2.2.1, dc1, dc2'⟩)); (case kd => omega); (case k9 => intro s'; exact BindsTo.of_eq rfl); (case kB => exact locs rfl); (case c2 => exact rfl); (case c3 => exact rfl); (case c4 => exact rfl); (case c5 => decide))
    clear B X T C1 C2 hpre hG hk1 F5 N5 gIL
    intro p' loose' mean' mg' mb' dp' un' gd' outer' A₀' base' g' Lx h₁' tk' s' B F X N T hTB hpre hG hL' hk1 hdp' hun'
    obtain ⟨C1, C2⟩ := hTB
    obtain ⟨⟨l0, lr, rl⟩, q1, q2, q3, q4, q5, q6⟩ := hpre
    try dsimp only at l0 lr rl
    have ne : ∀ b, b ∉ List.map (fun x => x.fst) ([] : List (Addr × Obj)) := fun b hm => nomatch hm
    have g1 := hG _ _ (ne _) (q1.trans gf)
    have g2 := hG _ _ (ne _) q2
    have g3 := hG _ _ (ne _) q3
    have g4 := hG _ _ (ne _) q4
    have g5 := hG _ _ (ne _) q5
    have g6 := hG _ _ (ne _) q6
    have gIL : g'.IsList l vs.toArray := ⟨_, g6, rfl, _, rfl⟩
    have hs1 : 0 ≤ ((lo + hi) / 2 - lo) * n := Int.mul_nonneg (by omega) (by omega)
    have hs2 : ((lo + hi) / 2 - lo) * n ≤ 20 * 20 := Int.mul_le_mul (by omega) hn2 (by omega) (by omega)
    clear q1 q2 q3 q4 q5 q6 hk1
    (try k_unmd)
    k_fold
    k_steps
    · rename_i hone tk1
      (try dsimp only)
      (try k_unfold)
      refine' ⟨_, _, _, rfl, F, tk1, ?_⟩
      rw [← hone, seg_one l0 (by omega)]
      show _ = Value.int (ns.getD lo.toNat 0 + 2 ^ n.toNat * 0) _
      rw [Int.mul_zero, Int.add_zero]
    · rename_i hone h1' h2' F' N'
      generalize hmid : (lo + hi) / 2 = mid at *
      have hml : lo < mid := by omega
      have hmh : mid < hi := by omega
      have eB : (2 : Int) ^ ((mid - lo) * n).toNat = (2 ^ n.toNat) ^ (mid - lo).toNat := pow_shift (by omega) (by omega)
      refine Stop.out (Ctr.use (IH ⟨mid, hi, _, _⟩ (by dsimp only; omega)) (by assumption) (by assumption) (by assumption) (by assumption) (by assumption) rfl ⟨C1, C2⟩ ⟨⟨by dsimp only; omega, hmh, rl⟩, (F'.keep _ _ g1).trans gf.symm, F'.keep _ _ g2, F'.keep _ _ g3, F'.keep _ _ g4, F'.keep _ _ g5, F'.keep _ _ g6⟩ (by dsimp only; omega) (by dsimp only; omega) ?_)
      rintro v5 h5' tk5 G5 ⟨tk6, rfl⟩ F6
      dsimp only
      have hb1 := undg_small hn hnl hds (a := mid) (b := hi) (by omega) (by omega) rl
      obtain ⟨hb1a, hb1b⟩ := hb1
      generalize hu1 : undg (2 ^ n.toNat) (seg ns mid hi) = u1 at *
      have N6 : News g' Lx h5' [] := News.nil
      clear F' N'
      k_steps
      refine Stop.out (Ctr.use (IH ⟨lo, mid, _, _⟩ (by dsimp only; omega)) (by assumption) (by assumption) (by assumption) (by assumption) (by assumption) rfl ⟨C1, C2⟩ ⟨⟨l0, hml, by dsimp only; omega⟩, (F6.keep _ _ g1).trans gf.symm, F6.keep _ _ g2, F6.keep _ _ g3, F6.keep _ _ g4, F6.keep _ _ g5, F6.keep _ _ g6⟩ (by dsimp only; omega) (by dsimp only; omega) ?_)
      rintro v7 h7' tk7 G7 ⟨tk8, rfl⟩ F7
      have N8 : News g' Lx h7' [] := News.nil
      clear F6 N6
      dsimp only
      k_steps
      (try dsimp only)
      (try k_unfold)
      refine' ⟨h7', _, _, rfl, F7, _, ?_⟩
      rotate_left
      rw [seg_split (lo := lo) (hi := hi) (mid := mid) l0 (by omega) (by omega), undg_append, seg_length l0 (by omega) (by omega), hu1, ← eB, Int.mul_comm u1, Int.add_comm]
  refine Stop.out (Ctr.use (key ⟨0, ns.length, _, _⟩) (by assumption) F5 (by assumption) (fun _ hp => nomatch hp) (by assumption) rfl ⟨C1, C2⟩
    ⟨⟨Int.le_refl _, by dsimp only; omega, Int.le_refl _⟩, rfl, gc, gI, gN, gD, g5l⟩ (by dsimp only [JDat.sz]; omega) (by dsimp only [JDat.sz]; omega) ?_)
  rintro v7 h7 tk7 G7 ⟨tk8, rfl⟩ F7
  dsimp only
  rw [seg_all]
  have k37 := G7 37 _ (fun hm => nomatch hm) (N5.get (a := 37) (by k_mem))
  have kc := G7 c _ (fun hm => nomatch hm) gc
  (try k_unfold)
  (try dsimp only)
  (try k_unfold)
  exact ⟨h7, _, _, rfl, F7, ⟨_, rfl⟩, c, oc, ⟨ltN (by omega), vc, tc, dc1, dc2'⟩, tabs_two k37 kc, .inl rfl⟩
theorem c_digits2int (w : World) (l : Addr) (vs : List Value) (ns : List Int) (nk : Nat) (n : Int) (tn : Tok) (hi0 : IntsAre vs ns) (hlen : ns.length ≤ 20) (hn : 0 < n) (hn2 : n ≤ 20) (hnl : n * ns.length ≤ 60) (hds : ∀ d ∈ ns, 0 ≤ d ∧ d < 2 ^ n.toNat) (t : TS) (hok : TsOk 37 (Str.ofString "_digits2int.<locals>.inner") t) :
   Ctr prog hd.heap_39 TB w 42 40 1000 [.ref l, .int n tn] (tabs1 37 47 4 t) (fun h => h.get? l = some (listOf vs.toArray nk)) (PUnd 37 47 4 (Str.ofString "_digits2int.<locals>.inner") ns n t) := by
  cases t with
  | cold => exact c_digits2int_cold w l vs ns nk n tn hi0 hlen hn hn2 hnl hds
  | warm c o => exact c_digits2int_warm w l vs ns nk n tn hi0 hlen hn hn2 hnl hds c o hok
theorem c_div2n1n (w : World) (a b n : Int) (ta tb tn : Tok) 
  (ha : 0 ≤ a) (hb : 0 < b) (hlt : a < 1152921504606846976) (hbt : b < 1048576) (hn : 0 ≤ n) : Ctr prog hd.heap_39 TB w 21 1 8 [.int a ta, .int b tb, .int n tn] [] (fun _ => True) (PDiv a b) := by
  have fill : PySem.Challenge.rw_ib0004_02 = PySem.Challenge.rw_ib0004_02 → hd.heap_39 = hd.heap_39 → True := by k_fill; intros; trivial
  have hbits : (Builtin.Int.intBits a : Int) ≤ 60 := bits_le ha (by simpa using hlt)
  k_dflt (refine' ctr_plain (binds := [(Str.ofString "a", .int a ta), (Str.ofString "b", .int b tb), (Str.ofString "n", .int n tn)]) ?k6 ?k7 ?kd ?k9 ?kB ?c2 ?c3 ?c4 ?c5 ?_; (case k6 => k_is); (case k7 => k_is); (case kd => decide); (case k9 => intro s' X'; exact BindsTo.of_eq rfl); (case kB => exact locs rfl); (case c2 => exact rfl); (case c3 => exact rfl); (case c4 => exact rfl); (case c5 => decide))
  intro p loose mean mg mb dp un gd outer A₀ base g L' h₁ tk s B F X N T hTB hpre hG hL hk1 hdp hun
  obtain ⟨C1, C2⟩ := hTB
  try dsimp only
  (try k_unmd)
  k_fold
  k_steps
  rename_i h' F' N'
  have hD := N'.get (.head _)
  rw [Int.fdiv_eq_ediv_of_nonneg _ (by omega), Int.fmod_eq_emod_of_nonneg _ (by omega)] at hD
  exact ⟨h', _, _, rfl, F', _, _, _, rfl, hD, Nat.le_trans hL (Nat.le_of_lt F.ns.lt)⟩

theorem c_divmod_pos (w : World) (a b : Int) (ta tb : Tok) (ha : 0 ≤ a) (hb : 0 < b) (hlt : a < 1048576) (hbt : b < 1048576) (t1 t2 : TS) (ok1 : TsOk 30 (Str.ofString "_int2digits.<locals>.inner") t1) (ok2 : TsOk 37 (Str.ofString "_digits2int.<locals>.inner") t2) :
   Ctr prog hd.heap_39 TB w 49 50 1200 [.int a ta, .int b tb] (tabs1 30 32 4 t1 ++ tabs1 37 47 4 t2) (fun _ => True) (PDm 30 32 4 37 47 4 a b t1 t2) := by
  have fill : PySem.Challenge.rw_ib0004_02 = PySem.Challenge.rw_ib0004_02 → hd.heap_39 = hd.heap_39 → True := by k_fill; intros; trivial
  k_dflt (refine' ctr_plain (binds := [(Str.ofString "a", .int a ta), (Str.ofString "b", .int b tb)]) ?k6 ?k7 ?kd ?k9 ?kB ?c2 ?c3 ?c4 ?c5 ?_; (case k6 => k_is); (case k7 => k_is); (case kd => decide); (case k9 => intro s' X'; exact BindsTo.of_eq rfl); (case kB => exact locs rfl); (case c2 => exact rfl); (case c3 => exact rfl); (case c4 => exact rfl); (case c5 => decide))
  intro p loose mean mg mb dp un gd outer A₀ base g L' h₁ tk s B F X N T hTB hpre hG hL hk1 hdp hun
  obtain ⟨C1, C2⟩ := hTB
  try dsimp only
  (try k_unmd)
  k_fold
  k_steps
  rename_i h2 F2 N2
  have hB0 : 0 < ((Builtin.Int.intBits b : Nat) : Int) := by have := bits_pos (show b ≠ 0 by omega); omega
  have hB20 : ((Builtin.Int.intBits b : Nat) : Int) ≤ 20 := bits_le (by omega) (by simpa using hbt)
  have hbB : b < 2 ^ (Builtin.Int.intBits b) := lt_bits (by omega)
  generalize hn : ((Builtin.Int.intBits b : Nat) : Int) = n at *
  have hnb : n.toNat = Builtin.Int.intBits b := by omega
  rw [← hnb] at hbB
  have hap := tabs_apart (news_left N2) (news_right N2) ok1 ok2 (by decide) q_ne
  refine Stop.out (Ctr.use (c_int2digits w a n ta tk ha hlt hB0 hB20 t1 ok1) (by assumption) F2 (by assumption) (news_left N2) (by assumption) rfl ⟨C1, C2⟩ trivial (by omega) (by omega) ?_)
  rintro v3 h3 tk3 G3 ⟨⟨D, vs, rfl, hD, hI, hDs⟩, c1, o1, okc1, hc1, hcase1⟩ F3
  have NT := news_append (tabs_news F2 (news_left N2) hc1 hcase1) (news_after (news_right N2) G3 (off_of_apart hap))
  have hs2 : s.heap.objs.size ≤ h2.objs.size := Nat.le_trans hL (Nat.le_of_lt F2.ns.lt)
  have hcase1' := case_mono hs2 hcase1
  have hltT : ∀ p ∈ (tabs1 30 32 4 (.warm c1 o1) ++ tabs1 37 47 4 t2), p.1 ≠ D := fun p hp e => by
    rcases List.mem_append.mp hp with hp | hp
    · exact not_tabs (fun p hp => (news_left NT p hp).1) okc1 hD (List.mem_map.mpr ⟨p, hp, e⟩)
    · exact not_tabs (fun p hp => (news_right NT p hp).1) ok2 hD (List.mem_map.mpr ⟨p, hp, e⟩)
  have N3 := news_new F2 hD hDs NT
  obtain ⟨TL, hTL⟩ : ∃ z, z = (tabs1 30 32 4 (.warm c1 o1) ++ tabs1 37 47 4 t2) := ⟨_, rfl⟩
  rw [← hTL] at N3 hltT
  clear N2 F2 hD
  (try dsimp only)
  k_steps
  rename_i hA hB lq hC l1 l2 hDh I hE F5 N5 lI
  have hT2 : ∀ p ∈ TL, p.1 ≠ lq := fun p hp => Nat.ne_of_lt (ktn_ltOf l1.2 p hp)
  have hT3 : ∀ p ∈ TL, p.1 ≠ I := fun p hp => Nat.ne_of_lt (ktn_ltOf lI.2.2 p hp)
  have hBp : (0 : Int) < 2 ^ n.toNat := Int.pow_pos (by decide)
  have hBs : (2 : Int) ^ n.toNat ≤ 1048576 := by
    have h1 : (2 : Nat) ^ n.toNat ≤ 2 ^ 20 := Nat.pow_le_pow_right (by decide) (by omega)
    have h2 : (2 : Int) ^ n.toNat = ((2 ^ n.toNat : Nat) : Int) := by push_cast; rfl
    rw [h2]; omega
  have hIr := ints_reverse hI
  generalize hhs : (dg (2 ^ n.toNat) (ndig a n) a).reverse = hs at *
  have hsB : ∀ d ∈ hs, 0 ≤ d ∧ d < 2 ^ n.toNat := fun d hd => dg_bound hBp (ndig a n) a d (by rw [← hhs] at hd; exact List.mem_reverse.mp hd)
  have hslen : hs.length = vs.length := by rw [← hIr.length, List.length_reverse]
  have hvslen : vs.length ≤ 20 := by
    rw [hI.length, dg_length]
    by_cases h0 : a = 0
    · subst h0; rw [ndig_zero hB0]; omega
    · have h1 := (ndig_le h0 hB0).2.1
      have h2 := bits_le ha (k := 20) (by simpa using hlt)
      omega
  obtain ⟨m0, hm0, F5'⟩ := fr_name F5
  refine Stop.out (rev_M (k := 0) (vs := vs) (ax := D) (fun i m nx => ∃ r tr vq qs kq, JM (Str.ofString "a_digit") [Str.ofString "q_digit"] m0 [(Str.ofString "r", Value.int r tr)] m ∧ nx = (lq, listOf vq.toArray kq) :: (D, listOf vs.toArray 0) :: TL ∧ IntsAre vq qs ∧ qs.length = i ∧ (∀ q ∈ qs, 0 ≤ q ∧ q < 2 ^ n.toNat) ∧ 0 ≤ r ∧ r < b ∧ hv (2 ^ n.toNat) (hs.take i) = hv (2 ^ n.toNat) qs * b + r)
    rfl F5' N5 ?_ (.tail _ (.head _)) ?_ ?_ ?_ ?_)
  · intro p hp
    rcases List.mem_cons.mp hp with rfl | hp
    · k_ne
    · rcases List.mem_cons.mp hp with rfl | hp
      · k_ne
      · exact hT3 p hp
  · rintro i m nx ⟨_, _, _, _, _, _, rfl, _⟩
    exact .tail _ (.head _)
  · subst hm0
    refine' ⟨0, _, [], [], 0, ⟨fun p hp => ?hp, fun _ _ _ _ => rfl⟩, rfl, .nil, rfl, (fun _ h => nomatch h), Int.le_refl _, by omega, by simp [hv]⟩
    (case hp => rw [List.mem_singleton.mp hp]; rfl)
  · subst hm0
    clear F5 F5' N5
    rintro i v m₁ nx h tk o hvi ⟨r, tr, vq, qs, kq, jm, rfl, hq, hlen, hqs, r0, rb, inv⟩ hnI F6 N6
    obtain ⟨d, td, rfl, hd⟩ := ints_get hIr hvi
    have hdB := hsB d (List.mem_of_getElem? hd)
    have F7 := jm.fr F6
    clear F6
    have hi20 : vq.length ≤ 1048576 := by have := hq.length; have := (List.getElem?_eq_some_iff.mp hd).1; omega
    obtain ⟨hx0, hx1⟩ := shl_facts r0 rb hdB.1 hdB.2
    (try k_unmd)
    k_fold
    k_steps
    have hx2 : b * 2 ^ n.toNat ≤ 1048576 * 1048576 := Int.mul_le_mul (by omega) hBs (by omega) (by omega)
    refine Stop.out (Ctr.use (c_div2n1n w (r * 2 ^ n.toNat + d) b n _ _ _ hx0 hb (by omega) hbt (by omega)) (by assumption) F7 (by assumption) (fun _ h => nomatch h) (by assumption) rfl ⟨C1, C2⟩ trivial (by omega) (by omega) ?_)
    rintro v8 h8 tk8 G8 ⟨D8, ta8, tb8, rfl, hD8, hs8⟩ F8
    have N8 := news_new F7 hD8 hs8 (news_after (mts := []) N6 G8 (fun _ _ hm => nomatch hm))
    have l8 := lt_new N6 hs8
    k_lt l8
    clear F7 N6
    (try dsimp only)
    k_steps
    rename_i hX1 hX2 hX3 hX4 hX5 F9 N9
    have eq1 : ∀ {z : Str}, List.contains [Str.ofString "q_digit"] z = false → z ≠ Str.ofString "q_digit" := fun h e => by rw [e] at h; exact absurd h (by decide)
    refine' ⟨_, _, _, _, rfl, F9, (fun p hp => N9 p (.tail _ hp)), ?hI, _, tb8, _, qs ++ [(r * 2 ^ n.toNat + d) / b], kq + 1, ⟨?j1, ?j2⟩, rfl, ints_append hq (.cons _ _ .nil), by simp [hlen], ?hqs, Int.emod_nonneg _ (by omega), Int.emod_lt_of_pos _ hb, ?inv⟩
    · intro p hp
      rcases List.mem_cons.mp hp with rfl | hp
      · k_ne
      · rcases List.mem_cons.mp hp with rfl | hp
        · k_ne
        · exact hT3 p hp
    · intro p hp
      rw [List.mem_singleton.mp hp]; rfl
    · intro z z1 z2 z3
      have a1 := z2 _ (.head _)
      have a2 := eq1 z3
      simp only [kstB, if_neg a1, if_neg a2, if_neg z1, z3, Bool.false_eq_true, if_false]
    · intro q hq
      rcases List.mem_append.mp hq with hq | hq
      · exact hqs q hq
      · rw [List.mem_singleton.mp hq]
        exact ⟨Int.ediv_nonneg hx0 (by omega), Int.ediv_lt_of_lt_mul hb (by rw [Int.mul_comm (2 ^ n.toNat) b]; exact hx1)⟩
    · rw [List.take_add_one, hd, Option.toList_some, hv_snoc, inv, hv_snoc]
      exact step_inv
  · subst hm0
    clear F5 F5' N5
    rintro m₁ nx h tk ⟨r, tr, vq, qs, kq, jm, rfl, hq, hlen, hqs, r0, rb, inv⟩ F6 N6
    have F7 := jm.frOut F6
    clear F6
    have hi20 : vq.length ≤ 1048576 := by have := hq.length; omega
    (try dsimp only)
    k_steps
    rename_i hX1 hX2 F9 N9
    have hmul := ndig_mul ha hlt hB0 hB20
    have hvl : vs.length = ndig a n := by rw [hI.length, dg_length]
    have hql : qs.reverse.length = ndig a n := by rw [List.length_reverse]; omega
    have NT9 : News g L' hX2 TL := fun p hp => N9 p (.tail _ (.tail _ hp))
    rw [hTL] at NT9
    have hap9 := tabs_apart (news_right NT9) (news_left NT9) ok2 okc1 (by decide) (Ne.symm q_ne)
    refine Stop.out (Ctr.use (c_digits2int w lq vq.reverse qs.reverse kq n _ (ints_reverse hq) (by omega) hB0 hB20 (by rw [hql]; exact hmul) (fun d hd => hqs d (List.mem_reverse.mp hd)) t2 ok2) (by assumption) F9 (by assumption) (news_right NT9) (by assumption) rfl ⟨C1, C2⟩ (N9 _ (.head _)).1 (by omega) (by omega) ?_)
    rintro v10 h10 tk10 G10 ⟨⟨tq, rfl⟩, c2, o2, okc2, hc2, hcase2⟩ F10
    have NT10 := news_append (news_after (news_left NT9) G10 (off_of_apart hap9)) (tabs_news F9 (news_right NT9) hc2 hcase2)
    have hs9 : s.heap.objs.size ≤ hX2.objs.size := Nat.le_trans hL (Nat.le_of_lt F9.ns.lt)
    have hcase2' := case_mono hs9 hcase2
    obtain ⟨TL2, hTL2⟩ : ∃ z, z = (tabs1 30 32 4 (.warm c1 o1) ++ tabs1 37 47 4 (.warm c2 o2)) := ⟨_, rfl⟩
    rw [← hTL2] at NT10
    clear F9 N9 NT9
    (try dsimp only)
    k_steps
    rename_i lD hY3 F11 N11 lY1 lY2
    (try dsimp only)
    (try k_unfold)
    have hQ : undg (2 ^ n.toNat) qs.reverse = hv (2 ^ n.toNat) qs := by rw [← hv_rev, List.reverse_reverse]
    have hva : hv (2 ^ n.toNat) hs = a := by rw [← hhs]; exact a_value ha hB0
    rw [List.take_of_length_le (by omega), hva] at inv
    obtain ⟨e1, e2⟩ := qr_of inv r0 rb
    have hD11 := N11.get (.head _)
    rw [hQ, e1, e2] at hD11
    have hsub : ∀ p ∈ TL2, hY3.get? p.1 = some p.2 := fun p hp => (N11 p (.tail _ hp)).1
    rw [hTL2] at hsub
    exact ⟨_, _, _, rfl, F11, ⟨_, _, _, rfl, hD11, by first | exact Nat.le_trans hL (Nat.le_of_lt lY2) | exact Nat.le_trans hL (Nat.le_of_lt lY1)⟩, ⟨c1, o1, okc1, fun p hp => hsub p (List.mem_append_left _ hp), hcase1'⟩, ⟨c2, o2, okc2, fun p hp => hsub p (List.mem_append_right _ hp), hcase2'⟩⟩

theorem c_int_divmod (w : World) (a b : Int) (ta tb : Tok) (ha : 0 ≤ a) (hb : 0 < b) (hlt : a < 1048576) (hbt : b < 1048576) (t1 t2 : TS) (ok1 : TsOk 30 (Str.ofString "_int2digits.<locals>.inner") t1) (ok2 : TsOk 37 (Str.ofString "_digits2int.<locals>.inner") t2) :
   Ctr prog hd.heap_39 TB w 56 60 1300 [.int a ta, .int b tb] (tabs1 30 32 4 t1 ++ tabs1 37 47 4 t2) (fun _ => True) (PDm 30 32 4 37 47 4 a b t1 t2) := by
  have fill : PySem.Challenge.rw_ib0004_02 = PySem.Challenge.rw_ib0004_02 → hd.heap_39 = hd.heap_39 → True := by k_fill; intros; trivial
  k_dflt (refine' ctr_plain (binds := [(Str.ofString "a", .int a ta), (Str.ofString "b", .int b tb)]) ?k6 ?k7 ?kd ?k9 ?kB ?c2 ?c3 ?c4 ?c5 ?_; (case k6 => k_is); (case k7 => k_is); (case kd => decide); (case k9 => intro s' X'; exact BindsTo.of_eq rfl); (case kB => exact locs rfl); (case c2 => exact rfl); (case c3 => exact rfl); (case c4 => exact rfl); (case c5 => decide))
  intro p loose mean mg mb dp un gd outer A₀ base g L' h₁ tk s B F X N T hTB hpre hG hL hk1 hdp hun
  obtain ⟨C1, C2⟩ := hTB
  have hb1 : ¬ b = 0 := by omega
  have hb2 : (b == 0) = false := by simpa using hb1
  have hb3 : decide (b = 0) = false := by simpa using hb1
  try dsimp only
  (try k_unmd)
  k_fold
  k_steps
  refine Stop.out (Ctr.use (c_divmod_pos w a b ta tb ha hb hlt hbt t1 t2 ok1 ok2) (by assumption) F (by assumption) N (by assumption) rfl ⟨C1, C2⟩ trivial (by omega) (by omega) ?_)
  rintro v3 h3 tk3 G3 ⟨⟨D, td1, td2, rfl, hD, hDs⟩, ⟨c1, o1, okc1, hc1, hcase1⟩, ⟨c2, o2, okc2, hc2, hcase2⟩⟩ F3
  have hs2 : s.heap.objs.size ≤ h₁.objs.size := Nat.le_trans hL (Nat.le_of_lt F.ns.lt)
  (try dsimp only)
  (try k_unfold)
  (try dsimp only)
  (try k_unfold)
  exact ⟨_, _, _, rfl, F3, ⟨_, _, _, rfl, hD, Nat.le_trans hs2 hDs⟩, ⟨c1, o1, okc1, hc1, case_mono hs2 hcase1⟩, ⟨c2, o2, okc2, hc2, case_mono hs2 hcase2⟩⟩
local macro_rules | `(tactic| walk_at "exec While") => `(tactic| (k_here; refine Stop.mk ?_))
local macro_rules | `(tactic| walk_at "binaryOp FloorDiv int int") => `(tactic| (k_here; (with_reducible refine' fdiv_M ?k1 ?k2 ?_); (case k1 => omega); (case k2 => omega)))
local macro_rules | `(tactic| walk_at "binaryOp Mod int int") => `(tactic| (k_here; (with_reducible refine' mod_M ?k1 ?_); (case k1 => omega)))
local macro_rules | `(tactic| walk_at "call builtin:list.insert") => `(tactic| (k_here; k_dflt (show wpAny _ _ (call (Value.builtin _) [Value.ref _, Value.int _ _, _]) _ _ _); k_dflt (refine' insert_M ?k1 ?k2 ?k3 ?k4 ?k5 ?k6 ?_; (case k1 => k_asm); (case k2 => k_asm); (case k3 => k_upd); (case k4 => omega); (case k5 => omega); (case k6 => omega); k_whole); intro h' F' N'; (try k_sweep)))

theorem c_bisect2 (w : World) (l : Addr) (vs : List Value) (ns : List Int) (k : Nat) (x : Int) (tx : Tok) (hI : IntsAre vs ns) (hlen : ns.length ≤ 1048576) (hsrt : Srt ns) : 
   Ctr prog hd.heap_39 TB w 74 1 200 [.ref l, .int x tx] [] (fun h => h.get? l = some (listOf vs.toArray k)) (PBis ns x) := by
  have fill : PySem.Challenge.rw_ib0004_02 = PySem.Challenge.rw_ib0004_02 → hd.heap_39 = hd.heap_39 → True := by k_fill; intros; trivial
  k_dflt (refine' ctr_plain ?k6 ?k7 ?kd ?k9 ?kB ?c2 ?c3 ?c4 ?c5 ?_; (case k6 => k_is); (case k7 => k_is); (case kd => decide); (case k9 => intro s' X'; (refine' kp_binds ?kx ?ke; (case kx => exact X'); (case ke => exact fun _ => rfl))); (case kB => exact locs rfl); (case c2 => exact rfl); (case c3 => exact rfl); (case c4 => exact rfl); (case c5 => decide))
  intro p loose mean mg mb dp un gd outer A₀ base g L' h₁ tk s B F X N T hTB hpre hG hL hk1 hdp hun
  obtain ⟨C1, C2⟩ := hTB
  have gl := hG _ _ (fun hm => nomatch hm) hpre
  have gIL : g.IsList l vs.toArray := ⟨_, gl, rfl, _, rfl⟩
  have hl62 : ns.length < 2 ^ 62 := by omega
  (try dsimp only)
  (try k_unmd)
  k_fold
  k_steps
  rename_i h5 F5 N5
  obtain ⟨m0, hm0, F5'⟩ := fr_name F5
  refine Stop.out (While_inv (n₀ := ns.length) (fun n m nx => ∃ lo hi tlo thi, n = (hi - lo).toNat ∧ JM (Str.ofString "mid") [] m0 [(Str.ofString "lo", Value.int lo tlo), (Str.ofString "hi", Value.int hi thi)] m ∧ nx = [] ∧ BLoop ns x lo hi) F5' N5 ?_ ?_)
  · subst hm0
    refine' ⟨0, ns.length, _, _, by omega, ⟨fun p hp => ?j1, fun _ _ _ _ => rfl⟩, rfl, BLoop.start⟩
    (case j1 =>
      rcases List.mem_cons.mp hp with rfl | hp
      · rfl
      · rw [List.mem_singleton.mp hp]; rfl)
  · subst hm0
    clear F5 F5' N5
    rintro n m₁ nx h tk F6 N6 ⟨lo, hi, tlo, thi, rfl, jm, rfl, bl⟩
    have F7 := jm.frOut F6
    clear F6
    obtain ⟨b0, b1, b2, b3, b4⟩ := id bl
    (try k_unmd)
    k_fold
    k_steps
    · rename_i hlt hh1 tt hx hh2 F8 N8
      refine' WhileStep.intro (n' := (hi - ((lo + hi) / 2 + 1)).toNat) F8 N8 (by omega) ⟨(lo + hi) / 2 + 1, hi, _, thi, rfl, ⟨fun p hp => ?j1, ?j2⟩, rfl, BLoop.right hsrt bl hlt hx⟩
      (case j1 =>
        rcases List.mem_cons.mp hp with rfl | hp
        · rfl
        · rw [List.mem_singleton.mp hp]; rfl)
      (case j2 =>
        intro z z1 z2 z3
        have a1 : z ≠ Str.ofString "lo" := z2 _ (.head _)
        have a2 : z ≠ Str.ofString "hi" := z2 _ (.tail _ (.head _))
        simp only [kstB, if_neg a1, if_neg a2, if_neg z1, List.contains_nil, Bool.false_eq_true, if_false])
    · rename_i hlt hh1 tt hx hh2 F8 N8
      refine' WhileStep.intro (n' := ((lo + hi) / 2 - lo).toNat) F8 N8 (by omega) ⟨lo, (lo + hi) / 2, tlo, _, rfl, ⟨fun p hp => ?j1, ?j2⟩, rfl, BLoop.left hsrt bl hlt hx⟩
      (case j1 =>
        rcases List.mem_cons.mp hp with rfl | hp
        · rfl
        · rw [List.mem_singleton.mp hp]; rfl)
      (case j2 =>
        intro z z1 z2 z3
        have a1 : z ≠ Str.ofString "lo" := z2 _ (.head _)
        have a2 : z ≠ Str.ofString "hi" := z2 _ (.tail _ (.head _))
        simp only [kstB, if_neg a1, if_neg a2, if_neg z1, List.contains_nil, Bool.false_eq_true, if_false])
    · rename_i hlt
      (try dsimp only)
      (try k_unfold)
      (try dsimp only)
      (try k_unfold)
      exact ⟨_, _, _, rfl, F7, lo, _, rfl, bl.out hlt⟩

theorem c_bisect4 (w : World) (l : Addr) (vs : List Value) (ns : List Int) (k : Nat) (x : Int) (tx t0 : Tok) (hI : IntsAre vs ns) (hlen : ns.length ≤ 1048576) (hsrt : Srt ns) : 
   Ctr prog hd.heap_39 TB w 74 1 200 [.ref l, .int x tx, .int 0 t0, .none] [] (fun h => h.get? l = some (listOf vs.toArray k)) (PBis ns x) := by
  have fill : PySem.Challenge.rw_ib0004_02 = PySem.Challenge.rw_ib0004_02 → hd.heap_39 = hd.heap_39 → True := by k_fill; intros; trivial
  k_dflt (refine' ctr_plain ?k6 ?k7 ?kd ?k9 ?kB ?c2 ?c3 ?c4 ?c5 ?_; (case k6 => k_is); (case k7 => k_is); (case kd => decide); (case k9 => intro s' X'; (refine' kp_binds ?kx ?ke; (case kx => exact X'); (case ke => exact fun _ => rfl))); (case kB => exact locs rfl); (case c2 => exact rfl); (case c3 => exact rfl); (case c4 => exact rfl); (case c5 => decide))
  intro p loose mean mg mb dp un gd outer A₀ base g L' h₁ tk s B F X N T hTB hpre hG hL hk1 hdp hun
  obtain ⟨C1, C2⟩ := hTB
  have gl := hG _ _ (fun hm => nomatch hm) hpre
  have gIL : g.IsList l vs.toArray := ⟨_, gl, rfl, _, rfl⟩
  have hl62 : ns.length < 2 ^ 62 := by omega
  (try dsimp only)
  (try k_unmd)
  k_fold
  k_steps
  rename_i h5 F5 N5
  obtain ⟨m0, hm0, F5'⟩ := fr_name F5
  refine Stop.out (While_inv (n₀ := ns.length) (fun n m nx => ∃ lo hi tlo thi, n = (hi - lo).toNat ∧ JM (Str.ofString "mid") [] m0 [(Str.ofString "lo", Value.int lo tlo), (Str.ofString "hi", Value.int hi thi)] m ∧ nx = [] ∧ BLoop ns x lo hi) F5' N5 ?_ ?_)
  · subst hm0
    refine' ⟨0, ns.length, _, _, by omega, ⟨fun p hp => ?j1, fun _ _ _ _ => rfl⟩, rfl, BLoop.start⟩
    (case j1 =>
      rcases List.mem_cons.mp hp with rfl | hp
      · rfl
      · rw [List.mem_singleton.mp hp]; rfl)
  · subst hm0
    clear F5 F5' N5
    rintro n m₁ nx h tk F6 N6 ⟨lo, hi, tlo, thi, rfl, jm, rfl, bl⟩
    have F7 := jm.frOut F6
    clear F6
    obtain ⟨b0, b1, b2, b3, b4⟩ := id bl
    (try k_unmd)
    k_fold
    k_steps
    · rename_i hlt hh1 tt hx hh2 F8 N8
      refine' WhileStep.intro (n' := (hi - ((lo + hi) / 2 + 1)).toNat) F8 N8 (by omega) ⟨(lo + hi) / 2 + 1, hi, _, thi, rfl, ⟨fun p hp => ?j1, ?j2⟩, rfl, BLoop.right hsrt bl hlt hx⟩
      (case j1 =>
        rcases List.mem_cons.mp hp with rfl | hp
        · rfl
        · rw [List.mem_singleton.mp hp]; rfl)
      (case j2 =>
        intro z z1 z2 z3
        have a1 : z ≠ Str.ofString "lo" := z2 _ (.head _)
        have a2 : z ≠ Str.ofString "hi" := z2 _ (.tail _ (.head _))
        simp only [kstB, if_neg a1, if_neg a2, if_neg z1, List.contains_nil, Bool.false_eq_true, if_false])
    · rename_i hlt hh1 tt hx hh2 F8 N8
      refine' WhileStep.intro (n' := ((lo + hi) / 2 - lo).toNat) F8 N8 (by omega) ⟨lo, (lo + hi) / 2, tlo, _, rfl, ⟨fun p hp => ?j1, ?j2⟩, rfl, BLoop.left hsrt bl hlt hx⟩
      (case j1 =>
        rcases List.mem_cons.mp hp with rfl | hp
        · rfl
        · rw [List.mem_singleton.mp hp]; rfl)
      (case j2 =>
        intro z z1 z2 z3
        have a1 : z ≠ Str.ofString "lo" := z2 _ (.head _)
        have a2 : z ≠ Str.ofString "hi" := z2 _ (.tail _ (.head _))
        simp only [kstB, if_neg a1, if_neg a2, if_neg z1, List.contains_nil, Bool.false_eq_true, if_false])
    · rename_i hlt
      (try dsimp only)
      (try k_unfold)
      (try dsimp only)
      (try k_unfold)
      exact ⟨_, _, _, rfl, F7, lo, _, rfl, bl.out hlt⟩

theorem c_insort (w : World) (l : Addr) (vs : List Value) (ns : List Int) (k : Nat) (x : Int) (tx : Tok) (hI : IntsAre vs ns) (hlen : ns.length ≤ 1000000) (hsrt : Srt ns) : 
   Ctr prog hd.heap_39 TB w 65 2 300 [.ref l, .int x tx] [(l, listOf vs.toArray k)] (fun _ => True) (PIns l ns k x) := by
  have fill : PySem.Challenge.rw_ib0004_02 = PySem.Challenge.rw_ib0004_02 → hd.heap_39 = hd.heap_39 → True := by k_fill; intros; trivial
  k_dflt (refine' ctr_plain ?k6 ?k7 ?kd ?k9 ?kB ?c2 ?c3 ?c4 ?c5 ?_; (case k6 => k_is); (case k7 => k_is); (case kd => decide); (case k9 => intro s' X'; (refine' kp_binds ?kx ?ke; (case kx => exact X'); (case ke => exact fun _ => rfl))); (case kB => exact locs rfl); (case c2 => exact rfl); (case c3 => exact rfl); (case c4 => exact rfl); (case c5 => decide))
  intro p loose mean mg mb dp un gd outer A₀ base g L' h₁ tk s B F X N T hTB hpre hG hL hk1 hdp hun
  obtain ⟨C1, C2⟩ := hTB
  (try dsimp only)
  (try k_unmd)
  k_fold
  k_steps
  refine Stop.out (Ctr.use (c_bisect4 w l vs ns k x _ _ hI (by omega) hsrt) (by assumption) F (by assumption) (fun _ h => nomatch h) (by assumption) rfl ⟨C1, C2⟩ (N.get (.head _)) (by omega) (by omega) ?_)
  rintro v3 h3 tk3 G3 ⟨r, tr, rfl, hb⟩ F3
  have N3 := news_after (mts := []) N G3 (fun _ _ hm => nomatch hm)
  have hr0 := hb.1
  have hr1 := hb.2.1
  have hvl : vs.length ≤ 1000000 := by rw [hI.length]; exact hlen
  have hr2 : r ≤ vs.length := by rw [hI.length]; exact hr1
  clear F N
  (try dsimp only)
  k_steps
  rename_i hh F5 N5
  (try dsimp only)
  (try k_unfold)
  (try dsimp only)
  (try k_unfold)
  exact ⟨_, _, _, rfl, F5, rfl, r, _, hb, N5.get (.head _), ints_ins hI r.toNat x _⟩
abbrev TabsL (TL : List (Addr × Obj)) : Prop := TabsIs 30 32 4 37 47 4 TL
abbrev TNxL (TL : List (Addr × Obj)) (h : Heap) (TL' : List (Addr × Obj)) (h' : Heap) : Prop := TNx 30 32 4 37 47 4 TL h TL' h'
theorem e_int_divmod (w : World) (a b : Int) (ta tb : Tok) (ha : 0 ≤ a) (hb : 0 < b) (hlt : a < 1048576) (hbt : b < 1048576) (TL : List (Addr × Obj)) (hT : TabsL TL) :
   Ctr prog hd.heap_39 TB w 56 60 1300 [.int a ta, .int b tb] TL (fun _ => True) (fun h v h' => PDiv a b h v h' ∧ ∃ TL', TNxL TL h TL' h') := by
  obtain ⟨t1, t2, rfl, ok1, ok2⟩ := hT
  exact (c_int_divmod w a b ta tb ha hb hlt hbt t1 t2 ok1 ok2).weak (fun _ h => h) fun _ _ _ _ _ _ _ P => ⟨P.1, tnx_of P.2.1 P.2.2⟩
theorem e_int2digits (w : World) (a n : Int) (ta tn : Tok) (ha : 0 ≤ a) (hlt : a < 1048576) (hn : 0 < n) (hn2 : n ≤ 20) (TL : List (Addr × Obj)) (hT : TabsL TL) :
   Ctr prog hd.heap_39 TB w 35 40 1000 [.int a ta, .int n tn] TL (fun _ => True) (fun h v h' => (∃ D vs, v = .ref D ∧ h'.get? D = some (listOf vs.toArray 0) ∧ IntsAre vs (dg (2 ^ n.toNat) (ndig a n) a) ∧ h.objs.size ≤ D) ∧ ∃ TL', TNxL TL h TL' h') := by
  obtain ⟨t1, t2, rfl, ok1, ok2⟩ := hT
  exact (c_int2digits w a n ta tn ha hlt hn hn2 t1 ok1).weak (fun _ h => List.mem_append_left _ h) fun _ _ _ _ _ N G P => ⟨P.1, tnx_first N ok1 ok2 (by decide) G P.2⟩
abbrev TFromL (TL : List (Addr × Obj)) (n : Nat) (TL' : List (Addr × Obj)) : Prop := TFrom 30 32 4 37 47 4 TL n TL'
abbrev TNyL (TL : List (Addr × Obj)) (h : Heap) (TL' : List (Addr × Obj)) (h' : Heap) : Prop := TNy 30 32 4 37 47 4 TL h TL' h'
theorem y_int_divmod (w : World) (a b : Int) (ta tb : Tok) (ha : 0 ≤ a) (hb : 0 < b) (hlt : a < 1048576) (hbt : b < 1048576) (TL : List (Addr × Obj)) (hT : TabsL TL) :
   Ctr prog hd.heap_39 TB w 56 60 1300 [.int a ta, .int b tb] TL (fun _ => True) (fun h v h' => PDiv a b h v h' ∧ ∃ TL', TNyL TL h TL' h') := by
  obtain ⟨t1, t2, rfl, ok1, ok2⟩ := hT
  exact (c_int_divmod w a b ta tb ha hb hlt hbt t1 t2 ok1 ok2).weak (fun _ h => h) fun _ _ _ _ _ _ _ P => ⟨P.1, tny_of P.2.1 P.2.2⟩
theorem e_digits2int (w : World) (l : Addr) (vs : List Value) (ns : List Int) (nk : Nat) (n : Int) (tn : Tok) (hi0 : IntsAre vs ns) (hlen : ns.length ≤ 20) (hn : 0 < n) (hn2 : n ≤ 20) (hnl : n * ns.length ≤ 60) (hds : ∀ d ∈ ns, 0 ≤ d ∧ d < 2 ^ n.toNat) (TL : List (Addr × Obj)) (hT : TabsL TL) :
   Ctr prog hd.heap_39 TB w 42 40 1000 [.ref l, .int n tn] TL (fun h => h.get? l = some (listOf vs.toArray nk)) (fun h v h' => (∃ tk, v = .int (undg (2 ^ n.toNat) ns) tk) ∧ ∃ TL', TNxL TL h TL' h') := by
  obtain ⟨t1, t2, rfl, ok1, ok2⟩ := hT
  exact (c_digits2int w l vs ns nk n tn hi0 hlen hn hn2 hnl hds t2 ok2).weak (fun _ h => List.mem_append_right _ h) fun _ _ _ _ _ N G P => ⟨P.1, tnx_second N ok1 ok2 (by decide) G P.2⟩
local macro_rules | `(tactic| walk_at "eval ListComp") => `(tactic| (k_here; k_dflt (refine LCg.ListComp_U (F₀ := by k_asm) (by with_unfolding_all rfl) (by decide) (by rfl) (by decide) (by rfl) ?_)))
local macro_rules | `(tactic| walk_at "eval ListComp") => `(tactic| (k_here; lct_look; k_dflt (refine LCt.ListComp_T (F₀ := by k_asm) (by with_unfolding_all rfl) (by decide) (by rfl) (by decide) (by rfl) ?_)))
local macro_rules | `(tactic| walk_at "CompSrcT") => `(tactic| (refine Stop.mk ?_))
local macro_rules | `(tactic| walk_at "CompRestT") => `(tactic| (refine Stop.mk ?_))
local macro_rules | `(tactic| walk_at "CompSrc") => `(tactic| (refine Stop.mk ?_))
local macro_rules | `(tactic| walk_at "CompRest") => `(tactic| (refine Stop.mk ?_))
theorem c_into (w : World) (number : Int) (t : Tok) (h0 : 0 ≤ number) (h1 : number ≤ 1000) (TL : List (Addr × Obj)) (hT : TabsL TL) :
   Ctr prog hd.heap_39 TB w 79 70 1500 [.int number t] TL (fun _ => True) (fun h v h' => (∃ D vs, v = .ref D ∧ h'.get? D = some (listOf vs.toArray vs.length) ∧ IntsAre vs (divsL number) ∧ h.get? D = none) ∧ ∃ TL', TNyL TL h TL' h') := by
  have fill : PySem.Challenge.rw_ib0004_02 = PySem.Challenge.rw_ib0004_02 → hd.heap_39 = hd.heap_39 → True := by k_fill; intros; trivial
  k_dflt (refine' ctr_cells (binds := [(Str.ofString "number", .int number t)]) ?k6 ?k7 ?kd ?k9 ?kB ?kD ?c2 ?c3 ?c4 ?_; (case k6 => k_is); (case k7 => k_is); (case kd => decide); (case k9 => intro s' X'; exact BindsTo.of_eq rfl); (case kB => exact rfl); (case kD => decide +kernel); (case c2 => exact rfl); (case c3 => exact rfl); (case c4 => exact rfl))
  intro p loose mean mg mb dp un gd outer A₀ base g L' h₁ tk s cells B F X N Y T hTB hpre hG hL hk1 lm hdp hun
  obtain ⟨C1, C2⟩ := hTB
  k_cells Y
  (try simp only [List.cons_append, List.nil_append] at N)
  (try dsimp only)
  (try k_unmd)
  k_fold
  k_steps
  (rename IsRange _ _ _ _ _ _ _ _ => hr)
  (rename Fr _ _ _ _ => F2)
  (rename News _ _ _ _ => N2)
  have hn : Builtin.Range.rangeSize 1 (number + 1) 1 = ((number.toNat : Nat) : Int) := by rw [rangeSize_nat]; congr 1; omega
  have hL2 : s.heap.objs.size ≤ L' := hL
  refine Stop.out (LCt.CompSrcT.range rfl F2 N2 hr (small_one (by omega) (by omega) (by omega) (by omega)) hn (by rw [sizeLine_eq]; omega) fun g2 => ?_)
  (rename Obj => oc)
  (rename oc.data = Data.cell _ => d1)
  have d1' : oc.data = .cell (some (.int number t)) := d1
  have hnn : ∀ i : Nat, (rangeKs 1 (i + 1)).filter (fun d => number % d == 0) = (rangeKs 1 i).filter (fun d => number % d == 0) ++ (if number % (1 + (i : Int)) == 0 then [1 + (i : Int)] else []) := fun i => by
    unfold rangeKs
    rw [List.range_succ, List.map_append, List.filter_append]
    congr 1
    simp only [List.map_cons, List.map_nil, List.filter_cons, List.filter_nil]
  refine rest_T (fun i ys nw => ∃ TL', nw = (L' + 1, oc) :: TL' ∧ TFromL TL s.heap.objs.size TL' ∧ (∀ p ∈ TL', p.1 ≠ L' + 1) ∧ IntsAre ys ((rangeKs 1 i).filter fun d => number % d == 0)) ?_ ?_ ?_
  · rintro ys nw ⟨TL', rfl, hF, hO, hI⟩ D h' tk' F3 N3 o1
    (try dsimp only)
    (try k_unfold)
    (try dsimp only)
    have hD := N3 _ (.head _)
    have h1 : ∀ p ∈ TL', p.1 ≠ D := off1_mem o1.2
    exact ⟨h', _, _, rfl, F3, ⟨D, ys, rfl, hD.1, hI, free_of hG hD.2.2 hF h1⟩, TL', hF.tny fun p hp => (N3 p (.tail _ (.tail _ hp))).1⟩
  · exact ⟨TL, rfl, TFrom.refl hT, fun p hp => Nat.ne_of_lt (Nat.lt_succ_of_lt (lm p hp)), .nil⟩
  · clear F2 N2 hr hn
    rintro i ys nw v I oI C oC D m₂ h' tk' E' hi ⟨TL', rfl, hF, hO, hI⟩ ⟨tv, rfl⟩ hC hx F3 N3 off ne
    have hLh : s.heap.objs.size ≤ h'.objs.size := Nat.le_trans hL2 (Nat.le_of_lt F3.ns.lt)
    have hm1 := Int.emod_nonneg number (show (1 + (i : Int)) ≠ 0 by omega)
    k_steps
    refine Stop.out (Ctr.use (y_int_divmod w number (1 + (i : Int)) _ _ h0 (by omega) (by omega) (by omega) TL' hF.1) (by assumption) F3 (by assumption) (fun p hp => N3 p (.tail _ (.tail _ (.tail _ (.tail _ hp))))) (by assumption) rfl ⟨C1, C2⟩ trivial (by omega) (by omega) ?_)
    rintro v4 h4 tk4 G4 ⟨⟨D2, td1, td2, rfl, hD2, hDs⟩, TL2, y2⟩ F4
    obtain ⟨N4, s4, hT4⟩ := re_n (ps := [(I, oI), (C, oC), (D, LCg.lst ys), (L' + 1, oc)]) F3 N3 G4 y2.1 (sep_cons (fun p hp => (off.2.mem p hp).1) (sep_cons (fun p hp => (off.2.mem p hp).2.1) (sep_cons (fun p hp => (off.2.mem p hp).2.2) (sep_cons hO sep_nil))))
    have N5 := news_new F3 hD2 hDs N4
    have hF2 := hF.next y2 hLh
    (try dsimp only)
    k_steps
    all_goals (
      refine LCg.CompEnd.intro F4 N5 ((L' + 1, oc) :: TL2) (fun p hp => .tail _ hp) ⟨off.1, off3_of (sep_head s4) (sep_head (sep_tail s4)) (sep_head (sep_tail (sep_tail s4)))⟩ trivial ⟨TL2, rfl, hF2, sep_head (sep_tail (sep_tail (sep_tail s4))), ?_⟩
      rw [hnn]
      first
        | (rw [if_pos (by simpa using (by assumption : number % (1 + (i : Int)) = 0))]; exact IntsAre.append hI (.cons _ _ .nil))
        | (rw [if_neg (by simpa using (by assumption : ¬ number % (1 + (i : Int)) = 0)), List.append_nil]; exact hI))
theorem gcd_turn {a b : Int} (ha : 0 ≤ a) (hb : 0 ≤ b) : Int.gcd b (a % b) = Int.gcd a b := by
  obtain ⟨x, rfl⟩ := Int.eq_ofNat_of_zero_le ha
  obtain ⟨y, rfl⟩ := Int.eq_ofNat_of_zero_le hb
  rw [← Int.natCast_emod, Int.gcd_natCast_natCast, Int.gcd_natCast_natCast, Nat.gcd_comm x y, Nat.gcd_rec y x, Nat.gcd_comm]
theorem c_shares (w : World) (one other : Int) (t1 t2 : Tok) (h0 : 0 ≤ one) (h1 : 0 ≤ other) :
   Ctr prog hd.heap_39 TB w 86 1 200 [.int one t1, .int other t2] [] (fun _ => True) (fun _ v _ => v = .bool (decide (1 < Int.gcd one other))) := by
  have fill : PySem.Challenge.rw_ib0004_02 = PySem.Challenge.rw_ib0004_02 → hd.heap_39 = hd.heap_39 → True := by k_fill; intros; trivial
  k_dflt (refine' ctr_plain (binds := [(Str.ofString "one", .int one t1), (Str.ofString "other", .int other t2)]) ?k6 ?k7 ?kd ?k9 ?kB ?c2 ?c3 ?c4 ?c5 ?_; (case k6 => k_is); (case k7 => k_is); (case kd => decide); (case k9 => intro s' X'; exact BindsTo.of_eq rfl); (case kB => exact locs rfl); (case c2 => exact rfl); (case c3 => exact rfl); (case c4 => exact rfl); (case c5 => decide))
  intro p loose mean mg mb dp un gd outer A₀ base g L' h₁ tk s B F X N T hTB hpre hG hL hk1 hdp hun
  obtain ⟨C1, C2⟩ := hTB
  (try dsimp only)
  (try k_unmd)
  k_fold
  k_steps
  obtain ⟨m0, hm0, F5'⟩ := fr_name F
  refine Stop.out (While_inv (n₀ := other.toNat) (fun n m nx => ∃ a b ta tb, n = Int.toNat b ∧ JM (Str.ofString "~") [] m0 [(Str.ofString "one", Value.int a ta), (Str.ofString "other", Value.int b tb)] m ∧ nx = [] ∧ 0 ≤ a ∧ 0 ≤ b ∧ Int.gcd a b = Int.gcd one other) F5' N ?_ ?_)
  · subst hm0
    refine' ⟨one, other, _, _, rfl, ⟨fun p hp => ?j1, fun _ _ _ _ => rfl⟩, rfl, h0, h1, rfl⟩
    (case j1 =>
      rcases List.mem_cons.mp hp with rfl | hp
      · rfl
      · rw [List.mem_singleton.mp hp]; rfl)
  · subst hm0
    clear F5' F N
    rintro n m₁ nx h tk F6 N6 ⟨a, b, ta, tb, rfl, jm, rfl, ha, hb, hg⟩
    have F7 := jm.frOut F6
    clear F6
    (try k_unmd)
    k_fold
    k_steps
    · (rename Fr _ _ _ _ => F8)
      (rename 0 < b => hb0)
      have m0 := Int.emod_nonneg a (Int.ne_of_gt hb0)
      have m1 := Int.emod_lt_of_pos a hb0
      refine' WhileStep.intro (n' := (a % b).toNat) F8 (news₂ := []) (by intro _ h; nomatch h) (by omega) ⟨b, a % b, _, _, rfl, ⟨fun p hp => ?j1, ?j2⟩, rfl, hb, m0, (gcd_turn ha hb).trans hg⟩
      (case j1 =>
        rcases List.mem_cons.mp hp with rfl | hp
        · rfl
        · rw [List.mem_singleton.mp hp]; rfl)
      (case j2 =>
        intro z z1 z2 z3
        have a1 : z ≠ Str.ofString "one" := z2 _ (.head _)
        have a2 : z ≠ Str.ofString "other" := z2 _ (.tail _ (.head _))
        simp only [kstB, if_neg a1, if_neg a2, if_neg z1, List.contains_nil, Bool.false_eq_true, if_false])
    · (rename ¬ 0 < b => hb0)
      have e : b = 0 := by omega
      subst e
      have e2 : Int.gcd a 0 = a.toNat := by rw [Int.gcd_zero_right]; omega
      rw [e2] at hg
      (try dsimp only)
      (try k_unfold)
      (try dsimp only)
      (try k_unfold)
      refine ⟨_, _, _, rfl, F7, ?_⟩
      rw [← hg]
      have e3 : decide (1 < a.toNat) = decide (1 < a) := by rw [decide_eq_decide]; omega
      show Value.bool (decide (1 < a)) = Value.bool (decide (1 < a.toNat))
      rw [e3]
local macro_rules | `(tactic| walk_at "compareOp Eq ref ref") => `(tactic| (k_here; refine Stop.mk ?_))
local macro_rules | `(tactic| walk_at "compareOp NotEq ref ref") => `(tactic| (k_here; refine Stop.mk ?_))
local macro_rules | `(tactic| walk_at "GrownAll") => `(tactic| (refine Stop.mk ?_))
local macro_rules | `(tactic| walk_at "compareOp In int ref") => `(tactic| (k_here; k_dflt (refine in_tuple_ints (News.isTup (by k_asm) (.head _)) (by repeat constructor) ?_)))
local macro_rules | `(tactic| walk_at "call builtin:sum") => `(tactic| (k_here; (with_reducible show wpAny _ _ (call (Value.builtin "sum") [Value.ref _]) _ _ _); k_dflt (refine' sumrange_M ?k0 ?k1 ?k2 ?k3 ?k4 ?k5 ?_; (case k0 => rfl); (case k1 => k_asm); (case k2 => k_asm); (case k3 => assumption); (case k4 => assumption); (case k5 => assumption); k_whole); intro h' tk' t' F' N'))
local macro_rules | `(tactic| walk_at "call builtin:sum") => `(tactic| (k_here; (with_reducible show wpAny _ _ (call (Value.builtin "sum") [Value.ref _]) _ _ _); k_dflt (refine' sumK ?k0 ?k1 ?k2 ?k3 ?k4 ?_; (case k0 => rfl); (case k1 => k_asm); (case k2 => k_asm); (case k3 => refine News.isList (by k_asm) (by k_mem)); (case k4 => with_reducible assumption); k_whole); intro h' tk' t' F' N'))
local macro_rules | `(tactic| walk_at "subscriptTail") => `(tactic| (k_here; (with_reducible show wpAny _ _ (subscriptTail _ _ (Value.ref _) (Value.int _ _)) _ _ _); k_dflt (refine' item_M ?k1 ?k2 ?k3 ?k4 ?k5 ?k6 rfl ?_ ?q1 ?q2; (case k1 => k_asm); (case k2 => k_mem); (case k3 => with_reducible assumption); (case k4 => omega); (case k5 => (try simp only [List.length_cons, List.length_nil]); omega); (case k6 => (try simp only [List.length_cons, List.length_nil]); omega); (case q1 => with_unfolding_all rfl); (case q2 => intro _; with_unfolding_all rfl); k_whole); intro _))
local macro_rules | `(tactic| walk_at "subscriptTail Name Constant ref int") => `(tactic| (k_here; (with_reducible show wpAny _ _ (subscriptTail _ _ (Value.ref _) (Value.int _ _)) _ _ _); k_dflt (refine' item_M ?k1 ?k2 ?k3 ?k4 ?k5 ?k6 rfl ?_ ?q1 ?q2; (case k1 => k_asm); (case k2 => k_mem); (case k3 => with_reducible assumption); (case k4 => omega); (case k5 => (try simp only [List.length_cons, List.length_nil]); omega); (case k6 => (try simp only [List.length_cons, List.length_nil]); omega); (case q1 => with_unfolding_all rfl); (case q2 => intro _; with_unfolding_all rfl); k_whole); intro _))
local macro_rules | `(tactic| walk_at "subscriptTail Name Name ref int") => `(tactic| (k_here; (with_reducible show wpAny _ _ (subscriptTail _ _ (Value.ref _) (Value.int _ _)) _ _ _); k_dflt (refine' item_M ?k1 ?k2 ?k3 ?k4 ?k5 ?k6 rfl ?_ ?q1 ?q2; (case k1 => k_asm); (case k2 => k_mem); (case k3 => with_reducible assumption); (case k4 => omega); (case k5 => (try simp only [List.length_cons, List.length_nil]); omega); (case k6 => (try simp only [List.length_cons, List.length_nil]); omega); (case q1 => with_unfolding_all rfl); (case q2 => intro _; with_unfolding_all rfl); k_whole); intro _))
local macro_rules | `(tactic| walk_at "subscriptTail") => `(tactic| (k_here; (with_reducible show wpAny _ _ (subscriptTail _ _ (Value.ref _) (Value.int _ _)) _ _ _); k_dflt (refine' itemneg_M ?k1 ?k2 ?k3 ?k4 ?k5 ?k6 ?_ ?q1 ?q2; (case k1 => k_asm); (case k2 => k_mem); (case k3 => with_reducible assumption); (case k4 => omega); (case k5 => omega); (case k6 => omega); (case q1 => with_unfolding_all rfl); (case q2 => intro _; with_unfolding_all rfl); k_whole); intro _))
local macro_rules | `(tactic| walk_at "subscriptTail Name UnaryOp ref int") => `(tactic| (k_here; (with_reducible show wpAny _ _ (subscriptTail _ _ (Value.ref _) (Value.int _ _)) _ _ _); k_dflt (refine' itemneg_M ?k1 ?k2 ?k3 ?k4 ?k5 ?k6 ?_ ?q1 ?q2; (case k1 => k_asm); (case k2 => k_mem); (case k3 => with_reducible assumption); (case k4 => omega); (case k5 => omega); (case k6 => omega); (case q1 => with_unfolding_all rfl); (case q2 => intro _; with_unfolding_all rfl); k_whole); intro _))
local macro_rules | `(tactic| walk_at "subscriptTail Name Constant ref int") => `(tactic| (k_here; (with_reducible show wpAny _ _ (subscriptTail _ _ (Value.ref _) (Value.int _ _)) _ _ _); k_dflt (refine' itemneg_M ?k1 ?k2 ?k3 ?k4 ?k5 ?k6 ?_ ?q1 ?q2; (case k1 => k_asm); (case k2 => k_mem); (case k3 => with_reducible assumption); (case k4 => omega); (case k5 => omega); (case k6 => omega); (case q1 => with_unfolding_all rfl); (case q2 => intro _; with_unfolding_all rfl); k_whole); intro _))
local macro_rules | `(tactic| walk_at "exec If") => `(tactic| (k_here; (with_reducible rename MarkIf => mkIf); clear mkIf; refine Stop.mk ?_))
local macro_rules | `(tactic| walk_at "exec If BoolOp") => `(tactic| (k_here; (with_reducible rename MarkIf => mkIf); clear mkIf; refine Stop.mk ?_))
local macro_rules | `(tactic| walk_at "exec For") => `(tactic| (k_here; (with_reducible rename MarkFor => mkFor); clear mkFor; refine Stop.mk ?_))
local macro_rules | `(tactic| walk_at "pyIter ref") => `(tactic| ((with_reducible show wpAny _ _ (pyIter (Value.ref _)) (fun it s₂ => LoopAtT _ _ _ _ _ _ _ _ _ it s₂) _ _); refine Stop.mk ?_))
local macro_rules | `(tactic| walk_at "exec For Name Name") => `(tactic| (k_here; (with_reducible rename MarkFor => mkFor); clear mkFor; refine Stop.mk ?_))
local macro_rules | `(tactic| walk_at "exec For Name Name cons nil") => `(tactic| (k_here; (with_reducible rename MarkFor => mkFor); clear mkFor; refine Stop.mk ?_))
local macro_rules | `(tactic| walk_at "binaryOp Pow int int") => `(tactic| (k_here; (with_reducible refine' pow_M ?k1 ?k2 ?_); (case k1 => with_reducible assumption); (case k2 => omega)))
local macro_rules | `(tactic| walk_at "binaryOp Pow int int") => `(tactic| (k_here; (with_reducible refine' pow_int_small ?k1 ?k2 ?k3 ?_); (case k1 => decide); (case k2 => decide); (case k3 => omega)))
local macro_rules | `(tactic| walk_at "eval ListComp") => `(tactic| (k_here; (with_reducible rename MarkStep => mkStep); clear mkStep; k_dflt (refine comp_step (by k_asm) (by with_unfolding_all rfl) (by decide) (by rfl) (by decide) (by rfl) ?_ (by intro _; rfl))))
theorem ints_name {vs : List Value} {ns : List Int} (_ : IntsAre vs ns) : ∃ vs' ns', vs' = vs ∧ ns' = ns := ⟨_, _, rfl, rfl⟩
set_option maxHeartbeats 8000000 in
theorem X : PySem.Challenge.rw_ib0004_02.Holds := hd (by
  k_go0
  all_goals (try k_fold)
  k_steps
  rename_i hDf h1 tk1 oB oA dB0 dA0 Y0 X' T' K' C41 l0 hZ tkZ tZ made1 hA lA1 lA2 tup1 hB lB1 lB2 hC hD' hE lst1 hF F N l1 l2
  have dA : oA.data = .cell none := dA0
  have dB : oB.data = .cell none := dB0
  clear Y0 dA0 dB0
  (rename IntsAre _ _ => hI)
  obtain ⟨svs, script, e1, e2⟩ := ints_name hI
  subst e1
  subst e2
  obtain ⟨number, hnum⟩ : ∃ z, z = 1 + script.sum % 200 := ⟨_, rfl⟩
  rw [← hnum] at F N
  generalize hmB : bindL _ _ _ = mB at F
  clear hmB
  clear hI lB1 lB2
  (rename Heap.CodeRec _ _ _ => z2)
  (rename Ground _ _ _ _ _ _ _ _ _ => z3)
  (rename Flt.MathXP _ _ _ => z4)
  (rename LooseAre _ _ _ => z5)
  (rename Tables _ _ _ _ => z6)
  (rename TopE _ _ _ _ => z7)
  (rename TopW _ _ _ => z8)
  (rename TabsAt _ _ => z9)
  (rename ReadsAllW _ _ _ _ _ _ => z10)
  (rename Well _ _ _ _ => z11)
  (rename Reads _ _ _ _ => z12)
  (rename ReadsAll _ _ _ _ => z13)
  clear hDf z2 z3 z4 z5 z6 z7 z8 z9 z10 z11 z12 z13
  (rename Shared => s1)
  generalize hLL : s1.heap.objs.size = L at *
  have hN0 : 1 ≤ number := by have := Int.emod_nonneg script.sum (show (200 : Int) ≠ 0 by decide); omega
  have hN1 : number ≤ 200 := by have := Int.emod_lt_of_pos script.sum (show (0 : Int) < 200 by decide); omega
  (rename CodeHd _ 34 30 => C1)
  (rename CodeHd _ 41 37 => C2)
  obtain ⟨fvs, hfv⟩ : ∃ z, z = [Value.int 5 tk, .int 4 (tk + 1), .int 3 (tk + 1 + 1), .int 2 (tk + 1 + 1 + 1)] := ⟨_, rfl⟩
  have hfi : ∀ {i : Nat} {v : Value}, fvs[i]? = some v → ∃ (k : Nat) (t : Tok), v = .int (k : Int) t ∧ i + k = 5 ∧ 2 ≤ k := fun h => five_item (hfv ▸ h)
  have hfl : fvs.length = 4 := by rw [hfv]; rfl
  have T0 : ∃ TL, TabsL TL ∧ News (ghostOf s1.heap [(41, 37), (34, 30)]) L hF ((lst1, listOf fvs.toArray 0) :: (made1, listOf ([] : List Value).toArray 0) :: (L + 1 + 1, oB) :: (L + 1, oA) :: TL) ∧ Sep [lst1, made1, L + 1 + 1, L + 1] TL := by
    refine ⟨tabs1 30 32 4 .cold ++ tabs1 37 47 4 .cold, ⟨.cold, .cold, rfl, trivial, trivial⟩, fun p hp => ?_, ?_⟩
    · rcases List.mem_cons.mp hp with rfl | hp
      · rw [hfv]; exact N _ (.head _)
      · rcases List.mem_cons.mp hp with rfl | hp
        · exact N _ (.tail _ (.tail _ (.head _)))
        · rcases List.mem_cons.mp hp with rfl | hp
          · exact N _ (.tail _ (.tail _ (.tail _ (.head _))))
          · rcases List.mem_cons.mp hp with rfl | hp
            · exact N _ (.tail _ (.tail _ (.tail _ (.tail _ (.head _)))))
            · rcases List.mem_cons.mp hp with rfl | hp
              · exact N _ (.tail _ (.tail _ (.tail _ (.tail _ (.tail _ (.tail _ (.head _)))))))
              · rw [List.mem_singleton.mp hp]
                exact N _ (.tail _ (.tail _ (.tail _ (.tail _ (.tail _ (.head _))))))
    · have h2 : ∀ {a : Addr}, 37 < a → 30 < a → ∀ p ∈ tabs1 30 32 4 .cold ++ tabs1 37 47 4 .cold, p.1 ≠ a := fun h37 h30 p hp => by
        rcases List.mem_cons.mp hp with rfl | hp
        · exact Nat.ne_of_lt h30
        · rw [List.mem_singleton.mp hp]; exact Nat.ne_of_lt h37
      exact .cons (h2 l1.2.2.2.2.1 l1.2.2.2.2.2) (.cons (h2 lA1.2.2.1 lA1.2.2.2) (.cons (h2 (Nat.lt_succ_of_lt (Nat.lt_succ_of_lt l0.1)) (Nat.lt_succ_of_lt (Nat.lt_succ_of_lt l0.2))) (.cons (h2 (Nat.lt_succ_of_lt l0.1) (Nat.lt_succ_of_lt l0.2)) .nil)))
  obtain ⟨TL, hT, N0, sp⟩ := T0
  clear hfv
  have lM := l1.2.1
  clear N
  obtain ⟨m0, hm0, F0⟩ := fr_name F
  refine Stop.out (list_M (fun i m nx => ∃ TL vs oC c, nx = (lst1, listOf fvs.toArray 0) :: (made1, listOf vs.toArray (mades i).length) :: (L + 1 + 1, oB) :: (L + 1, oC) :: TL ∧ IntsAre vs (mades i) ∧ oC.data = .cell c ∧ TabsL TL ∧ Sep [lst1, made1, L + 1 + 1, L + 1] TL ∧ JM (Str.ofString "many") [Str.ofString "prime"] m0 [] m) rfl (.head _) ?_ F0 N0 ?_ ?_ ?_)
  · rintro i m nx ⟨TL, vs, oC, c, rfl, _⟩
    exact .head _
  · subst hm0
    exact ⟨TL, [], oA, none, rfl, .nil, dA, hT, sp, (fun _ h => nomatch h), fun _ _ _ _ => rfl⟩
  · subst hm0
    clear F0 N0 F hT sp dA
    rintro i v I m₁ nx h tk9 o hv ⟨TL, vs, oC, cv, rfl, hI, dC, hT, sp, jm⟩ hnI hlI F6 N6
    obtain ⟨k, tv, rfl, hik, hk2⟩ := hfi hv
    have F7 := jm.fr F6
    clear F6
    have sI : ∀ p ∈ TL, p.1 ≠ I := fun p hp => hnI p (.tail _ (.tail _ (.tail _ (.tail _ hp))))
    have lI1 := ltN (a := lst1) (b := I) (hlI _ (.head _))
    have lI2 := ltN (a := made1) (b := I) (hlI _ (.tail _ (.head _)))
    have lI3 := ltN (a := L + 1 + 1) (b := I) (hlI _ (.tail _ (.tail _ (.head _))))
    have lI4 := ltN (a := L + 1) (b := I) (hlI _ (.tail _ (.tail _ (.tail _ (.head _)))))
    have sp1 := sp.head
    have sp2 := sp.tail.head
    have sp3 := sp.tail.tail.head
    have sp4 := sp.tail.tail.tail.head
    have hk5 : k ≤ 5 := by omega
    (try k_unmd)
    k_fold
    k_steps
    (rename Fr _ _ _ _ => F8)
    (rename News _ _ _ _ => N8)
    (rename IntsAre _ (List.replicate _ _) => hrep)
    rw [Int.toNat_natCast] at hrep
    obtain ⟨oe, o3, o31⟩ := ones_facts k hk5 hk2
    refine Stop.out (Ctr.use (e_digits2int _ _ _ (List.replicate k 1) 0 1 _ hrep (by rw [List.length_replicate]; omega) (by decide) (by decide) (by rw [List.length_replicate]; omega) (fun d hd => by rw [List.eq_of_mem_replicate hd]; decide) TL hT) (by assumption) F8 (by assumption) (fun p hp => N8 p (.tail _ (.tail _ (.tail _ (.tail _ (.tail _ (.tail _ (.tail _ hp)))))))) (by assumption) rfl ⟨C1, C2⟩ (N8 _ (.head _)).1 (by decide) (by decide) ?_)
    rintro v h9 tk10 G9 ⟨⟨tq, rfl⟩, TL2, x2⟩ F9
    obtain ⟨N9, sp9, hT9⟩ := re_s [(I, o), (lst1, _), (made1, _), (L + 1 + 1, oB), (L + 1, oC)] F8 (fun p hp => N8 p (.tail _ (.tail _ hp))) G9 x2 (.cons sI sp) rfl
    have sI2 := sp9.head
    have sq1 := sp9.tail.head
    have sq2 := sp9.tail.tail.head
    have sq3 := sp9.tail.tail.tail.head
    have sq4 := sp9.tail.tail.tail.tail.head
    have e1 : undg (2 ^ (1 : Int).toNat) (List.replicate k 1) = onesOf k := rfl
    rw [e1]
    obtain ⟨on, hon⟩ : ∃ z, z = onesOf k := ⟨_, rfl⟩
    rw [← hon] at oe o3 o31 ⊢
    clear F8 N8 G9 x2 sI sp1 sp2 sp3 sp4 sp hT hrep
    (try simp only [List.cons_append, List.nil_append] at N9)
    (try dsimp only)
    k_steps
    (rename Obj => oC2)
    (rename oC2.data = _ => dC2)
    (rename IsRange _ _ _ _ _ _ _ _ => hr)
    (rename Fr _ _ _ _ => F10)
    (rename News _ _ _ _ => N10)
    have hn : Builtin.Range.rangeSize 2 on 1 = (((on - 2).toNat : Nat) : Int) := rangeSize_nat _ _
    refine Stop.out (LCt.CompSrcT.range rfl F10 N10 hr (small_one (by omega) (by omega) (by omega) (by omega)) hn (by rw [sizeLine_eq]; omega) fun g2 => ?_)
    refine rest_T (fun j ys nw => nw = (I, o) :: (lst1, listOf fvs.toArray 0) :: (made1, listOf vs.toArray (mades i).length) :: (L + 1 + 1, oB) :: (L + 1, oC2) :: TL2 ∧ IntsAre ys ((rangeKs 2 j).filter fun d => on % d == 0)) ?_ ?_ ?_
    · rintro ys nw ⟨rfl, hIy⟩ D h10 tk11 F11 N11 o11
      have dI := off1_mem o11
      have dl1 : lst1 ≠ D := dI _ (.tail _ (.head _))
      have dl2 : made1 ≠ D := dI _ (.tail _ (.tail _ (.head _)))
      have dl3 : L + 1 + 1 ≠ D := dI _ (.tail _ (.tail _ (.tail _ (.head _))))
      have dl4 : L + 1 ≠ D := dI _ (.tail _ (.tail _ (.tail _ (.tail _ (.head _)))))
      have dl0 : I ≠ D := dI _ (.head _)
      clear F10 N10 hr
      (try dsimp only)
      k_steps
      (rename Fr _ _ _ _ => F12)
      (rename News _ _ _ _ => N12)
      refine Stop.out (eq_intsK (News.isList N12 (.tail _ (.head _))) hIy (News.isList N12 (.head _)) .nil (by units_room) ?_)
      have ep : decide ((rangeKs 2 (on - 2).toNat).filter (fun d => on % d == 0) = []) = primeB on := rfl
      rw [ep]
      clear ep hIy dI o11 hn
      have hk4 : k = 5 ∧ i = 0 ∨ k = 4 ∧ i = 1 ∨ k = 3 ∧ i = 2 ∨ k = 2 ∧ i = 3 := by omega
      obtain ⟨p5, p4, p3, p2⟩ := prime_facts
      rcases hk4 with ⟨rfl, rfl⟩ | ⟨rfl, rfl⟩ | ⟨rfl, rfl⟩ | ⟨rfl, rfl⟩
      · rw [show ((5 : Nat) : Int) = 5 from rfl] at F12
        rw [← hon] at p5
        rw [p5]
        obtain rfl : on = 31 := oe
        clear p5 p4 p3 p2 hon o31 o3 hik hv
        k_steps
        (rename Fr _ _ _ _ => F13)
        (rename News _ _ _ _ => N13)
        refine Stop.out (Ctr.use (c_insort _ made1 vs (mades 0) (mades 0).length _ _ hI (by have := mades_length 0; omega) (mades_srt 0)) (by assumption) F13 (by assumption) (fun p hp => by rw [List.mem_singleton.mp hp]; exact N13 _ (.tail _ (.tail _ (.tail _ (.tail _ (.tail _ (.head _))))))) (by assumption) rfl ⟨C1, C2⟩ trivial (by decide) (by decide) ?_)
        rintro v h14 tk14 G14 ⟨rfl, r, vs', hb, hoo, hoi⟩ F14
        rw [ins_insf _ _ _ hb, insf_496] at hoi
        have N14 := re_o (ps := [(I, o), (lst1, listOf fvs.toArray 0)]) (fun p hp => N13 p (.tail _ (.tail _ (.tail _ hp)))) G14 rfl hoo (fun p hp => by
          rcases List.mem_cons.mp hp with rfl | hp
          · exact Nat.ne_of_gt lI2
          · rw [List.mem_singleton.mp hp]; exact Nat.ne_of_gt lM) (fun p hp => by
          rcases List.mem_cons.mp hp with rfl | hp
          · exact Nat.ne_of_lt lA1.1
          · rcases List.mem_cons.mp hp with rfl | hp
            · exact Nat.ne_of_lt lA1.2.1
            · exact sq2 p hp)
        clear F13 N13 G14 hoo hb
        (try simp only [List.cons_append, List.nil_append] at N14)
        (try dsimp only)
        k_steps
        (rename Fr _ _ _ _ => F15)
        refine' ⟨_, _, _, _, rfl, F15, N14, ?sep, TL2, _, oC2, _, rfl, hoi, dC2, hT9, sp9.tail, ⟨fun _ h => (nomatch h), ?j2⟩⟩
        (case sep =>
          exact fun p hp => (List.mem_cons.mp hp).elim (fun e => by rw [e]; exact Nat.ne_of_lt lI1) fun hp => (List.mem_cons.mp hp).elim (fun e => by rw [e]; exact Nat.ne_of_lt lI2) fun hp => (List.mem_cons.mp hp).elim (fun e => by rw [e]; exact Nat.ne_of_lt lI3) fun hp => (List.mem_cons.mp hp).elim (fun e => by rw [e]; exact Nat.ne_of_lt lI4) (sI2 p))
        (case j2 =>
          intro z z1 z2 z3
          have a1 : z ≠ Str.ofString "prime" := fun e => by rw [e] at z3; exact absurd z3 (by decide)
          simp only [kstB, if_neg a1, if_neg z1, z3, Bool.false_eq_true, if_false])
      · rw [show ((4 : Nat) : Int) = 4 from rfl] at F12
        rw [← hon] at p4
        rw [p4]
        obtain rfl : on = 15 := oe
        clear p5 p4 p3 p2 hon o31 o3 hik hv
        k_steps
        (rename Fr _ _ _ _ => F15)
        (rename News _ _ _ _ => N15)
        refine' ⟨_, _, _, _, rfl, F15, (fun p hp => N15 p (.tail _ (.tail _ (.tail _ hp)))), ?sep, TL2, _, oC2, _, rfl, hI, dC2, hT9, sp9.tail, ⟨fun _ h => (nomatch h), ?j2⟩⟩
        (case sep =>
          exact fun p hp => (List.mem_cons.mp hp).elim (fun e => by rw [e]; exact Nat.ne_of_lt lI1) fun hp => (List.mem_cons.mp hp).elim (fun e => by rw [e]; exact Nat.ne_of_lt lI2) fun hp => (List.mem_cons.mp hp).elim (fun e => by rw [e]; exact Nat.ne_of_lt lI3) fun hp => (List.mem_cons.mp hp).elim (fun e => by rw [e]; exact Nat.ne_of_lt lI4) (sI2 p))
        (case j2 =>
          intro z z1 z2 z3
          have a1 : z ≠ Str.ofString "prime" := fun e => by rw [e] at z3; exact absurd z3 (by decide)
          simp only [kstB, if_neg a1, if_neg z1, z3, Bool.false_eq_true, if_false])
      · rw [show ((3 : Nat) : Int) = 3 from rfl] at F12
        rw [← hon] at p3
        rw [p3]
        obtain rfl : on = 7 := oe
        clear p5 p4 p3 p2 hon o31 o3 hik hv
        k_steps
        (rename Fr _ _ _ _ => F13)
        (rename News _ _ _ _ => N13)
        refine Stop.out (Ctr.use (c_insort _ made1 vs (mades 2) (mades 2).length _ _ hI (by have := mades_length 2; omega) (mades_srt 2)) (by assumption) F13 (by assumption) (fun p hp => by rw [List.mem_singleton.mp hp]; exact N13 _ (.tail _ (.tail _ (.tail _ (.tail _ (.tail _ (.head _))))))) (by assumption) rfl ⟨C1, C2⟩ trivial (by decide) (by decide) ?_)
        rintro v h14 tk14 G14 ⟨rfl, r, vs', hb, hoo, hoi⟩ F14
        rw [ins_insf _ _ _ hb, insf_28] at hoi
        have N14 := re_o (ps := [(I, o), (lst1, listOf fvs.toArray 0)]) (fun p hp => N13 p (.tail _ (.tail _ (.tail _ hp)))) G14 rfl hoo (fun p hp => by
          rcases List.mem_cons.mp hp with rfl | hp
          · exact Nat.ne_of_gt lI2
          · rw [List.mem_singleton.mp hp]; exact Nat.ne_of_gt lM) (fun p hp => by
          rcases List.mem_cons.mp hp with rfl | hp
          · exact Nat.ne_of_lt lA1.1
          · rcases List.mem_cons.mp hp with rfl | hp
            · exact Nat.ne_of_lt lA1.2.1
            · exact sq2 p hp)
        clear F13 N13 G14 hoo hb
        (try simp only [List.cons_append, List.nil_append] at N14)
        (try dsimp only)
        k_steps
        (rename Fr _ _ _ _ => F15)
        refine' ⟨_, _, _, _, rfl, F15, N14, ?sep, TL2, _, oC2, _, rfl, hoi, dC2, hT9, sp9.tail, ⟨fun _ h => (nomatch h), ?j2⟩⟩
        (case sep =>
          exact fun p hp => (List.mem_cons.mp hp).elim (fun e => by rw [e]; exact Nat.ne_of_lt lI1) fun hp => (List.mem_cons.mp hp).elim (fun e => by rw [e]; exact Nat.ne_of_lt lI2) fun hp => (List.mem_cons.mp hp).elim (fun e => by rw [e]; exact Nat.ne_of_lt lI3) fun hp => (List.mem_cons.mp hp).elim (fun e => by rw [e]; exact Nat.ne_of_lt lI4) (sI2 p))
        (case j2 =>
          intro z z1 z2 z3
          have a1 : z ≠ Str.ofString "prime" := fun e => by rw [e] at z3; exact absurd z3 (by decide)
          simp only [kstB, if_neg a1, if_neg z1, z3, Bool.false_eq_true, if_false])
      · rw [show ((2 : Nat) : Int) = 2 from rfl] at F12
        rw [← hon] at p2
        rw [p2]
        obtain rfl : on = 3 := oe
        clear p5 p4 p3 p2 hon o31 o3 hik hv
        k_steps
        (rename Fr _ _ _ _ => F13)
        (rename News _ _ _ _ => N13)
        refine Stop.out (Ctr.use (c_insort _ made1 vs (mades 3) (mades 3).length _ _ hI (by have := mades_length 3; omega) (mades_srt 3)) (by assumption) F13 (by assumption) (fun p hp => by rw [List.mem_singleton.mp hp]; exact N13 _ (.tail _ (.tail _ (.tail _ (.tail _ (.tail _ (.head _))))))) (by assumption) rfl ⟨C1, C2⟩ trivial (by decide) (by decide) ?_)
        rintro v h14 tk14 G14 ⟨rfl, r, vs', hb, hoo, hoi⟩ F14
        rw [ins_insf _ _ _ hb, insf_6] at hoi
        have N14 := re_o (ps := [(I, o), (lst1, listOf fvs.toArray 0)]) (fun p hp => N13 p (.tail _ (.tail _ (.tail _ hp)))) G14 rfl hoo (fun p hp => by
          rcases List.mem_cons.mp hp with rfl | hp
          · exact Nat.ne_of_gt lI2
          · rw [List.mem_singleton.mp hp]; exact Nat.ne_of_gt lM) (fun p hp => by
          rcases List.mem_cons.mp hp with rfl | hp
          · exact Nat.ne_of_lt lA1.1
          · rcases List.mem_cons.mp hp with rfl | hp
            · exact Nat.ne_of_lt lA1.2.1
            · exact sq2 p hp)
        clear F13 N13 G14 hoo hb
        (try simp only [List.cons_append, List.nil_append] at N14)
        (try dsimp only)
        k_steps
        (rename Fr _ _ _ _ => F15)
        refine' ⟨_, _, _, _, rfl, F15, N14, ?sep, TL2, _, oC2, _, rfl, hoi, dC2, hT9, sp9.tail, ⟨fun _ h => (nomatch h), ?j2⟩⟩
        (case sep =>
          exact fun p hp => (List.mem_cons.mp hp).elim (fun e => by rw [e]; exact Nat.ne_of_lt lI1) fun hp => (List.mem_cons.mp hp).elim (fun e => by rw [e]; exact Nat.ne_of_lt lI2) fun hp => (List.mem_cons.mp hp).elim (fun e => by rw [e]; exact Nat.ne_of_lt lI3) fun hp => (List.mem_cons.mp hp).elim (fun e => by rw [e]; exact Nat.ne_of_lt lI4) (sI2 p))
        (case j2 =>
          intro z z1 z2 z3
          have a1 : z ≠ Str.ofString "prime" := fun e => by rw [e] at z3; exact absurd z3 (by decide)
          simp only [kstB, if_neg a1, if_neg z1, z3, Bool.false_eq_true, if_false])
    · exact ⟨rfl, .nil⟩
    · rintro j ys nw v I2 oI2 C3 oC3 D m₂ h10 tk11 E' hj ⟨rfl, hIy⟩ ⟨tv2, rfl⟩ hC3 hx F11 N11 off ne
      have hm1 := Int.emod_nonneg on (show (2 + (j : Int)) ≠ 0 by omega)
      k_steps
      all_goals (
        refine LCg.CompEnd.intro F11 N11 _ (fun p hp => hp) off trivial ⟨rfl, ?_⟩
        rw [filt_succ]
        first
          | (rw [if_pos (by simpa using (by assumption : on % (2 + (j : Int)) = 0))]; exact IntsAre.append hIy (.cons _ _ .nil))
          | (rw [if_neg (by simpa using (by assumption : ¬ on % (2 + (j : Int)) = 0)), List.append_nil]; exact hIy))
  · subst hm0
    clear F0 N0 F hT sp dA
    rintro m₁ nx h tk9 ⟨TL, vs, oC, cv, rfl, hI, dC, hT, sp, jm⟩ F6 N6
    rw [hfl] at hI
    have hI' : IntsAre vs [6, 28, 496] := hI
    obtain ⟨mC, F7⟩ := fr2 (Str.ofString "made") (Str.ofString "number") (jm.frOut F6) rfl rfl
    clear F6 hI
    obtain ⟨mk, hmk⟩ : ∃ z, z = (mades fvs.length).length := ⟨_, rfl⟩
    rw [← hmk] at N6
    clear hmk hfi hfl
    (try dsimp only)
    k_steps
    (rename Fr _ _ _ _ => F8)
    (rename News _ _ _ _ => N8)
    refine Stop.out (ne_intsK (News.isList N8 (.tail _ (.tail _ (.head _)))) hI' (News.isList N8 (.head _)) (by repeat constructor) (by units_room) ?_)
    (try dsimp only)
    k_steps
    have N9 : News _ _ _ ((made1, listOf vs.toArray mk) :: (L + 1 + 1, oB) :: (L + 1, oC) :: TL) := fun p hp => N8 p (.tail _ (.tail _ hp))
    have sp' := sp.tail
    refine Stop.out (Ctr.use (c_into _ number _ (by omega) (by omega) TL hT) (by assumption) F8 (by assumption) (fun p hp => N9 p (.tail _ (.tail _ (.tail _ hp)))) (by assumption) rfl ⟨C1, C2⟩ trivial (by decide) (by decide) ?_)
    rintro v h10 tk10 G10 ⟨⟨into1, ivs, rfl, hDi, hIi, hDf⟩, TL2, y2⟩ F10
    obtain ⟨N10, sp2, hT2⟩ := re_s [(made1, _), (L + 1 + 1, oB), (L + 1, oC)] F8 N9 G10 y2.1 sp' rfl
    have nf := ne_free N9 hDf
    have N11 := news_free F8 hDi hDf N10
    have sin : ∀ p ∈ TL2, p.1 ≠ into1 := tl_ne_list hT2 hDi fun p hp => (news_right N10 p hp).1
    have ni1 : made1 ≠ into1 := nf _ (.head _)
    have ni2 : L + 1 + 1 ≠ into1 := nf _ (.tail _ (.head _))
    have ni3 : L + 1 ≠ into1 := nf _ (.tail _ (.tail _ (.head _)))
    obtain ⟨dv, hdv⟩ : ∃ z, z = divsL number := ⟨_, rfl⟩
    obtain ⟨nb, hnb⟩ : ∃ nb : Nat, number = (nb : Int) + 1 := ⟨(number - 1).toNat, by omega⟩
    obtain ⟨f1, f2, f3, f4, f5, f6⟩ := into_facts nb (by omega)
    rw [← hnb, ← hdv] at f1 f2 f3 f4 f5 f6
    rw [← hdv] at hIi
    (try simp only [List.cons_append, List.nil_append] at N11)
    clear F8 N8 N9 N10 G10 y2 sp sp' nf hDi hDf hT
    (try dsimp only)
    k_steps
    (rename Fr _ _ _ _ => F12)
    (rename News _ _ _ _ => N12)
    refine Stop.out (eq_intsK (News.isList N12 (.tail _ (.head _))) hIi (News.isList N12 (.head _)) .nil (by units_room) ?_)
    rw [f1]
    (try dsimp only)
    k_steps
    (rename Fr _ _ _ _ => F13)
    (rename News _ _ _ _ => N13)
    have N14 : News _ _ _ ((into1, listOf ivs.toArray ivs.length) :: (made1, listOf vs.toArray mk) :: (L + 1 + 1, oB) :: (L + 1, oC) :: TL2) := fun p hp => N13 p (.tail _ hp)
    refine Stop.out (Ctr.use (c_bisect2 _ made1 vs [6, 28, 496] mk number _ hI' (by decide) (mades_srt 4)) (by assumption) F13 (by assumption) (fun _ h => nomatch h) (by assumption) rfl ⟨C1, C2⟩ (N14.get (.tail _ (.head _))) (by decide) (by decide) ?_)
    rintro v h15 tk15 G15 ⟨r, tr, rfl, hbs⟩ F15
    have N15 := re_0 N14 G15
    clear F13 N13 N14 G15 f1 f2 f3
    have markIf : MarkIf := trivial
    (try dsimp only)
    k_steps
    (rename Fr _ _ _ _ => F16)
    (rename News _ _ _ _ => N16)
    obtain ⟨m2, hm2, F16'⟩ := fr_name F16
    refine Stop.out (if_join (g := ghostOf s1.heap [(41, 37), (34, 30)]) (L := L) (m := m2) (news := (into1, listOf ivs.toArray ivs.length) :: (made1, listOf vs.toArray mk) :: (L + 1 + 1, oB) :: (L + 1, oC) :: TL2) ?_ ?_)
    · clear F16'
      by_cases he : number % 2 = 0
      · have f5' := f5 he
        have f7 : (dv.sum == 2 * number) = (number == 6 || number == 28 || number == 496) := by rw [← f5']; rfl
        rcases bis_cases hbs with ⟨rfl, hr1⟩ | ⟨rfl, hr0, hr1⟩ | ⟨rfl, hr0, hr1⟩ | ⟨rfl, hr1⟩
        · have g5 : ((dv.sum == 2 * number) != (([6, 28, 496] : List Int).getD (Int.toNat 0) 0 == number)) = false := by
            rw [f7]
            show ((number == 6 || number == 28 || number == 496) != ((6 : Int) == number)) = false
            by_cases h6 : number = 6
            · rw [h6]; rfl
            · rw [show (number == 6) = false by simpa using h6, show (number == 28) = false by simp; omega, show (number == 496) = false by simp; omega, show ((6 : Int) == number) = false by simp; omega]; rfl
          clear f7 f5'
          subst hm2
          k_steps
          all_goals exact ⟨rfl, _, _, rfl, by assumption, by assumption⟩
        · have g5 : ((dv.sum == 2 * number) != (([6, 28, 496] : List Int).getD (Int.toNat 1) 0 == number)) = false := by
            rw [f7]
            show ((number == 6 || number == 28 || number == 496) != ((28 : Int) == number)) = false
            by_cases h6 : number = 28
            · rw [h6]; rfl
            · rw [show (number == 28) = false by simpa using h6, show (number == 6) = false by simp; omega, show (number == 496) = false by simp; omega, show ((28 : Int) == number) = false by simp; omega]; rfl
          clear f7 f5'
          subst hm2
          k_steps
          all_goals exact ⟨rfl, _, _, rfl, by assumption, by assumption⟩
        · have g5 : ((dv.sum == 2 * number) != (([6, 28, 496] : List Int).getD (Int.toNat 2) 0 == number)) = false := by
            rw [f7]
            show ((number == 6 || number == 28 || number == 496) != ((496 : Int) == number)) = false
            rw [show (number == 28) = false by simp; omega, show (number == 6) = false by simp; omega, show (number == 496) = false by simp; omega, show ((496 : Int) == number) = false by simp; omega]; rfl
          clear f7 f5'
          subst hm2
          k_steps
          all_goals exact ⟨rfl, _, _, rfl, by assumption, by assumption⟩
        · omega
      · have g6 : (number % 2 == 0) = false := by simpa using he
        subst hm2
        k_steps
        all_goals first | exact ⟨rfl, _, _, rfl, by assumption, by assumption⟩ | exact absurd (by assumption) he
    · subst hm2
      clear F16'
      intro h17 tk17 F17 N17
      clear F16 N16 hbs f5
      (try dsimp only)
      k_steps
      (rename Fr _ _ _ _ => F18)
      (rename News _ _ _ _ => N18)
      rename_i lst2 h18 lL2 lL3
      obtain ⟨gvs, hgv⟩ : ∃ z, z = [Value.int 2 tk17, .int 3 (tk17 + 1), .int 5 (tk17 + 1 + 1)] := ⟨_, rfl⟩
      have hgi : ∀ {i : Nat} {v : Value}, gvs[i]? = some v → ∃ (o : Int) (t : Tok), v = .int o t ∧ (o = 2 ∨ o = 3 ∨ o = 5) := fun h => three_item (hgv ▸ h)
      have N19 : News (ghostOf s1.heap [(41, 37), (34, 30)]) L h18 ((lst2, listOf gvs.toArray 0) :: (into1, listOf ivs.toArray ivs.length) :: (made1, listOf vs.toArray mk) :: (L + 1 + 1, oB) :: (L + 1, oC) :: TL2) := by rw [hgv]; exact N18
      have sp3 : Sep [lst2, into1, made1, L + 1 + 1, L + 1] TL2 := .cons (fun p hp => Nat.ne_of_lt (ktn_ltOf lL2.2.2.2.2 p hp)) (.cons sin sp2)
      clear hgv N18 sp2 sin
      obtain ⟨m3, hm3, F19⟩ := fr_name F18
      refine Stop.out (list_M (fun i m nx => ∃ TL, nx = (lst2, listOf gvs.toArray 0) :: (into1, listOf ivs.toArray ivs.length) :: (made1, listOf vs.toArray mk) :: (L + 1 + 1, oB) :: (L + 1, oC) :: TL ∧ TabsL TL ∧ Sep [lst2, into1, made1, L + 1 + 1, L + 1] TL ∧ JM (Str.ofString "other") [] m3 [] m) rfl (.head _) ?_ F19 N19 ?_ ?_ ?_)
      · rintro i m nx ⟨TL, rfl, _⟩
        exact .head _
      · exact ⟨TL2, rfl, hT2, sp3, (fun _ h => nomatch h), fun _ _ _ _ => rfl⟩
      · subst hm3
        clear F19 N19 F18 hT2 sp3
        rintro i v I m₃ nx h tk20 o hv ⟨TL, rfl, hT, sp, jm⟩ hnI hlI F6 N6
        obtain ⟨ot, tv, rfl, ho⟩ := hgi hv
        have F7 := jm.fr F6
        clear F6
        have sI : ∀ p ∈ TL, p.1 ≠ I := fun p hp => hnI p (.tail _ (.tail _ (.tail _ (.tail _ (.tail _ hp)))))
        have lI1 := ltN (a := lst2) (b := I) (hlI _ (.head _))
        have lI2 := ltN (a := into1) (b := I) (hlI _ (.tail _ (.head _)))
        have lI3 := ltN (a := made1) (b := I) (hlI _ (.tail _ (.tail _ (.head _))))
        have lI4 := ltN (a := L + 1 + 1) (b := I) (hlI _ (.tail _ (.tail _ (.tail _ (.head _)))))
        have lI5 := ltN (a := L + 1) (b := I) (hlI _ (.tail _ (.tail _ (.tail _ (.tail _ (.head _))))))
        have sep : ∀ {TL : List (Addr × Obj)}, Sep [I, lst2, into1, made1, L + 1 + 1, L + 1] TL → ∀ p ∈ (lst2, listOf gvs.toArray 0) :: (into1, listOf ivs.toArray ivs.length) :: (made1, listOf vs.toArray mk) :: (L + 1 + 1, oB) :: (L + 1, oC) :: TL, p.1 ≠ I := fun s p hp =>
          (List.mem_cons.mp hp).elim (fun e => by rw [e]; exact Nat.ne_of_lt lI1) fun hp => (List.mem_cons.mp hp).elim (fun e => by rw [e]; exact Nat.ne_of_lt lI2) fun hp => (List.mem_cons.mp hp).elim (fun e => by rw [e]; exact Nat.ne_of_lt lI3) fun hp => (List.mem_cons.mp hp).elim (fun e => by rw [e]; exact Nat.ne_of_lt lI4) fun hp => (List.mem_cons.mp hp).elim (fun e => by rw [e]; exact Nat.ne_of_lt lI5) (s.head p)
        have o0 : 2 ≤ ot ∧ ot ≤ 5 := by omega
        (try k_unmd)
        k_fold
        k_steps
        (rename Fr _ _ _ _ => F8)
        (rename News _ _ _ _ => N8)
        refine Stop.out (Ctr.use (c_shares _ number ot _ _ (by omega) (by omega)) (by assumption) F8 (by assumption) (fun _ h => nomatch h) (by assumption) rfl ⟨C1, C2⟩ trivial (by decide) (by decide) ?_)
        rintro v h9 tk9 G9 hv9 F9
        subst hv9
        have N9 := re_0 N8 G9
        clear F8 N8 G9
        have spI : Sep [I, lst2, into1, made1, L + 1 + 1, L + 1] TL := .cons sI sp
        (try dsimp only)
        k_steps
        · refine' ⟨_, _, _, _, rfl, F9, N9, sep spI, TL, rfl, hT, spI.tail, ⟨fun _ h => (nomatch h), ?j2⟩⟩
          (case j2 =>
            intro z z1 z2 z3
            simp only [kstB, if_neg z1, z3, Bool.false_eq_true, if_false])
        · (rename ¬ 1 < Int.gcd _ _ => hgc)
          (rename number < 40 => h40)
          have g8 := shares_facts hN0 h40 ho hgc
          rw [← hdv] at g8
          have p0 : 0 ≤ number * ot := Int.mul_nonneg (by omega) (by omega)
          have p1 : number * ot ≤ 39 * 5 := Int.mul_le_mul (by omega) (by omega) (by omega) (by omega)
          have q0 : 0 ≤ dv.sum * (ot + 1) := Int.mul_nonneg (by omega) (by omega)
          have q1 : dv.sum * (ot + 1) ≤ 1000 * 6 := Int.mul_le_mul (by omega) (by omega) (by omega) (by omega)
          refine Stop.out (Ctr.use (c_into _ (number * ot) _ p0 (by omega) TL hT) (by assumption) F9 (by assumption) (fun p hp => N9 p (.tail _ (.tail _ (.tail _ (.tail _ (.tail _ (.tail _ hp))))))) (by assumption) rfl ⟨C1, C2⟩ trivial (by decide) (by decide) ?_)
          rintro v h10 tk10 G10 ⟨⟨into2, jvs, rfl, hDi, hIj, hDf⟩, TL3, y2⟩ F10
          obtain ⟨N10, sp4, hT4⟩ := re_s [(I, o), (lst2, listOf gvs.toArray 0), (into1, listOf ivs.toArray ivs.length), (made1, listOf vs.toArray mk), (L + 1 + 1, oB), (L + 1, oC)] F9 N9 G10 y2.1 spI rfl
          have N11 := news_free F9 hDi hDf N10
          (try simp only [List.cons_append, List.nil_append] at N11)
          clear F9 N9 N10 G10 y2 hDi hDf hT spI sp sI
          (try dsimp only)
          k_steps
          (rename Fr _ _ _ _ => F12)
          (rename News _ _ _ _ => N12)
          refine' ⟨_, _, _, _, rfl, F12, (fun p hp => N12 p (.tail _ hp)), sep sp4, TL3, rfl, hT4, sp4.tail, ⟨fun _ h => (nomatch h), ?j2⟩⟩
          (case j2 =>
            intro z z1 z2 z3
            simp only [kstB, if_neg z1, z3, Bool.false_eq_true, if_false])
        · refine' ⟨_, _, _, _, rfl, F9, N9, sep spI, TL, rfl, hT, spI.tail, ⟨fun _ h => (nomatch h), ?j2⟩⟩
          (case j2 =>
            intro z z1 z2 z3
            simp only [kstB, if_neg z1, z3, Bool.false_eq_true, if_false])
      · subst hm3
        clear F19 N19 F18 hT2 sp3
        rintro m₃ nx h tk20 ⟨TL, rfl, hT, sp, jm⟩ F6 N6
        obtain ⟨mC, F7⟩ := fr3 (Str.ofString "into") (Str.ofString "made") (Str.ofString "number") (jm.frOut F6) rfl rfl rfl
        have N7 : News _ _ _ ((made1, listOf vs.toArray mk) :: (into1, listOf ivs.toArray ivs.length) :: (L + 1 + 1, oB) :: (L + 1, oC) :: TL) := fun p hp => by
          rcases List.mem_cons.mp hp with rfl | hp
          · exact N6 _ (.tail _ (.tail _ (.head _)))
          · rcases List.mem_cons.mp hp with rfl | hp
            · exact N6 _ (.tail _ (.head _))
            · exact N6 _ (.tail _ (.tail _ (.tail _ hp)))
        have sp7 : Sep [made1, into1, L + 1 + 1, L + 1] TL := .cons sp.tail.tail.head (.cons sp.tail.head sp.tail.tail.tail)
        clear F6 N6 jm sp hgi lL2 lL3 hnb
        have markFor : MarkFor := trivial
        (try dsimp only)
        k_steps
        (rename Fr _ _ _ _ => F8)
        refine Stop.out (For_invTF F8 ?_ (by intro _; rfl))
        k_steps
        (rename Fr _ _ _ _ => F9)
        (rename News _ _ _ _ => N9)
        obtain ⟨m4, hm4, F10⟩ := fr_name F9
        refine Stop.out (listT_M (fun i m nx => ∃ TL oD c, nx = (made1, listOf vs.toArray mk) :: (into1, listOf ivs.toArray ivs.length) :: (L + 1 + 1, oD) :: (L + 1, oC) :: TL ∧ oD.data = .cell c ∧ TabsL TL ∧ Sep [made1, into1, L + 1 + 1, L + 1] TL ∧ JM (Str.ofString "~") [Str.ofString "figures", Str.ofString "many", Str.ofString "told"] m4 [] m) rfl (.head _) ?_ F10 N9 ?_ ?_ ?_)
        · rintro i m nx ⟨TL, oD, c, rfl, _⟩
          exact .head _
        · exact ⟨TL, oB, none, rfl, dB, hT, sp7, (fun _ h => nomatch h), fun _ _ _ _ => rfl⟩
        · subst hm4
          clear F10 N9 F9 hT sp7
          rintro i v I m₅ nx s₁ o hv ⟨TL, oD, cD, rfl, dD, hT, sp, jm⟩ hnI hlI F6 N6
          obtain ⟨d, td, rfl, hd⟩ := ints_get hI' hv
          have F7 := jm.frOut F6
          clear F6
          have sI : ∀ p ∈ TL, p.1 ≠ I := fun p hp => hnI p (.tail _ (.tail _ (.tail _ (.tail _ hp))))
          have lI1 := ltN (a := made1) (b := I) (hlI _ (.head _))
          have lI2 := ltN (a := into1) (b := I) (hlI _ (.tail _ (.head _)))
          have lI3 := ltN (a := L + 1 + 1) (b := I) (hlI _ (.tail _ (.tail _ (.head _))))
          have lI4 := ltN (a := L + 1) (b := I) (hlI _ (.tail _ (.tail _ (.tail _ (.head _)))))
          have sp1 := sp.head
          have sp2 := sp.tail.head
          have sp3 := sp.tail.tail.head
          have sp4 := sp.tail.tail.tail.head
          obtain ⟨d6, d496, mn, mn2, mn5, q1, q2, q3, q4, q5, q6⟩ := perf_facts hd
          obtain ⟨ds, hds⟩ : ∃ z, z = dg (2 ^ (1 : Int).toNat) (ndig d 1) d := ⟨_, rfl⟩
          rw [← hds] at q1 q2
          have dl : ds.length ≤ 20 := by rw [q1]; simp; omega
          obtain ⟨fs, hfs⟩ : ∃ z, z = ds.filter fun x => x == 1 := ⟨_, rfl⟩
          rw [← hfs] at q2
          subst q2
          clear hd hv hnI hlI
          k_steps
          (rename Fr _ _ _ _ => F8)
          (rename News _ _ _ _ => N8)
          (rename Obj => oE)
          (rename oE.data = _ => dE)
          refine Stop.out (Ctr.use (e_int2digits _ d 1 _ _ (by omega) (by omega) (by decide) (by decide) TL hT) (by assumption) F8 (by assumption) (fun p hp => N8 p (.tail _ (.tail _ (.tail _ (.tail _ (.tail _ hp)))))) (by assumption) rfl ⟨C1, C2⟩ trivial (by decide) (by decide) ?_)
          rintro v h10 tk10 G10 ⟨⟨fig1, dvs, rfl, hDi, hIi2, hDs⟩, TL2, x2⟩ F10
          obtain ⟨N10, sp8, hT2⟩ := re_s [(I, o), (made1, listOf vs.toArray mk), (into1, listOf ivs.toArray ivs.length), (L + 1 + 1, oE), (L + 1, oC)] F8 N8 G10 x2 (.cons sI sp) rfl
          have N11 := news_new F8 hDi hDs N10
          have lF := lt_new N8 hDs
          have lf0 := ltN (a := I) (b := fig1) (lF _ (.head _))
          have lf1 := ltN (a := made1) (b := fig1) (lF _ (.tail _ (.head _)))
          have lf2 := ltN (a := into1) (b := fig1) (lF _ (.tail _ (.tail _ (.head _))))
          have lf3 := ltN (a := L + 1 + 1) (b := fig1) (lF _ (.tail _ (.tail _ (.tail _ (.head _)))))
          have lf4 := ltN (a := L + 1) (b := fig1) (lF _ (.tail _ (.tail _ (.tail _ (.tail _ (.head _))))))
          have sf : ∀ p ∈ TL2, p.1 ≠ fig1 := tl_ne_list hT2 hDi x2.2.1
          rw [← hds] at hIi2
          have dl2 : dvs.length = ds.length := hIi2.length
          (try simp only [List.cons_append, List.nil_append] at N11)
          clear F8 N8 N10 G10 x2 hDi hDs hT lF sp1 sp2 sp3 sp4 sp sI
          have sp1 := sp8.tail.head
          have sp2 := sp8.tail.tail.head
          have sp3 := sp8.tail.tail.tail.head
          have sp4 := sp8.tail.tail.tail.tail.head
          have sI := sp8.head
          (try dsimp only)
          k_steps
          (rename Fr _ _ _ _ => F12)
          (rename News _ _ _ _ => N12)
          refine Stop.out (LCt.CompSrcT.ledger (its := dvs.toArray) rfl F12 N12 (.head _) (by rw [sizeLine_eq]; simp; omega) fun g2 => ?_)
          refine rest_T (fun j ys nw => nw = (fig1, listOf dvs.toArray 0) :: (I, o) :: (made1, listOf vs.toArray mk) :: (into1, listOf ivs.toArray ivs.length) :: (L + 1 + 1, oE) :: (L + 1, oC) :: TL2 ∧ IntsAre ys ((ds.take j).filter fun x => x == 1)) ?_ ?_ ?_
          rotate_left
          · exact ⟨rfl, .nil⟩
          · rintro j ys nw v I2 oI2 C3 oC3 D m₂ h12 tk12 E' hj ⟨rfl, hIy⟩ hv hC3 hx F13 N13 off ne
            obtain ⟨x, tx, rfl, hxd⟩ := ints_get (i := j) hIi2 (by simpa using hv)
            have ht : (ds.take (j + 1)).filter (fun x => x == 1) = (ds.take j).filter (fun x => x == 1) ++ (if x == 1 then [x] else []) := by
              rw [List.take_add_one, hxd, List.filter_append]
              congr 1
              simp only [Option.toList_some, List.filter_cons, List.filter_nil]
            k_steps
            all_goals (
              refine LCg.CompEnd.intro F13 N13 _ (fun p hp => hp) off (.inr ⟨_, .head _, rfl, _, rfl⟩) ⟨rfl, ?_⟩
              rw [ht]
              first
                | (rw [if_pos (by simpa using (by assumption : x = 1))]; exact IntsAre.append hIy (.cons _ _ .nil))
                | (rw [if_neg (by simpa using (by assumption : ¬ x = 1)), List.append_nil]; exact hIy))
          · rintro ys nw ⟨rfl, hIy⟩ D h12 tk12 F13 N13 o11
            rw [List.take_of_length_le (by simp; omega), ← hfs] at hIy
            have dI := off1_mem o11
            have dl0 : fig1 ≠ D := dI _ (.head _)
            have dl1 : I ≠ D := dI _ (.tail _ (.head _))
            have dl2 : made1 ≠ D := dI _ (.tail _ (.tail _ (.head _)))
            have dl3 : into1 ≠ D := dI _ (.tail _ (.tail _ (.tail _ (.head _))))
            have dl4 : L + 1 + 1 ≠ D := dI _ (.tail _ (.tail _ (.tail _ (.tail _ (.head _)))))
            have dl5 : L + 1 ≠ D := dI _ (.tail _ (.tail _ (.tail _ (.tail _ (.tail _ (.head _))))))
            clear F12 N12 dI o11
            (try dsimp only)
            k_steps
            · (rename Fr _ _ _ _ => F14)
              (rename News _ _ _ _ => N14)
              refine Stop.out (Ctr.use (c_into _ d _ (by omega) (by omega) TL2 hT2) (by assumption) F14 (by assumption) (fun p hp => N14 p (.tail _ (.tail _ (.tail _ (.tail _ (.tail _ (.tail _ (.tail _ hp)))))))) (by assumption) rfl ⟨C1, C2⟩ trivial (by decide) (by decide) ?_)
              rintro v h15 tk15 G15 ⟨⟨told1, tvs, rfl, hDt, hIt, hDf⟩, TL3, y3⟩ F15
              obtain ⟨N15, sp9, hT3⟩ := re_s [(fig1, listOf dvs.toArray 0), (I, o), (made1, listOf vs.toArray mk), (into1, listOf ivs.toArray ivs.length), (L + 1 + 1, oE), (L + 1, oC)] F14 (fun p hp => N14 p (.tail _ hp)) G15 y3.1 (.cons sf sp8) rfl
              have nf := ne_free (fun p hp => N14 p (.tail _ hp)) hDf
              have N16 := news_free F14 hDt hDf N15
              have st : ∀ p ∈ TL3, p.1 ≠ told1 := tl_ne_list hT3 hDt fun p hp => (news_right N15 p hp).1
              have nt0 : fig1 ≠ told1 := nf _ (.head _)
              have nt1 : I ≠ told1 := nf _ (.tail _ (.head _))
              have nt2 : made1 ≠ told1 := nf _ (.tail _ (.tail _ (.head _)))
              have nt3 : into1 ≠ told1 := nf _ (.tail _ (.tail _ (.tail _ (.head _))))
              have nt4 : L + 1 + 1 ≠ told1 := nf _ (.tail _ (.tail _ (.tail _ (.tail _ (.head _)))))
              have nt5 : L + 1 ≠ told1 := nf _ (.tail _ (.tail _ (.tail _ (.tail _ (.tail _ (.head _))))))
              (try simp only [List.cons_append, List.nil_append] at N16)
              clear F14 N14 N15 G15 y3 hDt hDf nf hT2 sp8 sf sp1 sp2 sp3 sp4 sI
              have sp8 := sp9.tail
              have sf := sp9.head
              have sp1 := sp8.tail.head
              have sp2 := sp8.tail.tail.head
              have sp3 := sp8.tail.tail.tail.head
              have sp4 := sp8.tail.tail.tail.tail.head
              have sI := sp8.head
              obtain ⟨pw, hpw⟩ : ∃ z : Int, z = 2 ^ fs.length := ⟨_, rfl⟩
              have hpn : ((2 ^ fs.length : Nat) : Int) = pw := by rw [hpw]; push_cast; rfl
              have hpw2 : 4 ≤ pw ∧ pw ≤ 32 := by
                have h1 : (2 : Nat) ^ 2 ≤ 2 ^ fs.length := Nat.pow_le_pow_right (by decide) mn2
                have h2 : (2 : Nat) ^ fs.length ≤ 2 ^ 5 := Nat.pow_le_pow_right (by decide) mn5
                omega
              have hrs : Builtin.Range.rangeSize 0 pw 1 = ((2 ^ fs.length : Nat) : Int) := by rw [rangeSize_nat, hpn]; omega
              have hsm : Builtin.Range.small 0 pw 1 = true := small_one (by omega) (by omega) (by omega) (by omega)
              have g11 : ((rangeKs 0 (2 ^ fs.length)).sum != d) = false := by rw [q5]; simp
              have g9 : ((divsL d).sum != 2 * d) = false := by rw [q3]; simp
              have g10 : (((divsL d).map fun p => d / p).sum != 2 * d) = false := by rw [q4]; simp
              (try dsimp only)
              k_steps
              (rename Fr _ _ _ _ => F17)
              (rename News _ _ _ _ => N17)
              (rename IntsAre _ (_ ++ _) => hRep)
              rw [show ((fs.length : Int) - 1).toNat = fs.length - 1 by omega, Int.toNat_natCast, ← q1] at hRep
              refine Stop.out (ne_intsK (News.isList N17 (.tail _ (.tail _ (.tail _ (.tail _ (.tail _ (.tail _ (.head _)))))))) hIi2 (News.isList N17 (.head _)) hRep (by units_room) ?_)
              rw [decide_eq_true (rfl : ds = ds)]
              have N18 : News _ _ _ ((told1, listOf tvs.toArray tvs.length) :: (fig1, listOf dvs.toArray 0) :: (I, o) :: (made1, listOf vs.toArray mk) :: (into1, listOf ivs.toArray ivs.length) :: (L + 1 + 1, oE) :: (L + 1, oC) :: TL3) := fun p hp => N17 p (.tail _ (.tail _ (.tail _ (.tail _ (.tail _ hp)))))
              clear N17 hRep
              (try dsimp only)
              k_steps
              (rename Fr _ _ _ _ => F19)
              (rename News _ _ _ _ => N19)
              have tl : tvs.length = (divsL d).length := hIt.length
              have dl9 : (divsL d).length ≤ 496 := by
                unfold divsL
                refine Nat.le_trans (List.length_filter_le _ _) ?_
                rw [rangeKs_length]; omega
              refine Stop.out (LCg.CompSrc.ledger (its := tvs.toArray) rfl F19 N19 (.head _) (by rw [sizeLine_eq]; simp; omega) fun g2 => ?_)
              refine rest_U (fun j ys nw => nw = (told1, listOf tvs.toArray tvs.length) :: (fig1, listOf dvs.toArray 0) :: (I, o) :: (made1, listOf vs.toArray mk) :: (into1, listOf ivs.toArray ivs.length) :: (L + 1 + 1, oE) :: (L + 1, oC) :: TL3 ∧ IntsAre ys (((divsL d).take j).map fun p => d / p)) ?_ ?_ ?_
              rotate_left
              · exact ⟨rfl, .nil⟩
              · rintro j ys nw v I2 oI2 C3 oC3 D2 m₂ h20 tk20 E' hj ⟨rfl, hIy2⟩ hv hC3 hx F21 N21 off ne
                obtain ⟨x, tx, rfl, hxd⟩ := ints_get (i := j) hIt (by simpa using hv)
                obtain ⟨x1, x496⟩ := q6 x (List.mem_of_getElem? hxd)
                k_steps
                refine LCg.CompEnd.intro F21 N21 _ (fun p hp => hp) off (.inr ⟨_, .head _, rfl, _, rfl⟩) ⟨rfl, ?_⟩
                rw [List.take_add_one, hxd, List.map_append]
                exact IntsAre.append hIy2 (.cons _ _ .nil)
              · rintro ys nw ⟨rfl, hIy2⟩ D2 h20 tk20 F21 N21 o21
                rw [List.take_of_length_le (by simp; omega)] at hIy2
                clear F19 N19 o21
                (try dsimp only)
                k_steps
                (rename Fr _ _ _ _ => F22)
                (rename News _ _ _ _ => N22)
                refine' ⟨rfl, _, _, _, (made1, listOf vs.toArray mk) :: (into1, listOf ivs.toArray ivs.length) :: (L + 1 + 1, oE) :: (L + 1, oC) :: TL3, rfl, F22, (fun p hp => N22 p (.tail _ (.tail _ (.tail _ hp)))), ?sep, TL3, oE, _, rfl, dE, hT3, sp8.tail, ⟨fun _ h => (nomatch h), ?j2⟩⟩
                (case sep =>
                  exact fun p hp => (List.mem_cons.mp hp).elim (fun e => by rw [e]; exact Nat.ne_of_lt lI1) fun hp => (List.mem_cons.mp hp).elim (fun e => by rw [e]; exact Nat.ne_of_lt lI2) fun hp => (List.mem_cons.mp hp).elim (fun e => by rw [e]; exact Nat.ne_of_lt lI3) fun hp => (List.mem_cons.mp hp).elim (fun e => by rw [e]; exact Nat.ne_of_lt lI4) (sI p))
                (case j2 =>
                  intro z z1 z2 z3
                  have a1 : z ≠ Str.ofString "told" := fun e => by rw [e] at z3; exact absurd z3 (by decide)
                  have a2 : z ≠ Str.ofString "many" := fun e => by rw [e] at z3; exact absurd z3 (by decide)
                  have a3 : z ≠ Str.ofString "figures" := fun e => by rw [e] at z3; exact absurd z3 (by decide)
                  simp only [kstB, if_neg a1, if_neg a2, if_neg a3, if_neg z1, z3, Bool.false_eq_true, if_false])
            · (rename IsRange _ _ _ _ _ _ _ _ => hr)
              (rename Fr _ _ _ _ => F14)
              (rename News _ _ _ _ => N14)
              have hn : Builtin.Range.rangeSize 1 (d + 1) 1 = ((d.toNat : Nat) : Int) := by rw [rangeSize_nat]; congr 1; omega
              refine Stop.out (LCt.CompSrcT.range rfl F14 (fun p hp => N14 p (.tail _ hp)) hr (small_one (by omega) (by omega) (by omega) (by omega)) hn (by rw [sizeLine_eq]; omega) fun g2 => ?_)
              refine rest_T (fun j ys nw => nw = (fig1, listOf dvs.toArray 0) :: (I, o) :: (made1, listOf vs.toArray mk) :: (into1, listOf ivs.toArray ivs.length) :: (L + 1 + 1, oE) :: (L + 1, oC) :: TL2 ∧ IntsAre ys ((rangeKs 1 j).filter fun p => d % p == 0)) ?_ ?_ ?_
              rotate_left
              · exact ⟨rfl, .nil⟩
              · rintro j ys nw v I2 oI2 C3 oC3 D2 m₂ h12 tk12 E' hj ⟨rfl, hIy2⟩ ⟨tv2, rfl⟩ hC3 hx F15 N15 off ne
                have hm1 := Int.emod_nonneg d (show (1 + (j : Int)) ≠ 0 by omega)
                k_steps
                all_goals (
                  refine LCg.CompEnd.intro F15 N15 _ (fun p hp => hp) off trivial ⟨rfl, ?_⟩
                  rw [filt_succ]
                  first
                    | (rw [if_pos (by simpa using (by assumption : d % (1 + (j : Int)) = 0))]; exact IntsAre.append hIy2 (.cons _ _ .nil))
                    | (rw [if_neg (by simpa using (by assumption : ¬ d % (1 + (j : Int)) = 0)), List.append_nil]; exact hIy2))
              · rintro tvs nw ⟨rfl, hIt⟩ told1 h15 tk15 F15 N16 o16
                have hIt : IntsAre tvs (divsL d) := hIt
                have nf := off1_mem o16
                have nt0 : fig1 ≠ told1 := nf _ (.head _)
                have nt1 : I ≠ told1 := nf _ (.tail _ (.head _))
                have nt2 : made1 ≠ told1 := nf _ (.tail _ (.tail _ (.head _)))
                have nt3 : into1 ≠ told1 := nf _ (.tail _ (.tail _ (.tail _ (.head _))))
                have nt4 : L + 1 + 1 ≠ told1 := nf _ (.tail _ (.tail _ (.tail _ (.tail _ (.head _)))))
                have nt5 : L + 1 ≠ told1 := nf _ (.tail _ (.tail _ (.tail _ (.tail _ (.tail _ (.head _))))))
                have st : ∀ p ∈ TL2, p.1 ≠ told1 := fun p hp => nf p (.tail _ (.tail _ (.tail _ (.tail _ (.tail _ (.tail _ hp))))))
                clear F14 N14 nf o16
                obtain ⟨pw, hpw⟩ : ∃ z : Int, z = 2 ^ fs.length := ⟨_, rfl⟩
                have hpn : ((2 ^ fs.length : Nat) : Int) = pw := by rw [hpw]; push_cast; rfl
                have hpw2 : 4 ≤ pw ∧ pw ≤ 32 := by
                  have h1 : (2 : Nat) ^ 2 ≤ 2 ^ fs.length := Nat.pow_le_pow_right (by decide) mn2
                  have h2 : (2 : Nat) ^ fs.length ≤ 2 ^ 5 := Nat.pow_le_pow_right (by decide) mn5
                  omega
                have hrs : Builtin.Range.rangeSize 0 pw 1 = ((2 ^ fs.length : Nat) : Int) := by rw [rangeSize_nat, hpn]; omega
                have hsm : Builtin.Range.small 0 pw 1 = true := small_one (by omega) (by omega) (by omega) (by omega)
                have g11 : ((rangeKs 0 (2 ^ fs.length)).sum != d) = false := by rw [q5]; simp
                have g9 : ((divsL d).sum != 2 * d) = false := by rw [q3]; simp
                have g10 : (((divsL d).map fun p => d / p).sum != 2 * d) = false := by rw [q4]; simp
                (try dsimp only)
                k_steps
                (rename Fr _ _ _ _ => F17)
                (rename News _ _ _ _ => N17)
                (rename IntsAre _ (_ ++ _) => hRep)
                rw [show ((fs.length : Int) - 1).toNat = fs.length - 1 by omega, Int.toNat_natCast, ← q1] at hRep
                refine Stop.out (ne_intsK (News.isList N17 (.tail _ (.tail _ (.tail _ (.tail _ (.tail _ (.tail _ (.head _)))))))) hIi2 (News.isList N17 (.head _)) hRep (by units_room) ?_)
                rw [decide_eq_true (rfl : ds = ds)]
                have N18 : News _ _ _ ((told1, listOf tvs.toArray tvs.length) :: (fig1, listOf dvs.toArray 0) :: (I, o) :: (made1, listOf vs.toArray mk) :: (into1, listOf ivs.toArray ivs.length) :: (L + 1 + 1, oE) :: (L + 1, oC) :: TL2) := fun p hp => N17 p (.tail _ (.tail _ (.tail _ (.tail _ (.tail _ hp)))))
                clear N17 hRep
                (try dsimp only)
                k_steps
                (rename Fr _ _ _ _ => F19)
                (rename News _ _ _ _ => N19)
                have tl : tvs.length = (divsL d).length := hIt.length
                have dl9 : (divsL d).length ≤ 496 := by
                  unfold divsL
                  refine Nat.le_trans (List.length_filter_le _ _) ?_
                  rw [rangeKs_length]; omega
                refine Stop.out (LCg.CompSrc.ledger (its := tvs.toArray) rfl F19 N19 (.head _) (by rw [sizeLine_eq]; simp; omega) fun g2 => ?_)
                refine rest_U (fun j ys nw => nw = (told1, listOf tvs.toArray tvs.length) :: (fig1, listOf dvs.toArray 0) :: (I, o) :: (made1, listOf vs.toArray mk) :: (into1, listOf ivs.toArray ivs.length) :: (L + 1 + 1, oE) :: (L + 1, oC) :: TL2 ∧ IntsAre ys (((divsL d).take j).map fun p => d / p)) ?_ ?_ ?_
                rotate_left
                · exact ⟨rfl, .nil⟩
                · rintro j ys nw v I2 oI2 C3 oC3 D2 m₂ h20 tk20 E' hj ⟨rfl, hIy2⟩ hv hC3 hx F21 N21 off ne
                  obtain ⟨x, tx, rfl, hxd⟩ := ints_get (i := j) hIt (by simpa using hv)
                  obtain ⟨x1, x496⟩ := q6 x (List.mem_of_getElem? hxd)
                  k_steps
                  refine LCg.CompEnd.intro F21 N21 _ (fun p hp => hp) off (.inr ⟨_, .head _, rfl, _, rfl⟩) ⟨rfl, ?_⟩
                  rw [List.take_add_one, hxd, List.map_append]
                  exact IntsAre.append hIy2 (.cons _ _ .nil)
                · rintro ys nw ⟨rfl, hIy2⟩ D2 h20 tk20 F21 N21 o21
                  rw [List.take_of_length_le (by simp; omega)] at hIy2
                  clear F19 N19 o21
                  (try dsimp only)
                  k_steps
                  (rename Fr _ _ _ _ => F22)
                  (rename News _ _ _ _ => N22)
                  refine' ⟨rfl, _, _, _, (made1, listOf vs.toArray mk) :: (into1, listOf ivs.toArray ivs.length) :: (L + 1 + 1, oE) :: (L + 1, oC) :: TL2, rfl, F22, (fun p hp => N22 p (.tail _ (.tail _ (.tail _ hp)))), ?sep, TL2, oE, _, rfl, dE, hT2, sp8.tail, ⟨fun _ h => (nomatch h), ?j2⟩⟩
                  (case sep =>
                    exact fun p hp => (List.mem_cons.mp hp).elim (fun e => by rw [e]; exact Nat.ne_of_lt lI1) fun hp => (List.mem_cons.mp hp).elim (fun e => by rw [e]; exact Nat.ne_of_lt lI2) fun hp => (List.mem_cons.mp hp).elim (fun e => by rw [e]; exact Nat.ne_of_lt lI3) fun hp => (List.mem_cons.mp hp).elim (fun e => by rw [e]; exact Nat.ne_of_lt lI4) (sI p))
                  (case j2 =>
                    intro z z1 z2 z3
                    have a1 : z ≠ Str.ofString "told" := fun e => by rw [e] at z3; exact absurd z3 (by decide)
                    have a2 : z ≠ Str.ofString "many" := fun e => by rw [e] at z3; exact absurd z3 (by decide)
                    have a3 : z ≠ Str.ofString "figures" := fun e => by rw [e] at z3; exact absurd z3 (by decide)
                    simp only [kstB, if_neg a1, if_neg a2, if_neg a3, if_neg z1, z3, Bool.false_eq_true, if_false])
        · subst hm4
          clear F10 N9 F9 hT sp7
          rintro m₅ nx h tk20 ⟨TL, oD, cD, rfl, dD, hT, sp, jm⟩ F6 N6
          obtain ⟨mD, F7⟩ := fr2 (Str.ofString "into") (Str.ofString "number") (jm.frOut F6) rfl rfl
          clear F6 jm sp
          have c2 : ((cubs 2).sum != 28) = false := by decide +kernel
          have c4 : ((cubs 4).sum != 496) = false := by decide +kernel
          have markStep : MarkStep := trivial
          (try dsimp only)
          k_steps
          (rename IsRange _ _ _ _ _ _ _ _ => hr)
          (rename Fr _ _ _ _ => F8)
          (rename News _ _ _ _ => N8)
          refine ⟨_, 1, 4, 2, _, _, _, 2, _, rfl, rfl, F8, N8, hr, by decide, by decide, by rw [sizeLine_eq]; omega, ?_⟩
          rintro s₂ ⟨g2, rfl⟩
          refine rest_U (fun j ys nw => nw = (made1, listOf vs.toArray mk) :: (into1, listOf ivs.toArray ivs.length) :: (L + 1 + 1, oD) :: (L + 1, oC) :: TL ∧ IntsAre ys (cubs j)) ?_ ?_ ?_
          rotate_left
          · exact ⟨rfl, .nil⟩
          · rintro j ys nw v I2 oI2 C3 oC3 D2 m₂ h20 tk20 E' hj ⟨rfl, hIy2⟩ ⟨tv2, rfl⟩ hC3 hx F9 N9 off ne
            k_steps
            refine LCg.CompEnd.intro F9 N9 _ (fun p hp => hp) off trivial ⟨rfl, ?_⟩
            rw [cubs_succ]
            exact IntsAre.append hIy2 (.cons _ _ .nil)
          · rintro ys nw ⟨rfl, hIy2⟩ D2 h20 tk20 F9 N9 o21
            clear F8 N8 o21 hr
            have markStep : MarkStep := trivial
            (try dsimp only)
            k_steps
            (rename IsRange _ _ _ _ _ _ _ _ => hr)
            (rename Fr _ _ _ _ => F10)
            (rename News _ _ _ _ => N10)
            refine ⟨_, 1, 8, 2, _, _, _, 4, _, rfl, rfl, F10, (fun p hp => N10 p (.tail _ hp)), hr, by decide, by decide, by rw [sizeLine_eq]; omega, ?_⟩
            rintro s₂ ⟨g3, rfl⟩
            refine rest_U (fun j ys nw => nw = (made1, listOf vs.toArray mk) :: (into1, listOf ivs.toArray ivs.length) :: (L + 1 + 1, oD) :: (L + 1, oC) :: TL ∧ IntsAre ys (cubs j)) ?_ ?_ ?_
            rotate_left
            · exact ⟨rfl, .nil⟩
            · rintro j ys nw v I2 oI2 C3 oC3 D2 m₂ h20 tk20 E' hj ⟨rfl, hIy2⟩ ⟨tv2, rfl⟩ hC3 hx F9 N9 off ne
              k_steps
              refine LCg.CompEnd.intro F9 N9 _ (fun p hp => hp) off trivial ⟨rfl, ?_⟩
              rw [cubs_succ]
              exact IntsAre.append hIy2 (.cons _ _ .nil)
            · rintro ys2 nw ⟨rfl, hIy3⟩ D3 h22 tk22 F11 N11 o22
              clear F10 N10 o22 hr F9 N9
              (try dsimp only)
              rcases f6 with f6 | f6
              · k_steps
                all_goals (
                  (rename News _ _ _ _ => N12)
                  obtain ⟨ga, gb⟩ := tabs_grown hT (fun p hp => (N12 p (.tail _ (.tail _ (.tail _ (.tail _ (.tail _ hp)))))).1)
                  exact Stop.out ⟨gb, ga, trivial⟩)
              · k_steps
                all_goals (
                  (rename News _ _ _ _ => N12)
                  obtain ⟨ga, gb⟩ := tabs_grown hT (fun p hp => (N12 p (.tail _ (.tail _ (.tail _ (.tail _ (.tail _ hp)))))).1)
                  exact Stop.out ⟨gb, ga, trivial⟩)
)
end Mine
theorem PySem.Challenge.cw_ib0004_02_holds : PySem.Challenge.rw_ib0004_02.Holds :=
  Mine.X
